import JvmDerived
import JvmDerived.Pilot.@@N@@Statement
import JvmDerived.Pilot.@@N@@Code
set_option linter.unusedVariables false
set_option linter.unusedSimpArgs false
namespace Jvm.RoadKit
open Sem ClassFile Op Lib Jvm.Stand Jvm.Free Jvm.LawKit
section Own
variable {p : Program} {l : Launch} {e : Env} {R : Room} {s : State} {m : MethodId} {args : Array Value} {below : List Frame} {meth : Method} {c : Code} {T : State} {locs : List Loc} {cells slots : Nat} {Z : State} {a0 : Array Value} {h : Heap}
theorem retI (X : Stand p l e R s m args below meth c T locs cells slots) (hx : p.tables.exec = Jvm.exec) {pc : Nat} {Ls : Array Slot} {z : Int32} {rest : List Value} (hret : meth.sig.returnType = some .int) (hd : decode c.code pc = .ok (.ireturn, 1)) {fs : List Frame}
    (hl : ∀ (f : JFrame) (acts : List Action), f.method = m → f.locked = none → f.entered = [] → (doReturn e (T.setTop f) acts (some (.int z))).1 = T.setFrames fs) : Steps p.tables e below (T.setTop (mkF m pc Ls (.int z :: rest))) (T.setFrames fs) := by
  have hm' : T.vm.method? m = some meth := X.method'
  have hn : narrow .int (.int z) = .int z := rfl
  show Steps p.tables e below (T.setTop { method := m, pc := pc, locals := Ls, stack := _ :: rest, locked := none }) _
  jvm_step X.here [X.here.top, hx, hd, hm', hret, hn]
  first | (intro acts; rw [hl _ acts rfl rfl rfl]) | rw [hl _ _ rfl rfl rfl]
  exact Steps.refl _
theorem own_retN (X : Stand p l e R s m args below meth c T locs cells slots) (hx : p.tables.exec = Jvm.exec) {pc : Nat} {Ls : Array Slot} {z z' : Int32} {t : FieldType} {rest : List Value} (hret : meth.sig.returnType = some t) (ht : t = .boolean ∨ t = .byte ∨ t = .char ∨ t = .short)
    (hd : decode c.code pc = .ok (.ireturn, 1)) (eq : nar t z = z') {fs : List Frame} (hl : ∀ (f : JFrame) (acts : List Action), f.method = m → f.locked = none → f.entered = [] → (doReturn e (T.setTop f) acts (some (.int z'))).1 = T.setFrames fs) :
    Steps p.tables e below (T.setTop (mkF m pc Ls (.int z :: rest))) (T.setFrames fs) := retN X hx hret ht hd (by rw [eq]; exact hl)
/-- the run comes from S to an end of which Q holds -/
def ownGo (p : Program) (e : Env) (below : List Frame) (Q : Outcome → State → Prop) (S : State) : Prop := ∃ s₂ o, Steps p.tables e below S s₂ ∧ s₂.status = .running ∧ Ended s₂ below o ∧ Q o s₂
theorem own_st {Q : Outcome → State → Prop} {S : State} (S' : State) (h : ∀ t, Steps p.tables e below S' t → Steps p.tables e below S t) (k : ownGo p e below Q S') : ownGo p e below Q S := by
  obtain ⟨a, b, h1, h2⟩ := k; exact ⟨a, b, h _ h1, h2⟩
theorem own_cast {Q : Outcome → State → Prop} {g g' : JFrame} (q : g = g') (k : ownGo p e below Q (T.setTop g')) : ownGo p e below Q (T.setTop g) := q ▸ k
def ownQ (s : State) (QQ : Option Value → Heap → List Loc → Prop) (C N : Nat) : Outcome → State → Prop := fun o U' => ∃ v L, o = .returned v ∧ QQ v U'.heap L ∧ FrameEnd s o U' L C N
theorem own_ret (X : Stand p l e R s m args below meth c T locs cells slots) (hlk : meth.locks = false) {v : Option Value} (hv : meth.sig.returnType = none → v = none) {QQ : Option Value → Heap → List Loc → Prop} {C N : Nat} (eT : T.heap = h) (hq : QQ v h locs) (hC : cells ≤ C) (hN : slots ≤ N) {S : State}
    (hs : ∀ fs, (∀ (f : JFrame) (acts : List Action), f.method = m → f.locked = none → f.entered = [] → (doReturn e (T.setTop f) acts v).1 = T.setFrames fs) → Steps p.tables e below S (T.setFrames fs)) : ownGo p e below (ownQ s QQ C N) S := by
  obtain ⟨fs, hr, hrun, hended, hW, hsame⟩ := X.leave (v := v) hv hlk
  exact ⟨_, _, hs fs hr, hrun, hended, v, locs, rfl, (by show QQ v T.heap locs; rw [eT]; exact hq), ⟨_, rfl⟩, hW, hsame.mono hC hN⟩
/-- a body's contract -/
abbrev ownMet (l : Launch) (y : MethodName) (bytes : ByteArray) (maxL : Nat) (ret : Option FieldType) (ws : List Jvm.Cond) (rm : Room) (Z : State) (as : Array Value) (h0 : Heap) (QQ : Option Value → Heap → List Loc → Prop) : Prop :=
  MetFree l y (head1 (Jvm.Cond.code y bytes maxL ret :: ws) rm) (fun a U => a = as ∧ Z.Warmed39 U.vm ∧ U.heap = h0) (fun _ _ _ _ _ => True) (fun _ U o U' => ∃ v L, o = .returned v ∧ QQ v U'.heap L ∧ FrameEnd U o U' L rm.cells rm.slots)
theorem own_met {y : MethodName} {bytes : ByteArray} {maxL : Nat} {ret : Option FieldType} {ws : List Jvm.Cond} {rm : Room} {as : Array Value} {h0 : Heap} {QQ : Option Value → Heap → List Loc → Prop} (hpl : plainFor y = true)
    (body : ∀ (p : Program) (e : Env) (s : State) (m : MethodId) (below : List Frame) (meth : Method) (c : Code) (s₁ : State), p.tables.exec = Jvm.exec → c.code = bytes → c.maxLocals = maxL → s.vm.findClass y.cls = some m.cls → meth.name = y.name → meth.sig.returnType = ret → meth.locks = false → Z.Warmed39 s.vm → s₁.heap = h0 → Stand p l e rm s m as below meth c s₁ [] 0 0 →
      ownGo p e below (ownQ s QQ rm.cells rm.slots) (s₁.setTop (entryFrame m as maxL))) : ownMet l y bytes maxL ret ws rm Z as h0 QQ := by
  refine MetFree.of_bodySF hpl hisR ?_
  intro p e s m args below meth c s₁ Bd hml0 hP hK
  obtain ⟨rfl, hZ, hh⟩ := hP
  exact body p e s m below meth c s₁ Bd.exec Bd.bytes hml0 (findClass_of_methodNamed Bd.named) (name_of_methodNamed Bd.named Bd.method).1 Bd.returns Bd.notSynchronized hZ (by rw [← hh, Bd.state]; rfl) (Stand.of_body Bd)
theorem own_callS (X : Stand p l e R s m args below meth c T locs cells slots) (hx : p.tables.exec = Jvm.exec) (hZ : Z.Warmed39 s.vm) {own : String} {index : Nat} {y : MethodName} {bytes : ByteArray} {maxL : Nat} {ret : Option FieldType} (hown : s.vm.findClass own = some m.cls)
    (w1 : (Jvm.Cond.methodLink own index y).before a0 Z = true) (w2 : (Jvm.Cond.static y).before a0 Z = true) (w3 : (Jvm.Cond.initialized y.cls).before a0 Z = true) (w4 : (Jvm.Cond.code y bytes maxL ret).before a0 Z = true)
    {rm : Room} {QQ : Option Value → Heap → List Loc → Prop} {argsL : List Value} (hM : ownMet l y bytes maxL ret [] rm Z argsL.toArray h QQ) (W : Nat)
    (hy : y.cls ≠ "java/lang/invoke/MethodHandle" ∧ y.cls ≠ "java/lang/invoke/VarHandle") (hf : rm.frames + 1 ≤ R.frames) (hl : W + (maxL + 11) + rm.locals ≤ R.locals) (hc : cells + rm.cells ≤ R.cells) (hs : slots + rm.slots ≤ R.slots)
    (eT : T.heap = h) {g : JFrame} (hg : g.method = m) (hsize : g.locals.size = c.maxLocals) (rest : List Value) (hlen : ∀ sig, parseMethodDescriptor y.desc = some sig → argsL.length = sig.parameters.length) (hstack : g.stack = argsL.reverse ++ rest) (hW : 2 * g.monitorRoom + (rest.map fun v => v.category).sum ≤ W) (hdg : decode c.code g.pc = .ok (.invokestatic index, 3)) :
    ∃ v T' L, Stand p l e R s m args below meth c T' (locs ++ L) (cells + rm.cells) (slots + rm.slots) ∧ QQ v T'.heap L ∧ ∀ target, Steps p.tables e below (T'.setTop { g with pc := g.pc + 3, stack := v.toList ++ rest }) target → Steps p.tables e below (T.setTop g) target := by
  obtain ⟨v, _, ⟨T1, L1, k1, n1⟩, -, X1, ⟨Lc, hQ, l1, y1, z1⟩, st⟩ := Jvm.LawKit.callS X hx (y := y) hown (mvT hZ w1) (mvT hZ w2) (mvT hZ w3) (mvT hZ w4) hy (backOf (W := W) hM hZ w4 w3 hf hl) hg hsize (argsL := argsL) (rest := rest) hlen hstack hW hdg (fun _ _ => ⟨rfl, eT, hc, hs⟩)
  dsimp only [Pt.U, Pt.locs, Pt.cells, Pt.slots] at X1 l1 y1 z1 st hQ
  subst l1 y1 z1
  exact ⟨v, T1, Lc, X1, hQ, st⟩
theorem own_callI (X : Stand p l e R s m args below meth c T locs cells slots) (hx : p.tables.exec = Jvm.exec) (hZ : Z.Warmed39 s.vm) {own : String} {index : Nat} {y : MethodName} {bytes : ByteArray} {maxL : Nat} (hown : s.vm.findClass own = some m.cls) (hy1 : y.name = "<init>")
    (w1 : (Jvm.Cond.methodLink own index y).before a0 Z = true) (w2 : (Jvm.Cond.instanceMethod y).before a0 Z = true) (w3 : (Jvm.Cond.initialized y.cls).before a0 Z = true) (w4 : (Jvm.Cond.code y bytes maxL none).before a0 Z = true)
    {rm : Room} {QQ : Option Value → Heap → List Loc → Prop} {a : Addr} {argsL : List Value} (hM : ownMet l y bytes maxL none [] rm Z (.ref a :: argsL).toArray h QQ) (W : Nat)
    (hy : y.cls ≠ "java/lang/invoke/MethodHandle" ∧ y.cls ≠ "java/lang/invoke/VarHandle") (hf : rm.frames + 1 ≤ R.frames) (hl : W + (maxL + 11) + rm.locals ≤ R.locals) (hc : cells + rm.cells ≤ R.cells) (hs : slots + rm.slots ≤ R.slots)
    (eT : T.heap = h) {g : JFrame} (hg : g.method = m) (hsize : g.locals.size = c.maxLocals) (rest : List Value) (hlen : ∀ sig, parseMethodDescriptor y.desc = some sig → argsL.length = sig.parameters.length) (hstack : g.stack = argsL.reverse ++ .ref a :: rest) (hW : 2 * g.monitorRoom + (rest.map fun v => v.category).sum ≤ W) (hdg : decode c.code g.pc = .ok (.invokespecial index, 3)) :
    ∃ v T' L, Stand p l e R s m args below meth c T' (locs ++ L) (cells + rm.cells) (slots + rm.slots) ∧ QQ v T'.heap L ∧ ∀ target, Steps p.tables e below (T'.setTop { g with pc := g.pc + 3, stack := v.toList ++ rest }) target → Steps p.tables e below (T.setTop g) target := by
  obtain ⟨v, _, ⟨T1, L1, k1, n1⟩, -, X1, ⟨Lc, hQ, l1, y1, z1⟩, st⟩ := X.specialBack hx (y := y) hy1 hown (mvT hZ w1) (mvT hZ w2) (mvT hZ w4) hy (backOf (W := W) hM hZ w4 w3 hf hl) hg hsize (Steps.refl _) (a := a) (argsL := argsL) (rest := rest) hlen hstack hW hdg (fun _ _ => ⟨rfl, eT, hc, hs⟩)
  dsimp only [Pt.U, Pt.locs, Pt.cells, Pt.slots] at X1 l1 y1 z1 st hQ
  subst l1 y1 z1
  exact ⟨v, T1, Lc, X1, hQ, fun t k => st.trans k⟩
theorem own_nfz {y : MethodName} (hZ : Z.Warmed39 s.vm) (nf : NotFace Z y) : NotFace s y := fun r0 h0 => by
  have e : (Z.setVm s.vm).methodNamed? y = some r0 := h0
  rw [State.methodNamed?_setVm hZ.alike] at e
  obtain ⟨kr, a1, a2⟩ := nf r0 e
  obtain ⟨k', q1, q2⟩ := hZ.alike.2.2 _ _ a1
  exact ⟨k', q1, by rw [q2]; exact a2⟩
theorem own_callV (X : Stand p l e R s m args below meth c T locs cells slots) (hx : p.tables.exec = Jvm.exec) (hZ : Z.Warmed39 s.vm) {own C : String} {index : Nat} {y z : MethodName} {bytes : ByteArray} {maxL : Nat} {ret : Option FieldType} (hown : s.vm.findClass own = some m.cls)
    (w1 : (Jvm.Cond.methodLink own index y).before a0 Z = true) (wd : (Jvm.Cond.declares y).before a0 Z = true) (nf : NotFace Z y) (wsel : (Jvm.Cond.selects C y z).before a0 Z = true) (w2 : (Jvm.Cond.instanceMethod z).before a0 Z = true) (w3 : (Jvm.Cond.initialized z.cls).before a0 Z = true) (w4 : (Jvm.Cond.code z bytes maxL ret).before a0 Z = true)
    {b : Addr} (E : Exa Z h b C) {rm : Room} {QQ : Option Value → Heap → List Loc → Prop} {argsL : List Value} (hM : ownMet l z bytes maxL ret [] rm Z (.ref b :: argsL).toArray h QQ) (W : Nat)
    (hy : y.cls ≠ "java/lang/invoke/MethodHandle" ∧ y.cls ≠ "java/lang/invoke/VarHandle") (hf : rm.frames + 1 ≤ R.frames) (hl : W + (maxL + 11) + rm.locals ≤ R.locals) (hc : cells + rm.cells ≤ R.cells) (hs : slots + rm.slots ≤ R.slots)
    (eT : T.heap = h) {g : JFrame} (hg : g.method = m) (hsize : g.locals.size = c.maxLocals) (rest : List Value) (hlen : ∀ sig, parseMethodDescriptor y.desc = some sig → argsL.length = sig.parameters.length) (hstack : g.stack = argsL.reverse ++ .ref b :: rest) (hW : 2 * g.monitorRoom + (rest.map fun v => v.category).sum ≤ W) (hdg : decode c.code g.pc = .ok (.invokevirtual index, 3)) :
    ∃ v T' L, Stand p l e R s m args below meth c T' (locs ++ L) (cells + rm.cells) (slots + rm.slots) ∧ QQ v T'.heap L ∧ ∀ target, Steps p.tables e below (T'.setTop { g with pc := g.pc + 3, stack := v.toList ++ rest }) target → Steps p.tables e below (T.setTop g) target := by
  obtain ⟨cq, kq, qa, qb, qc⟩ := isOf (T := T) hZ eT E
  obtain ⟨v, _, ⟨T1, L1, k1, n1⟩, -, X1, ⟨Lc, hQ, l1, y1, z1⟩, st⟩ := X.virtualBack hx (y := y) (z := z) hown (mvT hZ w1) (mvT hZ wd) (own_nfz hZ nf) (mvT hZ wsel) (mvT hZ w2) hy (backOf (W := W) hM hZ w4 w3 hf hl) qa qc hg hsize (Steps.refl _) (argsL := argsL) (rest := rest) hlen hstack hW hdg (fun _ _ => ⟨rfl, eT, hc, hs⟩)
  dsimp only [Pt.U, Pt.locs, Pt.cells, Pt.slots] at X1 l1 y1 z1 st hQ
  subst l1 y1 z1
  exact ⟨v, T1, Lc, X1, hQ, fun t k => st.trans k⟩
theorem own_eqI {first : State} {o : Option Outcome} {idx : List Nat} {a b : Term} {n : Int32} (h : (Jvm.Cond.eq a b).value args first o s idx = some true) (hb : b.eval args first o idx s = some (.int n)) : a.eval args first o idx s = some (.int n) := by
  obtain ⟨x, y, ex, ey, k1, k2⟩ := cmp_v (Or.inl h)
  cases ey.symm.trans hb
  obtain ⟨z, rfl⟩ := k2
  rw [ex, gotT (Jvm.Cond.eq_ints ex hb) h]
theorem own_eqR {first : State} {o : Option Outcome} {idx : List Nat} {a b : Term} {y : Addr} (h : (Jvm.Cond.eq a b).value args first o s idx = some true) (hb : b.eval args first o idx s = some (.ref y)) : a.eval args first o idx s = some (.ref y) := by
  obtain ⟨x, y', ex, ey, k1, k2⟩ := cmp_v (Or.inl h)
  cases ey.symm.trans hb
  have q := gotT (eq_R ex hb k2.2 rfl) h
  rw [ex, q]
theorem own_arv {t : Term} {a : Addr} {cl : Cell} {ty : FieldType} {z : Int32} {vs : List Value} {dv : Value} (hf : Fit s) (A : Arr s s.heap a cl ty) (ev : t.eval args s none [] s = some (.ref a)) (hl : (Term.length t).eval args s none [] s = some (.int z)) (hz : ¬ z < 0) (hn : z.toNatClampNeg = vs.length) (H : HasL cl 0 vs) : Arv s s.heap a cl.cls ty z vs dv := by
  have harr := A.fin (Vm.Alike.refl _)
  have h31 := SBG.length_lt ev harr hl
  have e := Option.some.inj ((len_f ev harr h31).symm.trans hl)
  exact Arv.start hf A h31 (Value.int.inj e) hz hn H
theorem own_nfc {y y' : MethodName} {r : MethodId} (h : NotFace s y') (hr : s.methodNamed? y' = some r) (hc : y.cls = y'.cls) : NotFace s y := fun r0 h0 => by
  obtain ⟨kr, a1, a2⟩ := h r hr
  have q1 := findClass_of_methodNamed h0
  have q2 := findClass_of_methodNamed hr
  rw [hc] at q1
  have e : r0.cls = r.cls := Option.some.inj (q1.symm.trans q2)
  exact ⟨kr, by rw [e]; exact a1, a2⟩
theorem own_named {y : MethodName} (w : (Jvm.Cond.instanceMethod y).before a0 s = true) : ∃ r, s.methodNamed? y = some r := by
  obtain ⟨mk, methM, hnamed, -⟩ := Jvm.Cond.instanceMethod_spec w
  exact ⟨mk, hnamed⟩
theorem own_same {y : MethodName} (nf : NotFace s y) (w : (Jvm.Cond.instanceMethod y).before a0 s = true) (hy : y.cls ≠ "java/lang/invoke/MethodHandle" ∧ y.cls ≠ "java/lang/invoke/VarHandle") : (Jvm.Cond.sameMethod y.cls y.cls y.name y.desc).before args s = true := by
  obtain ⟨r, hr⟩ := own_named w
  obtain ⟨kr, a1, a2⟩ := nf r hr
  have q1 := findClass_of_methodNamed hr
  have q2 := State.methodFound?_of_named hr hy
  have hr' : s.methodNamed? ⟨y.cls, y.name, y.desc⟩ = some r := hr
  simp [Jvm.Cond.before, Jvm.Cond.holds, Jvm.Cond.value, q1, q2, hr', a1, a2]
theorem own_callP (X : Stand p l e R s m args below meth c T locs cells slots) (hx : p.tables.exec = Jvm.exec) (hZ : Z.Warmed39 s.vm) {own C : String} {index : Nat} {y : MethodName} {bytes : ByteArray} {maxL : Nat} {ret : Option FieldType} (hown : s.vm.findClass own = some m.cls)
    (w1 : (Jvm.Cond.methodLink own index y).before a0 Z = true) (wp : (Jvm.Cond.privateMethod y).before a0 Z = true) (nf : NotFace Z y) (w2 : (Jvm.Cond.instanceMethod y).before a0 Z = true) (w3 : (Jvm.Cond.initialized y.cls).before a0 Z = true) (w4 : (Jvm.Cond.code y bytes maxL ret).before a0 Z = true)
    {b : Addr} (E : Exa Z h b C) {rm : Room} {QQ : Option Value → Heap → List Loc → Prop} {argsL : List Value} (hM : ownMet l y bytes maxL ret [] rm Z (.ref b :: argsL).toArray h QQ) (W : Nat)
    (hy : y.cls ≠ "java/lang/invoke/MethodHandle" ∧ y.cls ≠ "java/lang/invoke/VarHandle") (hf : rm.frames + 1 ≤ R.frames) (hl : W + (maxL + 11) + rm.locals ≤ R.locals) (hc : cells + rm.cells ≤ R.cells) (hs : slots + rm.slots ≤ R.slots)
    (eT : T.heap = h) {g : JFrame} (hg : g.method = m) (hsize : g.locals.size = c.maxLocals) (rest : List Value) (hlen : ∀ sig, parseMethodDescriptor y.desc = some sig → argsL.length = sig.parameters.length) (hstack : g.stack = argsL.reverse ++ .ref b :: rest) (hW : 2 * g.monitorRoom + (rest.map fun v => v.category).sum ≤ W) (hdg : decode c.code g.pc = .ok (.invokevirtual index, 3)) :
    ∃ v T' L, Stand p l e R s m args below meth c T' (locs ++ L) (cells + rm.cells) (slots + rm.slots) ∧ QQ v T'.heap L ∧ ∀ target, Steps p.tables e below (T'.setTop { g with pc := g.pc + 3, stack := v.toList ++ rest }) target → Steps p.tables e below (T.setTop g) target := by
  obtain ⟨cell, hcell, hobj⟩ := E.cell
  obtain ⟨mk, methM, hnamed, hmethM, hstM, habM⟩ := Jvm.Cond.instanceMethod_spec (mvT (args := args) hZ w2)
  obtain ⟨methM', cM, hmethM', -, -, -, -, -, -, hsigM⟩ := Jvm.Cond.code_spec hnamed (mvT (args := args) hZ w4)
  cases hmethM.symm.trans hmethM'
  obtain ⟨kP, hkP, hkPi⟩ := own_nfz hZ nf mk hnamed
  have hselP : selectMethod e.platform s.vm cell.cls mk = .method mk := selectMethod_private hmethM ((Jvm.Cond.privateMethod_at (mvP (args := #[]) hZ wp)) mk methM hnamed hmethM)
  obtain ⟨vm₁, X₁, hstep₁⟩ := X.invokevirtual hx hown (mvT hZ w1) hnamed hmethM hstM hkP hkPi hy (a := b) (cell := cell) (by rw [eT]; exact hcell) hobj hselP hmethM habM hkP hkPi (g := g) hg (argsL := argsL) (rest := rest) (hlen _ hsigM) hstack hdg
  obtain ⟨v, ⟨T1, L1, k1, n1⟩, X1, ⟨Lc, hQ, l1, y1, z1⟩, st⟩ := (backOf (len := 3) (W := W) (p := p) (e := e) (below := below) (args := args) (R := R) hM hZ w4 w3 hf hl) m meth c ⟨T.setVm vm₁, locs, cells, slots⟩ { g with stack := rest } (.invokevirtual index) mk (.ref b :: argsL).toArray X₁ hg hsize hdg hW (X₁.named hnamed) ⟨rfl, eT, hc, hs⟩
  dsimp only [Pt.U, Pt.locs, Pt.cells, Pt.slots] at X1 l1 y1 z1 st hQ
  subst l1 y1 z1
  exact ⟨v, T1, Lc, X1, hQ, fun t k => hstep₁ _ fun acts => by rw [doInvoke_state]; exact st.trans k⟩
theorem own_callU (X : Stand p l e R s m args below meth c T locs cells slots) (hx : p.tables.exec = Jvm.exec) (hZ : Z.Warmed39 s.vm) {own C owner : String} {index : Nat} {y z : MethodName} {bytes : ByteArray} {maxL : Nat} {ret : Option FieldType} (hown : s.vm.findClass own = some m.cls)
    (w1 : (Jvm.Cond.methodLink own index y).before a0 Z = true) (wsm : (Jvm.Cond.sameMethod y.cls owner y.name y.desc).before a0 Z = true) (wd : (Jvm.Cond.declares ⟨owner, y.name, y.desc⟩).before a0 Z = true) (hyo : owner ≠ "java/lang/invoke/MethodHandle" ∧ owner ≠ "java/lang/invoke/VarHandle") (wsel : (Jvm.Cond.selects C y z).before a0 Z = true) (w2 : (Jvm.Cond.instanceMethod z).before a0 Z = true) (w3 : (Jvm.Cond.initialized z.cls).before a0 Z = true) (w4 : (Jvm.Cond.code z bytes maxL ret).before a0 Z = true)
    {b : Addr} (E : Exa Z h b C) {rm : Room} {QQ : Option Value → Heap → List Loc → Prop} {argsL : List Value} (hM : ownMet l z bytes maxL ret [] rm Z (.ref b :: argsL).toArray h QQ) (W : Nat)
    (hf : rm.frames + 1 ≤ R.frames) (hl : W + (maxL + 11) + rm.locals ≤ R.locals) (hc : cells + rm.cells ≤ R.cells) (hs : slots + rm.slots ≤ R.slots)
    (eT : T.heap = h) {g : JFrame} (hg : g.method = m) (hsize : g.locals.size = c.maxLocals) (rest : List Value) (hlen : ∀ sig, parseMethodDescriptor y.desc = some sig → argsL.length = sig.parameters.length) (hstack : g.stack = argsL.reverse ++ .ref b :: rest) (hW : 2 * g.monitorRoom + (rest.map fun v => v.category).sum ≤ W) (hdg : decode c.code g.pc = .ok (.invokevirtual index, 3)) :
    ∃ v T' L, Stand p l e R s m args below meth c T' (locs ++ L) (cells + rm.cells) (slots + rm.slots) ∧ QQ v T'.heap L ∧ ∀ target, Steps p.tables e below (T'.setTop { g with pc := g.pc + 3, stack := v.toList ++ rest }) target → Steps p.tables e below (T.setTop g) target := by
  obtain ⟨cq, kq, qa, qb, qc⟩ := isOf (T := T) hZ eT E
  obtain ⟨v, _, ⟨T1, L1, k1, n1⟩, -, X1, ⟨Lc, hQ, l1, y1, z1⟩, st⟩ := X.virtualBackUp hx (x := y) (y := z) (owner := owner) hown (mvT hZ w1) (mvT hZ wsm) (mvT hZ wd) hyo (mvT hZ wsel) (mvT hZ w2) (backOf (W := W) hM hZ w4 w3 hf hl) qa qc hg hsize (Steps.refl _) (argsL := argsL) (rest := rest) hlen hstack hW hdg (fun _ _ => ⟨rfl, eT, hc, hs⟩)
  dsimp only [Pt.U, Pt.locs, Pt.cells, Pt.slots] at X1 l1 y1 z1 st hQ
  subst l1 y1 z1
  exact ⟨v, T1, Lc, X1, hQ, fun t k => st.trans k⟩
theorem own_callSup (X : Stand p l e R s m args below meth c T locs cells slots) (hx : p.tables.exec = Jvm.exec) (hZ : Z.Warmed39 s.vm) {own C : String} {index : Nat} {y : MethodName} {bytes : ByteArray} {maxL : Nat} {ret : Option FieldType} (hown : s.vm.findClass own = some m.cls)
    (w1 : (Jvm.Cond.methodLink own index y).before a0 Z = true) (nf : NotFace Z y) (w2 : (Jvm.Cond.instanceMethod y).before a0 Z = true) (wsu : (Jvm.Cond.superclass own y.cls).before a0 Z = true) (hn : y.name ≠ "<init>") (w3 : (Jvm.Cond.initialized y.cls).before a0 Z = true) (w4 : (Jvm.Cond.code y bytes maxL ret).before a0 Z = true)
    {b : Addr} (E : Exa Z h b C) {rm : Room} {QQ : Option Value → Heap → List Loc → Prop} {argsL : List Value} (hM : ownMet l y bytes maxL ret [] rm Z (.ref b :: argsL).toArray h QQ) (W : Nat)
    (hy : y.cls ≠ "java/lang/invoke/MethodHandle" ∧ y.cls ≠ "java/lang/invoke/VarHandle") (hf : rm.frames + 1 ≤ R.frames) (hl : W + (maxL + 11) + rm.locals ≤ R.locals) (hc : cells + rm.cells ≤ R.cells) (hs : slots + rm.slots ≤ R.slots)
    (eT : T.heap = h) {g : JFrame} (hg : g.method = m) (hsize : g.locals.size = c.maxLocals) (rest : List Value) (hlen : ∀ sig, parseMethodDescriptor y.desc = some sig → argsL.length = sig.parameters.length) (hstack : g.stack = argsL.reverse ++ .ref b :: rest) (hW : 2 * g.monitorRoom + (rest.map fun v => v.category).sum ≤ W) (hdg : decode c.code g.pc = .ok (.invokespecial index, 3)) :
    ∃ v T' L, Stand p l e R s m args below meth c T' (locs ++ L) (cells + rm.cells) (slots + rm.slots) ∧ QQ v T'.heap L ∧ ∀ target, Steps p.tables e below (T'.setTop { g with pc := g.pc + 3, stack := v.toList ++ rest }) target → Steps p.tables e below (T.setTop g) target := by
  obtain ⟨v, _, ⟨T1, L1, k1, n1⟩, -, X1, ⟨Lc, hQ, l1, y1, z1⟩, st⟩ := superBack X hx hZ (y := y) hown w1 (own_same nf w2 hy) w2 wsu hn (backOf (W := W) hM hZ w4 w3 hf hl) eT (Ins.self E) hg hsize w4 (argsL := argsL) (rest := rest) hlen hstack hW hdg (fun _ _ => ⟨rfl, eT, hc, hs⟩)
  dsimp only [Pt.U, Pt.locs, Pt.cells, Pt.slots] at X1 l1 y1 z1 st hQ
  subst l1 y1 z1
  exact ⟨v, T1, Lc, X1, hQ, fun t k => st.trans k⟩
end Own
end Jvm.RoadKit
namespace Jvm.RoadKit
open Sem ClassFile Op Lib Bundle Jvm.Stand Jvm.Free Jvm.LawKit
section OwnW
variable {p : Program} {l : Launch} {e : Env} {R : Room} {s : State} {m : MethodId} {args : Array Value} {below : List Frame} {meth : Method} {c : Code} {T : State} {locs : List Loc} {cells slots : Nat} {Z : State} {a0 : Array Value} {h h0 : Heap} {EL : List (String × Nat)} {vm0 : Vm} {k0 : Nat}
def ownQW (s Z : State) (EL : List (String × Nat)) (h0 : Heap) (QQ : Option Value → Vm → Heap → List Loc → Prop) (C N : Nat) : Outcome → State → Prop := fun o U' => ∃ v L, o = .returned v ∧ QQ v U'.vm U'.heap L ∧ CHr Z EL s.vm h0 U'.vm U'.heap ∧ ReturnedEndW s o U' L C N
theorem own_retW (X : Stand p l e R (s.setVm vm0) m args below meth c T locs cells slots) (hlk : meth.locks = false) (hS : s.Since vm0 k0) (hk : k0 ≤ h.size) (hZ : Z.Warmed39 vm0) (hEL : EW Z a0 EL) (RR : CHr Z EL s.vm h0 vm0 h) {v : Option Value} (hv : meth.sig.returnType = none → v = none) {QQ : Option Value → Vm → Heap → List Loc → Prop} {C N : Nat} (eT : T.heap = h) (hq : ∀ vm1, CHr Z EL vm0 h vm1 h → QQ v vm1 h locs) (hC : cells ≤ C) (hN : slots ≤ N) {S : State}
    (hs : ∀ fs, (∀ (f : JFrame) (acts : List Action), f.method = m → f.locked = none → f.entered = [] → (doReturn e (T.setTop f) acts v).1 = T.setFrames fs) → Steps p.tables e below S (T.setFrames fs)) : ownGo p e below (ownQW s Z EL h0 QQ C N) S := by
  subst eT
  obtain ⟨fs, hr, hrun, hended, hW⟩ := X.leaveW hS hk (v := v) hv hlk
  have A := CHv.at X hZ hEL RR.1
  exact ⟨_, _, hs fs hr, hrun, hended, v, locs, rfl, hq T.vm A, RR.trans A, hW.1, hW.2.1, hW.2.2.1, hW.2.2.2.mono hC hN⟩
/-- the contract of a body that may load String constants -/
abbrev ownMetW (l : Launch) (y : MethodName) (bytes : ByteArray) (maxL : Nat) (ret : Option FieldType) (ws : List Jvm.Cond) (rm : Room) (Z : State) (EL : List (String × Nat)) (sf : List Addr) (as : Array Value) (h0 : Heap) (QQ : Option Value → Vm → Heap → List Loc → Prop) : Prop :=
  MetFree l y (head1 (Jvm.Cond.code y bytes maxL ret :: ws) rm) (fun a U => a = as ∧ Z.Warmed39 U.vm ∧ U.heap = h0 ∧ CHv Z EL U.vm h0 ∧ ∀ x ∈ sf, Safe Z EL U.vm h0 x) (fun _ _ _ _ _ => True) (fun _ U o U' => ∃ v L, o = .returned v ∧ QQ v U'.vm U'.heap L ∧ CHr Z EL U.vm h0 U'.vm U'.heap ∧ ReturnedEndW U o U' L rm.cells rm.slots)
theorem own_metW {y : MethodName} {bytes : ByteArray} {maxL : Nat} {ret : Option FieldType} {ws : List Jvm.Cond} {rm : Room} {sf : List Addr} {as : Array Value} {QQ : Option Value → Vm → Heap → List Loc → Prop} (hpl : plainFor y = true)
    (body : ∀ (p : Program) (e : Env) (s : State) (m : MethodId) (below : List Frame) (meth : Method) (c : Code) (s₁ : State), p.tables.exec = Jvm.exec → c.code = bytes → c.maxLocals = maxL → s.vm.findClass y.cls = some m.cls → meth.name = y.name → meth.sig.returnType = ret → meth.locks = false → Z.Warmed39 s.vm → s₁.heap = h0 → Stand p l e rm (s.setVm s.vm) m as below meth c s₁ [] 0 0 → s.Since s.vm 0 → CHr Z EL s.vm h0 s.vm h0 → (∀ x ∈ sf, Safe Z EL s.vm h0 x) →
      ownGo p e below (ownQW s Z EL h0 QQ rm.cells rm.slots) (s₁.setTop (entryFrame m as maxL))) : ownMetW l y bytes maxL ret ws rm Z EL sf as h0 QQ := by
  refine MetFree.of_bodySF hpl hisR ?_
  intro p e s m args below meth c s₁ Bd hml0 hP hK
  obtain ⟨rfl, hZ, hh, hC, hs⟩ := hP
  exact body p e s m below meth c s₁ Bd.exec Bd.bytes hml0 (findClass_of_methodNamed Bd.named) (name_of_methodNamed Bd.named Bd.method).1 Bd.returns Bd.notSynchronized hZ (by rw [← hh, Bd.state]; rfl) (Stand.of_body Bd) ((State.WarmedH.refl s).since 0) (CHr.refl hC) hs
theorem own_backW {y : MethodName} {bytes : ByteArray} {maxL : Nat} {ret : Option FieldType} {rm : Room} {len W : Nat} {as' : Array Value} {sf : List Addr} {QQ : Option Value → Vm → Heap → List Loc → Prop} (hM : ownMetW l y bytes maxL ret [] rm Z EL sf as' h QQ)
    (hZ : Z.Warmed39 vm0) (wc : (Jvm.Cond.code y bytes maxL ret).before a0 Z = true) (wz : (Jvm.Cond.initialized y.cls).before a0 Z = true) (hf : rm.frames + 1 ≤ R.frames) (hl : W + (maxL + 11) + rm.locals ≤ R.locals) (hEL : EW Z a0 EL) (H : CHv Z EL vm0 h) (hsf : ∀ x ∈ sf, x < h.size ∧ Safe Z EL vm0 h x) :
    BackS l R p e below (s.setVm vm0) args y len W (fun A a => a = as' ∧ A.U.heap = h ∧ A.cells + rm.cells ≤ R.cells ∧ A.slots + rm.slots ≤ R.slots)
      (fun A _ v B => ∃ L, QQ v B.U.vm B.U.heap L ∧ B.locs = A.locs ++ L ∧ B.cells = A.cells + rm.cells ∧ B.slots = A.slots + rm.slots ∧ CHr Z EL vm0 h B.U.vm B.U.heap) :=
  BackS.of_freeW (bytes := bytes) (maxL := maxL) (ret := ret) (E := fun _ first o t L k n => k = rm.cells ∧ n = rm.slots ∧ (∃ v, o = .returned v ∧ QQ v t.vm t.heap L) ∧ CHr Z EL first.vm h t.vm t.heap) hM hf hl
    (fun m meth c A a Y hp => have hU : Z.Warmed39 A.U.vm := wtrans (s := s.setVm vm0) hZ Y.warmed
      ⟨by show (Jvm.Cond.and _ .tt).before a A.U = true; rw [Jvm.Cond.before_and, mv hU wc]; rfl, mv hU wc, mv hU wz, hp.2.2.1, hp.2.2.2⟩)
    (fun m meth c A a g mk Y hp => ⟨hp.1, wtrans (s := s.setVm vm0) hZ Y.warmed, hp.2.1, (CHv.at Y hZ hEL H).1, fun x hx => (CHv.at Y hZ hEL H).safe (hsf x hx).1 (hsf x hx).2⟩) (fun _ _ _ _ _ _ _ _ _ => trivial)
    (fun _ _ _ _ ⟨v, L, h1, h2, h3, h4⟩ => ⟨L, _, _, h4, rfl, rfl, ⟨v, h1, h2⟩, h3⟩)
    (fun m meth c A a g mk v t L k n Y hp _ _ ⟨e1, e2, ⟨v', e3, e4⟩, e5⟩ => by
      cases e3; subst e1 e2
      exact ⟨L, e4, rfl, rfl, rfl, (CHv.at Y hZ hEL H).trans e5⟩)
theorem own_callSW (X : Stand p l e R (s.setVm vm0) m args below meth c T locs cells slots) (hx : p.tables.exec = Jvm.exec) (hZ : Z.Warmed39 vm0) {own : String} {index : Nat} {y : MethodName} {bytes : ByteArray} {maxL : Nat} {ret : Option FieldType} (hown : vm0.findClass own = some m.cls)
    (w1 : (Jvm.Cond.methodLink own index y).before a0 Z = true) (w2 : (Jvm.Cond.static y).before a0 Z = true) (w3 : (Jvm.Cond.initialized y.cls).before a0 Z = true) (w4 : (Jvm.Cond.code y bytes maxL ret).before a0 Z = true)
    {rm : Room} {sf : List Addr} {QQ : Option Value → Vm → Heap → List Loc → Prop} {argsL : List Value} (hM : ownMetW l y bytes maxL ret [] rm Z EL sf argsL.toArray h QQ) (W : Nat)
    (hy : y.cls ≠ "java/lang/invoke/MethodHandle" ∧ y.cls ≠ "java/lang/invoke/VarHandle") (hf : rm.frames + 1 ≤ R.frames) (hl : W + (maxL + 11) + rm.locals ≤ R.locals) (hc : cells + rm.cells ≤ R.cells) (hs : slots + rm.slots ≤ R.slots)
    (hS : s.Since vm0 k0) (hk : k0 ≤ h.size) (hEL : EW Z a0 EL) (RR : CHr Z EL s.vm h0 vm0 h) (hsf : ∀ x ∈ sf, x < h.size ∧ Safe Z EL vm0 h x)
    (eT : T.heap = h) {g : JFrame} (hg : g.method = m) (hsize : g.locals.size = c.maxLocals) (rest : List Value) (hlen : ∀ sig, parseMethodDescriptor y.desc = some sig → argsL.length = sig.parameters.length) (hstack : g.stack = argsL.reverse ++ rest) (hW : 2 * g.monitorRoom + (rest.map fun v => v.category).sum ≤ W) (hdg : decode c.code g.pc = .ok (.invokestatic index, 3)) :
    ∃ v T' L, Stand p l e R (s.setVm T'.vm) m args below meth c T' (locs ++ L) (cells + rm.cells) (slots + rm.slots) ∧ s.Since T'.vm T'.heap.size ∧ Z.Warmed39 T'.vm ∧ T'.vm.findClass own = some m.cls ∧ CHr Z EL vm0 h T'.vm T'.heap ∧ CHr Z EL s.vm h0 T'.vm T'.heap ∧ QQ v T'.vm T'.heap L ∧
      ∀ target, Steps p.tables e below (T'.setTop { g with pc := g.pc + 3, stack := v.toList ++ rest }) target → Steps p.tables e below (T.setTop g) target := by
  obtain ⟨v, _, ⟨T1, L1, k1, n1⟩, -, X1, hS1, hg1, ⟨Lc, hQ, l1, y1, z1, hr⟩, st⟩ := callSS X hx (y := y) hown (mvT (s := s.setVm vm0) hZ w1) (mvT (s := s.setVm vm0) hZ w2) (mvT (s := s.setVm vm0) hZ w3) (mvT (s := s.setVm vm0) hZ w4) hy (own_backW (s := s) (W := W) hM hZ w4 w3 hf hl hEL RR.1 hsf) hg hsize (argsL := argsL) (rest := rest) hlen hstack hW hdg (fun _ _ => ⟨rfl, eT, hc, hs⟩)
  dsimp only [Pt.U, Pt.locs, Pt.cells, Pt.slots] at X1 hS1 hg1 l1 y1 z1 st hQ hr
  subst l1 y1 z1
  obtain ⟨X2, hS2, hZ2, ho2⟩ := rebS hS (Nat.le_trans hk (Nat.le_of_eq (by rw [eT]))) X1 hS1 hg1 (show Z.Warmed39 (s.setVm vm0).vm from hZ) (own := own) hown
  exact ⟨v, T1, Lc, X2, hS2, hZ2, ho2, hr, RR.trans hr, hQ, fun t k => st.trans k⟩
theorem own_callIW (X : Stand p l e R (s.setVm vm0) m args below meth c T locs cells slots) (hx : p.tables.exec = Jvm.exec) (hZ : Z.Warmed39 vm0) {own : String} {index : Nat} {y : MethodName} {bytes : ByteArray} {maxL : Nat} (hown : vm0.findClass own = some m.cls) (hy1 : y.name = "<init>")
    (w1 : (Jvm.Cond.methodLink own index y).before a0 Z = true) (w2 : (Jvm.Cond.instanceMethod y).before a0 Z = true) (w3 : (Jvm.Cond.initialized y.cls).before a0 Z = true) (w4 : (Jvm.Cond.code y bytes maxL none).before a0 Z = true)
    {rm : Room} {sf : List Addr} {QQ : Option Value → Vm → Heap → List Loc → Prop} {a : Addr} {argsL : List Value} (hM : ownMetW l y bytes maxL none [] rm Z EL sf (.ref a :: argsL).toArray h QQ) (W : Nat)
    (hy : y.cls ≠ "java/lang/invoke/MethodHandle" ∧ y.cls ≠ "java/lang/invoke/VarHandle") (hf : rm.frames + 1 ≤ R.frames) (hl : W + (maxL + 11) + rm.locals ≤ R.locals) (hc : cells + rm.cells ≤ R.cells) (hs : slots + rm.slots ≤ R.slots)
    (hS : s.Since vm0 k0) (hk : k0 ≤ h.size) (hEL : EW Z a0 EL) (RR : CHr Z EL s.vm h0 vm0 h) (hsf : ∀ x ∈ sf, x < h.size ∧ Safe Z EL vm0 h x)
    (eT : T.heap = h) {g : JFrame} (hg : g.method = m) (hsize : g.locals.size = c.maxLocals) (rest : List Value) (hlen : ∀ sig, parseMethodDescriptor y.desc = some sig → argsL.length = sig.parameters.length) (hstack : g.stack = argsL.reverse ++ .ref a :: rest) (hW : 2 * g.monitorRoom + (rest.map fun v => v.category).sum ≤ W) (hdg : decode c.code g.pc = .ok (.invokespecial index, 3)) :
    ∃ v T' L, Stand p l e R (s.setVm T'.vm) m args below meth c T' (locs ++ L) (cells + rm.cells) (slots + rm.slots) ∧ s.Since T'.vm T'.heap.size ∧ Z.Warmed39 T'.vm ∧ T'.vm.findClass own = some m.cls ∧ CHr Z EL vm0 h T'.vm T'.heap ∧ CHr Z EL s.vm h0 T'.vm T'.heap ∧ QQ v T'.vm T'.heap L ∧
      ∀ target, Steps p.tables e below (T'.setTop { g with pc := g.pc + 3, stack := v.toList ++ rest }) target → Steps p.tables e below (T.setTop g) target := by
  obtain ⟨v, _, ⟨T1, L1, k1, n1⟩, -, X1, hS1, hg1, ⟨Lc, hQ, l1, y1, z1, hr⟩, st⟩ := X.specialBackS hx (y := y) hy1 hown (mvT (s := s.setVm vm0) hZ w1) (mvT (s := s.setVm vm0) hZ w2) (mvT (s := s.setVm vm0) hZ w4) hy (own_backW (s := s) (W := W) hM hZ w4 w3 hf hl hEL RR.1 hsf) hg hsize (Steps.refl _) (a := a) (argsL := argsL) (rest := rest) hlen hstack hW hdg (fun _ _ => ⟨rfl, eT, hc, hs⟩)
  dsimp only [Pt.U, Pt.locs, Pt.cells, Pt.slots] at X1 hS1 hg1 l1 y1 z1 st hQ hr
  subst l1 y1 z1
  obtain ⟨X2, hS2, hZ2, ho2⟩ := rebS hS (Nat.le_trans hk (Nat.le_of_eq (by rw [eT]))) X1 hS1 hg1 (show Z.Warmed39 (s.setVm vm0).vm from hZ) (own := own) hown
  exact ⟨v, T1, Lc, X2, hS2, hZ2, ho2, hr, RR.trans hr, hQ, fun t k => st.trans k⟩
theorem own_callVW (X : Stand p l e R (s.setVm vm0) m args below meth c T locs cells slots) (hx : p.tables.exec = Jvm.exec) (hZ : Z.Warmed39 vm0) {own C : String} {index : Nat} {y z : MethodName} {bytes : ByteArray} {maxL : Nat} {ret : Option FieldType} (hown : vm0.findClass own = some m.cls)
    (w1 : (Jvm.Cond.methodLink own index y).before a0 Z = true) (wd : (Jvm.Cond.declares y).before a0 Z = true) (nf : NotFace Z y) (wsel : (Jvm.Cond.selects C y z).before a0 Z = true) (w2 : (Jvm.Cond.instanceMethod z).before a0 Z = true) (w3 : (Jvm.Cond.initialized z.cls).before a0 Z = true) (w4 : (Jvm.Cond.code z bytes maxL ret).before a0 Z = true)
    {b : Addr} (E : Exa Z h b C) {rm : Room} {sf : List Addr} {QQ : Option Value → Vm → Heap → List Loc → Prop} {argsL : List Value} (hM : ownMetW l z bytes maxL ret [] rm Z EL sf (.ref b :: argsL).toArray h QQ) (W : Nat)
    (hy : y.cls ≠ "java/lang/invoke/MethodHandle" ∧ y.cls ≠ "java/lang/invoke/VarHandle") (hf : rm.frames + 1 ≤ R.frames) (hl : W + (maxL + 11) + rm.locals ≤ R.locals) (hc : cells + rm.cells ≤ R.cells) (hs : slots + rm.slots ≤ R.slots)
    (hS : s.Since vm0 k0) (hk : k0 ≤ h.size) (hEL : EW Z a0 EL) (RR : CHr Z EL s.vm h0 vm0 h) (hsf : ∀ x ∈ sf, x < h.size ∧ Safe Z EL vm0 h x)
    (eT : T.heap = h) {g : JFrame} (hg : g.method = m) (hsize : g.locals.size = c.maxLocals) (rest : List Value) (hlen : ∀ sig, parseMethodDescriptor y.desc = some sig → argsL.length = sig.parameters.length) (hstack : g.stack = argsL.reverse ++ .ref b :: rest) (hW : 2 * g.monitorRoom + (rest.map fun v => v.category).sum ≤ W) (hdg : decode c.code g.pc = .ok (.invokevirtual index, 3)) :
    ∃ v T' L, Stand p l e R (s.setVm T'.vm) m args below meth c T' (locs ++ L) (cells + rm.cells) (slots + rm.slots) ∧ s.Since T'.vm T'.heap.size ∧ Z.Warmed39 T'.vm ∧ T'.vm.findClass own = some m.cls ∧ CHr Z EL vm0 h T'.vm T'.heap ∧ CHr Z EL s.vm h0 T'.vm T'.heap ∧ QQ v T'.vm T'.heap L ∧
      ∀ target, Steps p.tables e below (T'.setTop { g with pc := g.pc + 3, stack := v.toList ++ rest }) target → Steps p.tables e below (T.setTop g) target := by
  obtain ⟨cq, kq, qa, qb, qc⟩ := isOf (s := s.setVm vm0) (T := T) hZ eT E
  obtain ⟨v, _, ⟨T1, L1, k1, n1⟩, -, X1, hS1, hg1, ⟨Lc, hQ, l1, y1, z1, hr⟩, st⟩ := X.virtualBackS hx (y := y) (z := z) hown (mvT (s := s.setVm vm0) hZ w1) (mvT (s := s.setVm vm0) hZ wd) (own_nfz (s := s.setVm vm0) hZ nf) (mvT (s := s.setVm vm0) hZ wsel) (mvT (s := s.setVm vm0) hZ w2) hy (own_backW (s := s) (W := W) hM hZ w4 w3 hf hl hEL RR.1 hsf) qa qc hg hsize (Steps.refl _) (argsL := argsL) (rest := rest) hlen hstack hW hdg (fun _ _ => ⟨rfl, eT, hc, hs⟩)
  dsimp only [Pt.U, Pt.locs, Pt.cells, Pt.slots] at X1 hS1 hg1 l1 y1 z1 st hQ hr
  subst l1 y1 z1
  obtain ⟨X2, hS2, hZ2, ho2⟩ := rebS hS (Nat.le_trans hk (Nat.le_of_eq (by rw [eT]))) X1 hS1 hg1 (show Z.Warmed39 (s.setVm vm0).vm from hZ) (own := own) hown
  exact ⟨v, T1, Lc, X2, hS2, hZ2, ho2, hr, RR.trans hr, hQ, fun t k => st.trans k⟩
theorem own_narC {x : Int32} (h0 : ¬ x < (0 : Int32)) (h1 : ¬ (255 : Int32) < x) : nar .char x = x := by
  have a := c_i2c x
  have b0 : (0 : Int32).toInt = 0 := rfl
  have b1 : (255 : Int32).toInt = 255 := rfl
  rw [Int32.lt_iff_toInt_lt, b0] at h0
  rw [Int32.lt_iff_toInt_lt, b1] at h1
  refine Int32.toInt_inj.mp ?_
  show x.toUInt32.toUInt16.toUInt32.toInt32.toInt = x.toInt
  omega
theorem own_narB (x : Int32) : nar .byte x.toInt8.toInt32 = x.toInt8.toInt32 := by
  show x.toInt8.toInt32.toInt8.toInt32 = _
  rw [Int8.toInt8_toInt32]
theorem own_m0 (x : Int32) : ¬ (x &&& (255 : Int32)) < (0 : Int32) := by
  have h := (c_and x 255 (by decide)).1
  have b0 : (0 : Int32).toInt = 0 := rfl
  rw [Int32.lt_iff_toInt_lt, b0]; omega
theorem own_m1 (x : Int32) : ¬ (255 : Int32) < (x &&& (255 : Int32)) := by
  have h := (c_and x 255 (by decide)).2
  rw [Int32.lt_iff_toInt_lt]; omega
theorem own_ub {x : Int32} (h0 : ¬ x < (0 : Int32)) (h1 : ¬ (255 : Int32) < x) : (x.toInt8.toInt32 &&& (255 : Int32)).toUInt32.toUInt16.toUInt32.toInt32 = x := by
  have b0 : (0 : Int32).toInt = 0 := rfl
  have b1 : (255 : Int32).toInt = 255 := rfl
  rw [Int32.lt_iff_toInt_lt, b0] at h0
  rw [Int32.lt_iff_toInt_lt, b1] at h1
  have a := c_i2b x
  have b := c_mask x.toInt8.toInt32 255 8 (by decide) (by decide)
  rw [i2c_mask]
  refine Int32.toInt_inj.mp ?_
  have k : ((2 ^ 8 : Nat) : Int) = 256 := rfl
  rw [b, k]
  omega
end OwnW
end Jvm.RoadKit
namespace Jvm.RoadKit
open Sem ClassFile Op Lib Jvm.Stand Jvm.Free Jvm.LawKit
section OwnF
variable {p : Program} {l : Launch} {e : Env} {R : Room} {s : State} {m : MethodId} {args : Array Value} {below : List Frame} {meth : Method} {c : Code} {T : State} {locs : List Loc} {cells slots : Nat} {Z : State} {a0 : Array Value} {h : Heap}
theorem own_callF (X : Stand p l e R s m args below meth c T locs cells slots) (hx : p.tables.exec = Jvm.exec) (hZ : Z.Warmed39 s.vm) {own C : String} {index count : Nat} {y z : MethodName} {bytes : ByteArray} {maxL : Nat} {ret : Option FieldType} (hown : s.vm.findClass own = some m.cls)
    (w1 : (Jvm.Cond.methodLink own index y).before a0 Z = true) (wd : (Jvm.Cond.declares y).before a0 Z = true) (wi : (Jvm.Cond.interfaceMethod y.cls y.cls y.name y.desc).before a0 Z = true) (hfa : ((Jvm.Cond.interfaceMethod y.cls y.cls y.name y.desc).onTables && (Jvm.Cond.interfaceMethod y.cls y.cls y.name y.desc).keepsFace) = true) (wsel : (Jvm.Cond.selects C y z).before a0 Z = true) (w2 : (Jvm.Cond.instanceMethod z).before a0 Z = true)
    (wp : (Jvm.Cond.publicMethod z).before a0 Z = true) (wu : (Jvm.Cond.unhidden C y.name y.desc).before a0 Z = true) (wc : (Jvm.Cond.castable C y.cls).before a0 Z = true) (w3 : (Jvm.Cond.initialized z.cls).before a0 Z = true) (w4 : (Jvm.Cond.code z bytes maxL ret).before a0 Z = true)
    {b : Addr} (E : Exa Z h b C) {rm : Room} {QQ : Option Value → Heap → List Loc → Prop} {argsL : List Value} (hM : ownMet l z bytes maxL ret [] rm Z (.ref b :: argsL).toArray h QQ) (W : Nat)
    (hy : y.cls ≠ "java/lang/invoke/MethodHandle" ∧ y.cls ≠ "java/lang/invoke/VarHandle") (hf : rm.frames + 1 ≤ R.frames) (hl : W + (maxL + 11) + rm.locals ≤ R.locals) (hc : cells + rm.cells ≤ R.cells) (hs : slots + rm.slots ≤ R.slots)
    (eT : T.heap = h) {g : JFrame} (hg : g.method = m) (hsize : g.locals.size = c.maxLocals) (rest : List Value) (hlen : ∀ sig, parseMethodDescriptor y.desc = some sig → argsL.length = sig.parameters.length) (hstack : g.stack = argsL.reverse ++ .ref b :: rest) (hW : 2 * g.monitorRoom + (rest.map fun v => v.category).sum ≤ W) (hdg : decode c.code g.pc = .ok (.invokeinterface index count, 5)) :
    ∃ v T' L, Stand p l e R s m args below meth c T' (locs ++ L) (cells + rm.cells) (slots + rm.slots) ∧ QQ v T'.heap L ∧ ∀ target, Steps p.tables e below (T'.setTop { g with pc := g.pc + 5, stack := v.toList ++ rest }) target → Steps p.tables e below (T.setTop g) target := by
  obtain ⟨cq, kq, qa, qb, qc⟩ := isOf (T := T) hZ eT E
  obtain ⟨v, _, ⟨T1, L1, k1, n1⟩, -, X1, ⟨Lc, hQ, l1, y1, z1⟩, st⟩ := X.interfaceBack hx (xi := y) (y := z) hown (mvT hZ w1) (mvT hZ wd) (mvT hZ wi hfa) (mvT hZ wsel) (mvT hZ w2) (mvT hZ wp) (mvT hZ wu) (mvT hZ wc) hy (backOf (W := W) hM hZ w4 w3 hf hl) qa qb qc hg hsize (Steps.refl _) (argsL := argsL) (rest := rest) hlen hstack hW hdg (fun _ _ => ⟨rfl, eT, hc, hs⟩)
  dsimp only [Pt.U, Pt.locs, Pt.cells, Pt.slots] at X1 l1 y1 z1 st hQ
  subst l1 y1 z1
  exact ⟨v, T1, Lc, X1, hQ, fun t k => st.trans k⟩
/-- a constructor through an entry that is resolved already (methodRef) -/
theorem own_callR (X : Stand p l e R s m args below meth c T locs cells slots) (hx : p.tables.exec = Jvm.exec) (hZ : Z.Warmed39 s.vm) {own : String} {index : Nat} {y : MethodName} {bytes : ByteArray} {maxL : Nat} (hown : s.vm.findClass own = some m.cls) (hy1 : y.name = "<init>")
    (w1 : (Jvm.Cond.methodRef own index y).before a0 Z = true) (w2 : (Jvm.Cond.instanceMethod y).before a0 Z = true) (w3 : (Jvm.Cond.initialized y.cls).before a0 Z = true) (w4 : (Jvm.Cond.code y bytes maxL none).before a0 Z = true)
    {rm : Room} {QQ : Option Value → Heap → List Loc → Prop} {a : Addr} {argsL : List Value} (hM : ownMet l y bytes maxL none [] rm Z (.ref a :: argsL).toArray h QQ) (W : Nat)
    (hy : y.cls ≠ "java/lang/invoke/MethodHandle" ∧ y.cls ≠ "java/lang/invoke/VarHandle") (hf : rm.frames + 1 ≤ R.frames) (hl : W + (maxL + 11) + rm.locals ≤ R.locals) (hc : cells + rm.cells ≤ R.cells) (hs : slots + rm.slots ≤ R.slots)
    (eT : T.heap = h) {g : JFrame} (hg : g.method = m) (hsize : g.locals.size = c.maxLocals) (rest : List Value) (hlen : ∀ sig, parseMethodDescriptor y.desc = some sig → argsL.length = sig.parameters.length) (hstack : g.stack = argsL.reverse ++ .ref a :: rest) (hW : 2 * g.monitorRoom + (rest.map fun v => v.category).sum ≤ W) (hdg : decode c.code g.pc = .ok (.invokespecial index, 3)) :
    ∃ v T' L, Stand p l e R s m args below meth c T' (locs ++ L) (cells + rm.cells) (slots + rm.slots) ∧ QQ v T'.heap L ∧ ∀ target, Steps p.tables e below (T'.setTop { g with pc := g.pc + 3, stack := v.toList ++ rest }) target → Steps p.tables e below (T.setTop g) target := by
  obtain ⟨obj, methO, hnO, hmO, hstO, habO⟩ := Jvm.Cond.instanceMethod_spec (mvT (args := args) hZ w2)
  obtain ⟨methO', cO, hmO', hcO, hbO, hlO, -, hlockO, -, hsigO⟩ := Jvm.Cond.code_spec hnO (mvT (args := args) hZ w4)
  cases hmO.symm.trans hmO'
  obtain ⟨obZ, hnZ⟩ := own_named w2
  have hT : Z.Warmed39 T.vm := wtrans hZ X.warmed
  have wr := Jvm.Cond.methodRef_warmed39 hT hnZ hy w1
  have hcur : (Z.setVm T.vm).vm.findClass own = some m.cls := by
    show T.vm.findClass own = _
    rw [X.warmed.alike.findClass]; exact hown
  obtain ⟨mF, cF, f1, f2, f3, f4⟩ := Jvm.Cond.methodRef_named e hcur wr
  have hnT : (Z.setVm T.vm).methodNamed? y = some obZ := by rw [State.methodNamed?_setVm hT.alike]; exact hnZ
  have hnS : s.methodNamed? y = some obZ := by
    show (Z.setVm s.vm).methodNamed? y = some obZ
    rw [State.methodNamed?_setVm hZ.alike]; exact hnZ
  cases hnO.symm.trans hnS
  cases f1.symm.trans (State.methodFound?_of_named hnT hy)
  have ec : cF = obj.cls := Option.some.inj (f3.symm.trans (findClass_of_methodNamed hnT))
  subst ec
  obtain ⟨kO, hkO, hnameO⟩ := className_of_methodNamed hnO
  obtain ⟨hnameMO, hdescO⟩ := name_of_methodNamed hnO hmO
  obtain ⟨kT, hkT, heT⟩ := X.warmed.alike.2.2 _ _ hkO
  have hmT : T.vm.method? obj = some methO := by rw [X.warmed.alike.method?]; exact hmO
  have hfound : lookupSpecial T.vm obj.cls "<init>" methO.desc = .method obj := by
    rw [X.warmed.alike.lookupSpecial, hdescO, ← hy1]; exact lookupSpecial_of_named hnO hmO hstO
  obtain ⟨v, ⟨T1, L1, k1, n1⟩, X1, ⟨Lc, hQ, l1, y1, z1⟩, st⟩ := (backOf (W := W) hM hZ w4 w3 hf hl) m meth c ⟨T, locs, cells, slots⟩ { g with stack := rest } (.invokespecial index) obj (.ref a :: argsL).toArray X hg hsize hdg hW (X.named hnO) ⟨rfl, eT, hc, hs⟩
  dsimp only [Pt.U, Pt.locs, Pt.cells, Pt.slots] at X1 l1 y1 z1 st hQ
  subst l1 y1 z1
  refine ⟨v, T1, Lc, X1, hQ, fun t k => ?_⟩
  subst hg
  jvm_step X.here [hx, hdg, invokespecial.wp_init (e := e) (s := T) (k := kT) (meth := methO) (m := obj) (a := a) (args := argsL) (rest := rest) (f := g) X.here.top f4 f2 hkT hmT (by rw [hnameMO]; exact hy1) hstO habO hfound (hlen _ hsigO) hstack]
  intro acts
  rw [doInvoke_state]
  exact st.trans k
theorem own_and15 (x : Int32) : ¬ ((15 : Int32) &&& x) < (0 : Int32) ∧ ((15 : Int32) &&& x) < (16 : Int32) := by
  have q : (15 : Int32) &&& x = x &&& 15 := Int32.and_comm _ _
  have hh := c_and x 15 (by decide)
  have b0 : (0 : Int32).toInt = 0 := rfl
  have b1 : (16 : Int32).toInt = 16 := rfl
  have b2 : (15 : Int32).toInt = 15 := rfl
  rw [q, Int32.lt_iff_toInt_lt, Int32.lt_iff_toInt_lt, b0, b1]
  rw [b2] at hh
  omega
end OwnF
end Jvm.RoadKit
namespace Jvm.RoadKit
open Sem ClassFile Op Lib Jvm.Stand Jvm.Free Jvm.LawKit
section OwnHash
/-- place i of the slots -/
def own_g (tb : List Int32) (i : Nat) : Int32 := tb.getD i 0
def own_start (x : Int32) : Nat := (((x * (-1640531527 : Int32)).toUInt32 >>> ((28 : Int32) &&& 31).toUInt32).toInt32).toNatClampNeg
def own_probe (tb : List Int32) (x : Int32) : Nat → Nat → Nat
  | 0, i => i
  | n + 1, i => if own_g tb i = 0 ∨ own_g tb i = x then i else own_probe tb x n ((i + 1) % 16)
def own_fnd (tb : List Int32) (x : Int32) : Nat := own_probe tb x 16 (own_start x)
def own_ins (tb : List Int32) (x : Int32) : List Int32 := if own_g tb (own_fnd tb x) = 0 then tb.set (own_fnd tb x) x else tb
def own_all (tb : List Int32) (pnd : List Int32) : List Int32 := pnd.foldl own_ins tb
def own_has (tb : List Int32) (x : Int32) : Bool := decide (own_g tb (own_fnd tb x) ≠ 0)
def own_meets (ta tb : List Int32) : Bool := (List.range 16).any fun i => decide (own_g ta i ≠ 0) && own_has tb (own_g ta i)
def own_dist (s i : Nat) : Nat := (i + 16 - s) % 16
theorem own_start_int (x : Int32) : 0 ≤ (((x * (-1640531527 : Int32)).toUInt32 >>> ((28 : Int32) &&& 31).toUInt32).toInt32).toInt ∧ (((x * (-1640531527 : Int32)).toUInt32 >>> ((28 : Int32) &&& 31).toUInt32).toInt32).toInt < 16 := by
  have h := c_iushr (x * (-1640531527 : Int32)) 28 28 (by decide) (by decide)
  have e : ((2 ^ 28 : Nat) : Int) = 268435456 := rfl
  rw [e] at h
  have a : 0 ≤ (x * (-1640531527 : Int32)).toInt % 4294967296 := Int.emod_nonneg _ (by decide)
  have b : (x * (-1640531527 : Int32)).toInt % 4294967296 < 4294967296 := Int.emod_lt_of_pos _ (by decide)
  rw [h]; omega
theorem own_start_lt (x : Int32) : own_start x < 16 := by
  have h := own_start_int x
  show (((x * (-1640531527 : Int32)).toUInt32 >>> ((28 : Int32) &&& 31).toUInt32).toInt32).toInt.toNat < 16
  omega
def OwnWf (tb : List Int32) : Prop := tb.length = 16 ∧ ∀ i, i < 16 → own_g tb i ≠ 0 → ∀ k, k < own_dist (own_start (own_g tb i)) i → own_g tb ((own_start (own_g tb i) + k) % 16) ≠ 0
theorem OwnWf.len {tb : List Int32} (w : OwnWf tb) : tb.length = 16 := w.1
theorem OwnWf.path {tb : List Int32} (w : OwnWf tb) : ∀ i, i < 16 → own_g tb i ≠ 0 → ∀ k, k < own_dist (own_start (own_g tb i)) i → own_g tb ((own_start (own_g tb i) + k) % 16) ≠ 0 := w.2
theorem own_probe_spec (tb : List Int32) (x : Int32) : ∀ (n i : Nat), i < 16 → ∃ k, k ≤ n ∧ own_probe tb x n i = (i + k) % 16 ∧ (∀ j, j < k → own_g tb ((i + j) % 16) ≠ 0 ∧ own_g tb ((i + j) % 16) ≠ x) ∧ (k < n → own_g tb ((i + k) % 16) = 0 ∨ own_g tb ((i + k) % 16) = x)
  | 0, i, hi => ⟨0, Nat.le_refl _, by simp [own_probe, Nat.mod_eq_of_lt hi], fun j hj => absurd hj (Nat.not_lt_zero _), fun h => absurd h (Nat.lt_irrefl _)⟩
  | n + 1, i, hi => by
    by_cases c : own_g tb i = 0 ∨ own_g tb i = x
    · exact ⟨0, Nat.zero_le _, by simp [own_probe, c, Nat.mod_eq_of_lt hi], fun j hj => absurd hj (Nat.not_lt_zero _), fun _ => by simpa [Nat.mod_eq_of_lt hi] using c⟩
    · obtain ⟨k, h1, h2, h3, h4⟩ := own_probe_spec tb x n ((i + 1) % 16) (Nat.mod_lt _ (by decide))
      have sh : ∀ j, ((i + 1) % 16 + j) % 16 = (i + (j + 1)) % 16 := fun j => by omega
      refine ⟨k + 1, by omega, by rw [own_probe, if_neg c, h2, sh], fun j hj => ?_, fun hk => by rw [← sh]; exact h4 (by omega)⟩
      cases j with
      | zero =>
        rw [Nat.add_zero, Nat.mod_eq_of_lt hi]
        exact ⟨fun q => c (Or.inl q), fun q => c (Or.inr q)⟩
      | succ j => rw [← sh]; exact h3 j (by omega)
/-- the probe comes to an end where a slot is free -/
theorem own_fnd_spec {tb : List Int32} (x : Int32) (hz : ∃ z, z < 16 ∧ own_g tb z = 0) : ∃ k, k < 16 ∧ own_fnd tb x = (own_start x + k) % 16 ∧ (∀ j, j < k → own_g tb ((own_start x + j) % 16) ≠ 0 ∧ own_g tb ((own_start x + j) % 16) ≠ x) ∧ (own_g tb (own_fnd tb x) = 0 ∨ own_g tb (own_fnd tb x) = x) := by
  obtain ⟨k, h1, h2, h3, h4⟩ := own_probe_spec tb x 16 (own_start x) (own_start_lt x)
  obtain ⟨z, z1, z2⟩ := hz
  have hk : k < 16 := by
    rcases Nat.lt_or_ge k 16 with q | q
    · exact q
    · have e : (own_start x + (z + 16 - own_start x) % 16) % 16 = z := by have := own_start_lt x; omega
      have := (h3 ((z + 16 - own_start x) % 16) (by omega)).1
      rw [e] at this
      exact absurd z2 this
  refine ⟨k, hk, h2, h3, ?_⟩
  show own_g tb (own_probe tb x 16 (own_start x)) = 0 ∨ own_g tb (own_probe tb x 16 (own_start x)) = x
  rw [h2]; exact h4 hk
theorem own_fnd_lt {tb : List Int32} (x : Int32) (hz : ∃ z, z < 16 ∧ own_g tb z = 0) : own_fnd tb x < 16 := by
  obtain ⟨k, -, h, -⟩ := own_fnd_spec x hz
  rw [h]; exact Nat.mod_lt _ (by decide)
theorem own_has_iff {tb : List Int32} (w : OwnWf tb) {x : Int32} (hx : x ≠ 0) (hz : ∃ z, z < 16 ∧ own_g tb z = 0) : own_has tb x = true ↔ ∃ i, i < 16 ∧ own_g tb i = x := by
  obtain ⟨k, h1, h2, h3, h4⟩ := own_fnd_spec x hz
  simp only [own_has, decide_eq_true_eq]
  constructor
  · intro q
    exact ⟨_, own_fnd_lt x hz, h4.resolve_left q⟩
  · rintro ⟨i, i1, i2⟩ q
    have sl := own_start_lt x
    have p := w.path i i1 (by rw [i2]; exact hx)
    rw [i2] at p
    have ei : (own_start x + own_dist (own_start x) i) % 16 = i := by unfold own_dist; omega
    have dl : own_dist (own_start x) i < 16 := by unfold own_dist; omega
    rw [h2] at q
    rcases Nat.lt_trichotomy k (own_dist (own_start x) i) with c | c | c
    · exact p k c q
    · rw [c, ei, i2] at q; exact hx q
    · have := (h3 _ c).2
      rw [ei] at this
      exact this i2
theorem own_g_set {tb : List Int32} {r i : Nat} {x : Int32} (hr : r < tb.length) : own_g (tb.set r x) i = if i = r then x else own_g tb i := by
  unfold own_g
  by_cases c : i = r
  · subst c; simp [List.getD_eq_getElem?_getD, hr]
  · simp [List.getD_eq_getElem?_getD, c, Ne.symm c]
theorem own_ins_spec {tb : List Int32} (w : OwnWf tb) {x : Int32} (hx : x ≠ 0) (hz : ∃ z, z < 16 ∧ own_g tb z = 0) : OwnWf (own_ins tb x) ∧ (∀ y, y ≠ 0 → ((∃ i, i < 16 ∧ own_g (own_ins tb x) i = y) ↔ (∃ i, i < 16 ∧ own_g tb i = y) ∨ y = x)) ∧
    (∀ a b, a < 16 → b < 16 → a ≠ b → own_g tb a = 0 → own_g tb b = 0 → ∃ z, z < 16 ∧ own_g (own_ins tb x) z = 0) := by
  obtain ⟨k, h1, h2, h3, h4⟩ := own_fnd_spec x hz
  have rl := own_fnd_lt x hz
  have rl' : own_fnd tb x < tb.length := by rw [w.len]; exact rl
  by_cases c : own_g tb (own_fnd tb x) = 0
  · have e : own_ins tb x = tb.set (own_fnd tb x) x := by unfold own_ins; rw [if_pos c]
    rw [e]
    refine ⟨⟨by rw [List.length_set]; exact w.len, fun i i1 i2 j hj => ?_⟩, fun y hy => ?_, fun a b a1 b1 ab a0 b0 => ?_⟩
    · have gi := own_g_set (i := i) (x := x) rl'
      by_cases ci : i = own_fnd tb x
      · rw [if_pos ci] at gi
        rw [gi] at hj ⊢
        have hk : own_dist (own_start x) i = k := by rw [ci, h2]; unfold own_dist; have := own_start_lt x; omega
        rw [hk] at hj
        rw [own_g_set rl']
        split
        · exact hx
        · exact (h3 j hj).1
      · rw [if_neg ci] at gi
        rw [gi] at i2 hj ⊢
        rw [own_g_set rl']
        split
        · exact hx
        · exact w.path i i1 i2 j hj
    · constructor
      · rintro ⟨i, i1, i2⟩
        rw [own_g_set rl'] at i2
        by_cases ci : i = own_fnd tb x
        · rw [if_pos ci] at i2; exact Or.inr i2.symm
        · rw [if_neg ci] at i2; exact Or.inl ⟨i, i1, i2⟩
      · rintro (⟨i, i1, i2⟩ | rfl)
        · refine ⟨i, i1, ?_⟩
          rw [own_g_set rl', if_neg]
          · exact i2
          · rintro rfl; exact hy (i2.symm.trans c)
        · exact ⟨_, rl, by rw [own_g_set rl', if_pos rfl]⟩
    · by_cases ca : a = own_fnd tb x
      · exact ⟨b, b1, by rw [own_g_set rl', if_neg (by rw [← ca]; exact Ne.symm ab)]; exact b0⟩
      · exact ⟨a, a1, by rw [own_g_set rl', if_neg ca]; exact a0⟩
  · have e : own_ins tb x = tb := by unfold own_ins; rw [if_neg c]
    rw [e]
    exact ⟨w, fun y hy => ⟨Or.inl, fun q => q.elim id fun q => ⟨_, rl, by rw [q]; exact h4.resolve_left c⟩⟩, fun a b a1 b1 ab a0 b0 => ⟨a, a1, a0⟩⟩
/-- the slots hold hs; at least 16 - hs.length of them are free -/
def OwnHold (tb : List Int32) (hs : List Int32) : Prop := OwnWf tb ∧ (∀ y, y ≠ 0 → ((∃ i, i < 16 ∧ own_g tb i = y) ↔ y ∈ hs)) ∧ ∃ fr : List Nat, fr.Nodup ∧ 16 ≤ fr.length + hs.length ∧ ∀ z ∈ fr, z < 16 ∧ own_g tb z = 0
theorem own_rep0 (n i : Nat) : own_g (List.replicate n 0) i = 0 := by
  rw [own_g, List.getD_eq_getElem?_getD, List.getElem?_replicate]; split <;> rfl
theorem OwnHold.empty : OwnHold (List.replicate 16 0) [] := by
  have g : ∀ i, own_g (List.replicate 16 0) i = 0 := own_rep0 16
  refine ⟨⟨rfl, fun i _ h => absurd (g i) h⟩, fun y hy => ⟨fun ⟨i, _, h⟩ => absurd (h.symm.trans (g i)) hy, fun h => by cases h⟩, List.range 16, List.nodup_range, by decide, fun z hz => ⟨List.mem_range.mp hz, g z⟩⟩
theorem OwnHold.zero {tb hs : List Int32} (H : OwnHold tb hs) (hl : hs.length < 16) : ∃ z, z < 16 ∧ own_g tb z = 0 := by
  obtain ⟨-, -, fr, -, f2, f3⟩ := H
  cases fr with
  | nil => simp at f2; omega
  | cons z r => exact ⟨z, f3 z (by simp)⟩
theorem OwnHold.ins {tb hs : List Int32} (H : OwnHold tb hs) (hl : hs.length < 16) {x : Int32} (hx : x ≠ 0) : OwnHold (own_ins tb x) (hs ++ [x]) := by
  have hz := H.zero hl
  obtain ⟨w, me, fr, f1, f2, f3⟩ := H
  obtain ⟨q1, q2, -⟩ := own_ins_spec w hx hz
  refine ⟨q1, fun y hy => ?_, fr.erase (own_fnd tb x), f1.erase _, ?_, fun z hzm => ?_⟩
  · rw [q2 y hy, me y hy]; simp
  · have := List.length_erase_le (a := own_fnd tb x) (l := fr)
    have h2 : fr.length ≤ (fr.erase (own_fnd tb x)).length + 1 := by
      rw [List.length_erase]; split <;> omega
    simp; omega
  · have zm := (f1.mem_erase_iff).mp hzm
    have z3 := f3 z zm.2
    refine ⟨z3.1, ?_⟩
    unfold own_ins
    split
    · rw [own_g_set (by rw [w.len]; exact own_fnd_lt x hz), if_neg zm.1]; exact z3.2
    · exact z3.2
theorem own_meets_iff {ta tb ha hb : List Int32} (A : OwnHold ta ha) (B : OwnHold tb hb) (hb16 : hb.length < 16) (na : ∀ y ∈ ha, y ≠ 0) : own_meets ta tb = true ↔ ∃ y, y ∈ ha ∧ y ∈ hb := by
  simp only [own_meets, List.any_eq_true, List.mem_range, Bool.and_eq_true, decide_eq_true_eq]
  constructor
  · rintro ⟨i, i1, i2, i3⟩
    have q := (own_has_iff B.1 i2 (B.zero hb16)).mp i3
    exact ⟨_, (A.2.1 _ i2).mp ⟨i, i1, rfl⟩, (B.2.1 _ i2).mp q⟩
  · rintro ⟨y, y1, y2⟩
    have hy := na y y1
    obtain ⟨i, i1, i2⟩ := (A.2.1 y hy).mpr y1
    refine ⟨i, i1, by rw [i2]; exact hy, ?_⟩
    rw [i2]
    exact (own_has_iff B.1 hy (B.zero hb16)).mpr ((B.2.1 y hy).mpr y2)
end OwnHash
end Jvm.RoadKit
namespace Jvm.RoadKit
open Sem ClassFile Op Lib Jvm.Stand Jvm.Free Jvm.LawKit
section OwnHashW
theorem own_gm (tb : List Int32) (k : Nat) : (tb.map Value.int).getD k (.int (0 : Int32)) = .int (own_g tb k) := by
  rw [own_g, List.getD_eq_getElem?_getD, List.getD_eq_getElem?_getD, List.getElem?_map]
  cases tb[k]? <;> rfl
theorem own_nat {i : Int32} (h0 : ¬ i < (0 : Int32)) : (i.toNatClampNeg : Int) = i.toInt := by
  rw [Int32.lt_iff_toInt_lt, show (0 : Int32).toInt = 0 from rfl] at h0
  show ((i.toInt.toNat : Nat) : Int) = i.toInt
  omega
theorem own_back {i : Int32} (h0 : ¬ i < (0 : Int32)) : Int32.ofNat i.toNatClampNeg = i := by
  refine Int32.toInt_inj.mp ?_
  have h := own_nat h0
  have h1 := i.toInt_lt
  rw [Int32.toInt_ofNat_of_lt (by omega)]
  exact h
theorem own_prStop {tb : List Int32} {x : Int32} {n : Nat} {i : Int32} (h0 : ¬ i < (0 : Int32)) (c : own_g tb i.toNatClampNeg = 0 ∨ own_g tb i.toNatClampNeg = x) : i = Int32.ofNat (own_probe tb x n i.toNatClampNeg) := by
  have e : own_probe tb x n i.toNatClampNeg = i.toNatClampNeg := by cases n <;> simp [own_probe, c]
  rw [e, own_back h0]
theorem own_next {i : Int32} (h0 : ¬ i < (0 : Int32)) (h1 : i < (16 : Int32)) : ¬ ((i + (1 : Int32)) &&& (15 : Int32)) < (0 : Int32) ∧ ((i + (1 : Int32)) &&& (15 : Int32)) < (16 : Int32) ∧ ((i + (1 : Int32)) &&& (15 : Int32)).toNatClampNeg = (i.toNatClampNeg + 1) % 16 := by
  have a := c_iadd i 1
  have m := c_mask (i + 1) 15 4 (by decide) (by decide)
  have e : ((2 ^ 4 : Nat) : Int) = 16 := rfl
  have e1 : (1 : Int32).toInt = 1 := rfl
  have nn := own_nat h0
  rw [Int32.lt_iff_toInt_lt, show (0 : Int32).toInt = 0 from rfl] at h0
  rw [Int32.lt_iff_toInt_lt, show (16 : Int32).toInt = 16 from rfl] at h1
  rw [e] at m
  rw [e1] at a
  have lo := (i + 1).le_toInt
  have hi := (i + 1).toInt_lt
  refine ⟨?_, ?_, ?_⟩
  · rw [Int32.lt_iff_toInt_lt, m, show (0 : Int32).toInt = 0 from rfl]; omega
  · rw [Int32.lt_iff_toInt_lt, m, show (16 : Int32).toInt = 16 from rfl]; omega
  · show ((i + 1) &&& 15).toInt.toNat = _
    rw [m]; omega
theorem own_prGo {tb : List Int32} {x : Int32} {n : Nat} {i : Int32} (h0 : ¬ i < (0 : Int32)) (h1 : i < (16 : Int32)) (c1 : ¬ (own_g tb i.toNatClampNeg = (0 : Int32))) (c2 : ¬ (own_g tb i.toNatClampNeg = x)) : own_probe tb x (n + 1) i.toNatClampNeg = own_probe tb x n ((i + (1 : Int32)) &&& (15 : Int32)).toNatClampNeg := by
  rw [(own_next h0 h1).2.2, own_probe, if_neg (by rintro (q | q); exact c1 q; exact c2 q)]
theorem own_st0 (x : Int32) : ¬ (((x * (-1640531527 : Int32)).toUInt32 >>> ((28 : Int32) &&& 31).toUInt32).toInt32) < (0 : Int32) ∧ (((x * (-1640531527 : Int32)).toUInt32 >>> ((28 : Int32) &&& 31).toUInt32).toInt32) < (16 : Int32) := by
  have h := own_start_int x
  rw [Int32.lt_iff_toInt_lt, Int32.lt_iff_toInt_lt, show (0 : Int32).toInt = 0 from rfl, show (16 : Int32).toInt = 16 from rfl]
  omega
end OwnHashW
end Jvm.RoadKit
namespace Jvm.RoadKit
open Sem ClassFile Op Lib Jvm.Stand Jvm.Free Jvm.LawKit
section OwnHashS
variable {Z : State} {h h' : Heap} {a : Addr} {k : ClassId} {z : Int32}
theorem own_set {c : Cell} {tb : List Int32} {j x : Int32} {i : Nat} (A : Arr Z h a c .int) (q1 : c.cls = k) (S : c.slots.size = z.toNatClampNeg) (q3 : ¬ z < 0) (H : Has c (tb.map Value.int) (.int (0 : Int32))) (G : ∀ i, i < c.slots.size → fits .int ((tb.map Value.int).getD i (.int (0 : Int32))) = true) (W : Wr h h' a j.toNatClampNeg (.int x)) (hj : j.toNatClampNeg = i) (hi : i < tb.length) : Arv Z h' a k .int z ((tb.set i x).map Value.int) (.int (0 : Int32)) := by
  rw [List.map_set]
  exact Arv.set A q1 S q3 H G rfl W i hj (by rw [List.length_map]; exact hi)
end OwnHashS
end Jvm.RoadKit
namespace Jvm.RoadKit
open Sem ClassFile Op Lib Jvm.Stand Jvm.Free Jvm.LawKit
section OwnHashT
theorem own_fst {tb hs : List Int32} (H : OwnHold tb hs) (hl : hs.length < 16) (x : Int32) : own_g tb (own_fnd tb x) = 0 ∨ own_g tb (own_fnd tb x) = x := by
  obtain ⟨k, -, -, -, h⟩ := own_fnd_spec x (H.zero hl); exact h
theorem own_flt {tb hs : List Int32} (H : OwnHold tb hs) (hl : hs.length < 16) (x : Int32) : own_fnd tb x < 16 := own_fnd_lt x (H.zero hl)
theorem own_fln {tb hs : List Int32} (H : OwnHold tb hs) (hl : hs.length < 16) (x : Int32) : own_fnd tb x < tb.length := by rw [H.1.len]; exact own_flt H hl x
theorem own_ofi {k : Nat} (h : k < 16) : (Int32.ofNat k).toInt = k := Int32.toInt_ofNat_of_lt (by omega)
theorem own_ofn {k : Nat} (h : k < 16) : (Int32.ofNat k).toNatClampNeg = k := by
  show (Int32.ofNat k).toInt.toNat = k
  rw [own_ofi h]; omega
theorem own_ofb {k : Nat} (h : k < 16) : ¬ Int32.ofNat k < (0 : Int32) ∧ Int32.ofNat k < (16 : Int32) := by
  rw [Int32.lt_iff_toInt_lt, Int32.lt_iff_toInt_lt, own_ofi h, show (0 : Int32).toInt = 0 from rfl, show (16 : Int32).toInt = 16 from rfl]; omega
theorem own_insT {tb : List Int32} {x : Int32} (c : own_g tb (own_fnd tb x) = (0 : Int32)) : tb.set (own_fnd tb x) x = own_ins tb x := by unfold own_ins; rw [if_pos c]
theorem own_insF {tb : List Int32} {x : Int32} (c : ¬ (own_g tb (own_fnd tb x) = (0 : Int32))) : tb = own_ins tb x := by unfold own_ins; rw [if_neg c]
/-- 0 ≤ n ≤ k -/
def OwnSz (n : Int32) (k : Nat) : Prop := 0 ≤ n.toInt ∧ n.toInt ≤ k
theorem OwnSz.up {n : Int32} {k : Nat} (h : OwnSz n k) (hk : k < 1000) : OwnSz (n + (1 : Int32)) (k + 1) := by
  have a := c_iadd n 1
  have e1 : (1 : Int32).toInt = 1 := rfl
  have lo := (n + 1).le_toInt
  have hi := (n + 1).toInt_lt
  unfold OwnSz at *
  rw [e1] at a
  omega
theorem OwnSz.mono {n : Int32} {k k' : Nat} (h : OwnSz n k) (hk : k ≤ k') : OwnSz n k' := by unfold OwnSz at *; omega
theorem OwnSz.no {n : Int32} {k : Nat} (h : OwnSz n k) (hk : k ≤ 8) : ¬ (8 : Int32) < n := by
  rw [Int32.lt_iff_toInt_lt, show (8 : Int32).toInt = 8 from rfl]; unfold OwnSz at h; omega
end OwnHashT
end Jvm.RoadKit
namespace Jvm.RoadKit
open Sem ClassFile Op Lib Jvm.Stand Jvm.Free Jvm.LawKit
section OwnHashM
theorem own_memF {tb hs : List Int32} (H : OwnHold tb hs) (hl : hs.length < 16) {x : Int32} (hx : x ≠ 0) (c : own_g tb (own_fnd tb x) = (0 : Int32)) : ¬ x ∈ hs := fun q => by
  have a := (own_has_iff H.1 hx (H.zero hl)).mpr ((H.2.1 x hx).mpr q)
  simp only [own_has, decide_eq_true_eq] at a
  exact a c
theorem own_memT {tb hs : List Int32} (H : OwnHold tb hs) (hl : hs.length < 16) {x : Int32} (hx : x ≠ 0) (c : ¬ (own_g tb (own_fnd tb x) = (0 : Int32))) : x ∈ hs :=
  (H.2.1 x hx).mp ((own_has_iff H.1 hx (H.zero hl)).mp (by simp only [own_has, decide_eq_true_eq]; exact c))
theorem own_iteT {P : Prop} [Decidable P] (h : P) : (some (Value.int (1 : Int32))) = some (Value.int (if P then (1 : Int32) else 0)) := by rw [if_pos h]
theorem own_iteF {P : Prop} [Decidable P] (h : ¬ P) : (some (Value.int (0 : Int32))) = some (Value.int (if P then (1 : Int32) else 0)) := by rw [if_neg h]
end OwnHashM
end Jvm.RoadKit
namespace Jvm.RoadKit
open Sem ClassFile Op Lib Jvm.Stand Jvm.Free Jvm.LawKit
section OwnRepS
variable {l : Launch} {y : MethodName} {bytes : ByteArray} {maxL : Nat} {ret : Option FieldType} {ws : List Jvm.Cond} {rm : Room} {Z : State} {as : Array Value} {h0 : Heap}
theorem own_mono {QQ QQ' : Option Value → Heap → List Loc → Prop} (M : ownMet l y bytes maxL ret ws rm Z as h0 QQ) (k : ∀ v h L, QQ v h L → QQ' v h L) : ownMet l y bytes maxL ret ws rm Z as h0 QQ' := by
  intro p e ha hc hk s m args below hf happ hP hK
  obtain ⟨n, o, h1, h2, h3, v, L, h4, h5, h6⟩ := M p e ha hc hk s m args below hf happ hP hK
  exact ⟨n, o, h1, h2, h3, v, L, h4, k _ _ _ h5, h6⟩
abbrev ownSH : String := "com/example/rising_block/risingblock/util/StringHashes"
def OwnPend (Z : State) (h : Heap) (o pb : Addr) (kp : ClassId) (hs0 hs : List Int32) : Prop :=
  (Fld Z h o ownSH "pendingCount" "I" (.int (0 : Int32)) ∧ hs = hs0) ∨
  (∃ x0 : Int32, Fld Z h o ownSH "pendingCount" "I" (.int (1 : Int32)) ∧ Arv Z h pb kp .int (1 : Int32) [(.int x0)] (.int (0 : Int32)) ∧ x0 ≠ 0 ∧ hs = (hs0 ++ [x0])) ∨
  (∃ x0 x1 : Int32, Fld Z h o ownSH "pendingCount" "I" (.int (2 : Int32)) ∧ Arv Z h pb kp .int (2 : Int32) [(.int x0), (.int x1)] (.int (0 : Int32)) ∧ x0 ≠ 0 ∧ x1 ≠ 0 ∧ hs = ((hs0 ++ [x0]) ++ [x1])) ∨
  (∃ x0 x1 : Int32, Fld Z h o ownSH "pendingCount" "I" (.int (1 : Int32)) ∧ Arv Z h pb kp .int (2 : Int32) [(.int x0), (.int x1)] (.int (0 : Int32)) ∧ x0 ≠ 0 ∧ hs = (hs0 ++ [x0])) ∨
  (∃ x0 x1 x2 : Int32, Fld Z h o ownSH "pendingCount" "I" (.int (3 : Int32)) ∧ Arv Z h pb kp .int (3 : Int32) [(.int x0), (.int x1), (.int x2)] (.int (0 : Int32)) ∧ x0 ≠ 0 ∧ x1 ≠ 0 ∧ x2 ≠ 0 ∧ hs = (((hs0 ++ [x0]) ++ [x1]) ++ [x2])) ∨
  (∃ x0 x1 x2 x3 : Int32, Fld Z h o ownSH "pendingCount" "I" (.int (3 : Int32)) ∧ Arv Z h pb kp .int (4 : Int32) [(.int x0), (.int x1), (.int x2), (.int x3)] (.int (0 : Int32)) ∧ x0 ≠ 0 ∧ x1 ≠ 0 ∧ x2 ≠ 0 ∧ hs = (((hs0 ++ [x0]) ++ [x1]) ++ [x2]))
/-- o, over the slots b and the pending array pb, holds hs -/
def OwnRep (Z : State) (h : Heap) (o b pb : Addr) (hs : List Int32) : Prop :=
  ∃ (kb kp : ClassId) (tb hs0 : List Int32) (sz mp : Int32), Exa Z h o ownSH ∧ Z.heap.size ≤ o ∧ Z.heap.size ≤ b ∧ b ≠ pb ∧ Fld Z h o ownSH "slots" "[I" (.ref b) ∧ Fld Z h o ownSH "size" "I" (.int sz) ∧ Fld Z h o ownSH "pending" "[I" (.ref pb) ∧ Fld Z h o ownSH "mostPending" "I" (.int mp) ∧
    Arv Z h b kb .int (16 : Int32) (tb.map Value.int) (.int (0 : Int32)) ∧ OwnHold tb hs0 ∧ OwnSz sz hs0.length ∧ OwnPend Z h o pb kp hs0 hs
theorem OwnPend.ext {h h' : Heap} {o pb : Addr} {kp : ClassId} {hs0 hs : List Int32} (E : Ext h h') (P : OwnPend Z h o pb kp hs0 hs) : OwnPend Z h' o pb kp hs0 hs := by
  rcases P with ⟨a, b⟩ | ⟨x0, a, b, c⟩ | ⟨x0, x1, a, b, c⟩ | ⟨x0, x1, a, b, c⟩ | ⟨x0, x1, x2, a, b, c⟩ | ⟨x0, x1, x2, x3, a, b, c⟩
  · exact Or.inl ⟨a.ext E, b⟩
  · exact Or.inr (Or.inl ⟨x0, a.ext E, b.ext E, c⟩)
  · exact Or.inr (Or.inr (Or.inl ⟨x0, x1, a.ext E, b.ext E, c⟩))
  · exact Or.inr (Or.inr (Or.inr (Or.inl ⟨x0, x1, a.ext E, b.ext E, c⟩)))
  · exact Or.inr (Or.inr (Or.inr (Or.inr (Or.inl ⟨x0, x1, x2, a.ext E, b.ext E, c⟩))))
  · exact Or.inr (Or.inr (Or.inr (Or.inr (Or.inr ⟨x0, x1, x2, x3, a.ext E, b.ext E, c⟩))))
theorem OwnPend.keep {h h' : Heap} {o pb : Addr} {kp : ClassId} {hs0 hs : List Int32} {w : List Addr} (K : Keep h h' w) (n1 : o ∉ w) (n2 : pb ∉ w) (P : OwnPend Z h o pb kp hs0 hs) : OwnPend Z h' o pb kp hs0 hs := by
  rcases P with ⟨a, b⟩ | ⟨x0, a, b, c⟩ | ⟨x0, x1, a, b, c⟩ | ⟨x0, x1, a, b, c⟩ | ⟨x0, x1, x2, a, b, c⟩ | ⟨x0, x1, x2, x3, a, b, c⟩
  · exact Or.inl ⟨a.keep K n1, b⟩
  · exact Or.inr (Or.inl ⟨x0, a.keep K n1, b.keep K n2, c⟩)
  · exact Or.inr (Or.inr (Or.inl ⟨x0, x1, a.keep K n1, b.keep K n2, c⟩))
  · exact Or.inr (Or.inr (Or.inr (Or.inl ⟨x0, x1, a.keep K n1, b.keep K n2, c⟩)))
  · exact Or.inr (Or.inr (Or.inr (Or.inr (Or.inl ⟨x0, x1, x2, a.keep K n1, b.keep K n2, c⟩))))
  · exact Or.inr (Or.inr (Or.inr (Or.inr (Or.inr ⟨x0, x1, x2, x3, a.keep K n1, b.keep K n2, c⟩))))
theorem OwnRep.ext {h h' : Heap} {o b pb : Addr} {hs : List Int32} (R : OwnRep Z h o b pb hs) (E : Ext h h') : OwnRep Z h' o b pb hs := by
  obtain ⟨kb, kp, tb, hs0, sz, mp, E0, g0, gb, bp, F0, F1, F2, F4, AT, H, hz, P⟩ := R
  exact ⟨kb, kp, tb, hs0, sz, mp, E0.ext E, g0, gb, bp, F0.ext E, F1.ext E, F2.ext E, F4.ext E, AT.ext E, H, hz, P.ext E⟩
theorem OwnRep.exa {h : Heap} {o b pb : Addr} {hs : List Int32} (R : OwnRep Z h o b pb hs) : Exa Z h o ownSH := by obtain ⟨kb, kp, tb, hs0, sz, mp, E0, -⟩ := R; exact E0
theorem OwnRep.ge1 {h : Heap} {o b pb : Addr} {hs : List Int32} (R : OwnRep Z h o b pb hs) : Z.heap.size ≤ o := by obtain ⟨kb, kp, tb, hs0, sz, mp, E0, g0, -⟩ := R; exact g0
theorem OwnRep.ge2 {h : Heap} {o b pb : Addr} {hs : List Int32} (R : OwnRep Z h o b pb hs) : Z.heap.size ≤ b := by obtain ⟨kb, kp, tb, hs0, sz, mp, E0, g0, g1, -⟩ := R; exact g1
theorem OwnRep.keep {h h' : Heap} {o b pb : Addr} {hs : List Int32} {w : List Addr} (R : OwnRep Z h o b pb hs) (K : Keep h h' w) (n1 : o ∉ w) (n2 : b ∉ w) (n3 : pb ∉ w) : OwnRep Z h' o b pb hs := by
  obtain ⟨kb, kp, tb, hs0, sz, mp, E0, g0, gb, bp, F0, F1, F2, F4, AT, H, hz, P⟩ := R
  exact ⟨kb, kp, tb, hs0, sz, mp, E0.keep K, g0, gb, bp, F0.keep K n1, F1.keep K n1, F2.keep K n1, F4.keep K n1, AT.keep K n2, H, hz, P.keep K n1 n3⟩
/-- the turns of meets from place i -/
def own_any (tb hs : List Int32) : Nat → Nat → Bool
  | 0, _ => false
  | n + 1, i => (decide (own_g tb i ≠ 0) && decide (own_g tb i ∈ hs)) || own_any tb hs n (i + 1)
theorem own_any_iff (tb hs : List Int32) : ∀ n i, own_any tb hs n i = true ↔ ∃ j, i ≤ j ∧ j < i + n ∧ own_g tb j ≠ 0 ∧ own_g tb j ∈ hs
  | 0, i => ⟨fun h => absurd h (by simp [own_any]), fun ⟨j, a, b, _⟩ => by omega⟩
  | n + 1, i => by
    simp only [own_any, Bool.or_eq_true, Bool.and_eq_true, decide_eq_true_eq, own_any_iff tb hs n (i + 1)]
    constructor
    · rintro (⟨a, b⟩ | ⟨j, a, b, c⟩)
      · exact ⟨i, Nat.le_refl _, by omega, a, b⟩
      · exact ⟨j, by omega, by omega, c⟩
    · rintro ⟨j, a, b, c⟩
      by_cases q : j = i
      · subst q; exact Or.inl c
      · exact Or.inr ⟨j, by omega, by omega, c⟩
theorem own_any16 {ta ha hb : List Int32} (A : OwnHold ta ha) (na : ∀ y ∈ ha, y ≠ 0) : own_any ta hb 16 0 = true ↔ ∃ y, y ∈ ha ∧ y ∈ hb := by
  rw [own_any_iff]
  constructor
  · rintro ⟨j, -, b, c, d⟩; exact ⟨_, (A.2.1 _ c).mp ⟨j, by omega, rfl⟩, d⟩
  · rintro ⟨y, y1, y2⟩
    obtain ⟨i, i1, i2⟩ := (A.2.1 y (na y y1)).mpr y1
    exact ⟨i, Nat.zero_le _, by omega, by rw [i2]; exact na y y1, by rw [i2]; exact y2⟩
theorem own_any0 {tb hs : List Int32} {n i : Nat} (c : own_g tb i = (0 : Int32)) : own_any tb hs (n + 1) i = own_any tb hs n (i + 1) := by simp [own_any, c]
theorem own_anyN {tb hs : List Int32} {n i : Nat} (c : ¬ own_g tb i ∈ hs) : own_any tb hs (n + 1) i = own_any tb hs n (i + 1) := by simp [own_any, c]
theorem own_anyY {tb hs : List Int32} {n i : Nat} (c0 : ¬ (own_g tb i = (0 : Int32))) (c : own_g tb i ∈ hs) : own_any tb hs (n + 1) i = true := by simp [own_any, c, c0]
theorem own_if0 {P : Prop} [Decidable P] (h : (if P then (1 : Int32) else 0) = (0 : Int32)) : ¬ P := fun q => by rw [if_pos q] at h; exact absurd h (by decide)
theorem own_if1 {P : Prop} [Decidable P] (h : ¬ ((if P then (1 : Int32) else 0) = (0 : Int32))) : P := Classical.byContradiction fun q => h (by rw [if_neg q])
theorem own_step {i : Int32} {n : Nat} (h : i.toInt + ((n + 1 : Nat) : Int) = 16) (h0 : 0 ≤ i.toInt) : ¬ i < (0 : Int32) ∧ i < (16 : Int32) ∧ (i + (1 : Int32)).toInt + (n : Int) = 16 ∧ 0 ≤ (i + (1 : Int32)).toInt ∧ (i + (1 : Int32)).toNatClampNeg = i.toNatClampNeg + 1 := by
  have a := c_iadd i 1
  have e1 : (1 : Int32).toInt = 1 := rfl
  have lo := (i + 1).le_toInt
  have hi := (i + 1).toInt_lt
  rw [e1] at a
  have q : (i + 1).toInt = i.toInt + 1 := by omega
  refine ⟨?_, ?_, by rw [q]; omega, by rw [q]; omega, ?_⟩
  · rw [Int32.lt_iff_toInt_lt, show (0 : Int32).toInt = 0 from rfl]; omega
  · rw [Int32.lt_iff_toInt_lt, show (16 : Int32).toInt = 16 from rfl]; omega
  · show (i + 1).toInt.toNat = i.toInt.toNat + 1
    rw [q]; omega
theorem own_end {i : Int32} (h : i.toInt + ((0 : Nat) : Int) = 16) : ¬ i < (16 : Int32) := by
  rw [Int32.lt_iff_toInt_lt, show (16 : Int32).toInt = 16 from rfl]; omega
end OwnRepS
end Jvm.RoadKit
namespace Jvm.RoadKit
open Sem ClassFile Op Lib Jvm.Stand Jvm.Free Jvm.LawKit
theorem own_goM {p : Program} {e : Env} {below : List Frame} {s S : State} {QQ QQ' : Option Value → Heap → List Loc → Prop} {C N : Nat} (k : ∀ v h L, QQ v h L → QQ' v h L) (g : ownGo p e below (ownQ s QQ C N) S) : ownGo p e below (ownQ s QQ' C N) S := by
  obtain ⟨s₂, o, h1, h2, h3, v, L, h4, h5, h6⟩ := g
  exact ⟨s₂, o, h1, h2, h3, v, L, h4, k _ _ _ h5, h6⟩
end Jvm.RoadKit
namespace Jvm.RoadKit
/-- the answer of meets, plainly -/
def own_meet (ha hb : List Int32) : Bool := ha.any fun y => decide (y ∈ hb)
theorem own_anyM {ta ha hb : List Int32} (A : OwnHold ta ha) (na : ∀ y ∈ ha, y ≠ 0) : own_any ta hb 16 0 = own_meet ha hb := by
  rw [Bool.eq_iff_iff, own_any16 A na]
  simp [own_meet]
end Jvm.RoadKit
namespace Jvm.RoadKit
/-- a hash as the slots hold it -/
def own_hd (x : Int32) : Int32 := if x = (0 : Int32) then 1 else x
theorem own_hdT {x : Int32} (c : x = (0 : Int32)) : (some (Value.int (1 : Int32))) = some (Value.int (own_hd x)) := by unfold own_hd; rw [if_pos c]
theorem own_hdF {x : Int32} (c : ¬ (x = (0 : Int32))) : some (Value.int x) = some (Value.int (own_hd x)) := by unfold own_hd; rw [if_neg c]
theorem own_hd0 (x : Int32) : own_hd x ≠ 0 := by unfold own_hd; split <;> first | decide | assumption
end Jvm.RoadKit
namespace Jvm.RoadKit
open Sem ClassFile Op Lib Jvm.Stand Jvm.Free Jvm.LawKit
section OwnStrS
variable {Z : State}
def OwnBytes (Z : State) (h : Heap) (t : Addr) (kt : ClassId) (hv : Int32) : Prop :=
  (Arv Z h t kt .byte (0 : Int32) [] (.int (0 : Int32)) ∧ hv = (0 : Int32)) ∨
  (∃ z0 : Int32, Arv Z h t kt .byte (1 : Int32) [(.int z0)] (.int (0 : Int32)) ∧ hv = (z0 &&& (255 : Int32))) ∨
  (∃ z0 z1 : Int32, Arv Z h t kt .byte (2 : Int32) [(.int z0), (.int z1)] (.int (0 : Int32)) ∧ Exa Z h t "[B" ∧ hv = (((31 : Int32) * ((0 : Int32) + (z0 &&& (255 : Int32)))) + (z1 &&& (255 : Int32))))
/-- r, over the bytes t, is a String that was never hashed, of at most two signs, whose hash is hv -/
def OwnStr (Z : State) (h : Heap) (r t : Addr) (hv : Int32) : Prop :=
  Exa Z h r "java/lang/String" ∧ Z.heap.size ≤ r ∧ Fld Z h r "java/lang/String" "value" "[B" (.ref t) ∧ Fld Z h r "java/lang/String" "coder" "B" (.int (0 : Int32)) ∧ Fld Z h r "java/lang/String" "hash" "I" (.int (0 : Int32)) ∧ Fld Z h r "java/lang/String" "hashIsZero" "Z" (.int (0 : Int32)) ∧ t ≠ r ∧ ∃ kt, OwnBytes Z h t kt hv
theorem OwnBytes.ext {h h' : Heap} {t : Addr} {kt : ClassId} {hv : Int32} (B : OwnBytes Z h t kt hv) (E : Ext h h') : OwnBytes Z h' t kt hv := by
  rcases B with ⟨a, b⟩ | ⟨z0, a, b⟩ | ⟨z0, z1, a, b, c⟩
  · exact Or.inl ⟨a.ext E, b⟩
  · exact Or.inr (Or.inl ⟨z0, a.ext E, b⟩)
  · exact Or.inr (Or.inr ⟨z0, z1, a.ext E, b.ext E, c⟩)
theorem OwnBytes.keep {h h' : Heap} {t : Addr} {kt : ClassId} {hv : Int32} {w : List Addr} (B : OwnBytes Z h t kt hv) (K : Keep h h' w) (n : t ∉ w) : OwnBytes Z h' t kt hv := by
  rcases B with ⟨a, b⟩ | ⟨z0, a, b⟩ | ⟨z0, z1, a, b, c⟩
  · exact Or.inl ⟨a.keep K n, b⟩
  · exact Or.inr (Or.inl ⟨z0, a.keep K n, b⟩)
  · exact Or.inr (Or.inr ⟨z0, z1, a.keep K n, b.keep K, c⟩)
theorem OwnStr.ext {h h' : Heap} {r t : Addr} {hv : Int32} (S : OwnStr Z h r t hv) (E : Ext h h') : OwnStr Z h' r t hv := by
  obtain ⟨a, b, c, d, f, g, i, kt, j⟩ := S
  exact ⟨a.ext E, b, c.ext E, d.ext E, f.ext E, g.ext E, i, kt, j.ext E⟩
theorem OwnStr.keep {h h' : Heap} {r t : Addr} {hv : Int32} {w : List Addr} (S : OwnStr Z h r t hv) (K : Keep h h' w) (n1 : r ∉ w) (n2 : t ∉ w) : OwnStr Z h' r t hv := by
  obtain ⟨a, b, c, d, f, g, i, kt, j⟩ := S
  exact ⟨a.keep K, b, c.keep K n1, d.keep K n1, f.keep K n1, g.keep K n1, i, kt, j.keep K n2⟩
end OwnStrS
end Jvm.RoadKit
namespace Jvm.RoadKit
open Sem ClassFile Op Lib Jvm.Stand Jvm.Free Jvm.LawKit
/-- the pending ones after k adds, by mp -/
def OwnShape (Z : State) (h : Heap) (o pb : Addr) (kp : ClassId) (k : Nat) (mp : Int32) (hs0 hs : List Int32) : Prop := match k with
  | 0 => (mp = 1 ∨ mp = 2 ∨ mp = 3 ∨ mp = 4) ∧ ∃ x0 : Int32, Fld Z h o ownSH "pendingCount" "I" (.int (0 : Int32)) ∧ Arv Z h pb kp .int (1 : Int32) [(.int x0)] (.int (0 : Int32)) ∧ hs = hs0
  | 1 => (mp = 1 ∨ mp = 2 ∨ mp = 3 ∨ mp = 4) ∧ ∃ x0 : Int32, Fld Z h o ownSH "pendingCount" "I" (.int (1 : Int32)) ∧ Arv Z h pb kp .int (1 : Int32) [(.int x0)] (.int (0 : Int32)) ∧ x0 ≠ 0 ∧ hs = (hs0 ++ [x0])
  | _ => (mp = 1 ∧ ∃ x0 : Int32, Fld Z h o ownSH "pendingCount" "I" (.int (1 : Int32)) ∧ Arv Z h pb kp .int (1 : Int32) [(.int x0)] (.int (0 : Int32)) ∧ x0 ≠ 0 ∧ hs = (hs0 ++ [x0])) ∨
      ((mp = 2 ∨ mp = 3 ∨ mp = 4) ∧ ∃ x0 x1 : Int32, Fld Z h o ownSH "pendingCount" "I" (.int (2 : Int32)) ∧ Arv Z h pb kp .int (2 : Int32) [(.int x0), (.int x1)] (.int (0 : Int32)) ∧ x0 ≠ 0 ∧ x1 ≠ 0 ∧ hs = ((hs0 ++ [x0]) ++ [x1]))
def OwnStage (Z : State) (h : Heap) (o b pb : Addr) (k : Nat) (hs : List Int32) : Prop :=
  ∃ (kb kp : ClassId) (tb hs0 : List Int32) (sz mp : Int32), Exa Z h o ownSH ∧ Z.heap.size ≤ o ∧ Z.heap.size ≤ b ∧ Z.heap.size ≤ pb ∧ b ≠ pb ∧ Fld Z h o ownSH "slots" "[I" (.ref b) ∧ Fld Z h o ownSH "size" "I" (.int sz) ∧ Fld Z h o ownSH "pending" "[I" (.ref pb) ∧ Fld Z h o ownSH "mostPending" "I" (.int mp) ∧
    Arv Z h b kb .int (16 : Int32) (tb.map Value.int) (.int (0 : Int32)) ∧ OwnHold tb hs0 ∧ OwnSz sz hs0.length ∧ OwnShape Z h o pb kp k mp hs0 hs
theorem OwnShape.pend {Z : State} {h : Heap} {o pb : Addr} {kp : ClassId} {k : Nat} {mp : Int32} {hs0 hs : List Int32} (P : OwnShape Z h o pb kp k mp hs0 hs) : OwnPend Z h o pb kp hs0 hs := by
  match k, P with
  | 0, ⟨_, x0, a, b, c⟩ => exact Or.inl ⟨a, c⟩
  | 1, ⟨_, x0, a, b, c⟩ => exact Or.inr (Or.inl ⟨x0, a, b, c⟩)
  | k + 2, Or.inl ⟨_, x0, a, b, c⟩ => exact Or.inr (Or.inl ⟨x0, a, b, c⟩)
  | k + 2, Or.inr ⟨_, x0, x1, a, b, c⟩ => exact Or.inr (Or.inr (Or.inl ⟨x0, x1, a, b, c⟩))
theorem OwnStage.rep {Z : State} {h : Heap} {o b pb : Addr} {k : Nat} {hs : List Int32} (S : OwnStage Z h o b pb k hs) : OwnRep Z h o b pb hs := by
  obtain ⟨kb, kp, tb, hs0, sz, mp, E0, g0, gb, gp, bp, F0, F1, F2, F4, AT, H, hz, P⟩ := S
  exact ⟨kb, kp, tb, hs0, sz, mp, E0, g0, gb, bp, F0, F1, F2, F4, AT, H, hz, P.pend⟩
end Jvm.RoadKit
namespace Jvm.RoadKit
open Sem ClassFile Op Lib Jvm.Stand Jvm.Free Jvm.LawKit
section OwnOther
variable {Z : State} {h h' : Heap}
theorem OwnStr.other {r t a : Addr} {hv : Int32} {sl : Nat} {v : Value} (S : OwnStr Z h r t hv) (W : Wr h h' a sl v) (n1 : r ≠ a) (n2 : t ≠ a) : OwnStr Z h' r t hv := by
  obtain ⟨a1, b, c, d, f, g, i, kt, j⟩ := S
  refine ⟨a1.wr W, b, c.other W (Or.inl n1), d.other W (Or.inl n1), f.other W (Or.inl n1), g.other W (Or.inl n1), i, kt, ?_⟩
  rcases j with ⟨q, e⟩ | ⟨z0, q, e⟩ | ⟨z0, z1, q, x, e⟩
  · exact Or.inl ⟨q.other W n2, e⟩
  · exact Or.inr (Or.inl ⟨z0, q.other W n2, e⟩)
  · exact Or.inr (Or.inr ⟨z0, z1, q.other W n2, x.wr W, e⟩)
theorem OwnStr.lt {r t : Addr} {hv : Int32} (S : OwnStr Z h r t hv) : r < h.size := S.1.lt
theorem OwnStr.lt2 {r t : Addr} {hv : Int32} (S : OwnStr Z h r t hv) : t < h.size := by
  obtain ⟨a1, b, c, d, f, g, i, kt, j⟩ := S
  rcases j with ⟨q, e⟩ | ⟨z0, q, e⟩ | ⟨z0, z1, q, x, e⟩
  · exact q.lt
  · exact q.lt
  · exact q.lt
theorem OwnStr.exa {r t : Addr} {hv : Int32} (S : OwnStr Z h r t hv) : Exa Z h r "java/lang/String" := S.1
end OwnOther
end Jvm.RoadKit
namespace Jvm.RoadKit
/-- the law's own small functions -/
def own_len (c : Int32) : Int32 := if (c &&& (3 : Int32)) = (3 : Int32) then 2 else (c &&& (3 : Int32))
def own_c0 (c : Int32) : Int32 := (((c.toUInt32 >>> ((2 : Int32) &&& 31).toUInt32).toInt32) &&& (255 : Int32))
def own_c1 (c : Int32) : Int32 := (((c.toUInt32 >>> ((10 : Int32) &&& 31).toUInt32).toInt32) &&& (255 : Int32))
def own_hc (c : Int32) : Int32 := if own_len c = (0 : Int32) then 0 else if own_len c = (1 : Int32) then own_c0 c else ((31 : Int32) * own_c0 c) + own_c1 c
def own_in (h h0 h1 h2 n : Int32) : Prop := ((0 : Int32) < n ∧ h = h0) ∨ ((1 : Int32) < n ∧ h = h1) ∨ ((2 : Int32) < n ∧ h = h2)
instance (h h0 h1 h2 n : Int32) : Decidable (own_in h h0 h1 h2 n) := by unfold own_in; infer_instance
theorem own_lenT {c : Int32} (q : (c &&& (3 : Int32)) = (3 : Int32)) : some (Value.int (2 : Int32)) = some (Value.int (own_len c)) := by unfold own_len; rw [if_pos q]
theorem own_lenF {c : Int32} (q : ¬ ((c &&& (3 : Int32)) = (3 : Int32))) : some (Value.int (c &&& (3 : Int32))) = some (Value.int (own_len c)) := by unfold own_len; rw [if_neg q]
theorem own_hc0 {c : Int32} (q : own_len c = (0 : Int32)) : own_hc c = 0 := by unfold own_hc; rw [if_pos q]
theorem own_hc1 {c : Int32} (q : ¬ (own_len c = (0 : Int32))) (q1 : own_len c = (1 : Int32)) : own_hc c = own_c0 c := by unfold own_hc; rw [if_neg q, if_pos q1]
theorem own_hc2 {c : Int32} (q : ¬ (own_len c = (0 : Int32))) (q1 : ¬ (own_len c = (1 : Int32))) : own_hc c = ((31 : Int32) * own_c0 c) + own_c1 c := by unfold own_hc; rw [if_neg q, if_neg q1]
end Jvm.RoadKit
namespace Jvm.RoadKit
open Sem ClassFile Op Lib Jvm.Stand Jvm.Free Jvm.LawKit
theorem own_bb (y : Int32) : ((y &&& (255 : Int32)).toInt8.toInt32 &&& (255 : Int32)) = (y &&& (255 : Int32)) := by
  have h := (c_and y 255 (by decide))
  have a := c_i2b (y &&& (255 : Int32))
  have b := c_mask (y &&& (255 : Int32)).toInt8.toInt32 255 8 (by decide) (by decide)
  have k : ((2 ^ 8 : Nat) : Int) = 256 := rfl
  have e : (255 : Int32).toInt = 255 := rfl
  rw [e] at h
  refine Int32.toInt_inj.mp ?_
  rw [b, k]; omega
theorem own_b1 {c : Int32} (q : ¬ (own_len c = (0 : Int32))) (q1 : own_len c = (1 : Int32)) : own_hc c = ((own_c0 c).toInt8.toInt32 &&& (255 : Int32)) := by rw [own_hc1 q q1]; exact (own_bb _).symm
theorem own_b2 {c : Int32} (q : ¬ (own_len c = (0 : Int32))) (q1 : ¬ (own_len c = (1 : Int32))) : own_hc c = (((31 : Int32) * ((0 : Int32) + ((own_c0 c).toInt8.toInt32 &&& (255 : Int32)))) + ((own_c1 c).toInt8.toInt32 &&& (255 : Int32))) := by
  rw [own_hc2 q q1]
  have e0 : ((own_c0 c).toInt8.toInt32 &&& (255 : Int32)) = own_c0 c := own_bb _
  have e1 : ((own_c1 c).toInt8.toInt32 &&& (255 : Int32)) = own_c1 c := own_bb _
  rw [e0, e1, Int32.zero_add]
end Jvm.RoadKit
namespace Jvm.RoadKit
open Sem ClassFile Op Lib Jvm.Stand Jvm.Free Jvm.LawKit
section OwnCarry
variable {Z : State} {h h' : Heap} {o b pb : Addr} {kp : ClassId} {k : Nat} {mp : Int32} {hs0 hs : List Int32}
theorem OwnShape.ext (P : OwnShape Z h o pb kp k mp hs0 hs) (E : Ext h h') : OwnShape Z h' o pb kp k mp hs0 hs := by
  match k, P with
  | 0, ⟨m, x0, a, b, c⟩ => exact ⟨m, x0, a.ext E, b.ext E, c⟩
  | 1, ⟨m, x0, a, b, c⟩ => exact ⟨m, x0, a.ext E, b.ext E, c⟩
  | k + 2, Or.inl ⟨m, x0, a, b, c⟩ => exact Or.inl ⟨m, x0, a.ext E, b.ext E, c⟩
  | k + 2, Or.inr ⟨m, x0, x1, a, b, c⟩ => exact Or.inr ⟨m, x0, x1, a.ext E, b.ext E, c⟩
theorem OwnShape.keep {w : List Addr} (P : OwnShape Z h o pb kp k mp hs0 hs) (K : Keep h h' w) (n1 : o ∉ w) (n2 : pb ∉ w) : OwnShape Z h' o pb kp k mp hs0 hs := by
  match k, P with
  | 0, ⟨m, x0, a, b, c⟩ => exact ⟨m, x0, a.keep K n1, b.keep K n2, c⟩
  | 1, ⟨m, x0, a, b, c⟩ => exact ⟨m, x0, a.keep K n1, b.keep K n2, c⟩
  | k + 2, Or.inl ⟨m, x0, a, b, c⟩ => exact Or.inl ⟨m, x0, a.keep K n1, b.keep K n2, c⟩
  | k + 2, Or.inr ⟨m, x0, x1, a, b, c⟩ => exact Or.inr ⟨m, x0, x1, a.keep K n1, b.keep K n2, c⟩
theorem OwnShape.lt (P : OwnShape Z h o pb kp k mp hs0 hs) : pb < h.size := by
  match k, P with
  | 0, ⟨m, x0, a, b, c⟩ => exact b.lt
  | 1, ⟨m, x0, a, b, c⟩ => exact b.lt
  | k + 2, Or.inl ⟨m, x0, a, b, c⟩ => exact b.lt
  | k + 2, Or.inr ⟨m, x0, x1, a, b, c⟩ => exact b.lt
theorem OwnStage.ext (S : OwnStage Z h o b pb k hs) (E : Ext h h') : OwnStage Z h' o b pb k hs := by
  obtain ⟨kb, kp, tb, hs0, sz, mp, E0, g0, gb, gp, bp, F0, F1, F2, F4, AT, H, hz, P⟩ := S
  exact ⟨kb, kp, tb, hs0, sz, mp, E0.ext E, g0, gb, gp, bp, F0.ext E, F1.ext E, F2.ext E, F4.ext E, AT.ext E, H, hz, P.ext E⟩
theorem OwnStage.keep {w : List Addr} (S : OwnStage Z h o b pb k hs) (K : Keep h h' w) (n1 : o ∉ w) (n2 : b ∉ w) (n3 : pb ∉ w) : OwnStage Z h' o b pb k hs := by
  obtain ⟨kb, kp, tb, hs0, sz, mp, E0, g0, gb, gp, bp, F0, F1, F2, F4, AT, H, hz, P⟩ := S
  exact ⟨kb, kp, tb, hs0, sz, mp, E0.keep K, g0, gb, gp, bp, F0.keep K n1, F1.keep K n1, F2.keep K n1, F4.keep K n1, AT.keep K n2, H, hz, P.keep K n1 n3⟩
theorem OwnStage.lt (S : OwnStage Z h o b pb k hs) : o < h.size := by
  obtain ⟨kb, kp, tb, hs0, sz, mp, E0, g0, gb, gp, bp, F0, F1, F2, F4, AT, H, hz, P⟩ := S; exact E0.lt
theorem OwnStage.lt2 (S : OwnStage Z h o b pb k hs) : b < h.size := by
  obtain ⟨kb, kp, tb, hs0, sz, mp, E0, g0, gb, gp, bp, F0, F1, F2, F4, AT, H, hz, P⟩ := S; exact AT.lt
theorem OwnStage.lt3 (S : OwnStage Z h o b pb k hs) : pb < h.size := by
  obtain ⟨kb, kp, tb, hs0, sz, mp, E0, g0, gb, gp, bp, F0, F1, F2, F4, AT, H, hz, P⟩ := S; exact P.lt
theorem OwnRep.lt (R : OwnRep Z h o b pb hs) : o < h.size := by
  obtain ⟨kb, kp, tb, hs0, sz, mp, E0, g0, gb, bp, F0, F1, F2, F4, AT, H, hz, P⟩ := R; exact E0.lt
theorem OwnRep.lt2 (R : OwnRep Z h o b pb hs) : b < h.size := by
  obtain ⟨kb, kp, tb, hs0, sz, mp, E0, g0, gb, bp, F0, F1, F2, F4, AT, H, hz, P⟩ := R; exact AT.lt
/-- a Rep whose pending array lies in the heap -/
def OwnRepL (Z : State) (h : Heap) (o b pb : Addr) (hs : List Int32) : Prop := OwnRep Z h o b pb hs ∧ pb < h.size
theorem OwnRepL.ext (R : OwnRepL Z h o b pb hs) (E : Ext h h') : OwnRepL Z h' o b pb hs := ⟨R.1.ext E, Nat.lt_of_lt_of_le R.2 E.1⟩
theorem OwnRepL.keep {w : List Addr} (R : OwnRepL Z h o b pb hs) (K : Keep h h' w) (n1 : o ∉ w) (n2 : b ∉ w) (n3 : pb ∉ w) : OwnRepL Z h' o b pb hs := ⟨R.1.keep K n1 n2 n3, Nat.lt_of_lt_of_le R.2 K.1⟩
theorem OwnRepL.lt (R : OwnRepL Z h o b pb hs) : o < h.size := R.1.lt
theorem OwnRepL.lt2 (R : OwnRepL Z h o b pb hs) : b < h.size := R.1.lt2
theorem OwnRepL.lt3 (R : OwnRepL Z h o b pb hs) : pb < h.size := R.2
theorem OwnStr.nes {a0 : Array Value} {r t r2 t2 : Addr} {hv hv2 : Int32} (A : OwnStr Z h r t hv) (B : OwnStr Z h r2 t2 hv2) (w : (Jvm.Cond.instantiable "java/lang/String" (4 : Nat)).before a0 Z = true) : t ≠ r2 := by
  obtain ⟨a1, b, c, d, f, g, i, kt, j⟩ := A
  rcases j with ⟨q, e⟩ | ⟨z0, q, e⟩ | ⟨z0, z1, q, x, e⟩ <;> exact Ne.symm (Exa.neArv B.1 q w)
theorem own_nep {x pb pb' n : Addr} (hp : pb' = pb ∨ n ≤ pb') (q : x ≠ pb) (l : x < n) : x ≠ pb' := by
  rcases hp with rfl | q1
  · exact q
  · exact Nat.ne_of_lt (Nat.lt_of_lt_of_le l q1)
theorem own_sfp {EL : List (String × Nat)} {vm : Vm} {pb pb' : Addr} (hp : pb' = pb ∨ h.size ≤ pb') (S : Safe Z EL vm h pb) : Safe Z EL vm h pb' := by
  rcases hp with rfl | q
  · exact S
  · exact Safe.new q
end OwnCarry
/-- the law's own ends -/
theorem own_and3 (k : Int32) : k &&& (3 : Int32) = 0 ∨ k &&& (3 : Int32) = 1 ∨ k &&& (3 : Int32) = 2 ∨ k &&& (3 : Int32) = 3 := by
  have h1 := c_and k 3 (by decide)
  have h0 : (3 : Int32).toInt = 3 := rfl
  rw [h0] at h1
  generalize k &&& (3 : Int32) = i at h1 ⊢
  have h3 : i.toInt = 0 ∨ i.toInt = 1 ∨ i.toInt = 2 ∨ i.toInt = 3 := by omega
  rcases h3 with h | h | h | h
  · exact Or.inl (Int32.toInt_inj.mp h)
  · exact Or.inr (Or.inl (Int32.toInt_inj.mp h))
  · exact Or.inr (Or.inr (Or.inl (Int32.toInt_inj.mp h)))
  · exact Or.inr (Or.inr (Or.inr (Int32.toInt_inj.mp h)))
theorem own_mp (k : Int32) : (k &&& (3 : Int32)) + (1 : Int32) = 1 ∨ (k &&& (3 : Int32)) + (1 : Int32) = 2 ∨ (k &&& (3 : Int32)) + (1 : Int32) = 3 ∨ (k &&& (3 : Int32)) + (1 : Int32) = 4 := by
  rcases own_and3 k with e | e | e | e <;> rw [e] <;> decide
theorem own_lt1 {n : Int32} (c : ¬ (0 : Int32) < n) : ¬ (1 : Int32) < n := by
  rw [Int32.lt_iff_toInt_lt] at c ⊢
  have h0 : (0 : Int32).toInt = 0 := rfl
  have h1 : (1 : Int32).toInt = 1 := rfl
  omega
theorem own_lt2 {n : Int32} (c : ¬ (1 : Int32) < n) : ¬ (2 : Int32) < n := by
  rw [Int32.lt_iff_toInt_lt] at c ⊢
  have h0 : (2 : Int32).toInt = 2 := rfl
  have h1 : (1 : Int32).toInt = 1 := rfl
  omega
section OwnIn
variable {x a b c n : Int32} {hs ha hb : List Int32}
theorem own_inL0 (c0 : ¬ (0 : Int32) < n) (c1 : ¬ (1 : Int32) < n) (c2 : ¬ (2 : Int32) < n) : own_in x a b c n ↔ x ∈ ([] : List Int32) := by simp [own_in, c0, c1, c2]
theorem own_inL1 (c0 : (0 : Int32) < n) (c1 : ¬ (1 : Int32) < n) (c2 : ¬ (2 : Int32) < n) : own_in x a b c n ↔ x ∈ ([] ++ [a]) := by simp [own_in, c0, c1, c2]
theorem own_inL2 (c0 : (0 : Int32) < n) (c1 : (1 : Int32) < n) (c2 : ¬ (2 : Int32) < n) : own_in x a b c n ↔ x ∈ (([] ++ [a]) ++ [b]) := by simp [own_in, c0, c1, c2]
theorem own_inL3 (c0 : (0 : Int32) < n) (c1 : (1 : Int32) < n) (c2 : (2 : Int32) < n) : own_in x a b c n ↔ x ∈ ((([] ++ [a]) ++ [b]) ++ [c]) := by simp [own_in, c0, c1, c2]
theorem own_meetT (p : x ∈ ha) (q : x ∈ hb) : own_meet ha hb = true := by
  unfold own_meet; exact List.any_eq_true.mpr ⟨x, p, decide_eq_true q⟩
theorem own_meetF (p : ∀ y ∈ ha, ¬ y ∈ hb) : ¬ (own_meet ha hb = true) := fun q => by
  unfold own_meet at q; obtain ⟨y, h1, h2⟩ := List.any_eq_true.mp q; exact p y h1 (of_decide_eq_true h2)
theorem own_meetG (p : ∀ y ∈ ha, ¬ y ∈ hb) : ¬ (own_meet hb ha = true) := fun q => by
  unfold own_meet at q; obtain ⟨y, h1, h2⟩ := List.any_eq_true.mp q; exact p y (of_decide_eq_true h2) h1
theorem own_meetC (ha hb : List Int32) : own_meet ha hb = own_meet hb ha := by
  have h : ∀ a b : List Int32, own_meet a b = true → own_meet b a = true := fun a b q => by
    unfold own_meet at q ⊢; obtain ⟨y, h1, h2⟩ := List.any_eq_true.mp q; exact List.any_eq_true.mpr ⟨y, of_decide_eq_true h2, decide_eq_true h1⟩
  exact Bool.eq_iff_iff.mpr ⟨h _ _, h _ _⟩
theorem own_mc {z : Int32} (q : z = if own_meet ha hb = true then (1 : Int32) else 0) : (if own_meet hb ha = true then (1 : Int32) else 0) = z := by rw [q, own_meetC]
theorem own_nn0 : ∀ y ∈ ([] : List Int32), ¬ y ∈ hb := fun y q => nomatch q
theorem own_nnS (p : ∀ y ∈ ha, ¬ y ∈ hb) (q : ¬ x ∈ hb) : ∀ y ∈ (ha ++ [x]), ¬ y ∈ hb := fun y m => by
  rcases List.mem_append.mp m with m | m
  · exact p y m
  · rw [List.mem_singleton.mp m]; exact q
theorem own_na0 : ∀ y ∈ ([] : List Int32), y ≠ 0 := fun y q => nomatch q
theorem own_naS (p : ∀ y ∈ ha, y ≠ 0) : ∀ y ∈ (ha ++ [own_hd x]), y ≠ 0 := fun y m => by
  rcases List.mem_append.mp m with m | m
  · exact p y m
  · rw [List.mem_singleton.mp m]; exact own_hd0 _
theorem own_ify {P : Prop} [Decidable P] (h : P) : (if P then (1 : Int32) else 0) = (1 : Int32) := if_pos h
theorem own_ifn {P : Prop} [Decidable P] (h : ¬ P) : (if P then (1 : Int32) else 0) = (0 : Int32) := if_neg h
/-- the first n of three -/
def own_lst (n a b c : Int32) : List Int32 := if (2 : Int32) < n then ((([] ++ [a]) ++ [b]) ++ [c]) else if (1 : Int32) < n then (([] ++ [a]) ++ [b]) else if (0 : Int32) < n then ([] ++ [a]) else []
theorem own_inl : own_in x a b c n ↔ x ∈ own_lst n a b c := by
  unfold own_lst
  by_cases c2 : (2 : Int32) < n
  · have c1 : (1 : Int32) < n := Classical.byContradiction fun q => own_lt2 q c2
    have c0 : (0 : Int32) < n := Classical.byContradiction fun q => own_lt1 q c1
    rw [if_pos c2]; exact own_inL3 c0 c1 c2
  · rw [if_neg c2]
    by_cases c1 : (1 : Int32) < n
    · have c0 : (0 : Int32) < n := Classical.byContradiction fun q => own_lt1 q c1
      rw [if_pos c1]; exact own_inL2 c0 c1 c2
    · rw [if_neg c1]
      by_cases c0 : (0 : Int32) < n
      · rw [if_pos c0]; exact own_inL1 c0 c1 c2
      · rw [if_neg c0]; exact own_inL0 c0 c1 c2
theorem own_lst0 (c0 : ¬ (0 : Int32) < n) (c1 : ¬ (1 : Int32) < n) (c2 : ¬ (2 : Int32) < n) : own_lst n a b c = [] := by unfold own_lst; rw [if_neg c2, if_neg c1, if_neg c0]
theorem own_lst1 (c0 : (0 : Int32) < n) (c1 : ¬ (1 : Int32) < n) (c2 : ¬ (2 : Int32) < n) : own_lst n a b c = ([] ++ [a]) := by unfold own_lst; rw [if_neg c2, if_neg c1, if_pos c0]
theorem own_lst2 (c0 : (0 : Int32) < n) (c1 : (1 : Int32) < n) (c2 : ¬ (2 : Int32) < n) : own_lst n a b c = (([] ++ [a]) ++ [b]) := by unfold own_lst; rw [if_neg c2, if_pos c1]
theorem own_lst3 (c0 : (0 : Int32) < n) (c1 : (1 : Int32) < n) (c2 : (2 : Int32) < n) : own_lst n a b c = ((([] ++ [a]) ++ [b]) ++ [c]) := by unfold own_lst; rw [if_pos c2]
theorem own_lstm0 (q : (0 : Int32) < n) : a ∈ own_lst n a b c := own_inl.mp (Or.inl ⟨q, rfl⟩)
theorem own_lstm1 (q : (1 : Int32) < n) : b ∈ own_lst n a b c := own_inl.mp (Or.inr (Or.inl ⟨q, rfl⟩))
theorem own_lstm2 (q : (2 : Int32) < n) : c ∈ own_lst n a b c := own_inl.mp (Or.inr (Or.inr ⟨q, rfl⟩))
theorem own_nl (qa : (0 : Int32) < n → ¬ a ∈ hb) (qb : (1 : Int32) < n → ¬ b ∈ hb) (qc : (2 : Int32) < n → ¬ c ∈ hb) : ∀ y ∈ own_lst n a b c, ¬ y ∈ hb := fun y m => by
  rcases own_inl.mpr m with ⟨q, rfl⟩ | ⟨q, rfl⟩ | ⟨q, rfl⟩
  · exact qa q
  · exact qb q
  · exact qc q
theorem own_lstna (qa : a ≠ 0) (qb : b ≠ 0) (qc : c ≠ 0) : ∀ y ∈ own_lst n a b c, y ≠ 0 := fun y m => by
  rcases own_inl.mpr m with ⟨q, rfl⟩ | ⟨q, rfl⟩ | ⟨q, rfl⟩
  · exact qa
  · exact qb
  · exact qc
theorem own_lstlen : (own_lst n a b c).length < 6 := by
  unfold own_lst; split
  · simp
  · split
    · simp
    · split <;> simp
end OwnIn
section OwnSeg
variable {p : Program} {l : Launch} {e : Env} {R : Room} {s : State} {m : MethodId} {args : Array Value} {below : List Frame} {meth : Method} {c : Code} {T : State} {locs : List Loc} {cells slots : Nat}
theorem own_sm {cells' slots' : Nat} (X : Stand p l e R s m args below meth c T locs cells slots) (a : cells ≤ cells') (b : slots ≤ slots') : Stand p l e R s m args below meth c T locs cells' slots' := { X with same := X.same.mono a b }
end OwnSeg
section OwnGe
variable {Z : State} {h : Heap} {o b pb : Addr} {k : Nat} {hs hs' : List Int32}
theorem OwnStage.ge3 (S : OwnStage Z h o b pb k hs) : Z.heap.size ≤ pb := by
  obtain ⟨kb, kp, tb, hs0, sz, mp, E0, g0, gb, gp, bp, -⟩ := S; exact gp
theorem OwnStage.toL (S : OwnStage Z h o b pb k hs) (q : hs' = hs) : OwnRepL Z h o b pb hs' := q ▸ ⟨S.rep, S.lt3⟩
theorem OwnRepL.toL (S : OwnRepL Z h o b pb hs) (q : hs' = hs) : OwnRepL Z h o b pb hs' := q ▸ S
end OwnGe
end Jvm.RoadKit
namespace Jvm.RoadKit
open Sem ClassFile Op Lib Jvm.Stand Jvm.Free Jvm.LawKit
section OwnC
variable {p : Program} {l : Launch} {e : Env} {R : Room} {s : State} {m : MethodId} {args : Array Value} {below : List Frame} {meth : Method} {c : Code} {T : State} {locs : List Loc} {cells slots : Nat} {Q : Outcome → State → Prop} {pc : Nat} {L L' : Array Slot} {S rest : List Value} {o : Int} {cd : ClassFile.Cond} {by_ : ByteArray} {Z : State} {a0 : Array Value} {h : Heap}
theorem oiload (X : Stand p l e R s m args below meth c T locs cells slots) (hx : p.tables.exec = Jvm.exec) {k : Nat} {x : Int32} (hy : c.code = by_) (hd : decode by_ pc = .ok (.iload k, 2)) (hl : L[k]? = some (.val (.int x))) (pc' : Nat) (hp : pc + 2 = pc') (g : ownGo p e below Q (T.setTop (mkF m pc' L (.int x :: S)))) : ownGo p e below Q (T.setTop (mkF m pc L S)) := by subst hp; exact own_st _ (fun tq kq => XS.iload X.here hx rfl (hb hy hd) hl kq) g
theorem oiloadN (X : Stand p l e R s m args below meth c T locs cells slots) (hx : p.tables.exec = Jvm.exec) {k : Fin 4} {x : Int32} (hy : c.code = by_) (hd : decode by_ pc = .ok (.iload_n k, 1)) (hl : L[k.val]? = some (.val (.int x))) (pc' : Nat) (hp : pc + 1 = pc') (g : ownGo p e below Q (T.setTop (mkF m pc' L (.int x :: S)))) : ownGo p e below Q (T.setTop (mkF m pc L S)) := by subst hp; exact own_st _ (fun tq kq => XS.iloadN X.here hx rfl (hb hy hd) hl kq) g
theorem olload (X : Stand p l e R s m args below meth c T locs cells slots) (hx : p.tables.exec = Jvm.exec) {k : Nat} {x : Int64} (hy : c.code = by_) (hd : decode by_ pc = .ok (.lload k, 2)) (hl : L[k]? = some (.val (.long x))) (pc' : Nat) (hp : pc + 2 = pc') (g : ownGo p e below Q (T.setTop (mkF m pc' L (.long x :: S)))) : ownGo p e below Q (T.setTop (mkF m pc L S)) := by subst hp; exact own_st _ (fun tq kq => XS.lload X.here hx rfl (hb hy hd) hl kq) g
theorem olloadN (X : Stand p l e R s m args below meth c T locs cells slots) (hx : p.tables.exec = Jvm.exec) {k : Fin 4} {x : Int64} (hy : c.code = by_) (hd : decode by_ pc = .ok (.lload_n k, 1)) (hl : L[k.val]? = some (.val (.long x))) (pc' : Nat) (hp : pc + 1 = pc') (g : ownGo p e below Q (T.setTop (mkF m pc' L (.long x :: S)))) : ownGo p e below Q (T.setTop (mkF m pc L S)) := by subst hp; exact own_st _ (fun tq kq => XS.lloadN X.here hx rfl (hb hy hd) hl kq) g
theorem oaload (X : Stand p l e R s m args below meth c T locs cells slots) (hx : p.tables.exec = Jvm.exec) {k : Nat} {x : Value} (hy : c.code = by_) (hd : decode by_ pc = .ok (.aload k, 2)) (hl : L[k]? = some (.val x)) (hv : x.isRef = true) (pc' : Nat) (hp : pc + 2 = pc') (g : ownGo p e below Q (T.setTop (mkF m pc' L (x :: S)))) : ownGo p e below Q (T.setTop (mkF m pc L S)) := by subst hp; exact own_st _ (fun tq kq => XS.aload X.here hx rfl (hb hy hd) hl hv kq) g
theorem oaloadN (X : Stand p l e R s m args below meth c T locs cells slots) (hx : p.tables.exec = Jvm.exec) {k : Fin 4} {x : Value} (hy : c.code = by_) (hd : decode by_ pc = .ok (.aload_n k, 1)) (hl : L[k.val]? = some (.val x)) (hv : x.isRef = true) (pc' : Nat) (hp : pc + 1 = pc') (g : ownGo p e below Q (T.setTop (mkF m pc' L (x :: S)))) : ownGo p e below Q (T.setTop (mkF m pc L S)) := by subst hp; exact own_st _ (fun tq kq => XS.aloadN X.here hx rfl (hb hy hd) hl hv kq) g
theorem oiconst (X : Stand p l e R s m args below meth c T locs cells slots) (hx : p.tables.exec = Jvm.exec) {i : Int} (hy : c.code = by_) (hd : decode by_ pc = .ok (.iconst i, 1)) (z : Int32) (hz : Int32.ofInt i = z) (pc' : Nat) (hp : pc + 1 = pc') (g : ownGo p e below Q (T.setTop (mkF m pc' L (.int z :: S)))) : ownGo p e below Q (T.setTop (mkF m pc L S)) := by subst hp hz; exact own_st _ (fun tq kq => XS.iconst X.here hx rfl (hb hy hd) kq) g
theorem obipush (X : Stand p l e R s m args below meth c T locs cells slots) (hx : p.tables.exec = Jvm.exec) {i : Int} (hy : c.code = by_) (hd : decode by_ pc = .ok (.bipush i, 2)) (z : Int32) (hz : (Int8.ofInt i).toInt32 = z) (pc' : Nat) (hp : pc + 2 = pc') (g : ownGo p e below Q (T.setTop (mkF m pc' L (.int z :: S)))) : ownGo p e below Q (T.setTop (mkF m pc L S)) := by subst hp hz; exact own_st _ (fun tq kq => XS.bipush X.here hx rfl (hb hy hd) kq) g
theorem osipush (X : Stand p l e R s m args below meth c T locs cells slots) (hx : p.tables.exec = Jvm.exec) {i : Int} (hy : c.code = by_) (hd : decode by_ pc = .ok (.sipush i, 3)) (z : Int32) (hz : (Int16.ofInt i).toInt32 = z) (pc' : Nat) (hp : pc + 3 = pc') (g : ownGo p e below Q (T.setTop (mkF m pc' L (.int z :: S)))) : ownGo p e below Q (T.setTop (mkF m pc L S)) := by subst hp hz; exact own_st _ (fun tq kq => XS.sipush X.here hx rfl (hb hy hd) kq) g
theorem oiadd (X : Stand p l e R s m args below meth c T locs cells slots) (hx : p.tables.exec = Jvm.exec) {x y : Int32} (hy : c.code = by_) (hd : decode by_ pc = .ok (.iadd, 1)) (hs : S = .int y :: .int x :: rest) (z : Int32) (hz : x + y = z) (pc' : Nat) (hp : pc + 1 = pc') (g : ownGo p e below Q (T.setTop (mkF m pc' L (.int z :: rest)))) : ownGo p e below Q (T.setTop (mkF m pc L S)) := by subst hp hz; exact own_st _ (fun tq kq => XS.iadd X.here hx rfl (hb hy hd) hs kq) g
theorem oisub (X : Stand p l e R s m args below meth c T locs cells slots) (hx : p.tables.exec = Jvm.exec) {x y : Int32} (hy : c.code = by_) (hd : decode by_ pc = .ok (.isub, 1)) (hs : S = .int y :: .int x :: rest) (z : Int32) (hz : x - y = z) (pc' : Nat) (hp : pc + 1 = pc') (g : ownGo p e below Q (T.setTop (mkF m pc' L (.int z :: rest)))) : ownGo p e below Q (T.setTop (mkF m pc L S)) := by subst hp hz; exact own_st _ (fun tq kq => XS.isub X.here hx rfl (hb hy hd) hs kq) g
theorem oimul (X : Stand p l e R s m args below meth c T locs cells slots) (hx : p.tables.exec = Jvm.exec) {x y : Int32} (hy : c.code = by_) (hd : decode by_ pc = .ok (.imul, 1)) (hs : S = .int y :: .int x :: rest) (z : Int32) (hz : x * y = z) (pc' : Nat) (hp : pc + 1 = pc') (g : ownGo p e below Q (T.setTop (mkF m pc' L (.int z :: rest)))) : ownGo p e below Q (T.setTop (mkF m pc L S)) := by subst hp hz; exact own_st _ (fun tq kq => XS.imul X.here hx rfl (hb hy hd) hs kq) g
theorem oiand (X : Stand p l e R s m args below meth c T locs cells slots) (hx : p.tables.exec = Jvm.exec) {x y : Int32} (hy : c.code = by_) (hd : decode by_ pc = .ok (.iand, 1)) (hs : S = .int y :: .int x :: rest) (z : Int32) (hz : x &&& y = z) (pc' : Nat) (hp : pc + 1 = pc') (g : ownGo p e below Q (T.setTop (mkF m pc' L (.int z :: rest)))) : ownGo p e below Q (T.setTop (mkF m pc L S)) := by subst hp hz; exact own_st _ (fun tq kq => XS.iand X.here hx rfl (hb hy hd) hs kq) g
theorem oior (X : Stand p l e R s m args below meth c T locs cells slots) (hx : p.tables.exec = Jvm.exec) {x y : Int32} (hy : c.code = by_) (hd : decode by_ pc = .ok (.ior, 1)) (hs : S = .int y :: .int x :: rest) (z : Int32) (hz : x ||| y = z) (pc' : Nat) (hp : pc + 1 = pc') (g : ownGo p e below Q (T.setTop (mkF m pc' L (.int z :: rest)))) : ownGo p e below Q (T.setTop (mkF m pc L S)) := by subst hp hz; exact own_st _ (fun tq kq => XS.ior X.here hx rfl (hb hy hd) hs kq) g
theorem oixor (X : Stand p l e R s m args below meth c T locs cells slots) (hx : p.tables.exec = Jvm.exec) {x y : Int32} (hy : c.code = by_) (hd : decode by_ pc = .ok (.ixor, 1)) (hs : S = .int y :: .int x :: rest) (z : Int32) (hz : x ^^^ y = z) (pc' : Nat) (hp : pc + 1 = pc') (g : ownGo p e below Q (T.setTop (mkF m pc' L (.int z :: rest)))) : ownGo p e below Q (T.setTop (mkF m pc L S)) := by subst hp hz; exact own_st _ (fun tq kq => XS.ixor X.here hx rfl (hb hy hd) hs kq) g
theorem oishl (X : Stand p l e R s m args below meth c T locs cells slots) (hx : p.tables.exec = Jvm.exec) {x y : Int32} (hy : c.code = by_) (hd : decode by_ pc = .ok (.ishl, 1)) (hs : S = .int y :: .int x :: rest) (z : Int32) (hz : x <<< (y &&& 31) = z) (pc' : Nat) (hp : pc + 1 = pc') (g : ownGo p e below Q (T.setTop (mkF m pc' L (.int z :: rest)))) : ownGo p e below Q (T.setTop (mkF m pc L S)) := by subst hp hz; exact own_st _ (fun tq kq => XS.ishl X.here hx rfl (hb hy hd) hs kq) g
theorem oishr (X : Stand p l e R s m args below meth c T locs cells slots) (hx : p.tables.exec = Jvm.exec) {x y : Int32} (hy : c.code = by_) (hd : decode by_ pc = .ok (.ishr, 1)) (hs : S = .int y :: .int x :: rest) (z : Int32) (hz : x >>> (y &&& 31) = z) (pc' : Nat) (hp : pc + 1 = pc') (g : ownGo p e below Q (T.setTop (mkF m pc' L (.int z :: rest)))) : ownGo p e below Q (T.setTop (mkF m pc L S)) := by subst hp hz; exact own_st _ (fun tq kq => XS.ishr X.here hx rfl (hb hy hd) hs kq) g
theorem oiushr (X : Stand p l e R s m args below meth c T locs cells slots) (hx : p.tables.exec = Jvm.exec) {x y : Int32} (hy : c.code = by_) (hd : decode by_ pc = .ok (.iushr, 1)) (hs : S = .int y :: .int x :: rest) (z : Int32) (hz : (x.toUInt32 >>> (y &&& 31).toUInt32).toInt32 = z) (pc' : Nat) (hp : pc + 1 = pc') (g : ownGo p e below Q (T.setTop (mkF m pc' L (.int z :: rest)))) : ownGo p e below Q (T.setTop (mkF m pc L S)) := by subst hp hz; exact own_st _ (fun tq kq => XS.iushr X.here hx rfl (hb hy hd) hs kq) g
theorem oi2b (X : Stand p l e R s m args below meth c T locs cells slots) (hx : p.tables.exec = Jvm.exec) {x : Int32} (hy : c.code = by_) (hd : decode by_ pc = .ok (.i2b, 1)) (hs : S = .int x :: rest) (z : Int32) (hz : x.toInt8.toInt32 = z) (pc' : Nat) (hp : pc + 1 = pc') (g : ownGo p e below Q (T.setTop (mkF m pc' L (.int z :: rest)))) : ownGo p e below Q (T.setTop (mkF m pc L S)) := by subst hp hz; exact own_st _ (fun tq kq => XS.i2b X.here hx rfl (hb hy hd) hs kq) g
theorem oi2c (X : Stand p l e R s m args below meth c T locs cells slots) (hx : p.tables.exec = Jvm.exec) {x : Int32} (hy : c.code = by_) (hd : decode by_ pc = .ok (.i2c, 1)) (hs : S = .int x :: rest) (z : Int32) (hz : x.toUInt32.toUInt16.toUInt32.toInt32 = z) (pc' : Nat) (hp : pc + 1 = pc') (g : ownGo p e below Q (T.setTop (mkF m pc' L (.int z :: rest)))) : ownGo p e below Q (T.setTop (mkF m pc L S)) := by subst hp hz; exact own_st _ (fun tq kq => XS.i2c X.here hx rfl (hb hy hd) hs kq) g
theorem oistore (X : Stand p l e R s m args below meth c T locs cells slots) (hx : p.tables.exec = Jvm.exec) {k : Nat} {x : Int32} (hy : c.code = by_) (hd : decode by_ pc = .ok (.istore k, 2)) (hs : S = .int x :: rest) (hl : storeLocals L k (.int x) = some L') (pc' : Nat) (hp : pc + 2 = pc') (g : ownGo p e below Q (T.setTop (mkF m pc' L' rest))) : ownGo p e below Q (T.setTop (mkF m pc L S)) := by subst hp; exact own_st _ (fun tq kq => XS.istore X.here hx rfl (hb hy hd) hs hl kq) g
theorem oistoreN (X : Stand p l e R s m args below meth c T locs cells slots) (hx : p.tables.exec = Jvm.exec) {k : Fin 4} {x : Int32} (hy : c.code = by_) (hd : decode by_ pc = .ok (.istore_n k, 1)) (hs : S = .int x :: rest) (hl : storeLocals L k.val (.int x) = some L') (pc' : Nat) (hp : pc + 1 = pc') (g : ownGo p e below Q (T.setTop (mkF m pc' L' rest))) : ownGo p e below Q (T.setTop (mkF m pc L S)) := by subst hp; exact own_st _ (fun tq kq => XS.istoreN X.here hx rfl (hb hy hd) hs hl kq) g
theorem oastore (X : Stand p l e R s m args below meth c T locs cells slots) (hx : p.tables.exec = Jvm.exec) {k : Nat} {x : Value} (hy : c.code = by_) (hd : decode by_ pc = .ok (.astore k, 2)) (hs : S = x :: rest) (hv : x.isRef = true) (hl : storeLocals L k x = some L') (pc' : Nat) (hp : pc + 2 = pc') (g : ownGo p e below Q (T.setTop (mkF m pc' L' rest))) : ownGo p e below Q (T.setTop (mkF m pc L S)) := by subst hp; exact own_st _ (fun tq kq => XS.astore X.here hx rfl (hb hy hd) hs hv hl kq) g
theorem oastoreN (X : Stand p l e R s m args below meth c T locs cells slots) (hx : p.tables.exec = Jvm.exec) {k : Fin 4} {x : Value} (hy : c.code = by_) (hd : decode by_ pc = .ok (.astore_n k, 1)) (hs : S = x :: rest) (hv : x.isRef = true) (hl : storeLocals L k.val x = some L') (pc' : Nat) (hp : pc + 1 = pc') (g : ownGo p e below Q (T.setTop (mkF m pc' L' rest))) : ownGo p e below Q (T.setTop (mkF m pc L S)) := by subst hp; exact own_st _ (fun tq kq => XS.astoreN X.here hx rfl (hb hy hd) hs hv hl kq) g
theorem oiinc (X : Stand p l e R s m args below meth c T locs cells slots) (hx : p.tables.exec = Jvm.exec) {k : Nat} {cst : Int} {x : Int32} (hy : c.code = by_) (hd : decode by_ pc = .ok (.iinc k cst, 3)) (hl : L[k]? = some (.val (.int x))) (hl' : storeLocals L k (.int (x + Int32.ofInt cst)) = some L') (pc' : Nat) (hp : pc + 3 = pc') (g : ownGo p e below Q (T.setTop (mkF m pc' L' S))) : ownGo p e below Q (T.setTop (mkF m pc L S)) := by subst hp; exact own_st _ (fun tq kq => XS.iinc X.here hx rfl (hb hy hd) hl hl' kq) g
theorem odup (X : Stand p l e R s m args below meth c T locs cells slots) (hx : p.tables.exec = Jvm.exec) {x : Value} (hy : c.code = by_) (hd : decode by_ pc = .ok (.dup, 1)) (hs : S = x :: rest) (hc : x.category = 1) (pc' : Nat) (hp : pc + 1 = pc') (g : ownGo p e below Q (T.setTop (mkF m pc' L (x :: x :: rest)))) : ownGo p e below Q (T.setTop (mkF m pc L S)) := by subst hp; exact own_st _ (fun tq kq => XS.dup X.here hx rfl (hb hy hd) hs hc kq) g
theorem opop (X : Stand p l e R s m args below meth c T locs cells slots) (hx : p.tables.exec = Jvm.exec) {x : Value} (hy : c.code = by_) (hd : decode by_ pc = .ok (.pop, 1)) (hs : S = x :: rest) (hc : x.category = 1) (pc' : Nat) (hp : pc + 1 = pc') (g : ownGo p e below Q (T.setTop (mkF m pc' L rest))) : ownGo p e below Q (T.setTop (mkF m pc L S)) := by subst hp; exact own_st _ (fun tq kq => XS.pop X.here hx rfl (hb hy hd) hs hc kq) g
theorem oaconstNull (X : Stand p l e R s m args below meth c T locs cells slots) (hx : p.tables.exec = Jvm.exec) (hy : c.code = by_) (hd : decode by_ pc = .ok (.aconst_null, 1)) (pc' : Nat) (hp : pc + 1 = pc') (g : ownGo p e below Q (T.setTop (mkF m pc' L (.null :: S)))) : ownGo p e below Q (T.setTop (mkF m pc L S)) := by subst hp; exact own_st _ (fun tq kq => XS.aconstNull X.here hx rfl (hb hy hd) kq) g
theorem oifNo (X : Stand p l e R s m args below meth c T locs cells slots) (hx : p.tables.exec = Jvm.exec) {x : Int32} (hy : c.code = by_) (hd : decode by_ pc = .ok (.ifCond cd o, 3)) (hs : S = .int x :: rest) (hc : ifCond.holds cd x = false) (pc' : Nat) (hp : pc + 3 = pc') (g : ownGo p e below Q (T.setTop (mkF m pc' L rest))) : ownGo p e below Q (T.setTop (mkF m pc L S)) := by subst hp; exact own_st _ (fun tq kq => XS.ifNo X.here hx rfl (hb hy hd) hs hc kq) g
theorem oicmpNo (X : Stand p l e R s m args below meth c T locs cells slots) (hx : p.tables.exec = Jvm.exec) {x y : Int32} (hy : c.code = by_) (hd : decode by_ pc = .ok (.if_icmp cd o, 3)) (hs : S = .int y :: .int x :: rest) (hc : if_icmp.holds cd x y = false) (pc' : Nat) (hp : pc + 3 = pc') (g : ownGo p e below Q (T.setTop (mkF m pc' L rest))) : ownGo p e below Q (T.setTop (mkF m pc L S)) := by subst hp; exact own_st _ (fun tq kq => XS.icmpNo X.here hx rfl (hb hy hd) hs hc kq) g
theorem oifYes (X : Stand p l e R s m args below meth c T locs cells slots) (hx : p.tables.exec = Jvm.exec) {x : Int32} (hy : c.code = by_) (hd : decode by_ pc = .ok (.ifCond cd o, 3)) (hs : S = .int x :: rest) (hc : ifCond.holds cd x = true) (pc' : Nat) (ho : 0 ≤ (pc : Int) + o) (hp : ((pc : Int) + o).toNat = pc') (g : ownGo p e below Q (T.setTop (mkF m pc' L rest))) : ownGo p e below Q (T.setTop (mkF m pc L S)) := own_st _ (fun tq kq => XS.ifYes X.here hx rfl rfl (hb hy hd) hs hc ho hp kq) g
theorem oicmpYes (X : Stand p l e R s m args below meth c T locs cells slots) (hx : p.tables.exec = Jvm.exec) {x y : Int32} (hy : c.code = by_) (hd : decode by_ pc = .ok (.if_icmp cd o, 3)) (hs : S = .int y :: .int x :: rest) (hc : if_icmp.holds cd x y = true) (pc' : Nat) (ho : 0 ≤ (pc : Int) + o) (hp : ((pc : Int) + o).toNat = pc') (g : ownGo p e below Q (T.setTop (mkF m pc' L rest))) : ownGo p e below Q (T.setTop (mkF m pc L S)) := own_st _ (fun tq kq => XS.icmpYes X.here hx rfl rfl (hb hy hd) hs hc ho hp kq) g
theorem ogoto (X : Stand p l e R s m args below meth c T locs cells slots) (hx : p.tables.exec = Jvm.exec) (hy : c.code = by_) (hd : decode by_ pc = .ok (.goto o, 3)) (pc' : Nat) (ho : 0 ≤ (pc : Int) + o) (hp : ((pc : Int) + o).toNat = pc') (g : ownGo p e below Q (T.setTop (mkF m pc' L S))) : ownGo p e below Q (T.setTop (mkF m pc L S)) := own_st _ (fun tq kq => XS.goto X.here hx rfl rfl (hb hy hd) ho hp kq) g
theorem ogetF (X : Stand p l e R s m args below meth c T locs cells slots) (hx : p.tables.exec = Jvm.exec) (hZ : Z.Warmed39 s.vm) {own R0 O n d host : String} {index : Nat} (hown : s.vm.findClass own = some m.cls) (w : (Jvm.Cond.fieldLink own index R0 n d).before a0 Z = true ∨ (Jvm.Cond.fieldLinkNest own index R0 n d host).before a0 Z = true) (via : Via Z R0 O n d) (eT : T.heap = h) {a : Addr} {v : Value} (F : Fld Z h a O n d v) (hs : S = .ref a :: rest) (hy : c.code = by_) (hd : decode by_ pc = .ok (.getfield index, 3)) (pc' : Nat) (hp : pc + 3 = pc') (k : ∀ T', Stand p l e R s m args below meth c T' locs cells slots → T'.heap = h → ownGo p e below Q (T'.setTop (mkF m pc' L (v :: rest)))) : ownGo p e below Q (T.setTop (mkF m pc L S)) := by
  subst hp
  obtain ⟨T', X', e', st⟩ := getF X hx hZ hown w via eT F (g := mkF m pc L S) rfl hs (hb hy hd)
  exact own_st _ st (k T' X' e')
end OwnC
end Jvm.RoadKit
namespace Jvm.Pilot.@@N@@
open Jvm Jvm.ClassFile Sem Op Lib Jvm.Free Jvm.Stand Jvm.LawKit Jvm.RoadKit Bundle Jvm.Pilot.@@N@@.Jvm.D
set_option maxRecDepth 65536
set_option maxHeartbeats 40000000
abbrev OWS (a0 : Array Value) (Z : State) : Prop := ∀ d ∈ tables_1, d.before a0 Z = true
theorem oW {Z : State} {a0 : Array Value} (hw : OWS a0 Z) (i : Nat) {d : Jvm.Cond} (h : tables_1[i]? = some d) : d.before a0 Z = true := hw _ (List.mem_of_getElem? h)
abbrev oR (a b c d : Nat) : Room := { frames := a, cells := b, slots := c, locals := d }
abbrev oM0 : MethodName := ⟨"java/lang/Integer", "numberOfLeadingZeros", "(I)I"⟩
abbrev oM1 : MethodName := ⟨"com/example/rising_block/risingblock/util/StringHashes", "find", "([II)I"⟩
abbrev oF2 (Z : State) (h : Heap) (a : Addr) (v : Value) : Prop := Fld Z h a "com/example/rising_block/risingblock/util/StringHashes" "slots" "[I" v
abbrev oF3 (Z : State) (h : Heap) (a : Addr) (v : Value) : Prop := Fld Z h a "com/example/rising_block/risingblock/util/StringHashes" "size" "I" v
abbrev oF4 (Z : State) (h : Heap) (a : Addr) (v : Value) : Prop := Fld Z h a "com/example/rising_block/risingblock/util/StringHashes" "pending" "[I" v
abbrev oF5 (Z : State) (h : Heap) (a : Addr) (v : Value) : Prop := Fld Z h a "com/example/rising_block/risingblock/util/StringHashes" "pendingCount" "I" v
abbrev oF6 (Z : State) (h : Heap) (a : Addr) (v : Value) : Prop := Fld Z h a "com/example/rising_block/risingblock/util/StringHashes" "mostPending" "I" v
abbrev oE7 (Z : State) (h : Heap) (a : Addr) : Prop := Exa Z h a "com/example/rising_block/risingblock/util/StringHashes"
abbrev oM8 : MethodName := ⟨"com/example/rising_block/risingblock/util/StringHashes", "settle", "()V"⟩
abbrev oM9 : MethodName := ⟨"com/example/rising_block/risingblock/util/StringHashes", "mayContainHeld", "(I)Z"⟩
abbrev oM10 : MethodName := ⟨"com/example/rising_block/risingblock/util/StringHashes", "meets", "(Lcom/example/rising_block/risingblock/util/StringHashes;)Z"⟩
abbrev oF11 (Z : State) (h : Heap) (a : Addr) (v : Value) : Prop := Fld Z h a "java/lang/String" "value" "[B" v
abbrev oF12 (Z : State) (h : Heap) (a : Addr) (v : Value) : Prop := Fld Z h a "java/lang/String" "coder" "B" v
abbrev oF13 (Z : State) (h : Heap) (a : Addr) (v : Value) : Prop := Fld Z h a "java/lang/String" "hash" "I" v
abbrev oF14 (Z : State) (h : Heap) (a : Addr) (v : Value) : Prop := Fld Z h a "java/lang/String" "hashIsZero" "Z" v
abbrev oE15 (Z : State) (h : Heap) (a : Addr) : Prop := Exa Z h a "java/lang/String"
abbrev oM16 : MethodName := ⟨"java/lang/String", "isLatin1", "()Z"⟩
abbrev oM17 : MethodName := ⟨"java/lang/StringLatin1", "hashCode", "([B)I"⟩
abbrev oM18 : MethodName := ⟨"java/lang/String", "hashCode", "()I"⟩
abbrev oM19 : MethodName := ⟨"com/example/rising_block/risingblock/util/StringHashes", "held", "(Ljava/lang/String;)I"⟩
abbrev oE20 (Z : State) (h : Heap) (a : Addr) : Prop := Exa Z h a "[B"
abbrev oM21 : MethodName := ⟨"jdk/internal/util/ArraysSupport", "signedHashCode", "(I[BII)I"⟩
abbrev oM22 : MethodName := ⟨"jdk/internal/util/ArraysSupport", "vectorizedHashCode", "(Ljava/lang/Object;IIII)I"⟩
abbrev oM23 : MethodName := ⟨"com/example/rising_block/risingblock/util/StringHashes", "add", "(Ljava/lang/String;)V"⟩
abbrev oM24 : MethodName := ⟨"java/lang/Math", "min", "(II)I"⟩
abbrev oM25 : MethodName := ⟨"java/util/Arrays", "copyOf", "([II)[I"⟩
abbrev oE26 (Z : State) (h : Heap) (a : Addr) : Prop := Exa Z h a "[I"
abbrev oM27 : MethodName := ⟨"com/example/rising_block/risingblock/util/StringHashes", "<init>", "(I)V"⟩
abbrev oM28 : MethodName := ⟨"com/example/rising_block/risingblock/util/StringHashesMeetsPinLaw", "len", "(I)I"⟩
abbrev oM29 : MethodName := ⟨"com/example/rising_block/risingblock/util/StringHashesMeetsPinLaw", "held", "(I)I"⟩
abbrev oM30 : MethodName := ⟨"com/example/rising_block/risingblock/util/StringHashesMeetsPinLaw", "in", "(IIIII)Z"⟩
abbrev oM31 : MethodName := ⟨"java/lang/String", "<init>", "([CIILjava/lang/Void;)V"⟩
abbrev oM32 : MethodName := ⟨"java/lang/String", "<init>", "([C)V"⟩
abbrev oM33 : MethodName := ⟨"java/lang/StringLatin1", "canEncode", "(C)Z"⟩
abbrev oM34 : MethodName := ⟨"java/lang/StringLatin1", "toBytes", "(C)[B"⟩
abbrev oM35 : MethodName := ⟨"java/lang/String", "<init>", "([BB)V"⟩
abbrev oM36 : MethodName := ⟨"java/lang/String", "valueOf", "(C)Ljava/lang/String;"⟩
abbrev oE37 (Z : State) (h : Heap) (a : Addr) : Prop := Exa Z h a "[C"
abbrev oM38 : MethodName := ⟨"java/lang/StringUTF16", "compress", "([CI[BII)I"⟩
abbrev oM39 : MethodName := ⟨"java/lang/StringUTF16", "compress", "([CII)[B"⟩
abbrev oM40 : MethodName := ⟨"java/lang/StringUTF16", "coderFromArrayLen", "([BI)B"⟩
abbrev oM41 : MethodName := ⟨"com/example/rising_block/risingblock/util/StringHashesMeetsPinLaw", "str", "(I)Ljava/lang/String;"⟩
abbrev oM42 : MethodName := ⟨"com/example/rising_block/risingblock/util/StringHashesMeetsPinLaw", "code", "(JI)I"⟩
def own_EL : List (String × Nat) := [("java/lang/String", 7)]
theorem own_hEL {Z : State} {a0 : Array Value} (hw : OWS a0 Z) : EW Z a0 own_EL := (EW.cons (oW hw 41 rfl) (by decide) EW.nil)
theorem own_wS {Z : State} {a0 : Array Value} (hw : OWS a0 Z) : ∀ a ∈ Bundle.stringAtoms, a.before a0 Z = true := fun d hd => by
 simp only [Bundle.stringAtoms, List.mem_cons, List.not_mem_nil, or_false] at hd
 rcases hd with rfl | rfl | rfl | rfl | rfl | rfl | rfl
 · exact hw _ (List.mem_of_getElem? (i := 13) rfl)
 · exact hw _ (List.mem_of_getElem? (i := 12) rfl)
 · exact hw _ (List.mem_of_getElem? (i := 30) rfl)
 · exact hw _ (List.mem_of_getElem? (i := 40) rfl)
 · exact hw _ (List.mem_of_getElem? (i := 38) rfl)
 · exact hw _ (List.mem_of_getElem? (i := 42) rfl)
 · exact hw _ (List.mem_of_getElem? (i := 43) rfl)
theorem od23_15 : decode prog_107_method_9_code 15 = .ok (.aload_n 0, 1) := by decide +kernel
theorem od23_16 : decode prog_107_method_9_code 16 = .ok (.iload_n 3, 1) := by decide +kernel
theorem od23_17 : decode prog_107_method_9_code 17 = .ok (.iaload, 1) := by decide +kernel
theorem od23_18 : decode prog_107_method_9_code 18 = .ok (.ifCond .eq 19, 3) := by decide +kernel
theorem od23_37 : decode prog_107_method_9_code 37 = .ok (.iload_n 3, 1) := by decide +kernel
theorem od23_38 : decode prog_107_method_9_code 38 = .ok (.ireturn, 1) := by decide +kernel
theorem od23_21 : decode prog_107_method_9_code 21 = .ok (.aload_n 0, 1) := by decide +kernel
theorem od23_22 : decode prog_107_method_9_code 22 = .ok (.iload_n 3, 1) := by decide +kernel
theorem od23_23 : decode prog_107_method_9_code 23 = .ok (.iaload, 1) := by decide +kernel
theorem od23_24 : decode prog_107_method_9_code 24 = .ok (.iload_n 1, 1) := by decide +kernel
theorem od23_25 : decode prog_107_method_9_code 25 = .ok (.if_icmp .eq 12, 3) := by decide +kernel
theorem od23_28 : decode prog_107_method_9_code 28 = .ok (.iload_n 3, 1) := by decide +kernel
theorem od23_29 : decode prog_107_method_9_code 29 = .ok (.iconst 1, 1) := by decide +kernel
theorem od23_30 : decode prog_107_method_9_code 30 = .ok (.iadd, 1) := by decide +kernel
theorem od23_31 : decode prog_107_method_9_code 31 = .ok (.iload_n 2, 1) := by decide +kernel
theorem od23_32 : decode prog_107_method_9_code 32 = .ok (.iand, 1) := by decide +kernel
theorem od23_33 : decode prog_107_method_9_code 33 = .ok (.istore_n 3, 1) := by decide +kernel
theorem od23_34 : decode prog_107_method_9_code 34 = .ok (.goto (-19), 3) := by decide +kernel
theorem own_findL (l : Launch) (Z : State) (a0 : Array Value) (hw : OWS a0 Z) (b : Addr) (kb : ClassId) (tb : List Int32) (x : Int32) (h0 : Heap) (Atb : Arv Z h0 b kb .int (16 : Int32) (tb.map Value.int) (.int 0)) :
  ∀ (n : Nat) (i : Int32) (p : Program) (e : Env) (s : State) (m : MethodId) (below : List Frame) (meth : Method) (c : Code) (T : State) (LL : List Loc), p.tables.exec = Jvm.exec → c.code = prog_107_method_9_code → c.maxLocals = 4 → meth.sig.returnType = some .int → meth.locks = false → Z.Warmed39 s.vm → T.heap = h0 →
   Stand p l e (oR 1 0 0 14) s m #[.ref b, .int x] below meth c T LL 0 0 → Fr Z.heap.size LL → ¬ i < (0 : Int32) → i < (16 : Int32) → (own_g tb (own_probe tb x n i.toNatClampNeg) = 0 ∨ own_g tb (own_probe tb x n i.toNatClampNeg) = x) →
   ownGo p e below (ownQ s (fun v h L => v = some (.int (Int32.ofNat (own_probe tb x n i.toNatClampNeg))) ∧ Fr Z.heap.size L ∧ h = h0) 0 0) (T.setTop (mkF m 15 #[.val (.ref b), .val (.int x), .val (.int 15), .val (.int i)] [])) := by
 intro n
 induction n with
 | zero =>
  intro i p e s m below meth c T LL hx hby hml hret hlk hZ e0 X0 N0 hi0 hi1 hst
  refine oaloadN X0 hx hby od23_15 rfl (by rfl) 16 rfl ?_
  refine oiloadN X0 hx hby od23_16 rfl 17 rfl ?_
  obtain ⟨cl1, q1a, q1b, q1c, q1d, q1e, q1f⟩ := id Atb
  let La1 : Array Slot := #[rv b, .val (.int x), .val (.int 15), .val (.int i)]
  refine own_st (T.setTop (mkF m 18 La1 [(.int (own_g tb i.toNatClampNeg))])) (fun tq kq => X0.iaload hx (j := i) (v := (.int (own_g tb i.toNatClampNeg))) (by rw [e0]; exact q1a.1) (State.isArrayOf_alike hZ.alike q1a.2.1) q1a.2.2 (inb_of q1c ⟨hi0, hi1⟩) (q1e.at (inb_of q1c ⟨hi0, hi1⟩) (own_gm _ _)) (g := (mkF m 17 La1 [(.int i), (.ref b)])) rfl rfl (hb hby od23_17) tq kq) ?_
  by_cases c18_2 : (own_g tb i.toNatClampNeg) = (0 : Int32)
  ·
   refine oifYes X0 hx hby od23_18 rfl ((if0 _ _).trans (teq c18_2).1) 37 (by decide) (by decide) ?_
   refine oiloadN X0 hx hby od23_37 rfl 38 rfl ?_
   exact own_ret X0 hlk (v := some (.int i)) (fun h => by rw [hret] at h; cases h) e0 (⟨congrArg (fun q => some (Value.int q)) (own_prStop hi0 (Or.inl c18_2)), N0, rfl⟩) (by decide) (by decide) (fun fs hr => retI X0 hx hret (hb hby od23_38) hr)
  ·
   refine oifNo X0 hx hby od23_18 rfl ((if0 _ _).trans (feq c18_2).1) 21 rfl ?_
   refine oaloadN X0 hx hby od23_21 rfl (by rfl) 22 rfl ?_
   refine oiloadN X0 hx hby od23_22 rfl 23 rfl ?_
   obtain ⟨cl3, q3a, q3b, q3c, q3d, q3e, q3f⟩ := id Atb
   refine own_st (T.setTop (mkF m 24 La1 [(.int (own_g tb i.toNatClampNeg))])) (fun tq kq => X0.iaload hx (j := i) (v := (.int (own_g tb i.toNatClampNeg))) (by rw [e0]; exact q3a.1) (State.isArrayOf_alike hZ.alike q3a.2.1) q3a.2.2 (inb_of q3c ⟨hi0, hi1⟩) (q3e.at (inb_of q3c ⟨hi0, hi1⟩) (own_gm _ _)) (g := (mkF m 23 La1 [(.int i), (.ref b)])) rfl rfl (hb hby od23_23) tq kq) ?_
   refine oiloadN X0 hx hby od23_24 rfl 25 rfl ?_
   by_cases c25_4 : (own_g tb i.toNatClampNeg) = x
   ·
    refine oicmpYes X0 hx hby od23_25 rfl (teq c25_4).1 37 (by decide) (by decide) ?_
    refine oiloadN X0 hx hby od23_37 rfl 38 rfl ?_
    exact own_ret X0 hlk (v := some (.int i)) (fun h => by rw [hret] at h; cases h) e0 (⟨congrArg (fun q => some (Value.int q)) (own_prStop hi0 (Or.inr c25_4)), N0, rfl⟩) (by decide) (by decide) (fun fs hr => retI X0 hx hret (hb hby od23_38) hr)
   ·
    refine oicmpNo X0 hx hby od23_25 rfl (feq c25_4).1 28 rfl ?_
    refine oiloadN X0 hx hby od23_28 rfl 29 rfl ?_
    refine oiconst X0 hx hby od23_29 (1 : Int32) rfl 30 rfl ?_
    refine oiadd X0 hx hby od23_30 rfl _ rfl 31 rfl ?_
    refine oiloadN X0 hx hby od23_31 rfl 32 rfl ?_
    refine oiand X0 hx hby od23_32 rfl _ rfl 33 rfl ?_
    let La2 : Array Slot := #[rv b, .val (.int x), .val (.int 15), .val (.int ((i + (1 : Int32)) &&& (15 : Int32)))]
    refine oistoreN X0 hx hby od23_33 rfl (L' := La2) rfl 34 rfl ?_
    refine ogoto X0 hx hby od23_34 15 (by decide) (by decide) ?_
    exact (hst.elim (fun q => c18_2 q) (fun q => c25_4 q)).elim
 | succ n ih =>
  intro i p e s m below meth c T LL hx hby hml hret hlk hZ e0 X0 N0 hi0 hi1 hst
  refine oaloadN X0 hx hby od23_15 rfl (by rfl) 16 rfl ?_
  refine oiloadN X0 hx hby od23_16 rfl 17 rfl ?_
  obtain ⟨cl1, q1a, q1b, q1c, q1d, q1e, q1f⟩ := id Atb
  let La3 : Array Slot := #[rv b, .val (.int x), .val (.int 15), .val (.int i)]
  refine own_st (T.setTop (mkF m 18 La3 [(.int (own_g tb i.toNatClampNeg))])) (fun tq kq => X0.iaload hx (j := i) (v := (.int (own_g tb i.toNatClampNeg))) (by rw [e0]; exact q1a.1) (State.isArrayOf_alike hZ.alike q1a.2.1) q1a.2.2 (inb_of q1c ⟨hi0, hi1⟩) (q1e.at (inb_of q1c ⟨hi0, hi1⟩) (own_gm _ _)) (g := (mkF m 17 La3 [(.int i), (.ref b)])) rfl rfl (hb hby od23_17) tq kq) ?_
  by_cases c18_2 : (own_g tb i.toNatClampNeg) = (0 : Int32)
  ·
   refine oifYes X0 hx hby od23_18 rfl ((if0 _ _).trans (teq c18_2).1) 37 (by decide) (by decide) ?_
   refine oiloadN X0 hx hby od23_37 rfl 38 rfl ?_
   exact own_ret X0 hlk (v := some (.int i)) (fun h => by rw [hret] at h; cases h) e0 (⟨congrArg (fun q => some (Value.int q)) (own_prStop hi0 (Or.inl c18_2)), N0, rfl⟩) (by decide) (by decide) (fun fs hr => retI X0 hx hret (hb hby od23_38) hr)
  ·
   refine oifNo X0 hx hby od23_18 rfl ((if0 _ _).trans (feq c18_2).1) 21 rfl ?_
   refine oaloadN X0 hx hby od23_21 rfl (by rfl) 22 rfl ?_
   refine oiloadN X0 hx hby od23_22 rfl 23 rfl ?_
   obtain ⟨cl3, q3a, q3b, q3c, q3d, q3e, q3f⟩ := id Atb
   refine own_st (T.setTop (mkF m 24 La3 [(.int (own_g tb i.toNatClampNeg))])) (fun tq kq => X0.iaload hx (j := i) (v := (.int (own_g tb i.toNatClampNeg))) (by rw [e0]; exact q3a.1) (State.isArrayOf_alike hZ.alike q3a.2.1) q3a.2.2 (inb_of q3c ⟨hi0, hi1⟩) (q3e.at (inb_of q3c ⟨hi0, hi1⟩) (own_gm _ _)) (g := (mkF m 23 La3 [(.int i), (.ref b)])) rfl rfl (hb hby od23_23) tq kq) ?_
   refine oiloadN X0 hx hby od23_24 rfl 25 rfl ?_
   by_cases c25_4 : (own_g tb i.toNatClampNeg) = x
   ·
    refine oicmpYes X0 hx hby od23_25 rfl (teq c25_4).1 37 (by decide) (by decide) ?_
    refine oiloadN X0 hx hby od23_37 rfl 38 rfl ?_
    exact own_ret X0 hlk (v := some (.int i)) (fun h => by rw [hret] at h; cases h) e0 (⟨congrArg (fun q => some (Value.int q)) (own_prStop hi0 (Or.inr c25_4)), N0, rfl⟩) (by decide) (by decide) (fun fs hr => retI X0 hx hret (hb hby od23_38) hr)
   ·
    refine oicmpNo X0 hx hby od23_25 rfl (feq c25_4).1 28 rfl ?_
    refine oiloadN X0 hx hby od23_28 rfl 29 rfl ?_
    refine oiconst X0 hx hby od23_29 (1 : Int32) rfl 30 rfl ?_
    refine oiadd X0 hx hby od23_30 rfl _ rfl 31 rfl ?_
    refine oiloadN X0 hx hby od23_31 rfl 32 rfl ?_
    refine oiand X0 hx hby od23_32 rfl _ rfl 33 rfl ?_
    let La4 : Array Slot := #[rv b, .val (.int x), .val (.int 15), .val (.int ((i + (1 : Int32)) &&& (15 : Int32)))]
    refine oistoreN X0 hx hby od23_33 rfl (L' := La4) rfl 34 rfl ?_
    refine ogoto X0 hx hby od23_34 15 (by decide) (by decide) ?_
    have eqn := own_prGo (tb := tb) (x := x) (n := n) hi0 hi1 c18_2 c25_4
    rw [eqn] at hst ⊢
    exact ih _ p e s m below meth c _ _ hx hby hml hret hlk hZ e0 X0 N0 (own_next hi0 hi1).1 (own_next hi0 hi1).2.1 hst
theorem od23_0 : decode prog_107_method_9_code 0 = .ok (.aload_n 0, 1) := by decide +kernel
theorem od23_1 : decode prog_107_method_9_code 1 = .ok (.arraylength, 1) := by decide +kernel
theorem od23_2 : decode prog_107_method_9_code 2 = .ok (.iconst 1, 1) := by decide +kernel
theorem od23_3 : decode prog_107_method_9_code 3 = .ok (.isub, 1) := by decide +kernel
theorem od23_4 : decode prog_107_method_9_code 4 = .ok (.istore_n 2, 1) := by decide +kernel
theorem od23_5 : decode prog_107_method_9_code 5 = .ok (.iload_n 1, 1) := by decide +kernel
theorem od23_6 : decode prog_107_method_9_code 6 = .ok (.ldc 75, 2) := by decide +kernel
theorem od23_8 : decode prog_107_method_9_code 8 = .ok (.imul, 1) := by decide +kernel
theorem od23_9 : decode prog_107_method_9_code 9 = .ok (.iload_n 2, 1) := by decide +kernel
theorem od24_0 : decode jdk_33_method_47_code 0 = .ok (.iload_n 0, 1) := by decide +kernel
theorem od24_1 : decode jdk_33_method_47_code 1 = .ok (.ifCond .gt 14, 3) := by decide +kernel
theorem od24_15 : decode jdk_33_method_47_code 15 = .ok (.bipush 31, 2) := by decide +kernel
theorem od24_17 : decode jdk_33_method_47_code 17 = .ok (.istore_n 1, 1) := by decide +kernel
theorem od24_18 : decode jdk_33_method_47_code 18 = .ok (.iload_n 0, 1) := by decide +kernel
theorem od24_19 : decode jdk_33_method_47_code 19 = .ok (.ldc_w 264, 3) := by decide +kernel
theorem od24_22 : decode jdk_33_method_47_code 22 = .ok (.if_icmp .lt 11, 3) := by decide +kernel
theorem od24_33 : decode jdk_33_method_47_code 33 = .ok (.iload_n 0, 1) := by decide +kernel
theorem od24_34 : decode jdk_33_method_47_code 34 = .ok (.sipush 256, 3) := by decide +kernel
theorem od24_37 : decode jdk_33_method_47_code 37 = .ok (.if_icmp .lt 11, 3) := by decide +kernel
theorem od24_48 : decode jdk_33_method_47_code 48 = .ok (.iload_n 0, 1) := by decide +kernel
theorem od24_49 : decode jdk_33_method_47_code 49 = .ok (.bipush 16, 2) := by decide +kernel
theorem od24_51 : decode jdk_33_method_47_code 51 = .ok (.if_icmp .lt 10, 3) := by decide +kernel
theorem od24_61 : decode jdk_33_method_47_code 61 = .ok (.iload_n 0, 1) := by decide +kernel
theorem od24_62 : decode jdk_33_method_47_code 62 = .ok (.iconst 4, 1) := by decide +kernel
theorem od24_63 : decode jdk_33_method_47_code 63 = .ok (.if_icmp .lt 10, 3) := by decide +kernel
theorem od24_66 : decode jdk_33_method_47_code 66 = .ok (.iinc 1 (-2), 3) := by decide +kernel
theorem od24_69 : decode jdk_33_method_47_code 69 = .ok (.iload_n 0, 1) := by decide +kernel
theorem od24_70 : decode jdk_33_method_47_code 70 = .ok (.iconst 2, 1) := by decide +kernel
theorem od24_71 : decode jdk_33_method_47_code 71 = .ok (.iushr, 1) := by decide +kernel
theorem od24_72 : decode jdk_33_method_47_code 72 = .ok (.istore_n 0, 1) := by decide +kernel
theorem od24_73 : decode jdk_33_method_47_code 73 = .ok (.iload_n 1, 1) := by decide +kernel
theorem od24_74 : decode jdk_33_method_47_code 74 = .ok (.iload_n 0, 1) := by decide +kernel
theorem od24_75 : decode jdk_33_method_47_code 75 = .ok (.iconst 1, 1) := by decide +kernel
theorem od24_76 : decode jdk_33_method_47_code 76 = .ok (.iushr, 1) := by decide +kernel
theorem od24_77 : decode jdk_33_method_47_code 77 = .ok (.isub, 1) := by decide +kernel
theorem od24_78 : decode jdk_33_method_47_code 78 = .ok (.ireturn, 1) := by decide +kernel
theorem oP54 : plainName "java/lang/Integer" = true := by first | (simp [plainName, overriddenIn]; done) | decide +kernel
theorem own_au1_numberOfLeadingZeros (l : Launch) (Z : State) (a0 : Array Value) (hw : OWS a0 Z) (ws : List Jvm.Cond)  (h0 : Heap) (O0 : Old Z Z.heap.size h0) :
  ownMet l oM0 jdk_33_method_47_code 2 (some .int) ws (oR 0 0 0 0) Z #[(.int 15)] h0 (fun v h L => v = some (.int 28) ∧ Fr Z.heap.size L ∧ h = h0) := by
 refine own_met (plainFor_of_name oP54) ?_
 intro p e s m below meth c s₁ hx hby hml hown hnm hret hlk hZ e0 X0
 refine own_cast (show _ = (mkF m 0 #[.val (.int 15), .unset] []) by first | (simp [entryFrame, mkF, argsToLocals, Value.category]; done) | rfl) ?_
 refine oiloadN X0 hx hby od24_0 rfl 1 rfl ?_
 refine oifYes X0 hx hby od24_1 rfl ((if0 _ _).trans (tlt ((by decide) : (0 : Int32) < (15 : Int32))).2.2.1) 15 (by decide) (by decide) ?_
 refine obipush X0 hx hby od24_15 (31 : Int32) rfl 17 rfl ?_
 let La5 : Array Slot := #[.val (.int 15), .val (.int 31)]
 refine oistoreN X0 hx hby od24_17 rfl (L' := La5) rfl 18 rfl ?_
 refine oiloadN X0 hx hby od24_18 rfl 19 rfl ?_
 refine own_st (s₁.setTop (mkF m 22 La5 [(.int 65536), (.int 15)])) (Jvm.Stand.ldcWInt X0 hx hown (mvT hZ (oW hw 119 rfl)) (g := (mkF m 19 La5 [(.int 15)])) rfl (hb hby od24_19)) ?_
 refine oicmpYes X0 hx hby od24_22 rfl (tlt ((by decide) : (15 : Int32) < (65536 : Int32))).1 33 (by decide) (by decide) ?_
 refine oiloadN X0 hx hby od24_33 rfl 34 rfl ?_
 refine osipush X0 hx hby od24_34 (256 : Int32) rfl 37 rfl ?_
 refine oicmpYes X0 hx hby od24_37 rfl (tlt ((by decide) : (15 : Int32) < (256 : Int32))).1 48 (by decide) (by decide) ?_
 refine oiloadN X0 hx hby od24_48 rfl 49 rfl ?_
 refine obipush X0 hx hby od24_49 (16 : Int32) rfl 51 rfl ?_
 refine oicmpYes X0 hx hby od24_51 rfl (tlt ((by decide) : (15 : Int32) < (16 : Int32))).1 61 (by decide) (by decide) ?_
 refine oiloadN X0 hx hby od24_61 rfl 62 rfl ?_
 refine oiconst X0 hx hby od24_62 (4 : Int32) rfl 63 rfl ?_
 refine oicmpNo X0 hx hby od24_63 rfl (flt ((by decide) : ¬ ((15 : Int32) < (4 : Int32)))).1 66 rfl ?_
 let La6 : Array Slot := #[.val (.int 15), .val (.int 29)]
 refine oiinc X0 hx hby od24_66 rfl (L' := La6) rfl 69 rfl ?_
 refine oiloadN X0 hx hby od24_69 rfl 70 rfl ?_
 refine oiconst X0 hx hby od24_70 (2 : Int32) rfl 71 rfl ?_
 refine oiushr X0 hx hby od24_71 rfl (3 : Int32) rfl 72 rfl ?_
 let La7 : Array Slot := #[.val (.int 3), .val (.int 29)]
 refine oistoreN X0 hx hby od24_72 rfl (L' := La7) rfl 73 rfl ?_
 refine oiloadN X0 hx hby od24_73 rfl 74 rfl ?_
 refine oiloadN X0 hx hby od24_74 rfl 75 rfl ?_
 refine oiconst X0 hx hby od24_75 (1 : Int32) rfl 76 rfl ?_
 refine oiushr X0 hx hby od24_76 rfl (1 : Int32) rfl 77 rfl ?_
 refine oisub X0 hx hby od24_77 rfl (28 : Int32) rfl 78 rfl ?_
 exact own_ret X0 hlk (v := some (.int 28)) (fun h => by rw [hret] at h; cases h) e0 (⟨rfl, (Fr.nil _), rfl⟩) (by decide) (by decide) (fun fs hr => retI X0 hx hret (hb hby od24_78) hr)
theorem oP55 : parseMethodDescriptor "(I)I" = some ⟨[.int], some .int⟩ := by decide +kernel
theorem od23_10 : decode prog_107_method_9_code 10 = .ok (.invokestatic 76, 3) := by decide +kernel
theorem od23_13 : decode prog_107_method_9_code 13 = .ok (.iushr, 1) := by decide +kernel
theorem od23_14 : decode prog_107_method_9_code 14 = .ok (.istore_n 3, 1) := by decide +kernel
theorem oP59 : plainName "com/example/rising_block/risingblock/util/StringHashes" = true := by first | (simp [plainName, overriddenIn]; done) | decide +kernel
theorem own_find (l : Launch) (Z : State) (a0 : Array Value) (hw : OWS a0 Z) (ws : List Jvm.Cond) (b : Addr) (kb : ClassId) (tb : List Int32) (x : Int32) (h0 : Heap) (O0 : Old Z Z.heap.size h0) (Atb : Arv Z h0 b kb .int (16 : Int32) (tb.map Value.int) (.int 0)) (hst : own_g tb (own_fnd tb x) = 0 ∨ own_g tb (own_fnd tb x) = x) :
  ownMet l oM1 prog_107_method_9_code 4 (some .int) ws (oR 1 0 0 14) Z #[(.ref b), (.int x)] h0 (fun v h L => v = some (.int (Int32.ofNat (own_fnd tb x))) ∧ Fr Z.heap.size L ∧ h = h0) := by
 refine own_met (plainFor_of_name oP59) ?_
 intro p e s m below meth c s₁ hx hby hml hown hnm hret hlk hZ e0 X0
 refine own_cast (show _ = (mkF m 0 #[.val (.ref b), .val (.int x), .unset, .unset] []) by first | (simp [entryFrame, mkF, argsToLocals, Value.category]; done) | rfl) ?_
 refine oaloadN X0 hx hby od23_0 rfl (by rfl) 1 rfl ?_
 obtain ⟨cl1, q1a, q1b, q1c, q1d, q1e, q1f⟩ := id Atb
 let La8 : Array Slot := #[rv b, .val (.int x), .unset, .unset]
 refine own_st (s₁.setTop (mkF m 2 La8 [(.int 16)])) (fun tq kq => X0.arraylength hx (by rw [e0]; exact q1a.1) (State.isArrayOf_alike hZ.alike q1a.2.1) (g := (mkF m 1 La8 [(.ref b)])) rfl rfl (hb hby od23_1) tq (by rw [len_of q1c q1d]; exact kq)) ?_
 refine oiconst X0 hx hby od23_2 (1 : Int32) rfl 3 rfl ?_
 refine oisub X0 hx hby od23_3 rfl (15 : Int32) rfl 4 rfl ?_
 let La9 : Array Slot := #[rv b, .val (.int x), .val (.int 15), .unset]
 refine oistoreN X0 hx hby od23_4 rfl (L' := La9) rfl 5 rfl ?_
 refine oiloadN X0 hx hby od23_5 rfl 6 rfl ?_
 refine own_st (s₁.setTop (mkF m 8 La9 [(.int (-1640531527)), (.int x)])) (X0.ldcInt hx hown (mvT hZ (oW hw 114 rfl)) (g := (mkF m 6 La9 [(.int x)])) rfl (hb hby od23_6)) ?_
 refine oimul X0 hx hby od23_8 rfl _ rfl 9 rfl ?_
 refine oiloadN X0 hx hby od23_9 rfl 10 rfl ?_
 obtain ⟨v2, T2, L2, X2, q2, st2⟩ := own_callS X0 hx hZ hown (oW hw 115 rfl) (oW hw 116 rfl) (oW hw 117 rfl) (oW hw 118 rfl) (argsL := [(.int 15)]) (own_au1_numberOfLeadingZeros l Z a0 hw []  h0 O0 ) 1 (by decide) (by decide) (by decide) (by decide) (by decide) e0 (g := (mkF m 10 La9 [(.int 15), (.int (x * (-1640531527 : Int32)))])) rfl (by rw [hml]; rfl) [(.int (x * (-1640531527 : Int32)))] (lenOf oP55 rfl) rfl (by show 2 * 0 + _ ≤ _; exact Nat.le_of_eq rfl) (hb hby od23_10)
 obtain ⟨rfl, N2q, e2⟩ := q2
 have N2 := Fr.app (Fr.nil _) N2q
 refine own_st (T2.setTop (mkF m 13 La9 [(.int 28), (.int (x * (-1640531527 : Int32)))])) st2 ?_
 refine oiushr X2 hx hby od23_13 rfl _ rfl 14 rfl ?_
 let La10 : Array Slot := #[rv b, .val (.int x), .val (.int 15), .val (.int (((x * (-1640531527 : Int32)).toUInt32 >>> ((28 : Int32) &&& 31).toUInt32).toInt32))]
 refine oistoreN X2 hx hby od23_14 rfl (L' := La10) rfl 15 rfl ?_
 exact own_findL l Z a0 hw b kb tb x h0 Atb 16 (((x * (-1640531527 : Int32)).toUInt32 >>> ((28 : Int32) &&& 31).toUInt32).toInt32) p e s m below meth c _ _ hx hby hml hret hlk hZ e2 X2 N2 (own_st0 x).1 (own_st0 x).2 hst
theorem od22_2 : decode prog_107_method_7_code 2 = .ok (.iload_n 1, 1) := by decide +kernel
theorem od22_3 : decode prog_107_method_7_code 3 = .ok (.aload_n 0, 1) := by decide +kernel
theorem od22_4 : decode prog_107_method_7_code 4 = .ok (.getfield 33, 3) := by decide +kernel
theorem od22_7 : decode prog_107_method_7_code 7 = .ok (.if_icmp .ge 69, 3) := by decide +kernel
theorem od22_76 : decode prog_107_method_7_code 76 = .ok (.aload_n 0, 1) := by decide +kernel
theorem od22_77 : decode prog_107_method_7_code 77 = .ok (.iconst 0, 1) := by decide +kernel
theorem od22_78 : decode prog_107_method_7_code 78 = .ok (.putfield 33, 3) := by decide +kernel
theorem od22_81 : decode prog_107_method_7_code 81 = .ok (.return_, 1) := by decide +kernel
theorem own_setL_1_1_1 (l : Launch) (Z : State) (a0 : Array Value) (hw : OWS a0 Z) (o b pb : Addr) (kb kp : ClassId) (tb hs : List Int32) (sz mp x0 : Int32) (p : Program) (e : Env) (s : State) (m : MethodId) (below : List Frame) (meth : Method) (c : Code) (T : State) (locs : List Loc) (h0 h : Heap) (args : Array Value) (w2 w3 : Int32) (hx : p.tables.exec = Jvm.exec) (hby : c.code = prog_107_method_7_code) (hml : c.maxLocals = 4) (hown : s.vm.findClass "com/example/rising_block/risingblock/util/StringHashes" = some m.cls) (hret : meth.sig.returnType = none) (hlk : meth.locks = false) (hZ : Z.Warmed39 s.vm) (e0 : T.heap = h)
  (X0 : Stand p l e (oR 2 0 0 29) s m args below meth c T locs 0 0) (N0 : Fr Z.heap.size locs) (O0 : Old Z Z.heap.size h) (K0 : Keep h0 h [o, b]) (E0 : oE7 Z h o) (g0 : Z.heap.size ≤ o) (gb : Z.heap.size ≤ b) (bp : b ≠ pb) (F0 : oF2 Z h o (.ref b)) (F1 : oF3 Z h o (.int sz)) (F2 : oF4 Z h o (.ref pb)) (F3 : oF5 Z h o (.int 1)) (F4 : oF6 Z h o (.int mp)) (AT : Arv Z h b kb .int (16 : Int32) (tb.map Value.int) (.int 0)) (AP : Arv Z h pb kp .int (1 : Int32) [(.int x0)] (.int 0)) (H : OwnHold tb hs) (hl : hs.length < 7) (hz : OwnSz sz hs.length) (nx0 : x0 ≠ 0) :
  ownGo p e below (ownQ s (fun v h L => v = none ∧ Fr Z.heap.size L ∧ Keep h0 h [o, b] ∧ oF2 Z h o (.ref b) ∧ oF4 Z h o (.ref pb) ∧ oF5 Z h o (.int 0) ∧ oF6 Z h o (.int mp) ∧ Arv Z h b kb .int (16 : Int32) (tb.map Value.int) (.int 0) ∧ ∃ sz' : Int32, oF3 Z h o (.int sz') ∧ OwnSz sz' (hs.length + 0)) 0 0) (T.setTop (mkF m 2 #[.val (.ref o), .val (.int 1), .val (.int w2), .val (.int w3)] [])) := by
 refine oiloadN X0 hx hby od22_2 rfl 3 rfl ?_
 refine oaloadN X0 hx hby od22_3 rfl (by rfl) 4 rfl ?_
 refine ogetF X0 hx hZ hown (host := "") (Or.inl (oW hw 80 rfl)) Via.refl e0 F3 rfl hby od22_4 7 rfl fun T1 X1 e1 => ?_
 refine oicmpYes X1 hx hby od22_7 rfl (flt ((by decide) : ¬ ((1 : Int32) < (1 : Int32)))).2.1 76 (by decide) (by decide) ?_
 refine oaloadN X1 hx hby od22_76 rfl (by rfl) 77 rfl ?_
 refine oiconst X1 hx hby od22_77 (0 : Int32) rfl 78 rfl ?_
 let La11 : Array Slot := #[rv o, .val (.int 1), .val (.int w2), .val (.int w3)]
 obtain ⟨T2, h2, X2, e2, W2, st2⟩ := putF X1 hx hZ hown (host := "") (Or.inl (oW hw 80 rfl)) Via.refl e1 F3 E0 (Or.inl (oW hw 81 rfl)) (oW hw 62 rfl) (ty := .int) (by decide) (by rfl) (by rfl) (g := (mkF m 78 La11 [(.int 0), (.ref o)])) rfl rfl (hb hby od22_78)
 have N2 := Fr.snoc X2 N0 g0
 have O2 := O0.wr W2 g0
 have K2 := K0.wr W2 (Or.inl (List.mem_of_getElem? (i := 0) rfl))
 have f3 := (E0.wr W2)
 have f4 := (F0.other W2 (Or.inr (slot_ne (Or.inl (oW hw 70 rfl)) (Or.inl (oW hw 81 rfl)) (by decide) (t := (.array .int)) (t' := .int) (by decide) (by decide))))
 have f5 := (F1.other W2 (Or.inr (slot_ne (Or.inl (oW hw 121 rfl)) (Or.inl (oW hw 81 rfl)) (by decide) (t := .int) (t' := .int) (by decide) (by decide))))
 have f6 := (F2.other W2 (Or.inr (slot_ne (Or.inl (oW hw 72 rfl)) (Or.inl (oW hw 81 rfl)) (by decide) (t := (.array .int)) (t' := .int) (by decide) (by decide))))
 have f8 := (F4.other W2 (Or.inr (slot_ne (Or.inr (oW hw 74 rfl)) (Or.inl (oW hw 81 rfl)) (by decide) (t := .int) (t' := .int) (by decide) (by decide))))
 have f9 := (AT.other W2 (Ne.symm (Exa.neArv E0 AT (oW hw 62 rfl))))
 have f10 := (AP.other W2 (Ne.symm (Exa.neArv E0 AP (oW hw 62 rfl))))
 have f11 := (F3.same W2)
 refine own_st (T2.setTop (mkF m 81 La11 [])) st2 ?_
 exact own_ret X2 hlk (v := none) (fun _ => rfl) e2 (⟨rfl, N2, K2, f4, f6, f11, f8, f9, _, f5, OwnSz.mono hz (by omega)⟩) (by decide) (by decide) (fun fs hr => X2.returnOut hx hret (hb hby od22_81) hr)
theorem od22_10 : decode prog_107_method_7_code 10 = .ok (.aload_n 0, 1) := by decide +kernel
theorem od22_11 : decode prog_107_method_7_code 11 = .ok (.getfield 17, 3) := by decide +kernel
theorem od22_14 : decode prog_107_method_7_code 14 = .ok (.iload_n 1, 1) := by decide +kernel
theorem od22_15 : decode prog_107_method_7_code 15 = .ok (.iaload, 1) := by decide +kernel
theorem od22_16 : decode prog_107_method_7_code 16 = .ok (.istore_n 2, 1) := by decide +kernel
theorem od22_17 : decode prog_107_method_7_code 17 = .ok (.aload_n 0, 1) := by decide +kernel
theorem od22_18 : decode prog_107_method_7_code 18 = .ok (.getfield 13, 3) := by decide +kernel
theorem od22_21 : decode prog_107_method_7_code 21 = .ok (.iload_n 2, 1) := by decide +kernel
theorem oP76 : parseMethodDescriptor "([II)I" = some ⟨[(.array .int), .int], some .int⟩ := by decide +kernel
theorem od22_22 : decode prog_107_method_7_code 22 = .ok (.invokestatic 59, 3) := by decide +kernel
theorem od22_25 : decode prog_107_method_7_code 25 = .ok (.istore_n 3, 1) := by decide +kernel
theorem od22_26 : decode prog_107_method_7_code 26 = .ok (.aload_n 0, 1) := by decide +kernel
theorem od22_27 : decode prog_107_method_7_code 27 = .ok (.getfield 13, 3) := by decide +kernel
theorem od22_30 : decode prog_107_method_7_code 30 = .ok (.iload_n 3, 1) := by decide +kernel
theorem od22_31 : decode prog_107_method_7_code 31 = .ok (.iaload, 1) := by decide +kernel
theorem od22_32 : decode prog_107_method_7_code 32 = .ok (.ifCond .ne 38, 3) := by decide +kernel
theorem od22_35 : decode prog_107_method_7_code 35 = .ok (.aload_n 0, 1) := by decide +kernel
theorem od22_36 : decode prog_107_method_7_code 36 = .ok (.getfield 13, 3) := by decide +kernel
theorem od22_39 : decode prog_107_method_7_code 39 = .ok (.iload_n 3, 1) := by decide +kernel
theorem od22_40 : decode prog_107_method_7_code 40 = .ok (.iload_n 2, 1) := by decide +kernel
theorem od22_41 : decode prog_107_method_7_code 41 = .ok (.iastore, 1) := by decide +kernel
theorem od22_42 : decode prog_107_method_7_code 42 = .ok (.aload_n 0, 1) := by decide +kernel
theorem od22_43 : decode prog_107_method_7_code 43 = .ok (.dup, 1) := by decide +kernel
theorem od22_44 : decode prog_107_method_7_code 44 = .ok (.getfield 63, 3) := by decide +kernel
theorem od22_47 : decode prog_107_method_7_code 47 = .ok (.iconst 1, 1) := by decide +kernel
theorem od22_48 : decode prog_107_method_7_code 48 = .ok (.iadd, 1) := by decide +kernel
theorem od22_49 : decode prog_107_method_7_code 49 = .ok (.putfield 63, 3) := by decide +kernel
theorem od22_52 : decode prog_107_method_7_code 52 = .ok (.aload_n 0, 1) := by decide +kernel
theorem od22_53 : decode prog_107_method_7_code 53 = .ok (.getfield 63, 3) := by decide +kernel
theorem od22_56 : decode prog_107_method_7_code 56 = .ok (.aload_n 0, 1) := by decide +kernel
theorem od22_57 : decode prog_107_method_7_code 57 = .ok (.getfield 13, 3) := by decide +kernel
theorem od22_60 : decode prog_107_method_7_code 60 = .ok (.arraylength, 1) := by decide +kernel
theorem od22_61 : decode prog_107_method_7_code 61 = .ok (.iconst 2, 1) := by decide +kernel
theorem od22_62 : decode prog_107_method_7_code 62 = .ok (.idiv, 1) := by decide +kernel
theorem od22_63 : decode prog_107_method_7_code 63 = .ok (.if_icmp .le 7, 3) := by decide +kernel
theorem od22_70 : decode prog_107_method_7_code 70 = .ok (.iinc 1 1, 3) := by decide +kernel
theorem od22_73 : decode prog_107_method_7_code 73 = .ok (.goto (-71), 3) := by decide +kernel
theorem own_setL_1_1_0 (l : Launch) (Z : State) (a0 : Array Value) (hw : OWS a0 Z) (o b pb : Addr) (kb kp : ClassId) (tb hs : List Int32) (sz mp x0 : Int32) (p : Program) (e : Env) (s : State) (m : MethodId) (below : List Frame) (meth : Method) (c : Code) (T : State) (locs : List Loc) (h0 h : Heap) (args : Array Value) (w2 w3 : Int32) (hx : p.tables.exec = Jvm.exec) (hby : c.code = prog_107_method_7_code) (hml : c.maxLocals = 4) (hown : s.vm.findClass "com/example/rising_block/risingblock/util/StringHashes" = some m.cls) (hret : meth.sig.returnType = none) (hlk : meth.locks = false) (hZ : Z.Warmed39 s.vm) (e0 : T.heap = h)
  (X0 : Stand p l e (oR 2 0 0 29) s m args below meth c T locs 0 0) (N0 : Fr Z.heap.size locs) (O0 : Old Z Z.heap.size h) (K0 : Keep h0 h [o, b]) (E0 : oE7 Z h o) (g0 : Z.heap.size ≤ o) (gb : Z.heap.size ≤ b) (bp : b ≠ pb) (F0 : oF2 Z h o (.ref b)) (F1 : oF3 Z h o (.int sz)) (F2 : oF4 Z h o (.ref pb)) (F3 : oF5 Z h o (.int 1)) (F4 : oF6 Z h o (.int mp)) (AT : Arv Z h b kb .int (16 : Int32) (tb.map Value.int) (.int 0)) (AP : Arv Z h pb kp .int (1 : Int32) [(.int x0)] (.int 0)) (H : OwnHold tb hs) (hl : hs.length < 6) (hz : OwnSz sz hs.length) (nx0 : x0 ≠ 0) :
  ownGo p e below (ownQ s (fun v h L => v = none ∧ Fr Z.heap.size L ∧ Keep h0 h [o, b] ∧ oF2 Z h o (.ref b) ∧ oF4 Z h o (.ref pb) ∧ oF5 Z h o (.int 0) ∧ oF6 Z h o (.int mp) ∧ Arv Z h b kb .int (16 : Int32) ((own_ins tb x0).map Value.int) (.int 0) ∧ ∃ sz' : Int32, oF3 Z h o (.int sz') ∧ OwnSz sz' (hs.length + 1)) 0 0) (T.setTop (mkF m 2 #[.val (.ref o), .val (.int 0), .unset, .unset] [])) := by
 refine oiloadN X0 hx hby od22_2 rfl 3 rfl ?_
 refine oaloadN X0 hx hby od22_3 rfl (by rfl) 4 rfl ?_
 refine ogetF X0 hx hZ hown (host := "") (Or.inl (oW hw 80 rfl)) Via.refl e0 F3 rfl hby od22_4 7 rfl fun T1 X1 e1 => ?_
 refine oicmpNo X1 hx hby od22_7 rfl (tlt ((by decide) : (0 : Int32) < (1 : Int32))).2.1 10 rfl ?_
 refine oaloadN X1 hx hby od22_10 rfl (by rfl) 11 rfl ?_
 refine ogetF X1 hx hZ hown (host := "") (Or.inl (oW hw 71 rfl)) Via.refl e1 F2 rfl hby od22_11 14 rfl fun T2 X2 e2 => ?_
 refine oiloadN X2 hx hby od22_14 rfl 15 rfl ?_
 obtain ⟨cl3, q3a, q3b, q3c, q3d, q3e, q3f⟩ := id AP
 let La12 : Array Slot := #[rv o, .val (.int 0), .unset, .unset]
 refine own_st (T2.setTop (mkF m 16 La12 [(.int x0)])) (fun tq kq => X2.iaload hx (j := (0 : Int32)) (v := (.int x0)) (by rw [e2]; exact q3a.1) (State.isArrayOf_alike hZ.alike q3a.2.1) q3a.2.2 (inb_of q3c ⟨by decide, by decide⟩) (q3e.at (inb_of q3c ⟨by decide, by decide⟩) rfl) (g := (mkF m 15 La12 [(.int 0), (.ref pb)])) rfl rfl (hb hby od22_15) tq kq) ?_
 let La13 : Array Slot := #[rv o, .val (.int 0), .val (.int x0), .unset]
 refine oistoreN X2 hx hby od22_16 rfl (L' := La13) rfl 17 rfl ?_
 refine oaloadN X2 hx hby od22_17 rfl (by rfl) 18 rfl ?_
 refine ogetF X2 hx hZ hown (host := "") (Or.inl (oW hw 69 rfl)) Via.refl e2 F0 rfl hby od22_18 21 rfl fun T4 X4 e4 => ?_
 refine oiloadN X4 hx hby od22_21 rfl 22 rfl ?_
 obtain ⟨v5, T5, L5, X5, q5, st5⟩ := own_callS X4 hx hZ hown (oW hw 111 rfl) (oW hw 112 rfl) (oW hw 63 rfl) (oW hw 113 rfl) (argsL := [(.ref b), (.int x0)]) (own_find l Z a0 hw [] b kb tb x0 h O0 AT (own_fst H (by omega) _)) 0 (by decide) (by decide) (by decide) (by decide) (by decide) e4 (g := (mkF m 22 La13 [(.int x0), (.ref b)])) rfl (by rw [hml]; rfl) [] (lenOf oP76 rfl) rfl (by show 2 * 0 + _ ≤ _; exact Nat.le_of_eq rfl) (hb hby od22_22)
 obtain ⟨rfl, N5q, e5⟩ := q5
 have N5 := Fr.app N0 N5q
 refine own_st (T5.setTop (mkF m 25 La13 [(.int (Int32.ofNat (own_fnd tb x0)))])) st5 ?_
 let La14 : Array Slot := #[rv o, .val (.int 0), .val (.int x0), .val (.int (Int32.ofNat (own_fnd tb x0)))]
 refine oistoreN X5 hx hby od22_25 rfl (L' := La14) rfl 26 rfl ?_
 refine oaloadN X5 hx hby od22_26 rfl (by rfl) 27 rfl ?_
 refine ogetF X5 hx hZ hown (host := "") (Or.inl (oW hw 69 rfl)) Via.refl e5 F0 rfl hby od22_27 30 rfl fun T6 X6 e6 => ?_
 refine oiloadN X6 hx hby od22_30 rfl 31 rfl ?_
 obtain ⟨cl7, q7a, q7b, q7c, q7d, q7e, q7f⟩ := id AT
 refine own_st (T6.setTop (mkF m 32 La14 [(.int (own_g tb (own_fnd tb x0)))])) (fun tq kq => X6.iaload hx (j := (Int32.ofNat (own_fnd tb x0))) (v := (.int (own_g tb (own_fnd tb x0)))) (by rw [e6]; exact q7a.1) (State.isArrayOf_alike hZ.alike q7a.2.1) q7a.2.2 (inb_of q7c (own_ofb (own_flt H (by omega) _))) (q7e.at (inb_of q7c (own_ofb (own_flt H (by omega) _))) (by rw [(own_ofn (own_flt H (by omega) _))]; exact own_gm _ _)) (g := (mkF m 31 La14 [(.int (Int32.ofNat (own_fnd tb x0))), (.ref b)])) rfl rfl (hb hby od22_31) tq kq) ?_
 by_cases c32_8 : (own_g tb (own_fnd tb x0)) = (0 : Int32)
 ·
  refine oifNo X6 hx hby od22_32 rfl ((if0 _ _).trans (teq c32_8).2) 35 rfl ?_
  refine oaloadN X6 hx hby od22_35 rfl (by rfl) 36 rfl ?_
  refine ogetF X6 hx hZ hown (host := "") (Or.inl (oW hw 69 rfl)) Via.refl e6 F0 rfl hby od22_36 39 rfl fun T9 X9 e9 => ?_
  refine oiloadN X9 hx hby od22_39 rfl 40 rfl ?_
  refine oiloadN X9 hx hby od22_40 rfl 41 rfl ?_
  obtain ⟨cl10, q10a, q10b, q10c, q10d, q10e, q10f⟩ := id AT
  obtain ⟨T11, h11, X11, e11, W11, st11⟩ := stI X9 hx hZ e9 q10a (j := (Int32.ofNat (own_fnd tb x0))) (inb_of q10c (own_ofb (own_flt H (by omega) _))) (g := (mkF m 41 La14 [(.int x0), (.int (Int32.ofNat (own_fnd tb x0))), (.ref b)])) rfl rfl (hb hby od22_41)
  have N11 := Fr.snoc X11 N5 gb
  have O11 := O0.wr W11 gb
  have K11 := K0.wr W11 (Or.inl (List.mem_of_getElem? (i := 1) rfl))
  have f12 := (E0.wr W11)
  have f13 := (F0.other W11 (Or.inl (Exa.neArv E0 AT (oW hw 62 rfl))))
  have f14 := (F1.other W11 (Or.inl (Exa.neArv E0 AT (oW hw 62 rfl))))
  have f15 := (F2.other W11 (Or.inl (Exa.neArv E0 AT (oW hw 62 rfl))))
  have f16 := (F3.other W11 (Or.inl (Exa.neArv E0 AT (oW hw 62 rfl))))
  have f17 := (F4.other W11 (Or.inl (Exa.neArv E0 AT (oW hw 62 rfl))))
  have f19 := (AP.other W11 (Ne.symm bp))
  have f20 : Arv Z h11 b kb .int (16 : Int32) ((tb.set (own_fnd tb x0) x0).map Value.int) (.int 0) := own_set q10a q10b q10c q10d q10e q10f W11 (own_ofn (own_flt H (by omega) _)) (own_fln H (by omega) _)
  refine own_st (T11.setTop (mkF m 42 La14 [])) st11 ?_
  refine oaloadN X11 hx hby od22_42 rfl (by rfl) 43 rfl ?_
  refine odup X11 hx hby od22_43 rfl (by rfl) 44 rfl ?_
  refine ogetF X11 hx hZ hown (host := "") (Or.inl (oW hw 120 rfl)) Via.refl e11 f14 rfl hby od22_44 47 rfl fun T21 X21 e21 => ?_
  refine oiconst X21 hx hby od22_47 (1 : Int32) rfl 48 rfl ?_
  refine oiadd X21 hx hby od22_48 rfl _ rfl 49 rfl ?_
  obtain ⟨T22, h22, X22, e22, W22, st22⟩ := putF X21 hx hZ hown (host := "") (Or.inl (oW hw 120 rfl)) Via.refl e21 f14 f12 (Or.inl (oW hw 121 rfl)) (oW hw 62 rfl) (ty := .int) (by decide) (by rfl) (by rfl) (g := (mkF m 49 La14 [(.int (sz + (1 : Int32))), (.ref o)])) rfl rfl (hb hby od22_49)
  have N22 := Fr.snoc X22 N11 g0
  have O22 := O11.wr W22 g0
  have K22 := K11.wr W22 (Or.inl (List.mem_of_getElem? (i := 0) rfl))
  have f23 := (f12.wr W22)
  have f24 := (f13.other W22 (Or.inr (slot_ne (Or.inl (oW hw 70 rfl)) (Or.inl (oW hw 121 rfl)) (by decide) (t := (.array .int)) (t' := .int) (by decide) (by decide))))
  have f26 := (f15.other W22 (Or.inr (slot_ne (Or.inl (oW hw 72 rfl)) (Or.inl (oW hw 121 rfl)) (by decide) (t := (.array .int)) (t' := .int) (by decide) (by decide))))
  have f27 := (f16.other W22 (Or.inr (slot_ne (Or.inl (oW hw 81 rfl)) (Or.inl (oW hw 121 rfl)) (by decide) (t := .int) (t' := .int) (by decide) (by decide))))
  have f28 := (f17.other W22 (Or.inr (slot_ne (Or.inr (oW hw 74 rfl)) (Or.inl (oW hw 121 rfl)) (by decide) (t := .int) (t' := .int) (by decide) (by decide))))
  have f29 := (f20.other W22 (Ne.symm (Exa.neArv f12 f20 (oW hw 62 rfl))))
  have f30 := (f19.other W22 (Ne.symm (Exa.neArv f12 f19 (oW hw 62 rfl))))
  have f31 := (f14.same W22)
  refine own_st (T22.setTop (mkF m 52 La14 [])) st22 ?_
  refine oaloadN X22 hx hby od22_52 rfl (by rfl) 53 rfl ?_
  refine ogetF X22 hx hZ hown (host := "") (Or.inl (oW hw 120 rfl)) Via.refl e22 f31 rfl hby od22_53 56 rfl fun T32 X32 e32 => ?_
  refine oaloadN X32 hx hby od22_56 rfl (by rfl) 57 rfl ?_
  refine ogetF X32 hx hZ hown (host := "") (Or.inl (oW hw 69 rfl)) Via.refl e32 f24 rfl hby od22_57 60 rfl fun T33 X33 e33 => ?_
  obtain ⟨cl34, q34a, q34b, q34c, q34d, q34e, q34f⟩ := id f29
  refine own_st (T33.setTop (mkF m 61 La14 [(.int 16), (.int (sz + (1 : Int32)))])) (fun tq kq => X33.arraylength hx (by rw [e33]; exact q34a.1) (State.isArrayOf_alike hZ.alike q34a.2.1) (g := (mkF m 60 La14 [(.ref b), (.int (sz + (1 : Int32)))])) rfl rfl (hb hby od22_60) tq (by rw [len_of q34c q34d]; exact kq)) ?_
  refine oiconst X33 hx hby od22_61 (2 : Int32) rfl 62 rfl ?_
  refine own_st (T33.setTop (mkF m 63 La14 [(.int 8), (.int (sz + (1 : Int32)))])) (fun tq kq => XS.idiv X33.here hx rfl (hb hby od22_62) rfl (by decide) kq) ?_
  refine oicmpYes X33 hx hby od22_63 rfl (flt ((OwnSz.no (OwnSz.up hz (by omega)) (by omega)) : ¬ ((8 : Int32) < (sz + (1 : Int32))))).2.2.2 70 (by decide) (by decide) ?_
  have f35 : Arv Z h22 b kb .int (16 : Int32) ((own_ins tb x0).map Value.int) (.int 0) := (own_insT c32_8) ▸ f29
  let La15 : Array Slot := #[rv o, .val (.int 1), .val (.int x0), .val (.int (Int32.ofNat (own_fnd tb x0)))]
  refine oiinc X33 hx hby od22_70 rfl (L' := La15) rfl 73 rfl ?_
  refine ogoto X33 hx hby od22_73 2 (by decide) (by decide) ?_
  refine own_goM (fun v h L q => ⟨q.1, q.2.1, q.2.2.1, q.2.2.2.1, q.2.2.2.2.1, q.2.2.2.2.2.1, q.2.2.2.2.2.2.1, q.2.2.2.2.2.2.2.1, q.2.2.2.2.2.2.2.2.elim fun sz' q' => ⟨sz', q'.1, OwnSz.mono q'.2 (by simp only [List.length_append, List.length_cons, List.length_nil]; omega)⟩⟩) (own_setL_1_1_1 l Z a0 hw o b pb kb kp (own_ins tb x0) (hs ++ [x0]) (sz + (1 : Int32)) mp x0 p e s m below meth c _ _ h0 _ _ _ _ hx hby hml hown hret hlk hZ e33 X33 N22 O22 K22 f23 g0 gb bp f24 f31 f26 f27 f28 f35 f30 (OwnHold.ins H (by omega) nx0) (by simp only [List.length_append, List.length_cons, List.length_nil]; omega) (OwnSz.mono (OwnSz.up hz (by omega)) (by simp only [List.length_append, List.length_cons, List.length_nil]; omega)) nx0)
 ·
  refine oifYes X6 hx hby od22_32 rfl ((if0 _ _).trans (feq c32_8).2) 70 (by decide) (by decide) ?_
  have f36 : Arv Z h b kb .int (16 : Int32) ((own_ins tb x0).map Value.int) (.int 0) := (own_insF c32_8) ▸ AT
  let La16 : Array Slot := #[rv o, .val (.int 1), .val (.int x0), .val (.int (Int32.ofNat (own_fnd tb x0)))]
  refine oiinc X6 hx hby od22_70 rfl (L' := La16) rfl 73 rfl ?_
  refine ogoto X6 hx hby od22_73 2 (by decide) (by decide) ?_
  refine own_goM (fun v h L q => ⟨q.1, q.2.1, q.2.2.1, q.2.2.2.1, q.2.2.2.2.1, q.2.2.2.2.2.1, q.2.2.2.2.2.2.1, q.2.2.2.2.2.2.2.1, q.2.2.2.2.2.2.2.2.elim fun sz' q' => ⟨sz', q'.1, OwnSz.mono q'.2 (by simp only [List.length_append, List.length_cons, List.length_nil]; omega)⟩⟩) (own_setL_1_1_1 l Z a0 hw o b pb kb kp (own_ins tb x0) (hs ++ [x0]) sz mp x0 p e s m below meth c _ _ h0 _ _ _ _ hx hby hml hown hret hlk hZ e6 X6 N5 O0 K0 E0 g0 gb bp F0 F1 F2 F3 F4 f36 AP (OwnHold.ins H (by omega) nx0) (by simp only [List.length_append, List.length_cons, List.length_nil]; omega) (OwnSz.mono hz (by simp only [List.length_append, List.length_cons, List.length_nil]; omega)) nx0)
theorem od22_0 : decode prog_107_method_7_code 0 = .ok (.iconst 0, 1) := by decide +kernel
theorem od22_1 : decode prog_107_method_7_code 1 = .ok (.istore_n 1, 1) := by decide +kernel
theorem own_settle_1_1 (l : Launch) (Z : State) (a0 : Array Value) (hw : OWS a0 Z) (ws : List Jvm.Cond) (o b pb : Addr) (kb kp : ClassId) (tb hs : List Int32) (sz mp x0 : Int32) (h0 : Heap) (O0 : Old Z Z.heap.size h0) (E0 : oE7 Z h0 o) (g0 : Z.heap.size ≤ o) (gb : Z.heap.size ≤ b) (bp : b ≠ pb) (F0 : oF2 Z h0 o (.ref b)) (F1 : oF3 Z h0 o (.int sz)) (F2 : oF4 Z h0 o (.ref pb)) (F3 : oF5 Z h0 o (.int 1)) (F4 : oF6 Z h0 o (.int mp)) (AT : Arv Z h0 b kb .int (16 : Int32) (tb.map Value.int) (.int 0)) (AP : Arv Z h0 pb kp .int (1 : Int32) [(.int x0)] (.int 0)) (H : OwnHold tb hs) (hl : hs.length < 6) (hz : OwnSz sz hs.length) (nx0 : x0 ≠ 0) :
  ownMet l oM8 prog_107_method_7_code 4 none ws (oR 2 0 0 29) Z #[(.ref o)] h0 (fun v h L => v = none ∧ Fr Z.heap.size L ∧ Keep h0 h [o, b] ∧ oF2 Z h o (.ref b) ∧ oF4 Z h o (.ref pb) ∧ oF5 Z h o (.int 0) ∧ oF6 Z h o (.int mp) ∧ Arv Z h b kb .int (16 : Int32) ((own_ins tb x0).map Value.int) (.int 0) ∧ ∃ sz' : Int32, oF3 Z h o (.int sz') ∧ OwnSz sz' (hs.length + 1)) := by
 refine own_met (plainFor_of_name oP59) ?_
 intro p e s m below meth c s₁ hx hby hml hown hnm hret hlk hZ e0 X0
 refine own_cast (show _ = (mkF m 0 #[.val (.ref o), .unset, .unset, .unset] []) by first | (simp [entryFrame, mkF, argsToLocals, Value.category]; done) | rfl) ?_
 refine oiconst X0 hx hby od22_0 (0 : Int32) rfl 1 rfl ?_
 let La17 : Array Slot := #[rv o, .val (.int 0), .unset, .unset]
 refine oistoreN X0 hx hby od22_1 rfl (L' := La17) rfl 2 rfl ?_
 exact own_setL_1_1_0 l Z a0 hw o b pb kb kp tb hs sz mp x0 p e s m below meth c _ _ h0 _ _ 0 0 hx hby hml hown hret hlk hZ e0 X0 (Fr.nil _) O0 (Keep.refl h0 [o, b]) E0 g0 gb bp F0 F1 F2 F3 F4 AT AP H hl hz nx0
theorem own_setL_2_2_2 (l : Launch) (Z : State) (a0 : Array Value) (hw : OWS a0 Z) (o b pb : Addr) (kb kp : ClassId) (tb hs : List Int32) (sz mp x0 x1 : Int32) (p : Program) (e : Env) (s : State) (m : MethodId) (below : List Frame) (meth : Method) (c : Code) (T : State) (locs : List Loc) (h0 h : Heap) (args : Array Value) (w2 w3 : Int32) (hx : p.tables.exec = Jvm.exec) (hby : c.code = prog_107_method_7_code) (hml : c.maxLocals = 4) (hown : s.vm.findClass "com/example/rising_block/risingblock/util/StringHashes" = some m.cls) (hret : meth.sig.returnType = none) (hlk : meth.locks = false) (hZ : Z.Warmed39 s.vm) (e0 : T.heap = h)
  (X0 : Stand p l e (oR 2 0 0 29) s m args below meth c T locs 0 0) (N0 : Fr Z.heap.size locs) (O0 : Old Z Z.heap.size h) (K0 : Keep h0 h [o, b]) (E0 : oE7 Z h o) (g0 : Z.heap.size ≤ o) (gb : Z.heap.size ≤ b) (bp : b ≠ pb) (F0 : oF2 Z h o (.ref b)) (F1 : oF3 Z h o (.int sz)) (F2 : oF4 Z h o (.ref pb)) (F3 : oF5 Z h o (.int 2)) (F4 : oF6 Z h o (.int mp)) (AT : Arv Z h b kb .int (16 : Int32) (tb.map Value.int) (.int 0)) (AP : Arv Z h pb kp .int (2 : Int32) [(.int x0), (.int x1)] (.int 0)) (H : OwnHold tb hs) (hl : hs.length < 8) (hz : OwnSz sz hs.length) (nx0 : x0 ≠ 0) (nx1 : x1 ≠ 0) :
  ownGo p e below (ownQ s (fun v h L => v = none ∧ Fr Z.heap.size L ∧ Keep h0 h [o, b] ∧ oF2 Z h o (.ref b) ∧ oF4 Z h o (.ref pb) ∧ oF5 Z h o (.int 0) ∧ oF6 Z h o (.int mp) ∧ Arv Z h b kb .int (16 : Int32) (tb.map Value.int) (.int 0) ∧ ∃ sz' : Int32, oF3 Z h o (.int sz') ∧ OwnSz sz' (hs.length + 0)) 0 0) (T.setTop (mkF m 2 #[.val (.ref o), .val (.int 2), .val (.int w2), .val (.int w3)] [])) := by
 refine oiloadN X0 hx hby od22_2 rfl 3 rfl ?_
 refine oaloadN X0 hx hby od22_3 rfl (by rfl) 4 rfl ?_
 refine ogetF X0 hx hZ hown (host := "") (Or.inl (oW hw 80 rfl)) Via.refl e0 F3 rfl hby od22_4 7 rfl fun T1 X1 e1 => ?_
 refine oicmpYes X1 hx hby od22_7 rfl (flt ((by decide) : ¬ ((2 : Int32) < (2 : Int32)))).2.1 76 (by decide) (by decide) ?_
 refine oaloadN X1 hx hby od22_76 rfl (by rfl) 77 rfl ?_
 refine oiconst X1 hx hby od22_77 (0 : Int32) rfl 78 rfl ?_
 let La18 : Array Slot := #[rv o, .val (.int 2), .val (.int w2), .val (.int w3)]
 obtain ⟨T2, h2, X2, e2, W2, st2⟩ := putF X1 hx hZ hown (host := "") (Or.inl (oW hw 80 rfl)) Via.refl e1 F3 E0 (Or.inl (oW hw 81 rfl)) (oW hw 62 rfl) (ty := .int) (by decide) (by rfl) (by rfl) (g := (mkF m 78 La18 [(.int 0), (.ref o)])) rfl rfl (hb hby od22_78)
 have N2 := Fr.snoc X2 N0 g0
 have O2 := O0.wr W2 g0
 have K2 := K0.wr W2 (Or.inl (List.mem_of_getElem? (i := 0) rfl))
 have f3 := (E0.wr W2)
 have f4 := (F0.other W2 (Or.inr (slot_ne (Or.inl (oW hw 70 rfl)) (Or.inl (oW hw 81 rfl)) (by decide) (t := (.array .int)) (t' := .int) (by decide) (by decide))))
 have f5 := (F1.other W2 (Or.inr (slot_ne (Or.inl (oW hw 121 rfl)) (Or.inl (oW hw 81 rfl)) (by decide) (t := .int) (t' := .int) (by decide) (by decide))))
 have f6 := (F2.other W2 (Or.inr (slot_ne (Or.inl (oW hw 72 rfl)) (Or.inl (oW hw 81 rfl)) (by decide) (t := (.array .int)) (t' := .int) (by decide) (by decide))))
 have f8 := (F4.other W2 (Or.inr (slot_ne (Or.inr (oW hw 74 rfl)) (Or.inl (oW hw 81 rfl)) (by decide) (t := .int) (t' := .int) (by decide) (by decide))))
 have f9 := (AT.other W2 (Ne.symm (Exa.neArv E0 AT (oW hw 62 rfl))))
 have f10 := (AP.other W2 (Ne.symm (Exa.neArv E0 AP (oW hw 62 rfl))))
 have f11 := (F3.same W2)
 refine own_st (T2.setTop (mkF m 81 La18 [])) st2 ?_
 exact own_ret X2 hlk (v := none) (fun _ => rfl) e2 (⟨rfl, N2, K2, f4, f6, f11, f8, f9, _, f5, OwnSz.mono hz (by omega)⟩) (by decide) (by decide) (fun fs hr => X2.returnOut hx hret (hb hby od22_81) hr)
theorem own_setL_2_2_1 (l : Launch) (Z : State) (a0 : Array Value) (hw : OWS a0 Z) (o b pb : Addr) (kb kp : ClassId) (tb hs : List Int32) (sz mp x0 x1 : Int32) (p : Program) (e : Env) (s : State) (m : MethodId) (below : List Frame) (meth : Method) (c : Code) (T : State) (locs : List Loc) (h0 h : Heap) (args : Array Value) (w2 w3 : Int32) (hx : p.tables.exec = Jvm.exec) (hby : c.code = prog_107_method_7_code) (hml : c.maxLocals = 4) (hown : s.vm.findClass "com/example/rising_block/risingblock/util/StringHashes" = some m.cls) (hret : meth.sig.returnType = none) (hlk : meth.locks = false) (hZ : Z.Warmed39 s.vm) (e0 : T.heap = h)
  (X0 : Stand p l e (oR 2 0 0 29) s m args below meth c T locs 0 0) (N0 : Fr Z.heap.size locs) (O0 : Old Z Z.heap.size h) (K0 : Keep h0 h [o, b]) (E0 : oE7 Z h o) (g0 : Z.heap.size ≤ o) (gb : Z.heap.size ≤ b) (bp : b ≠ pb) (F0 : oF2 Z h o (.ref b)) (F1 : oF3 Z h o (.int sz)) (F2 : oF4 Z h o (.ref pb)) (F3 : oF5 Z h o (.int 2)) (F4 : oF6 Z h o (.int mp)) (AT : Arv Z h b kb .int (16 : Int32) (tb.map Value.int) (.int 0)) (AP : Arv Z h pb kp .int (2 : Int32) [(.int x0), (.int x1)] (.int 0)) (H : OwnHold tb hs) (hl : hs.length < 7) (hz : OwnSz sz hs.length) (nx0 : x0 ≠ 0) (nx1 : x1 ≠ 0) :
  ownGo p e below (ownQ s (fun v h L => v = none ∧ Fr Z.heap.size L ∧ Keep h0 h [o, b] ∧ oF2 Z h o (.ref b) ∧ oF4 Z h o (.ref pb) ∧ oF5 Z h o (.int 0) ∧ oF6 Z h o (.int mp) ∧ Arv Z h b kb .int (16 : Int32) ((own_ins tb x1).map Value.int) (.int 0) ∧ ∃ sz' : Int32, oF3 Z h o (.int sz') ∧ OwnSz sz' (hs.length + 1)) 0 0) (T.setTop (mkF m 2 #[.val (.ref o), .val (.int 1), .val (.int w2), .val (.int w3)] [])) := by
 refine oiloadN X0 hx hby od22_2 rfl 3 rfl ?_
 refine oaloadN X0 hx hby od22_3 rfl (by rfl) 4 rfl ?_
 refine ogetF X0 hx hZ hown (host := "") (Or.inl (oW hw 80 rfl)) Via.refl e0 F3 rfl hby od22_4 7 rfl fun T1 X1 e1 => ?_
 refine oicmpNo X1 hx hby od22_7 rfl (tlt ((by decide) : (1 : Int32) < (2 : Int32))).2.1 10 rfl ?_
 refine oaloadN X1 hx hby od22_10 rfl (by rfl) 11 rfl ?_
 refine ogetF X1 hx hZ hown (host := "") (Or.inl (oW hw 71 rfl)) Via.refl e1 F2 rfl hby od22_11 14 rfl fun T2 X2 e2 => ?_
 refine oiloadN X2 hx hby od22_14 rfl 15 rfl ?_
 obtain ⟨cl3, q3a, q3b, q3c, q3d, q3e, q3f⟩ := id AP
 let La19 : Array Slot := #[rv o, .val (.int 1), .val (.int w2), .val (.int w3)]
 refine own_st (T2.setTop (mkF m 16 La19 [(.int x1)])) (fun tq kq => X2.iaload hx (j := (1 : Int32)) (v := (.int x1)) (by rw [e2]; exact q3a.1) (State.isArrayOf_alike hZ.alike q3a.2.1) q3a.2.2 (inb_of q3c ⟨by decide, by decide⟩) (q3e.at (inb_of q3c ⟨by decide, by decide⟩) rfl) (g := (mkF m 15 La19 [(.int 1), (.ref pb)])) rfl rfl (hb hby od22_15) tq kq) ?_
 let La20 : Array Slot := #[rv o, .val (.int 1), .val (.int x1), .val (.int w3)]
 refine oistoreN X2 hx hby od22_16 rfl (L' := La20) rfl 17 rfl ?_
 refine oaloadN X2 hx hby od22_17 rfl (by rfl) 18 rfl ?_
 refine ogetF X2 hx hZ hown (host := "") (Or.inl (oW hw 69 rfl)) Via.refl e2 F0 rfl hby od22_18 21 rfl fun T4 X4 e4 => ?_
 refine oiloadN X4 hx hby od22_21 rfl 22 rfl ?_
 obtain ⟨v5, T5, L5, X5, q5, st5⟩ := own_callS X4 hx hZ hown (oW hw 111 rfl) (oW hw 112 rfl) (oW hw 63 rfl) (oW hw 113 rfl) (argsL := [(.ref b), (.int x1)]) (own_find l Z a0 hw [] b kb tb x1 h O0 AT (own_fst H (by omega) _)) 0 (by decide) (by decide) (by decide) (by decide) (by decide) e4 (g := (mkF m 22 La20 [(.int x1), (.ref b)])) rfl (by rw [hml]; rfl) [] (lenOf oP76 rfl) rfl (by show 2 * 0 + _ ≤ _; exact Nat.le_of_eq rfl) (hb hby od22_22)
 obtain ⟨rfl, N5q, e5⟩ := q5
 have N5 := Fr.app N0 N5q
 refine own_st (T5.setTop (mkF m 25 La20 [(.int (Int32.ofNat (own_fnd tb x1)))])) st5 ?_
 let La21 : Array Slot := #[rv o, .val (.int 1), .val (.int x1), .val (.int (Int32.ofNat (own_fnd tb x1)))]
 refine oistoreN X5 hx hby od22_25 rfl (L' := La21) rfl 26 rfl ?_
 refine oaloadN X5 hx hby od22_26 rfl (by rfl) 27 rfl ?_
 refine ogetF X5 hx hZ hown (host := "") (Or.inl (oW hw 69 rfl)) Via.refl e5 F0 rfl hby od22_27 30 rfl fun T6 X6 e6 => ?_
 refine oiloadN X6 hx hby od22_30 rfl 31 rfl ?_
 obtain ⟨cl7, q7a, q7b, q7c, q7d, q7e, q7f⟩ := id AT
 refine own_st (T6.setTop (mkF m 32 La21 [(.int (own_g tb (own_fnd tb x1)))])) (fun tq kq => X6.iaload hx (j := (Int32.ofNat (own_fnd tb x1))) (v := (.int (own_g tb (own_fnd tb x1)))) (by rw [e6]; exact q7a.1) (State.isArrayOf_alike hZ.alike q7a.2.1) q7a.2.2 (inb_of q7c (own_ofb (own_flt H (by omega) _))) (q7e.at (inb_of q7c (own_ofb (own_flt H (by omega) _))) (by rw [(own_ofn (own_flt H (by omega) _))]; exact own_gm _ _)) (g := (mkF m 31 La21 [(.int (Int32.ofNat (own_fnd tb x1))), (.ref b)])) rfl rfl (hb hby od22_31) tq kq) ?_
 by_cases c32_8 : (own_g tb (own_fnd tb x1)) = (0 : Int32)
 ·
  refine oifNo X6 hx hby od22_32 rfl ((if0 _ _).trans (teq c32_8).2) 35 rfl ?_
  refine oaloadN X6 hx hby od22_35 rfl (by rfl) 36 rfl ?_
  refine ogetF X6 hx hZ hown (host := "") (Or.inl (oW hw 69 rfl)) Via.refl e6 F0 rfl hby od22_36 39 rfl fun T9 X9 e9 => ?_
  refine oiloadN X9 hx hby od22_39 rfl 40 rfl ?_
  refine oiloadN X9 hx hby od22_40 rfl 41 rfl ?_
  obtain ⟨cl10, q10a, q10b, q10c, q10d, q10e, q10f⟩ := id AT
  obtain ⟨T11, h11, X11, e11, W11, st11⟩ := stI X9 hx hZ e9 q10a (j := (Int32.ofNat (own_fnd tb x1))) (inb_of q10c (own_ofb (own_flt H (by omega) _))) (g := (mkF m 41 La21 [(.int x1), (.int (Int32.ofNat (own_fnd tb x1))), (.ref b)])) rfl rfl (hb hby od22_41)
  have N11 := Fr.snoc X11 N5 gb
  have O11 := O0.wr W11 gb
  have K11 := K0.wr W11 (Or.inl (List.mem_of_getElem? (i := 1) rfl))
  have f12 := (E0.wr W11)
  have f13 := (F0.other W11 (Or.inl (Exa.neArv E0 AT (oW hw 62 rfl))))
  have f14 := (F1.other W11 (Or.inl (Exa.neArv E0 AT (oW hw 62 rfl))))
  have f15 := (F2.other W11 (Or.inl (Exa.neArv E0 AT (oW hw 62 rfl))))
  have f16 := (F3.other W11 (Or.inl (Exa.neArv E0 AT (oW hw 62 rfl))))
  have f17 := (F4.other W11 (Or.inl (Exa.neArv E0 AT (oW hw 62 rfl))))
  have f19 := (AP.other W11 (Ne.symm bp))
  have f20 : Arv Z h11 b kb .int (16 : Int32) ((tb.set (own_fnd tb x1) x1).map Value.int) (.int 0) := own_set q10a q10b q10c q10d q10e q10f W11 (own_ofn (own_flt H (by omega) _)) (own_fln H (by omega) _)
  refine own_st (T11.setTop (mkF m 42 La21 [])) st11 ?_
  refine oaloadN X11 hx hby od22_42 rfl (by rfl) 43 rfl ?_
  refine odup X11 hx hby od22_43 rfl (by rfl) 44 rfl ?_
  refine ogetF X11 hx hZ hown (host := "") (Or.inl (oW hw 120 rfl)) Via.refl e11 f14 rfl hby od22_44 47 rfl fun T21 X21 e21 => ?_
  refine oiconst X21 hx hby od22_47 (1 : Int32) rfl 48 rfl ?_
  refine oiadd X21 hx hby od22_48 rfl _ rfl 49 rfl ?_
  obtain ⟨T22, h22, X22, e22, W22, st22⟩ := putF X21 hx hZ hown (host := "") (Or.inl (oW hw 120 rfl)) Via.refl e21 f14 f12 (Or.inl (oW hw 121 rfl)) (oW hw 62 rfl) (ty := .int) (by decide) (by rfl) (by rfl) (g := (mkF m 49 La21 [(.int (sz + (1 : Int32))), (.ref o)])) rfl rfl (hb hby od22_49)
  have N22 := Fr.snoc X22 N11 g0
  have O22 := O11.wr W22 g0
  have K22 := K11.wr W22 (Or.inl (List.mem_of_getElem? (i := 0) rfl))
  have f23 := (f12.wr W22)
  have f24 := (f13.other W22 (Or.inr (slot_ne (Or.inl (oW hw 70 rfl)) (Or.inl (oW hw 121 rfl)) (by decide) (t := (.array .int)) (t' := .int) (by decide) (by decide))))
  have f26 := (f15.other W22 (Or.inr (slot_ne (Or.inl (oW hw 72 rfl)) (Or.inl (oW hw 121 rfl)) (by decide) (t := (.array .int)) (t' := .int) (by decide) (by decide))))
  have f27 := (f16.other W22 (Or.inr (slot_ne (Or.inl (oW hw 81 rfl)) (Or.inl (oW hw 121 rfl)) (by decide) (t := .int) (t' := .int) (by decide) (by decide))))
  have f28 := (f17.other W22 (Or.inr (slot_ne (Or.inr (oW hw 74 rfl)) (Or.inl (oW hw 121 rfl)) (by decide) (t := .int) (t' := .int) (by decide) (by decide))))
  have f29 := (f20.other W22 (Ne.symm (Exa.neArv f12 f20 (oW hw 62 rfl))))
  have f30 := (f19.other W22 (Ne.symm (Exa.neArv f12 f19 (oW hw 62 rfl))))
  have f31 := (f14.same W22)
  refine own_st (T22.setTop (mkF m 52 La21 [])) st22 ?_
  refine oaloadN X22 hx hby od22_52 rfl (by rfl) 53 rfl ?_
  refine ogetF X22 hx hZ hown (host := "") (Or.inl (oW hw 120 rfl)) Via.refl e22 f31 rfl hby od22_53 56 rfl fun T32 X32 e32 => ?_
  refine oaloadN X32 hx hby od22_56 rfl (by rfl) 57 rfl ?_
  refine ogetF X32 hx hZ hown (host := "") (Or.inl (oW hw 69 rfl)) Via.refl e32 f24 rfl hby od22_57 60 rfl fun T33 X33 e33 => ?_
  obtain ⟨cl34, q34a, q34b, q34c, q34d, q34e, q34f⟩ := id f29
  refine own_st (T33.setTop (mkF m 61 La21 [(.int 16), (.int (sz + (1 : Int32)))])) (fun tq kq => X33.arraylength hx (by rw [e33]; exact q34a.1) (State.isArrayOf_alike hZ.alike q34a.2.1) (g := (mkF m 60 La21 [(.ref b), (.int (sz + (1 : Int32)))])) rfl rfl (hb hby od22_60) tq (by rw [len_of q34c q34d]; exact kq)) ?_
  refine oiconst X33 hx hby od22_61 (2 : Int32) rfl 62 rfl ?_
  refine own_st (T33.setTop (mkF m 63 La21 [(.int 8), (.int (sz + (1 : Int32)))])) (fun tq kq => XS.idiv X33.here hx rfl (hb hby od22_62) rfl (by decide) kq) ?_
  refine oicmpYes X33 hx hby od22_63 rfl (flt ((OwnSz.no (OwnSz.up hz (by omega)) (by omega)) : ¬ ((8 : Int32) < (sz + (1 : Int32))))).2.2.2 70 (by decide) (by decide) ?_
  have f35 : Arv Z h22 b kb .int (16 : Int32) ((own_ins tb x1).map Value.int) (.int 0) := (own_insT c32_8) ▸ f29
  let La22 : Array Slot := #[rv o, .val (.int 2), .val (.int x1), .val (.int (Int32.ofNat (own_fnd tb x1)))]
  refine oiinc X33 hx hby od22_70 rfl (L' := La22) rfl 73 rfl ?_
  refine ogoto X33 hx hby od22_73 2 (by decide) (by decide) ?_
  refine own_goM (fun v h L q => ⟨q.1, q.2.1, q.2.2.1, q.2.2.2.1, q.2.2.2.2.1, q.2.2.2.2.2.1, q.2.2.2.2.2.2.1, q.2.2.2.2.2.2.2.1, q.2.2.2.2.2.2.2.2.elim fun sz' q' => ⟨sz', q'.1, OwnSz.mono q'.2 (by simp only [List.length_append, List.length_cons, List.length_nil]; omega)⟩⟩) (own_setL_2_2_2 l Z a0 hw o b pb kb kp (own_ins tb x1) (hs ++ [x1]) (sz + (1 : Int32)) mp x0 x1 p e s m below meth c _ _ h0 _ _ _ _ hx hby hml hown hret hlk hZ e33 X33 N22 O22 K22 f23 g0 gb bp f24 f31 f26 f27 f28 f35 f30 (OwnHold.ins H (by omega) nx1) (by simp only [List.length_append, List.length_cons, List.length_nil]; omega) (OwnSz.mono (OwnSz.up hz (by omega)) (by simp only [List.length_append, List.length_cons, List.length_nil]; omega)) nx0 nx1)
 ·
  refine oifYes X6 hx hby od22_32 rfl ((if0 _ _).trans (feq c32_8).2) 70 (by decide) (by decide) ?_
  have f36 : Arv Z h b kb .int (16 : Int32) ((own_ins tb x1).map Value.int) (.int 0) := (own_insF c32_8) ▸ AT
  let La23 : Array Slot := #[rv o, .val (.int 2), .val (.int x1), .val (.int (Int32.ofNat (own_fnd tb x1)))]
  refine oiinc X6 hx hby od22_70 rfl (L' := La23) rfl 73 rfl ?_
  refine ogoto X6 hx hby od22_73 2 (by decide) (by decide) ?_
  refine own_goM (fun v h L q => ⟨q.1, q.2.1, q.2.2.1, q.2.2.2.1, q.2.2.2.2.1, q.2.2.2.2.2.1, q.2.2.2.2.2.2.1, q.2.2.2.2.2.2.2.1, q.2.2.2.2.2.2.2.2.elim fun sz' q' => ⟨sz', q'.1, OwnSz.mono q'.2 (by simp only [List.length_append, List.length_cons, List.length_nil]; omega)⟩⟩) (own_setL_2_2_2 l Z a0 hw o b pb kb kp (own_ins tb x1) (hs ++ [x1]) sz mp x0 x1 p e s m below meth c _ _ h0 _ _ _ _ hx hby hml hown hret hlk hZ e6 X6 N5 O0 K0 E0 g0 gb bp F0 F1 F2 F3 F4 f36 AP (OwnHold.ins H (by omega) nx1) (by simp only [List.length_append, List.length_cons, List.length_nil]; omega) (OwnSz.mono hz (by simp only [List.length_append, List.length_cons, List.length_nil]; omega)) nx0 nx1)
theorem own_setL_2_2_0 (l : Launch) (Z : State) (a0 : Array Value) (hw : OWS a0 Z) (o b pb : Addr) (kb kp : ClassId) (tb hs : List Int32) (sz mp x0 x1 : Int32) (p : Program) (e : Env) (s : State) (m : MethodId) (below : List Frame) (meth : Method) (c : Code) (T : State) (locs : List Loc) (h0 h : Heap) (args : Array Value) (w2 w3 : Int32) (hx : p.tables.exec = Jvm.exec) (hby : c.code = prog_107_method_7_code) (hml : c.maxLocals = 4) (hown : s.vm.findClass "com/example/rising_block/risingblock/util/StringHashes" = some m.cls) (hret : meth.sig.returnType = none) (hlk : meth.locks = false) (hZ : Z.Warmed39 s.vm) (e0 : T.heap = h)
  (X0 : Stand p l e (oR 2 0 0 29) s m args below meth c T locs 0 0) (N0 : Fr Z.heap.size locs) (O0 : Old Z Z.heap.size h) (K0 : Keep h0 h [o, b]) (E0 : oE7 Z h o) (g0 : Z.heap.size ≤ o) (gb : Z.heap.size ≤ b) (bp : b ≠ pb) (F0 : oF2 Z h o (.ref b)) (F1 : oF3 Z h o (.int sz)) (F2 : oF4 Z h o (.ref pb)) (F3 : oF5 Z h o (.int 2)) (F4 : oF6 Z h o (.int mp)) (AT : Arv Z h b kb .int (16 : Int32) (tb.map Value.int) (.int 0)) (AP : Arv Z h pb kp .int (2 : Int32) [(.int x0), (.int x1)] (.int 0)) (H : OwnHold tb hs) (hl : hs.length < 6) (hz : OwnSz sz hs.length) (nx0 : x0 ≠ 0) (nx1 : x1 ≠ 0) :
  ownGo p e below (ownQ s (fun v h L => v = none ∧ Fr Z.heap.size L ∧ Keep h0 h [o, b] ∧ oF2 Z h o (.ref b) ∧ oF4 Z h o (.ref pb) ∧ oF5 Z h o (.int 0) ∧ oF6 Z h o (.int mp) ∧ Arv Z h b kb .int (16 : Int32) ((own_ins (own_ins tb x0) x1).map Value.int) (.int 0) ∧ ∃ sz' : Int32, oF3 Z h o (.int sz') ∧ OwnSz sz' (hs.length + 2)) 0 0) (T.setTop (mkF m 2 #[.val (.ref o), .val (.int 0), .unset, .unset] [])) := by
 refine oiloadN X0 hx hby od22_2 rfl 3 rfl ?_
 refine oaloadN X0 hx hby od22_3 rfl (by rfl) 4 rfl ?_
 refine ogetF X0 hx hZ hown (host := "") (Or.inl (oW hw 80 rfl)) Via.refl e0 F3 rfl hby od22_4 7 rfl fun T1 X1 e1 => ?_
 refine oicmpNo X1 hx hby od22_7 rfl (tlt ((by decide) : (0 : Int32) < (2 : Int32))).2.1 10 rfl ?_
 refine oaloadN X1 hx hby od22_10 rfl (by rfl) 11 rfl ?_
 refine ogetF X1 hx hZ hown (host := "") (Or.inl (oW hw 71 rfl)) Via.refl e1 F2 rfl hby od22_11 14 rfl fun T2 X2 e2 => ?_
 refine oiloadN X2 hx hby od22_14 rfl 15 rfl ?_
 obtain ⟨cl3, q3a, q3b, q3c, q3d, q3e, q3f⟩ := id AP
 let La24 : Array Slot := #[rv o, .val (.int 0), .unset, .unset]
 refine own_st (T2.setTop (mkF m 16 La24 [(.int x0)])) (fun tq kq => X2.iaload hx (j := (0 : Int32)) (v := (.int x0)) (by rw [e2]; exact q3a.1) (State.isArrayOf_alike hZ.alike q3a.2.1) q3a.2.2 (inb_of q3c ⟨by decide, by decide⟩) (q3e.at (inb_of q3c ⟨by decide, by decide⟩) rfl) (g := (mkF m 15 La24 [(.int 0), (.ref pb)])) rfl rfl (hb hby od22_15) tq kq) ?_
 let La25 : Array Slot := #[rv o, .val (.int 0), .val (.int x0), .unset]
 refine oistoreN X2 hx hby od22_16 rfl (L' := La25) rfl 17 rfl ?_
 refine oaloadN X2 hx hby od22_17 rfl (by rfl) 18 rfl ?_
 refine ogetF X2 hx hZ hown (host := "") (Or.inl (oW hw 69 rfl)) Via.refl e2 F0 rfl hby od22_18 21 rfl fun T4 X4 e4 => ?_
 refine oiloadN X4 hx hby od22_21 rfl 22 rfl ?_
 obtain ⟨v5, T5, L5, X5, q5, st5⟩ := own_callS X4 hx hZ hown (oW hw 111 rfl) (oW hw 112 rfl) (oW hw 63 rfl) (oW hw 113 rfl) (argsL := [(.ref b), (.int x0)]) (own_find l Z a0 hw [] b kb tb x0 h O0 AT (own_fst H (by omega) _)) 0 (by decide) (by decide) (by decide) (by decide) (by decide) e4 (g := (mkF m 22 La25 [(.int x0), (.ref b)])) rfl (by rw [hml]; rfl) [] (lenOf oP76 rfl) rfl (by show 2 * 0 + _ ≤ _; exact Nat.le_of_eq rfl) (hb hby od22_22)
 obtain ⟨rfl, N5q, e5⟩ := q5
 have N5 := Fr.app N0 N5q
 refine own_st (T5.setTop (mkF m 25 La25 [(.int (Int32.ofNat (own_fnd tb x0)))])) st5 ?_
 let La26 : Array Slot := #[rv o, .val (.int 0), .val (.int x0), .val (.int (Int32.ofNat (own_fnd tb x0)))]
 refine oistoreN X5 hx hby od22_25 rfl (L' := La26) rfl 26 rfl ?_
 refine oaloadN X5 hx hby od22_26 rfl (by rfl) 27 rfl ?_
 refine ogetF X5 hx hZ hown (host := "") (Or.inl (oW hw 69 rfl)) Via.refl e5 F0 rfl hby od22_27 30 rfl fun T6 X6 e6 => ?_
 refine oiloadN X6 hx hby od22_30 rfl 31 rfl ?_
 obtain ⟨cl7, q7a, q7b, q7c, q7d, q7e, q7f⟩ := id AT
 refine own_st (T6.setTop (mkF m 32 La26 [(.int (own_g tb (own_fnd tb x0)))])) (fun tq kq => X6.iaload hx (j := (Int32.ofNat (own_fnd tb x0))) (v := (.int (own_g tb (own_fnd tb x0)))) (by rw [e6]; exact q7a.1) (State.isArrayOf_alike hZ.alike q7a.2.1) q7a.2.2 (inb_of q7c (own_ofb (own_flt H (by omega) _))) (q7e.at (inb_of q7c (own_ofb (own_flt H (by omega) _))) (by rw [(own_ofn (own_flt H (by omega) _))]; exact own_gm _ _)) (g := (mkF m 31 La26 [(.int (Int32.ofNat (own_fnd tb x0))), (.ref b)])) rfl rfl (hb hby od22_31) tq kq) ?_
 by_cases c32_8 : (own_g tb (own_fnd tb x0)) = (0 : Int32)
 ·
  refine oifNo X6 hx hby od22_32 rfl ((if0 _ _).trans (teq c32_8).2) 35 rfl ?_
  refine oaloadN X6 hx hby od22_35 rfl (by rfl) 36 rfl ?_
  refine ogetF X6 hx hZ hown (host := "") (Or.inl (oW hw 69 rfl)) Via.refl e6 F0 rfl hby od22_36 39 rfl fun T9 X9 e9 => ?_
  refine oiloadN X9 hx hby od22_39 rfl 40 rfl ?_
  refine oiloadN X9 hx hby od22_40 rfl 41 rfl ?_
  obtain ⟨cl10, q10a, q10b, q10c, q10d, q10e, q10f⟩ := id AT
  obtain ⟨T11, h11, X11, e11, W11, st11⟩ := stI X9 hx hZ e9 q10a (j := (Int32.ofNat (own_fnd tb x0))) (inb_of q10c (own_ofb (own_flt H (by omega) _))) (g := (mkF m 41 La26 [(.int x0), (.int (Int32.ofNat (own_fnd tb x0))), (.ref b)])) rfl rfl (hb hby od22_41)
  have N11 := Fr.snoc X11 N5 gb
  have O11 := O0.wr W11 gb
  have K11 := K0.wr W11 (Or.inl (List.mem_of_getElem? (i := 1) rfl))
  have f12 := (E0.wr W11)
  have f13 := (F0.other W11 (Or.inl (Exa.neArv E0 AT (oW hw 62 rfl))))
  have f14 := (F1.other W11 (Or.inl (Exa.neArv E0 AT (oW hw 62 rfl))))
  have f15 := (F2.other W11 (Or.inl (Exa.neArv E0 AT (oW hw 62 rfl))))
  have f16 := (F3.other W11 (Or.inl (Exa.neArv E0 AT (oW hw 62 rfl))))
  have f17 := (F4.other W11 (Or.inl (Exa.neArv E0 AT (oW hw 62 rfl))))
  have f19 := (AP.other W11 (Ne.symm bp))
  have f20 : Arv Z h11 b kb .int (16 : Int32) ((tb.set (own_fnd tb x0) x0).map Value.int) (.int 0) := own_set q10a q10b q10c q10d q10e q10f W11 (own_ofn (own_flt H (by omega) _)) (own_fln H (by omega) _)
  refine own_st (T11.setTop (mkF m 42 La26 [])) st11 ?_
  refine oaloadN X11 hx hby od22_42 rfl (by rfl) 43 rfl ?_
  refine odup X11 hx hby od22_43 rfl (by rfl) 44 rfl ?_
  refine ogetF X11 hx hZ hown (host := "") (Or.inl (oW hw 120 rfl)) Via.refl e11 f14 rfl hby od22_44 47 rfl fun T21 X21 e21 => ?_
  refine oiconst X21 hx hby od22_47 (1 : Int32) rfl 48 rfl ?_
  refine oiadd X21 hx hby od22_48 rfl _ rfl 49 rfl ?_
  obtain ⟨T22, h22, X22, e22, W22, st22⟩ := putF X21 hx hZ hown (host := "") (Or.inl (oW hw 120 rfl)) Via.refl e21 f14 f12 (Or.inl (oW hw 121 rfl)) (oW hw 62 rfl) (ty := .int) (by decide) (by rfl) (by rfl) (g := (mkF m 49 La26 [(.int (sz + (1 : Int32))), (.ref o)])) rfl rfl (hb hby od22_49)
  have N22 := Fr.snoc X22 N11 g0
  have O22 := O11.wr W22 g0
  have K22 := K11.wr W22 (Or.inl (List.mem_of_getElem? (i := 0) rfl))
  have f23 := (f12.wr W22)
  have f24 := (f13.other W22 (Or.inr (slot_ne (Or.inl (oW hw 70 rfl)) (Or.inl (oW hw 121 rfl)) (by decide) (t := (.array .int)) (t' := .int) (by decide) (by decide))))
  have f26 := (f15.other W22 (Or.inr (slot_ne (Or.inl (oW hw 72 rfl)) (Or.inl (oW hw 121 rfl)) (by decide) (t := (.array .int)) (t' := .int) (by decide) (by decide))))
  have f27 := (f16.other W22 (Or.inr (slot_ne (Or.inl (oW hw 81 rfl)) (Or.inl (oW hw 121 rfl)) (by decide) (t := .int) (t' := .int) (by decide) (by decide))))
  have f28 := (f17.other W22 (Or.inr (slot_ne (Or.inr (oW hw 74 rfl)) (Or.inl (oW hw 121 rfl)) (by decide) (t := .int) (t' := .int) (by decide) (by decide))))
  have f29 := (f20.other W22 (Ne.symm (Exa.neArv f12 f20 (oW hw 62 rfl))))
  have f30 := (f19.other W22 (Ne.symm (Exa.neArv f12 f19 (oW hw 62 rfl))))
  have f31 := (f14.same W22)
  refine own_st (T22.setTop (mkF m 52 La26 [])) st22 ?_
  refine oaloadN X22 hx hby od22_52 rfl (by rfl) 53 rfl ?_
  refine ogetF X22 hx hZ hown (host := "") (Or.inl (oW hw 120 rfl)) Via.refl e22 f31 rfl hby od22_53 56 rfl fun T32 X32 e32 => ?_
  refine oaloadN X32 hx hby od22_56 rfl (by rfl) 57 rfl ?_
  refine ogetF X32 hx hZ hown (host := "") (Or.inl (oW hw 69 rfl)) Via.refl e32 f24 rfl hby od22_57 60 rfl fun T33 X33 e33 => ?_
  obtain ⟨cl34, q34a, q34b, q34c, q34d, q34e, q34f⟩ := id f29
  refine own_st (T33.setTop (mkF m 61 La26 [(.int 16), (.int (sz + (1 : Int32)))])) (fun tq kq => X33.arraylength hx (by rw [e33]; exact q34a.1) (State.isArrayOf_alike hZ.alike q34a.2.1) (g := (mkF m 60 La26 [(.ref b), (.int (sz + (1 : Int32)))])) rfl rfl (hb hby od22_60) tq (by rw [len_of q34c q34d]; exact kq)) ?_
  refine oiconst X33 hx hby od22_61 (2 : Int32) rfl 62 rfl ?_
  refine own_st (T33.setTop (mkF m 63 La26 [(.int 8), (.int (sz + (1 : Int32)))])) (fun tq kq => XS.idiv X33.here hx rfl (hb hby od22_62) rfl (by decide) kq) ?_
  refine oicmpYes X33 hx hby od22_63 rfl (flt ((OwnSz.no (OwnSz.up hz (by omega)) (by omega)) : ¬ ((8 : Int32) < (sz + (1 : Int32))))).2.2.2 70 (by decide) (by decide) ?_
  have f35 : Arv Z h22 b kb .int (16 : Int32) ((own_ins tb x0).map Value.int) (.int 0) := (own_insT c32_8) ▸ f29
  let La27 : Array Slot := #[rv o, .val (.int 1), .val (.int x0), .val (.int (Int32.ofNat (own_fnd tb x0)))]
  refine oiinc X33 hx hby od22_70 rfl (L' := La27) rfl 73 rfl ?_
  refine ogoto X33 hx hby od22_73 2 (by decide) (by decide) ?_
  refine own_goM (fun v h L q => ⟨q.1, q.2.1, q.2.2.1, q.2.2.2.1, q.2.2.2.2.1, q.2.2.2.2.2.1, q.2.2.2.2.2.2.1, q.2.2.2.2.2.2.2.1, q.2.2.2.2.2.2.2.2.elim fun sz' q' => ⟨sz', q'.1, OwnSz.mono q'.2 (by simp only [List.length_append, List.length_cons, List.length_nil]; omega)⟩⟩) (own_setL_2_2_1 l Z a0 hw o b pb kb kp (own_ins tb x0) (hs ++ [x0]) (sz + (1 : Int32)) mp x0 x1 p e s m below meth c _ _ h0 _ _ _ _ hx hby hml hown hret hlk hZ e33 X33 N22 O22 K22 f23 g0 gb bp f24 f31 f26 f27 f28 f35 f30 (OwnHold.ins H (by omega) nx0) (by simp only [List.length_append, List.length_cons, List.length_nil]; omega) (OwnSz.mono (OwnSz.up hz (by omega)) (by simp only [List.length_append, List.length_cons, List.length_nil]; omega)) nx0 nx1)
 ·
  refine oifYes X6 hx hby od22_32 rfl ((if0 _ _).trans (feq c32_8).2) 70 (by decide) (by decide) ?_
  have f36 : Arv Z h b kb .int (16 : Int32) ((own_ins tb x0).map Value.int) (.int 0) := (own_insF c32_8) ▸ AT
  let La28 : Array Slot := #[rv o, .val (.int 1), .val (.int x0), .val (.int (Int32.ofNat (own_fnd tb x0)))]
  refine oiinc X6 hx hby od22_70 rfl (L' := La28) rfl 73 rfl ?_
  refine ogoto X6 hx hby od22_73 2 (by decide) (by decide) ?_
  refine own_goM (fun v h L q => ⟨q.1, q.2.1, q.2.2.1, q.2.2.2.1, q.2.2.2.2.1, q.2.2.2.2.2.1, q.2.2.2.2.2.2.1, q.2.2.2.2.2.2.2.1, q.2.2.2.2.2.2.2.2.elim fun sz' q' => ⟨sz', q'.1, OwnSz.mono q'.2 (by simp only [List.length_append, List.length_cons, List.length_nil]; omega)⟩⟩) (own_setL_2_2_1 l Z a0 hw o b pb kb kp (own_ins tb x0) (hs ++ [x0]) sz mp x0 x1 p e s m below meth c _ _ h0 _ _ _ _ hx hby hml hown hret hlk hZ e6 X6 N5 O0 K0 E0 g0 gb bp F0 F1 F2 F3 F4 f36 AP (OwnHold.ins H (by omega) nx0) (by simp only [List.length_append, List.length_cons, List.length_nil]; omega) (OwnSz.mono hz (by simp only [List.length_append, List.length_cons, List.length_nil]; omega)) nx0 nx1)
theorem own_settle_2_2 (l : Launch) (Z : State) (a0 : Array Value) (hw : OWS a0 Z) (ws : List Jvm.Cond) (o b pb : Addr) (kb kp : ClassId) (tb hs : List Int32) (sz mp x0 x1 : Int32) (h0 : Heap) (O0 : Old Z Z.heap.size h0) (E0 : oE7 Z h0 o) (g0 : Z.heap.size ≤ o) (gb : Z.heap.size ≤ b) (bp : b ≠ pb) (F0 : oF2 Z h0 o (.ref b)) (F1 : oF3 Z h0 o (.int sz)) (F2 : oF4 Z h0 o (.ref pb)) (F3 : oF5 Z h0 o (.int 2)) (F4 : oF6 Z h0 o (.int mp)) (AT : Arv Z h0 b kb .int (16 : Int32) (tb.map Value.int) (.int 0)) (AP : Arv Z h0 pb kp .int (2 : Int32) [(.int x0), (.int x1)] (.int 0)) (H : OwnHold tb hs) (hl : hs.length < 6) (hz : OwnSz sz hs.length) (nx0 : x0 ≠ 0) (nx1 : x1 ≠ 0) :
  ownMet l oM8 prog_107_method_7_code 4 none ws (oR 2 0 0 29) Z #[(.ref o)] h0 (fun v h L => v = none ∧ Fr Z.heap.size L ∧ Keep h0 h [o, b] ∧ oF2 Z h o (.ref b) ∧ oF4 Z h o (.ref pb) ∧ oF5 Z h o (.int 0) ∧ oF6 Z h o (.int mp) ∧ Arv Z h b kb .int (16 : Int32) ((own_ins (own_ins tb x0) x1).map Value.int) (.int 0) ∧ ∃ sz' : Int32, oF3 Z h o (.int sz') ∧ OwnSz sz' (hs.length + 2)) := by
 refine own_met (plainFor_of_name oP59) ?_
 intro p e s m below meth c s₁ hx hby hml hown hnm hret hlk hZ e0 X0
 refine own_cast (show _ = (mkF m 0 #[.val (.ref o), .unset, .unset, .unset] []) by first | (simp [entryFrame, mkF, argsToLocals, Value.category]; done) | rfl) ?_
 refine oiconst X0 hx hby od22_0 (0 : Int32) rfl 1 rfl ?_
 let La29 : Array Slot := #[rv o, .val (.int 0), .unset, .unset]
 refine oistoreN X0 hx hby od22_1 rfl (L' := La29) rfl 2 rfl ?_
 exact own_setL_2_2_0 l Z a0 hw o b pb kb kp tb hs sz mp x0 x1 p e s m below meth c _ _ h0 _ _ 0 0 hx hby hml hown hret hlk hZ e0 X0 (Fr.nil _) O0 (Keep.refl h0 [o, b]) E0 g0 gb bp F0 F1 F2 F3 F4 AT AP H hl hz nx0 nx1
theorem own_setL_2_1_1 (l : Launch) (Z : State) (a0 : Array Value) (hw : OWS a0 Z) (o b pb : Addr) (kb kp : ClassId) (tb hs : List Int32) (sz mp x0 x1 : Int32) (p : Program) (e : Env) (s : State) (m : MethodId) (below : List Frame) (meth : Method) (c : Code) (T : State) (locs : List Loc) (h0 h : Heap) (args : Array Value) (w2 w3 : Int32) (hx : p.tables.exec = Jvm.exec) (hby : c.code = prog_107_method_7_code) (hml : c.maxLocals = 4) (hown : s.vm.findClass "com/example/rising_block/risingblock/util/StringHashes" = some m.cls) (hret : meth.sig.returnType = none) (hlk : meth.locks = false) (hZ : Z.Warmed39 s.vm) (e0 : T.heap = h)
  (X0 : Stand p l e (oR 2 0 0 29) s m args below meth c T locs 0 0) (N0 : Fr Z.heap.size locs) (O0 : Old Z Z.heap.size h) (K0 : Keep h0 h [o, b]) (E0 : oE7 Z h o) (g0 : Z.heap.size ≤ o) (gb : Z.heap.size ≤ b) (bp : b ≠ pb) (F0 : oF2 Z h o (.ref b)) (F1 : oF3 Z h o (.int sz)) (F2 : oF4 Z h o (.ref pb)) (F3 : oF5 Z h o (.int 1)) (F4 : oF6 Z h o (.int mp)) (AT : Arv Z h b kb .int (16 : Int32) (tb.map Value.int) (.int 0)) (AP : Arv Z h pb kp .int (2 : Int32) [(.int x0), (.int x1)] (.int 0)) (H : OwnHold tb hs) (hl : hs.length < 7) (hz : OwnSz sz hs.length) (nx0 : x0 ≠ 0) :
  ownGo p e below (ownQ s (fun v h L => v = none ∧ Fr Z.heap.size L ∧ Keep h0 h [o, b] ∧ oF2 Z h o (.ref b) ∧ oF4 Z h o (.ref pb) ∧ oF5 Z h o (.int 0) ∧ oF6 Z h o (.int mp) ∧ Arv Z h b kb .int (16 : Int32) (tb.map Value.int) (.int 0) ∧ ∃ sz' : Int32, oF3 Z h o (.int sz') ∧ OwnSz sz' (hs.length + 0)) 0 0) (T.setTop (mkF m 2 #[.val (.ref o), .val (.int 1), .val (.int w2), .val (.int w3)] [])) := by
 refine oiloadN X0 hx hby od22_2 rfl 3 rfl ?_
 refine oaloadN X0 hx hby od22_3 rfl (by rfl) 4 rfl ?_
 refine ogetF X0 hx hZ hown (host := "") (Or.inl (oW hw 80 rfl)) Via.refl e0 F3 rfl hby od22_4 7 rfl fun T1 X1 e1 => ?_
 refine oicmpYes X1 hx hby od22_7 rfl (flt ((by decide) : ¬ ((1 : Int32) < (1 : Int32)))).2.1 76 (by decide) (by decide) ?_
 refine oaloadN X1 hx hby od22_76 rfl (by rfl) 77 rfl ?_
 refine oiconst X1 hx hby od22_77 (0 : Int32) rfl 78 rfl ?_
 let La30 : Array Slot := #[rv o, .val (.int 1), .val (.int w2), .val (.int w3)]
 obtain ⟨T2, h2, X2, e2, W2, st2⟩ := putF X1 hx hZ hown (host := "") (Or.inl (oW hw 80 rfl)) Via.refl e1 F3 E0 (Or.inl (oW hw 81 rfl)) (oW hw 62 rfl) (ty := .int) (by decide) (by rfl) (by rfl) (g := (mkF m 78 La30 [(.int 0), (.ref o)])) rfl rfl (hb hby od22_78)
 have N2 := Fr.snoc X2 N0 g0
 have O2 := O0.wr W2 g0
 have K2 := K0.wr W2 (Or.inl (List.mem_of_getElem? (i := 0) rfl))
 have f3 := (E0.wr W2)
 have f4 := (F0.other W2 (Or.inr (slot_ne (Or.inl (oW hw 70 rfl)) (Or.inl (oW hw 81 rfl)) (by decide) (t := (.array .int)) (t' := .int) (by decide) (by decide))))
 have f5 := (F1.other W2 (Or.inr (slot_ne (Or.inl (oW hw 121 rfl)) (Or.inl (oW hw 81 rfl)) (by decide) (t := .int) (t' := .int) (by decide) (by decide))))
 have f6 := (F2.other W2 (Or.inr (slot_ne (Or.inl (oW hw 72 rfl)) (Or.inl (oW hw 81 rfl)) (by decide) (t := (.array .int)) (t' := .int) (by decide) (by decide))))
 have f8 := (F4.other W2 (Or.inr (slot_ne (Or.inr (oW hw 74 rfl)) (Or.inl (oW hw 81 rfl)) (by decide) (t := .int) (t' := .int) (by decide) (by decide))))
 have f9 := (AT.other W2 (Ne.symm (Exa.neArv E0 AT (oW hw 62 rfl))))
 have f10 := (AP.other W2 (Ne.symm (Exa.neArv E0 AP (oW hw 62 rfl))))
 have f11 := (F3.same W2)
 refine own_st (T2.setTop (mkF m 81 La30 [])) st2 ?_
 exact own_ret X2 hlk (v := none) (fun _ => rfl) e2 (⟨rfl, N2, K2, f4, f6, f11, f8, f9, _, f5, OwnSz.mono hz (by omega)⟩) (by decide) (by decide) (fun fs hr => X2.returnOut hx hret (hb hby od22_81) hr)
theorem own_setL_2_1_0 (l : Launch) (Z : State) (a0 : Array Value) (hw : OWS a0 Z) (o b pb : Addr) (kb kp : ClassId) (tb hs : List Int32) (sz mp x0 x1 : Int32) (p : Program) (e : Env) (s : State) (m : MethodId) (below : List Frame) (meth : Method) (c : Code) (T : State) (locs : List Loc) (h0 h : Heap) (args : Array Value) (w2 w3 : Int32) (hx : p.tables.exec = Jvm.exec) (hby : c.code = prog_107_method_7_code) (hml : c.maxLocals = 4) (hown : s.vm.findClass "com/example/rising_block/risingblock/util/StringHashes" = some m.cls) (hret : meth.sig.returnType = none) (hlk : meth.locks = false) (hZ : Z.Warmed39 s.vm) (e0 : T.heap = h)
  (X0 : Stand p l e (oR 2 0 0 29) s m args below meth c T locs 0 0) (N0 : Fr Z.heap.size locs) (O0 : Old Z Z.heap.size h) (K0 : Keep h0 h [o, b]) (E0 : oE7 Z h o) (g0 : Z.heap.size ≤ o) (gb : Z.heap.size ≤ b) (bp : b ≠ pb) (F0 : oF2 Z h o (.ref b)) (F1 : oF3 Z h o (.int sz)) (F2 : oF4 Z h o (.ref pb)) (F3 : oF5 Z h o (.int 1)) (F4 : oF6 Z h o (.int mp)) (AT : Arv Z h b kb .int (16 : Int32) (tb.map Value.int) (.int 0)) (AP : Arv Z h pb kp .int (2 : Int32) [(.int x0), (.int x1)] (.int 0)) (H : OwnHold tb hs) (hl : hs.length < 6) (hz : OwnSz sz hs.length) (nx0 : x0 ≠ 0) :
  ownGo p e below (ownQ s (fun v h L => v = none ∧ Fr Z.heap.size L ∧ Keep h0 h [o, b] ∧ oF2 Z h o (.ref b) ∧ oF4 Z h o (.ref pb) ∧ oF5 Z h o (.int 0) ∧ oF6 Z h o (.int mp) ∧ Arv Z h b kb .int (16 : Int32) ((own_ins tb x0).map Value.int) (.int 0) ∧ ∃ sz' : Int32, oF3 Z h o (.int sz') ∧ OwnSz sz' (hs.length + 1)) 0 0) (T.setTop (mkF m 2 #[.val (.ref o), .val (.int 0), .unset, .unset] [])) := by
 refine oiloadN X0 hx hby od22_2 rfl 3 rfl ?_
 refine oaloadN X0 hx hby od22_3 rfl (by rfl) 4 rfl ?_
 refine ogetF X0 hx hZ hown (host := "") (Or.inl (oW hw 80 rfl)) Via.refl e0 F3 rfl hby od22_4 7 rfl fun T1 X1 e1 => ?_
 refine oicmpNo X1 hx hby od22_7 rfl (tlt ((by decide) : (0 : Int32) < (1 : Int32))).2.1 10 rfl ?_
 refine oaloadN X1 hx hby od22_10 rfl (by rfl) 11 rfl ?_
 refine ogetF X1 hx hZ hown (host := "") (Or.inl (oW hw 71 rfl)) Via.refl e1 F2 rfl hby od22_11 14 rfl fun T2 X2 e2 => ?_
 refine oiloadN X2 hx hby od22_14 rfl 15 rfl ?_
 obtain ⟨cl3, q3a, q3b, q3c, q3d, q3e, q3f⟩ := id AP
 let La31 : Array Slot := #[rv o, .val (.int 0), .unset, .unset]
 refine own_st (T2.setTop (mkF m 16 La31 [(.int x0)])) (fun tq kq => X2.iaload hx (j := (0 : Int32)) (v := (.int x0)) (by rw [e2]; exact q3a.1) (State.isArrayOf_alike hZ.alike q3a.2.1) q3a.2.2 (inb_of q3c ⟨by decide, by decide⟩) (q3e.at (inb_of q3c ⟨by decide, by decide⟩) rfl) (g := (mkF m 15 La31 [(.int 0), (.ref pb)])) rfl rfl (hb hby od22_15) tq kq) ?_
 let La32 : Array Slot := #[rv o, .val (.int 0), .val (.int x0), .unset]
 refine oistoreN X2 hx hby od22_16 rfl (L' := La32) rfl 17 rfl ?_
 refine oaloadN X2 hx hby od22_17 rfl (by rfl) 18 rfl ?_
 refine ogetF X2 hx hZ hown (host := "") (Or.inl (oW hw 69 rfl)) Via.refl e2 F0 rfl hby od22_18 21 rfl fun T4 X4 e4 => ?_
 refine oiloadN X4 hx hby od22_21 rfl 22 rfl ?_
 obtain ⟨v5, T5, L5, X5, q5, st5⟩ := own_callS X4 hx hZ hown (oW hw 111 rfl) (oW hw 112 rfl) (oW hw 63 rfl) (oW hw 113 rfl) (argsL := [(.ref b), (.int x0)]) (own_find l Z a0 hw [] b kb tb x0 h O0 AT (own_fst H (by omega) _)) 0 (by decide) (by decide) (by decide) (by decide) (by decide) e4 (g := (mkF m 22 La32 [(.int x0), (.ref b)])) rfl (by rw [hml]; rfl) [] (lenOf oP76 rfl) rfl (by show 2 * 0 + _ ≤ _; exact Nat.le_of_eq rfl) (hb hby od22_22)
 obtain ⟨rfl, N5q, e5⟩ := q5
 have N5 := Fr.app N0 N5q
 refine own_st (T5.setTop (mkF m 25 La32 [(.int (Int32.ofNat (own_fnd tb x0)))])) st5 ?_
 let La33 : Array Slot := #[rv o, .val (.int 0), .val (.int x0), .val (.int (Int32.ofNat (own_fnd tb x0)))]
 refine oistoreN X5 hx hby od22_25 rfl (L' := La33) rfl 26 rfl ?_
 refine oaloadN X5 hx hby od22_26 rfl (by rfl) 27 rfl ?_
 refine ogetF X5 hx hZ hown (host := "") (Or.inl (oW hw 69 rfl)) Via.refl e5 F0 rfl hby od22_27 30 rfl fun T6 X6 e6 => ?_
 refine oiloadN X6 hx hby od22_30 rfl 31 rfl ?_
 obtain ⟨cl7, q7a, q7b, q7c, q7d, q7e, q7f⟩ := id AT
 refine own_st (T6.setTop (mkF m 32 La33 [(.int (own_g tb (own_fnd tb x0)))])) (fun tq kq => X6.iaload hx (j := (Int32.ofNat (own_fnd tb x0))) (v := (.int (own_g tb (own_fnd tb x0)))) (by rw [e6]; exact q7a.1) (State.isArrayOf_alike hZ.alike q7a.2.1) q7a.2.2 (inb_of q7c (own_ofb (own_flt H (by omega) _))) (q7e.at (inb_of q7c (own_ofb (own_flt H (by omega) _))) (by rw [(own_ofn (own_flt H (by omega) _))]; exact own_gm _ _)) (g := (mkF m 31 La33 [(.int (Int32.ofNat (own_fnd tb x0))), (.ref b)])) rfl rfl (hb hby od22_31) tq kq) ?_
 by_cases c32_8 : (own_g tb (own_fnd tb x0)) = (0 : Int32)
 ·
  refine oifNo X6 hx hby od22_32 rfl ((if0 _ _).trans (teq c32_8).2) 35 rfl ?_
  refine oaloadN X6 hx hby od22_35 rfl (by rfl) 36 rfl ?_
  refine ogetF X6 hx hZ hown (host := "") (Or.inl (oW hw 69 rfl)) Via.refl e6 F0 rfl hby od22_36 39 rfl fun T9 X9 e9 => ?_
  refine oiloadN X9 hx hby od22_39 rfl 40 rfl ?_
  refine oiloadN X9 hx hby od22_40 rfl 41 rfl ?_
  obtain ⟨cl10, q10a, q10b, q10c, q10d, q10e, q10f⟩ := id AT
  obtain ⟨T11, h11, X11, e11, W11, st11⟩ := stI X9 hx hZ e9 q10a (j := (Int32.ofNat (own_fnd tb x0))) (inb_of q10c (own_ofb (own_flt H (by omega) _))) (g := (mkF m 41 La33 [(.int x0), (.int (Int32.ofNat (own_fnd tb x0))), (.ref b)])) rfl rfl (hb hby od22_41)
  have N11 := Fr.snoc X11 N5 gb
  have O11 := O0.wr W11 gb
  have K11 := K0.wr W11 (Or.inl (List.mem_of_getElem? (i := 1) rfl))
  have f12 := (E0.wr W11)
  have f13 := (F0.other W11 (Or.inl (Exa.neArv E0 AT (oW hw 62 rfl))))
  have f14 := (F1.other W11 (Or.inl (Exa.neArv E0 AT (oW hw 62 rfl))))
  have f15 := (F2.other W11 (Or.inl (Exa.neArv E0 AT (oW hw 62 rfl))))
  have f16 := (F3.other W11 (Or.inl (Exa.neArv E0 AT (oW hw 62 rfl))))
  have f17 := (F4.other W11 (Or.inl (Exa.neArv E0 AT (oW hw 62 rfl))))
  have f19 := (AP.other W11 (Ne.symm bp))
  have f20 : Arv Z h11 b kb .int (16 : Int32) ((tb.set (own_fnd tb x0) x0).map Value.int) (.int 0) := own_set q10a q10b q10c q10d q10e q10f W11 (own_ofn (own_flt H (by omega) _)) (own_fln H (by omega) _)
  refine own_st (T11.setTop (mkF m 42 La33 [])) st11 ?_
  refine oaloadN X11 hx hby od22_42 rfl (by rfl) 43 rfl ?_
  refine odup X11 hx hby od22_43 rfl (by rfl) 44 rfl ?_
  refine ogetF X11 hx hZ hown (host := "") (Or.inl (oW hw 120 rfl)) Via.refl e11 f14 rfl hby od22_44 47 rfl fun T21 X21 e21 => ?_
  refine oiconst X21 hx hby od22_47 (1 : Int32) rfl 48 rfl ?_
  refine oiadd X21 hx hby od22_48 rfl _ rfl 49 rfl ?_
  obtain ⟨T22, h22, X22, e22, W22, st22⟩ := putF X21 hx hZ hown (host := "") (Or.inl (oW hw 120 rfl)) Via.refl e21 f14 f12 (Or.inl (oW hw 121 rfl)) (oW hw 62 rfl) (ty := .int) (by decide) (by rfl) (by rfl) (g := (mkF m 49 La33 [(.int (sz + (1 : Int32))), (.ref o)])) rfl rfl (hb hby od22_49)
  have N22 := Fr.snoc X22 N11 g0
  have O22 := O11.wr W22 g0
  have K22 := K11.wr W22 (Or.inl (List.mem_of_getElem? (i := 0) rfl))
  have f23 := (f12.wr W22)
  have f24 := (f13.other W22 (Or.inr (slot_ne (Or.inl (oW hw 70 rfl)) (Or.inl (oW hw 121 rfl)) (by decide) (t := (.array .int)) (t' := .int) (by decide) (by decide))))
  have f26 := (f15.other W22 (Or.inr (slot_ne (Or.inl (oW hw 72 rfl)) (Or.inl (oW hw 121 rfl)) (by decide) (t := (.array .int)) (t' := .int) (by decide) (by decide))))
  have f27 := (f16.other W22 (Or.inr (slot_ne (Or.inl (oW hw 81 rfl)) (Or.inl (oW hw 121 rfl)) (by decide) (t := .int) (t' := .int) (by decide) (by decide))))
  have f28 := (f17.other W22 (Or.inr (slot_ne (Or.inr (oW hw 74 rfl)) (Or.inl (oW hw 121 rfl)) (by decide) (t := .int) (t' := .int) (by decide) (by decide))))
  have f29 := (f20.other W22 (Ne.symm (Exa.neArv f12 f20 (oW hw 62 rfl))))
  have f30 := (f19.other W22 (Ne.symm (Exa.neArv f12 f19 (oW hw 62 rfl))))
  have f31 := (f14.same W22)
  refine own_st (T22.setTop (mkF m 52 La33 [])) st22 ?_
  refine oaloadN X22 hx hby od22_52 rfl (by rfl) 53 rfl ?_
  refine ogetF X22 hx hZ hown (host := "") (Or.inl (oW hw 120 rfl)) Via.refl e22 f31 rfl hby od22_53 56 rfl fun T32 X32 e32 => ?_
  refine oaloadN X32 hx hby od22_56 rfl (by rfl) 57 rfl ?_
  refine ogetF X32 hx hZ hown (host := "") (Or.inl (oW hw 69 rfl)) Via.refl e32 f24 rfl hby od22_57 60 rfl fun T33 X33 e33 => ?_
  obtain ⟨cl34, q34a, q34b, q34c, q34d, q34e, q34f⟩ := id f29
  refine own_st (T33.setTop (mkF m 61 La33 [(.int 16), (.int (sz + (1 : Int32)))])) (fun tq kq => X33.arraylength hx (by rw [e33]; exact q34a.1) (State.isArrayOf_alike hZ.alike q34a.2.1) (g := (mkF m 60 La33 [(.ref b), (.int (sz + (1 : Int32)))])) rfl rfl (hb hby od22_60) tq (by rw [len_of q34c q34d]; exact kq)) ?_
  refine oiconst X33 hx hby od22_61 (2 : Int32) rfl 62 rfl ?_
  refine own_st (T33.setTop (mkF m 63 La33 [(.int 8), (.int (sz + (1 : Int32)))])) (fun tq kq => XS.idiv X33.here hx rfl (hb hby od22_62) rfl (by decide) kq) ?_
  refine oicmpYes X33 hx hby od22_63 rfl (flt ((OwnSz.no (OwnSz.up hz (by omega)) (by omega)) : ¬ ((8 : Int32) < (sz + (1 : Int32))))).2.2.2 70 (by decide) (by decide) ?_
  have f35 : Arv Z h22 b kb .int (16 : Int32) ((own_ins tb x0).map Value.int) (.int 0) := (own_insT c32_8) ▸ f29
  let La34 : Array Slot := #[rv o, .val (.int 1), .val (.int x0), .val (.int (Int32.ofNat (own_fnd tb x0)))]
  refine oiinc X33 hx hby od22_70 rfl (L' := La34) rfl 73 rfl ?_
  refine ogoto X33 hx hby od22_73 2 (by decide) (by decide) ?_
  refine own_goM (fun v h L q => ⟨q.1, q.2.1, q.2.2.1, q.2.2.2.1, q.2.2.2.2.1, q.2.2.2.2.2.1, q.2.2.2.2.2.2.1, q.2.2.2.2.2.2.2.1, q.2.2.2.2.2.2.2.2.elim fun sz' q' => ⟨sz', q'.1, OwnSz.mono q'.2 (by simp only [List.length_append, List.length_cons, List.length_nil]; omega)⟩⟩) (own_setL_2_1_1 l Z a0 hw o b pb kb kp (own_ins tb x0) (hs ++ [x0]) (sz + (1 : Int32)) mp x0 x1 p e s m below meth c _ _ h0 _ _ _ _ hx hby hml hown hret hlk hZ e33 X33 N22 O22 K22 f23 g0 gb bp f24 f31 f26 f27 f28 f35 f30 (OwnHold.ins H (by omega) nx0) (by simp only [List.length_append, List.length_cons, List.length_nil]; omega) (OwnSz.mono (OwnSz.up hz (by omega)) (by simp only [List.length_append, List.length_cons, List.length_nil]; omega)) nx0)
 ·
  refine oifYes X6 hx hby od22_32 rfl ((if0 _ _).trans (feq c32_8).2) 70 (by decide) (by decide) ?_
  have f36 : Arv Z h b kb .int (16 : Int32) ((own_ins tb x0).map Value.int) (.int 0) := (own_insF c32_8) ▸ AT
  let La35 : Array Slot := #[rv o, .val (.int 1), .val (.int x0), .val (.int (Int32.ofNat (own_fnd tb x0)))]
  refine oiinc X6 hx hby od22_70 rfl (L' := La35) rfl 73 rfl ?_
  refine ogoto X6 hx hby od22_73 2 (by decide) (by decide) ?_
  refine own_goM (fun v h L q => ⟨q.1, q.2.1, q.2.2.1, q.2.2.2.1, q.2.2.2.2.1, q.2.2.2.2.2.1, q.2.2.2.2.2.2.1, q.2.2.2.2.2.2.2.1, q.2.2.2.2.2.2.2.2.elim fun sz' q' => ⟨sz', q'.1, OwnSz.mono q'.2 (by simp only [List.length_append, List.length_cons, List.length_nil]; omega)⟩⟩) (own_setL_2_1_1 l Z a0 hw o b pb kb kp (own_ins tb x0) (hs ++ [x0]) sz mp x0 x1 p e s m below meth c _ _ h0 _ _ _ _ hx hby hml hown hret hlk hZ e6 X6 N5 O0 K0 E0 g0 gb bp F0 F1 F2 F3 F4 f36 AP (OwnHold.ins H (by omega) nx0) (by simp only [List.length_append, List.length_cons, List.length_nil]; omega) (OwnSz.mono hz (by simp only [List.length_append, List.length_cons, List.length_nil]; omega)) nx0)
theorem own_settle_2_1 (l : Launch) (Z : State) (a0 : Array Value) (hw : OWS a0 Z) (ws : List Jvm.Cond) (o b pb : Addr) (kb kp : ClassId) (tb hs : List Int32) (sz mp x0 x1 : Int32) (h0 : Heap) (O0 : Old Z Z.heap.size h0) (E0 : oE7 Z h0 o) (g0 : Z.heap.size ≤ o) (gb : Z.heap.size ≤ b) (bp : b ≠ pb) (F0 : oF2 Z h0 o (.ref b)) (F1 : oF3 Z h0 o (.int sz)) (F2 : oF4 Z h0 o (.ref pb)) (F3 : oF5 Z h0 o (.int 1)) (F4 : oF6 Z h0 o (.int mp)) (AT : Arv Z h0 b kb .int (16 : Int32) (tb.map Value.int) (.int 0)) (AP : Arv Z h0 pb kp .int (2 : Int32) [(.int x0), (.int x1)] (.int 0)) (H : OwnHold tb hs) (hl : hs.length < 6) (hz : OwnSz sz hs.length) (nx0 : x0 ≠ 0) :
  ownMet l oM8 prog_107_method_7_code 4 none ws (oR 2 0 0 29) Z #[(.ref o)] h0 (fun v h L => v = none ∧ Fr Z.heap.size L ∧ Keep h0 h [o, b] ∧ oF2 Z h o (.ref b) ∧ oF4 Z h o (.ref pb) ∧ oF5 Z h o (.int 0) ∧ oF6 Z h o (.int mp) ∧ Arv Z h b kb .int (16 : Int32) ((own_ins tb x0).map Value.int) (.int 0) ∧ ∃ sz' : Int32, oF3 Z h o (.int sz') ∧ OwnSz sz' (hs.length + 1)) := by
 refine own_met (plainFor_of_name oP59) ?_
 intro p e s m below meth c s₁ hx hby hml hown hnm hret hlk hZ e0 X0
 refine own_cast (show _ = (mkF m 0 #[.val (.ref o), .unset, .unset, .unset] []) by first | (simp [entryFrame, mkF, argsToLocals, Value.category]; done) | rfl) ?_
 refine oiconst X0 hx hby od22_0 (0 : Int32) rfl 1 rfl ?_
 let La36 : Array Slot := #[rv o, .val (.int 0), .unset, .unset]
 refine oistoreN X0 hx hby od22_1 rfl (L' := La36) rfl 2 rfl ?_
 exact own_setL_2_1_0 l Z a0 hw o b pb kb kp tb hs sz mp x0 x1 p e s m below meth c _ _ h0 _ _ 0 0 hx hby hml hown hret hlk hZ e0 X0 (Fr.nil _) O0 (Keep.refl h0 [o, b]) E0 g0 gb bp F0 F1 F2 F3 F4 AT AP H hl hz nx0
theorem own_setL_3_3_3 (l : Launch) (Z : State) (a0 : Array Value) (hw : OWS a0 Z) (o b pb : Addr) (kb kp : ClassId) (tb hs : List Int32) (sz mp x0 x1 x2 : Int32) (p : Program) (e : Env) (s : State) (m : MethodId) (below : List Frame) (meth : Method) (c : Code) (T : State) (locs : List Loc) (h0 h : Heap) (args : Array Value) (w2 w3 : Int32) (hx : p.tables.exec = Jvm.exec) (hby : c.code = prog_107_method_7_code) (hml : c.maxLocals = 4) (hown : s.vm.findClass "com/example/rising_block/risingblock/util/StringHashes" = some m.cls) (hret : meth.sig.returnType = none) (hlk : meth.locks = false) (hZ : Z.Warmed39 s.vm) (e0 : T.heap = h)
  (X0 : Stand p l e (oR 2 0 0 29) s m args below meth c T locs 0 0) (N0 : Fr Z.heap.size locs) (O0 : Old Z Z.heap.size h) (K0 : Keep h0 h [o, b]) (E0 : oE7 Z h o) (g0 : Z.heap.size ≤ o) (gb : Z.heap.size ≤ b) (bp : b ≠ pb) (F0 : oF2 Z h o (.ref b)) (F1 : oF3 Z h o (.int sz)) (F2 : oF4 Z h o (.ref pb)) (F3 : oF5 Z h o (.int 3)) (F4 : oF6 Z h o (.int mp)) (AT : Arv Z h b kb .int (16 : Int32) (tb.map Value.int) (.int 0)) (AP : Arv Z h pb kp .int (3 : Int32) [(.int x0), (.int x1), (.int x2)] (.int 0)) (H : OwnHold tb hs) (hl : hs.length < 9) (hz : OwnSz sz hs.length) (nx0 : x0 ≠ 0) (nx1 : x1 ≠ 0) (nx2 : x2 ≠ 0) :
  ownGo p e below (ownQ s (fun v h L => v = none ∧ Fr Z.heap.size L ∧ Keep h0 h [o, b] ∧ oF2 Z h o (.ref b) ∧ oF4 Z h o (.ref pb) ∧ oF5 Z h o (.int 0) ∧ oF6 Z h o (.int mp) ∧ Arv Z h b kb .int (16 : Int32) (tb.map Value.int) (.int 0) ∧ ∃ sz' : Int32, oF3 Z h o (.int sz') ∧ OwnSz sz' (hs.length + 0)) 0 0) (T.setTop (mkF m 2 #[.val (.ref o), .val (.int 3), .val (.int w2), .val (.int w3)] [])) := by
 refine oiloadN X0 hx hby od22_2 rfl 3 rfl ?_
 refine oaloadN X0 hx hby od22_3 rfl (by rfl) 4 rfl ?_
 refine ogetF X0 hx hZ hown (host := "") (Or.inl (oW hw 80 rfl)) Via.refl e0 F3 rfl hby od22_4 7 rfl fun T1 X1 e1 => ?_
 refine oicmpYes X1 hx hby od22_7 rfl (flt ((by decide) : ¬ ((3 : Int32) < (3 : Int32)))).2.1 76 (by decide) (by decide) ?_
 refine oaloadN X1 hx hby od22_76 rfl (by rfl) 77 rfl ?_
 refine oiconst X1 hx hby od22_77 (0 : Int32) rfl 78 rfl ?_
 let La37 : Array Slot := #[rv o, .val (.int 3), .val (.int w2), .val (.int w3)]
 obtain ⟨T2, h2, X2, e2, W2, st2⟩ := putF X1 hx hZ hown (host := "") (Or.inl (oW hw 80 rfl)) Via.refl e1 F3 E0 (Or.inl (oW hw 81 rfl)) (oW hw 62 rfl) (ty := .int) (by decide) (by rfl) (by rfl) (g := (mkF m 78 La37 [(.int 0), (.ref o)])) rfl rfl (hb hby od22_78)
 have N2 := Fr.snoc X2 N0 g0
 have O2 := O0.wr W2 g0
 have K2 := K0.wr W2 (Or.inl (List.mem_of_getElem? (i := 0) rfl))
 have f3 := (E0.wr W2)
 have f4 := (F0.other W2 (Or.inr (slot_ne (Or.inl (oW hw 70 rfl)) (Or.inl (oW hw 81 rfl)) (by decide) (t := (.array .int)) (t' := .int) (by decide) (by decide))))
 have f5 := (F1.other W2 (Or.inr (slot_ne (Or.inl (oW hw 121 rfl)) (Or.inl (oW hw 81 rfl)) (by decide) (t := .int) (t' := .int) (by decide) (by decide))))
 have f6 := (F2.other W2 (Or.inr (slot_ne (Or.inl (oW hw 72 rfl)) (Or.inl (oW hw 81 rfl)) (by decide) (t := (.array .int)) (t' := .int) (by decide) (by decide))))
 have f8 := (F4.other W2 (Or.inr (slot_ne (Or.inr (oW hw 74 rfl)) (Or.inl (oW hw 81 rfl)) (by decide) (t := .int) (t' := .int) (by decide) (by decide))))
 have f9 := (AT.other W2 (Ne.symm (Exa.neArv E0 AT (oW hw 62 rfl))))
 have f10 := (AP.other W2 (Ne.symm (Exa.neArv E0 AP (oW hw 62 rfl))))
 have f11 := (F3.same W2)
 refine own_st (T2.setTop (mkF m 81 La37 [])) st2 ?_
 exact own_ret X2 hlk (v := none) (fun _ => rfl) e2 (⟨rfl, N2, K2, f4, f6, f11, f8, f9, _, f5, OwnSz.mono hz (by omega)⟩) (by decide) (by decide) (fun fs hr => X2.returnOut hx hret (hb hby od22_81) hr)
theorem own_setL_3_3_2 (l : Launch) (Z : State) (a0 : Array Value) (hw : OWS a0 Z) (o b pb : Addr) (kb kp : ClassId) (tb hs : List Int32) (sz mp x0 x1 x2 : Int32) (p : Program) (e : Env) (s : State) (m : MethodId) (below : List Frame) (meth : Method) (c : Code) (T : State) (locs : List Loc) (h0 h : Heap) (args : Array Value) (w2 w3 : Int32) (hx : p.tables.exec = Jvm.exec) (hby : c.code = prog_107_method_7_code) (hml : c.maxLocals = 4) (hown : s.vm.findClass "com/example/rising_block/risingblock/util/StringHashes" = some m.cls) (hret : meth.sig.returnType = none) (hlk : meth.locks = false) (hZ : Z.Warmed39 s.vm) (e0 : T.heap = h)
  (X0 : Stand p l e (oR 2 0 0 29) s m args below meth c T locs 0 0) (N0 : Fr Z.heap.size locs) (O0 : Old Z Z.heap.size h) (K0 : Keep h0 h [o, b]) (E0 : oE7 Z h o) (g0 : Z.heap.size ≤ o) (gb : Z.heap.size ≤ b) (bp : b ≠ pb) (F0 : oF2 Z h o (.ref b)) (F1 : oF3 Z h o (.int sz)) (F2 : oF4 Z h o (.ref pb)) (F3 : oF5 Z h o (.int 3)) (F4 : oF6 Z h o (.int mp)) (AT : Arv Z h b kb .int (16 : Int32) (tb.map Value.int) (.int 0)) (AP : Arv Z h pb kp .int (3 : Int32) [(.int x0), (.int x1), (.int x2)] (.int 0)) (H : OwnHold tb hs) (hl : hs.length < 8) (hz : OwnSz sz hs.length) (nx0 : x0 ≠ 0) (nx1 : x1 ≠ 0) (nx2 : x2 ≠ 0) :
  ownGo p e below (ownQ s (fun v h L => v = none ∧ Fr Z.heap.size L ∧ Keep h0 h [o, b] ∧ oF2 Z h o (.ref b) ∧ oF4 Z h o (.ref pb) ∧ oF5 Z h o (.int 0) ∧ oF6 Z h o (.int mp) ∧ Arv Z h b kb .int (16 : Int32) ((own_ins tb x2).map Value.int) (.int 0) ∧ ∃ sz' : Int32, oF3 Z h o (.int sz') ∧ OwnSz sz' (hs.length + 1)) 0 0) (T.setTop (mkF m 2 #[.val (.ref o), .val (.int 2), .val (.int w2), .val (.int w3)] [])) := by
 refine oiloadN X0 hx hby od22_2 rfl 3 rfl ?_
 refine oaloadN X0 hx hby od22_3 rfl (by rfl) 4 rfl ?_
 refine ogetF X0 hx hZ hown (host := "") (Or.inl (oW hw 80 rfl)) Via.refl e0 F3 rfl hby od22_4 7 rfl fun T1 X1 e1 => ?_
 refine oicmpNo X1 hx hby od22_7 rfl (tlt ((by decide) : (2 : Int32) < (3 : Int32))).2.1 10 rfl ?_
 refine oaloadN X1 hx hby od22_10 rfl (by rfl) 11 rfl ?_
 refine ogetF X1 hx hZ hown (host := "") (Or.inl (oW hw 71 rfl)) Via.refl e1 F2 rfl hby od22_11 14 rfl fun T2 X2 e2 => ?_
 refine oiloadN X2 hx hby od22_14 rfl 15 rfl ?_
 obtain ⟨cl3, q3a, q3b, q3c, q3d, q3e, q3f⟩ := id AP
 let La38 : Array Slot := #[rv o, .val (.int 2), .val (.int w2), .val (.int w3)]
 refine own_st (T2.setTop (mkF m 16 La38 [(.int x2)])) (fun tq kq => X2.iaload hx (j := (2 : Int32)) (v := (.int x2)) (by rw [e2]; exact q3a.1) (State.isArrayOf_alike hZ.alike q3a.2.1) q3a.2.2 (inb_of q3c ⟨by decide, by decide⟩) (q3e.at (inb_of q3c ⟨by decide, by decide⟩) rfl) (g := (mkF m 15 La38 [(.int 2), (.ref pb)])) rfl rfl (hb hby od22_15) tq kq) ?_
 let La39 : Array Slot := #[rv o, .val (.int 2), .val (.int x2), .val (.int w3)]
 refine oistoreN X2 hx hby od22_16 rfl (L' := La39) rfl 17 rfl ?_
 refine oaloadN X2 hx hby od22_17 rfl (by rfl) 18 rfl ?_
 refine ogetF X2 hx hZ hown (host := "") (Or.inl (oW hw 69 rfl)) Via.refl e2 F0 rfl hby od22_18 21 rfl fun T4 X4 e4 => ?_
 refine oiloadN X4 hx hby od22_21 rfl 22 rfl ?_
 obtain ⟨v5, T5, L5, X5, q5, st5⟩ := own_callS X4 hx hZ hown (oW hw 111 rfl) (oW hw 112 rfl) (oW hw 63 rfl) (oW hw 113 rfl) (argsL := [(.ref b), (.int x2)]) (own_find l Z a0 hw [] b kb tb x2 h O0 AT (own_fst H (by omega) _)) 0 (by decide) (by decide) (by decide) (by decide) (by decide) e4 (g := (mkF m 22 La39 [(.int x2), (.ref b)])) rfl (by rw [hml]; rfl) [] (lenOf oP76 rfl) rfl (by show 2 * 0 + _ ≤ _; exact Nat.le_of_eq rfl) (hb hby od22_22)
 obtain ⟨rfl, N5q, e5⟩ := q5
 have N5 := Fr.app N0 N5q
 refine own_st (T5.setTop (mkF m 25 La39 [(.int (Int32.ofNat (own_fnd tb x2)))])) st5 ?_
 let La40 : Array Slot := #[rv o, .val (.int 2), .val (.int x2), .val (.int (Int32.ofNat (own_fnd tb x2)))]
 refine oistoreN X5 hx hby od22_25 rfl (L' := La40) rfl 26 rfl ?_
 refine oaloadN X5 hx hby od22_26 rfl (by rfl) 27 rfl ?_
 refine ogetF X5 hx hZ hown (host := "") (Or.inl (oW hw 69 rfl)) Via.refl e5 F0 rfl hby od22_27 30 rfl fun T6 X6 e6 => ?_
 refine oiloadN X6 hx hby od22_30 rfl 31 rfl ?_
 obtain ⟨cl7, q7a, q7b, q7c, q7d, q7e, q7f⟩ := id AT
 refine own_st (T6.setTop (mkF m 32 La40 [(.int (own_g tb (own_fnd tb x2)))])) (fun tq kq => X6.iaload hx (j := (Int32.ofNat (own_fnd tb x2))) (v := (.int (own_g tb (own_fnd tb x2)))) (by rw [e6]; exact q7a.1) (State.isArrayOf_alike hZ.alike q7a.2.1) q7a.2.2 (inb_of q7c (own_ofb (own_flt H (by omega) _))) (q7e.at (inb_of q7c (own_ofb (own_flt H (by omega) _))) (by rw [(own_ofn (own_flt H (by omega) _))]; exact own_gm _ _)) (g := (mkF m 31 La40 [(.int (Int32.ofNat (own_fnd tb x2))), (.ref b)])) rfl rfl (hb hby od22_31) tq kq) ?_
 by_cases c32_8 : (own_g tb (own_fnd tb x2)) = (0 : Int32)
 ·
  refine oifNo X6 hx hby od22_32 rfl ((if0 _ _).trans (teq c32_8).2) 35 rfl ?_
  refine oaloadN X6 hx hby od22_35 rfl (by rfl) 36 rfl ?_
  refine ogetF X6 hx hZ hown (host := "") (Or.inl (oW hw 69 rfl)) Via.refl e6 F0 rfl hby od22_36 39 rfl fun T9 X9 e9 => ?_
  refine oiloadN X9 hx hby od22_39 rfl 40 rfl ?_
  refine oiloadN X9 hx hby od22_40 rfl 41 rfl ?_
  obtain ⟨cl10, q10a, q10b, q10c, q10d, q10e, q10f⟩ := id AT
  obtain ⟨T11, h11, X11, e11, W11, st11⟩ := stI X9 hx hZ e9 q10a (j := (Int32.ofNat (own_fnd tb x2))) (inb_of q10c (own_ofb (own_flt H (by omega) _))) (g := (mkF m 41 La40 [(.int x2), (.int (Int32.ofNat (own_fnd tb x2))), (.ref b)])) rfl rfl (hb hby od22_41)
  have N11 := Fr.snoc X11 N5 gb
  have O11 := O0.wr W11 gb
  have K11 := K0.wr W11 (Or.inl (List.mem_of_getElem? (i := 1) rfl))
  have f12 := (E0.wr W11)
  have f13 := (F0.other W11 (Or.inl (Exa.neArv E0 AT (oW hw 62 rfl))))
  have f14 := (F1.other W11 (Or.inl (Exa.neArv E0 AT (oW hw 62 rfl))))
  have f15 := (F2.other W11 (Or.inl (Exa.neArv E0 AT (oW hw 62 rfl))))
  have f16 := (F3.other W11 (Or.inl (Exa.neArv E0 AT (oW hw 62 rfl))))
  have f17 := (F4.other W11 (Or.inl (Exa.neArv E0 AT (oW hw 62 rfl))))
  have f19 := (AP.other W11 (Ne.symm bp))
  have f20 : Arv Z h11 b kb .int (16 : Int32) ((tb.set (own_fnd tb x2) x2).map Value.int) (.int 0) := own_set q10a q10b q10c q10d q10e q10f W11 (own_ofn (own_flt H (by omega) _)) (own_fln H (by omega) _)
  refine own_st (T11.setTop (mkF m 42 La40 [])) st11 ?_
  refine oaloadN X11 hx hby od22_42 rfl (by rfl) 43 rfl ?_
  refine odup X11 hx hby od22_43 rfl (by rfl) 44 rfl ?_
  refine ogetF X11 hx hZ hown (host := "") (Or.inl (oW hw 120 rfl)) Via.refl e11 f14 rfl hby od22_44 47 rfl fun T21 X21 e21 => ?_
  refine oiconst X21 hx hby od22_47 (1 : Int32) rfl 48 rfl ?_
  refine oiadd X21 hx hby od22_48 rfl _ rfl 49 rfl ?_
  obtain ⟨T22, h22, X22, e22, W22, st22⟩ := putF X21 hx hZ hown (host := "") (Or.inl (oW hw 120 rfl)) Via.refl e21 f14 f12 (Or.inl (oW hw 121 rfl)) (oW hw 62 rfl) (ty := .int) (by decide) (by rfl) (by rfl) (g := (mkF m 49 La40 [(.int (sz + (1 : Int32))), (.ref o)])) rfl rfl (hb hby od22_49)
  have N22 := Fr.snoc X22 N11 g0
  have O22 := O11.wr W22 g0
  have K22 := K11.wr W22 (Or.inl (List.mem_of_getElem? (i := 0) rfl))
  have f23 := (f12.wr W22)
  have f24 := (f13.other W22 (Or.inr (slot_ne (Or.inl (oW hw 70 rfl)) (Or.inl (oW hw 121 rfl)) (by decide) (t := (.array .int)) (t' := .int) (by decide) (by decide))))
  have f26 := (f15.other W22 (Or.inr (slot_ne (Or.inl (oW hw 72 rfl)) (Or.inl (oW hw 121 rfl)) (by decide) (t := (.array .int)) (t' := .int) (by decide) (by decide))))
  have f27 := (f16.other W22 (Or.inr (slot_ne (Or.inl (oW hw 81 rfl)) (Or.inl (oW hw 121 rfl)) (by decide) (t := .int) (t' := .int) (by decide) (by decide))))
  have f28 := (f17.other W22 (Or.inr (slot_ne (Or.inr (oW hw 74 rfl)) (Or.inl (oW hw 121 rfl)) (by decide) (t := .int) (t' := .int) (by decide) (by decide))))
  have f29 := (f20.other W22 (Ne.symm (Exa.neArv f12 f20 (oW hw 62 rfl))))
  have f30 := (f19.other W22 (Ne.symm (Exa.neArv f12 f19 (oW hw 62 rfl))))
  have f31 := (f14.same W22)
  refine own_st (T22.setTop (mkF m 52 La40 [])) st22 ?_
  refine oaloadN X22 hx hby od22_52 rfl (by rfl) 53 rfl ?_
  refine ogetF X22 hx hZ hown (host := "") (Or.inl (oW hw 120 rfl)) Via.refl e22 f31 rfl hby od22_53 56 rfl fun T32 X32 e32 => ?_
  refine oaloadN X32 hx hby od22_56 rfl (by rfl) 57 rfl ?_
  refine ogetF X32 hx hZ hown (host := "") (Or.inl (oW hw 69 rfl)) Via.refl e32 f24 rfl hby od22_57 60 rfl fun T33 X33 e33 => ?_
  obtain ⟨cl34, q34a, q34b, q34c, q34d, q34e, q34f⟩ := id f29
  refine own_st (T33.setTop (mkF m 61 La40 [(.int 16), (.int (sz + (1 : Int32)))])) (fun tq kq => X33.arraylength hx (by rw [e33]; exact q34a.1) (State.isArrayOf_alike hZ.alike q34a.2.1) (g := (mkF m 60 La40 [(.ref b), (.int (sz + (1 : Int32)))])) rfl rfl (hb hby od22_60) tq (by rw [len_of q34c q34d]; exact kq)) ?_
  refine oiconst X33 hx hby od22_61 (2 : Int32) rfl 62 rfl ?_
  refine own_st (T33.setTop (mkF m 63 La40 [(.int 8), (.int (sz + (1 : Int32)))])) (fun tq kq => XS.idiv X33.here hx rfl (hb hby od22_62) rfl (by decide) kq) ?_
  refine oicmpYes X33 hx hby od22_63 rfl (flt ((OwnSz.no (OwnSz.up hz (by omega)) (by omega)) : ¬ ((8 : Int32) < (sz + (1 : Int32))))).2.2.2 70 (by decide) (by decide) ?_
  have f35 : Arv Z h22 b kb .int (16 : Int32) ((own_ins tb x2).map Value.int) (.int 0) := (own_insT c32_8) ▸ f29
  let La41 : Array Slot := #[rv o, .val (.int 3), .val (.int x2), .val (.int (Int32.ofNat (own_fnd tb x2)))]
  refine oiinc X33 hx hby od22_70 rfl (L' := La41) rfl 73 rfl ?_
  refine ogoto X33 hx hby od22_73 2 (by decide) (by decide) ?_
  refine own_goM (fun v h L q => ⟨q.1, q.2.1, q.2.2.1, q.2.2.2.1, q.2.2.2.2.1, q.2.2.2.2.2.1, q.2.2.2.2.2.2.1, q.2.2.2.2.2.2.2.1, q.2.2.2.2.2.2.2.2.elim fun sz' q' => ⟨sz', q'.1, OwnSz.mono q'.2 (by simp only [List.length_append, List.length_cons, List.length_nil]; omega)⟩⟩) (own_setL_3_3_3 l Z a0 hw o b pb kb kp (own_ins tb x2) (hs ++ [x2]) (sz + (1 : Int32)) mp x0 x1 x2 p e s m below meth c _ _ h0 _ _ _ _ hx hby hml hown hret hlk hZ e33 X33 N22 O22 K22 f23 g0 gb bp f24 f31 f26 f27 f28 f35 f30 (OwnHold.ins H (by omega) nx2) (by simp only [List.length_append, List.length_cons, List.length_nil]; omega) (OwnSz.mono (OwnSz.up hz (by omega)) (by simp only [List.length_append, List.length_cons, List.length_nil]; omega)) nx0 nx1 nx2)
 ·
  refine oifYes X6 hx hby od22_32 rfl ((if0 _ _).trans (feq c32_8).2) 70 (by decide) (by decide) ?_
  have f36 : Arv Z h b kb .int (16 : Int32) ((own_ins tb x2).map Value.int) (.int 0) := (own_insF c32_8) ▸ AT
  let La42 : Array Slot := #[rv o, .val (.int 3), .val (.int x2), .val (.int (Int32.ofNat (own_fnd tb x2)))]
  refine oiinc X6 hx hby od22_70 rfl (L' := La42) rfl 73 rfl ?_
  refine ogoto X6 hx hby od22_73 2 (by decide) (by decide) ?_
  refine own_goM (fun v h L q => ⟨q.1, q.2.1, q.2.2.1, q.2.2.2.1, q.2.2.2.2.1, q.2.2.2.2.2.1, q.2.2.2.2.2.2.1, q.2.2.2.2.2.2.2.1, q.2.2.2.2.2.2.2.2.elim fun sz' q' => ⟨sz', q'.1, OwnSz.mono q'.2 (by simp only [List.length_append, List.length_cons, List.length_nil]; omega)⟩⟩) (own_setL_3_3_3 l Z a0 hw o b pb kb kp (own_ins tb x2) (hs ++ [x2]) sz mp x0 x1 x2 p e s m below meth c _ _ h0 _ _ _ _ hx hby hml hown hret hlk hZ e6 X6 N5 O0 K0 E0 g0 gb bp F0 F1 F2 F3 F4 f36 AP (OwnHold.ins H (by omega) nx2) (by simp only [List.length_append, List.length_cons, List.length_nil]; omega) (OwnSz.mono hz (by simp only [List.length_append, List.length_cons, List.length_nil]; omega)) nx0 nx1 nx2)
theorem own_setL_3_3_1 (l : Launch) (Z : State) (a0 : Array Value) (hw : OWS a0 Z) (o b pb : Addr) (kb kp : ClassId) (tb hs : List Int32) (sz mp x0 x1 x2 : Int32) (p : Program) (e : Env) (s : State) (m : MethodId) (below : List Frame) (meth : Method) (c : Code) (T : State) (locs : List Loc) (h0 h : Heap) (args : Array Value) (w2 w3 : Int32) (hx : p.tables.exec = Jvm.exec) (hby : c.code = prog_107_method_7_code) (hml : c.maxLocals = 4) (hown : s.vm.findClass "com/example/rising_block/risingblock/util/StringHashes" = some m.cls) (hret : meth.sig.returnType = none) (hlk : meth.locks = false) (hZ : Z.Warmed39 s.vm) (e0 : T.heap = h)
  (X0 : Stand p l e (oR 2 0 0 29) s m args below meth c T locs 0 0) (N0 : Fr Z.heap.size locs) (O0 : Old Z Z.heap.size h) (K0 : Keep h0 h [o, b]) (E0 : oE7 Z h o) (g0 : Z.heap.size ≤ o) (gb : Z.heap.size ≤ b) (bp : b ≠ pb) (F0 : oF2 Z h o (.ref b)) (F1 : oF3 Z h o (.int sz)) (F2 : oF4 Z h o (.ref pb)) (F3 : oF5 Z h o (.int 3)) (F4 : oF6 Z h o (.int mp)) (AT : Arv Z h b kb .int (16 : Int32) (tb.map Value.int) (.int 0)) (AP : Arv Z h pb kp .int (3 : Int32) [(.int x0), (.int x1), (.int x2)] (.int 0)) (H : OwnHold tb hs) (hl : hs.length < 7) (hz : OwnSz sz hs.length) (nx0 : x0 ≠ 0) (nx1 : x1 ≠ 0) (nx2 : x2 ≠ 0) :
  ownGo p e below (ownQ s (fun v h L => v = none ∧ Fr Z.heap.size L ∧ Keep h0 h [o, b] ∧ oF2 Z h o (.ref b) ∧ oF4 Z h o (.ref pb) ∧ oF5 Z h o (.int 0) ∧ oF6 Z h o (.int mp) ∧ Arv Z h b kb .int (16 : Int32) ((own_ins (own_ins tb x1) x2).map Value.int) (.int 0) ∧ ∃ sz' : Int32, oF3 Z h o (.int sz') ∧ OwnSz sz' (hs.length + 2)) 0 0) (T.setTop (mkF m 2 #[.val (.ref o), .val (.int 1), .val (.int w2), .val (.int w3)] [])) := by
 refine oiloadN X0 hx hby od22_2 rfl 3 rfl ?_
 refine oaloadN X0 hx hby od22_3 rfl (by rfl) 4 rfl ?_
 refine ogetF X0 hx hZ hown (host := "") (Or.inl (oW hw 80 rfl)) Via.refl e0 F3 rfl hby od22_4 7 rfl fun T1 X1 e1 => ?_
 refine oicmpNo X1 hx hby od22_7 rfl (tlt ((by decide) : (1 : Int32) < (3 : Int32))).2.1 10 rfl ?_
 refine oaloadN X1 hx hby od22_10 rfl (by rfl) 11 rfl ?_
 refine ogetF X1 hx hZ hown (host := "") (Or.inl (oW hw 71 rfl)) Via.refl e1 F2 rfl hby od22_11 14 rfl fun T2 X2 e2 => ?_
 refine oiloadN X2 hx hby od22_14 rfl 15 rfl ?_
 obtain ⟨cl3, q3a, q3b, q3c, q3d, q3e, q3f⟩ := id AP
 let La43 : Array Slot := #[rv o, .val (.int 1), .val (.int w2), .val (.int w3)]
 refine own_st (T2.setTop (mkF m 16 La43 [(.int x1)])) (fun tq kq => X2.iaload hx (j := (1 : Int32)) (v := (.int x1)) (by rw [e2]; exact q3a.1) (State.isArrayOf_alike hZ.alike q3a.2.1) q3a.2.2 (inb_of q3c ⟨by decide, by decide⟩) (q3e.at (inb_of q3c ⟨by decide, by decide⟩) rfl) (g := (mkF m 15 La43 [(.int 1), (.ref pb)])) rfl rfl (hb hby od22_15) tq kq) ?_
 let La44 : Array Slot := #[rv o, .val (.int 1), .val (.int x1), .val (.int w3)]
 refine oistoreN X2 hx hby od22_16 rfl (L' := La44) rfl 17 rfl ?_
 refine oaloadN X2 hx hby od22_17 rfl (by rfl) 18 rfl ?_
 refine ogetF X2 hx hZ hown (host := "") (Or.inl (oW hw 69 rfl)) Via.refl e2 F0 rfl hby od22_18 21 rfl fun T4 X4 e4 => ?_
 refine oiloadN X4 hx hby od22_21 rfl 22 rfl ?_
 obtain ⟨v5, T5, L5, X5, q5, st5⟩ := own_callS X4 hx hZ hown (oW hw 111 rfl) (oW hw 112 rfl) (oW hw 63 rfl) (oW hw 113 rfl) (argsL := [(.ref b), (.int x1)]) (own_find l Z a0 hw [] b kb tb x1 h O0 AT (own_fst H (by omega) _)) 0 (by decide) (by decide) (by decide) (by decide) (by decide) e4 (g := (mkF m 22 La44 [(.int x1), (.ref b)])) rfl (by rw [hml]; rfl) [] (lenOf oP76 rfl) rfl (by show 2 * 0 + _ ≤ _; exact Nat.le_of_eq rfl) (hb hby od22_22)
 obtain ⟨rfl, N5q, e5⟩ := q5
 have N5 := Fr.app N0 N5q
 refine own_st (T5.setTop (mkF m 25 La44 [(.int (Int32.ofNat (own_fnd tb x1)))])) st5 ?_
 let La45 : Array Slot := #[rv o, .val (.int 1), .val (.int x1), .val (.int (Int32.ofNat (own_fnd tb x1)))]
 refine oistoreN X5 hx hby od22_25 rfl (L' := La45) rfl 26 rfl ?_
 refine oaloadN X5 hx hby od22_26 rfl (by rfl) 27 rfl ?_
 refine ogetF X5 hx hZ hown (host := "") (Or.inl (oW hw 69 rfl)) Via.refl e5 F0 rfl hby od22_27 30 rfl fun T6 X6 e6 => ?_
 refine oiloadN X6 hx hby od22_30 rfl 31 rfl ?_
 obtain ⟨cl7, q7a, q7b, q7c, q7d, q7e, q7f⟩ := id AT
 refine own_st (T6.setTop (mkF m 32 La45 [(.int (own_g tb (own_fnd tb x1)))])) (fun tq kq => X6.iaload hx (j := (Int32.ofNat (own_fnd tb x1))) (v := (.int (own_g tb (own_fnd tb x1)))) (by rw [e6]; exact q7a.1) (State.isArrayOf_alike hZ.alike q7a.2.1) q7a.2.2 (inb_of q7c (own_ofb (own_flt H (by omega) _))) (q7e.at (inb_of q7c (own_ofb (own_flt H (by omega) _))) (by rw [(own_ofn (own_flt H (by omega) _))]; exact own_gm _ _)) (g := (mkF m 31 La45 [(.int (Int32.ofNat (own_fnd tb x1))), (.ref b)])) rfl rfl (hb hby od22_31) tq kq) ?_
 by_cases c32_8 : (own_g tb (own_fnd tb x1)) = (0 : Int32)
 ·
  refine oifNo X6 hx hby od22_32 rfl ((if0 _ _).trans (teq c32_8).2) 35 rfl ?_
  refine oaloadN X6 hx hby od22_35 rfl (by rfl) 36 rfl ?_
  refine ogetF X6 hx hZ hown (host := "") (Or.inl (oW hw 69 rfl)) Via.refl e6 F0 rfl hby od22_36 39 rfl fun T9 X9 e9 => ?_
  refine oiloadN X9 hx hby od22_39 rfl 40 rfl ?_
  refine oiloadN X9 hx hby od22_40 rfl 41 rfl ?_
  obtain ⟨cl10, q10a, q10b, q10c, q10d, q10e, q10f⟩ := id AT
  obtain ⟨T11, h11, X11, e11, W11, st11⟩ := stI X9 hx hZ e9 q10a (j := (Int32.ofNat (own_fnd tb x1))) (inb_of q10c (own_ofb (own_flt H (by omega) _))) (g := (mkF m 41 La45 [(.int x1), (.int (Int32.ofNat (own_fnd tb x1))), (.ref b)])) rfl rfl (hb hby od22_41)
  have N11 := Fr.snoc X11 N5 gb
  have O11 := O0.wr W11 gb
  have K11 := K0.wr W11 (Or.inl (List.mem_of_getElem? (i := 1) rfl))
  have f12 := (E0.wr W11)
  have f13 := (F0.other W11 (Or.inl (Exa.neArv E0 AT (oW hw 62 rfl))))
  have f14 := (F1.other W11 (Or.inl (Exa.neArv E0 AT (oW hw 62 rfl))))
  have f15 := (F2.other W11 (Or.inl (Exa.neArv E0 AT (oW hw 62 rfl))))
  have f16 := (F3.other W11 (Or.inl (Exa.neArv E0 AT (oW hw 62 rfl))))
  have f17 := (F4.other W11 (Or.inl (Exa.neArv E0 AT (oW hw 62 rfl))))
  have f19 := (AP.other W11 (Ne.symm bp))
  have f20 : Arv Z h11 b kb .int (16 : Int32) ((tb.set (own_fnd tb x1) x1).map Value.int) (.int 0) := own_set q10a q10b q10c q10d q10e q10f W11 (own_ofn (own_flt H (by omega) _)) (own_fln H (by omega) _)
  refine own_st (T11.setTop (mkF m 42 La45 [])) st11 ?_
  refine oaloadN X11 hx hby od22_42 rfl (by rfl) 43 rfl ?_
  refine odup X11 hx hby od22_43 rfl (by rfl) 44 rfl ?_
  refine ogetF X11 hx hZ hown (host := "") (Or.inl (oW hw 120 rfl)) Via.refl e11 f14 rfl hby od22_44 47 rfl fun T21 X21 e21 => ?_
  refine oiconst X21 hx hby od22_47 (1 : Int32) rfl 48 rfl ?_
  refine oiadd X21 hx hby od22_48 rfl _ rfl 49 rfl ?_
  obtain ⟨T22, h22, X22, e22, W22, st22⟩ := putF X21 hx hZ hown (host := "") (Or.inl (oW hw 120 rfl)) Via.refl e21 f14 f12 (Or.inl (oW hw 121 rfl)) (oW hw 62 rfl) (ty := .int) (by decide) (by rfl) (by rfl) (g := (mkF m 49 La45 [(.int (sz + (1 : Int32))), (.ref o)])) rfl rfl (hb hby od22_49)
  have N22 := Fr.snoc X22 N11 g0
  have O22 := O11.wr W22 g0
  have K22 := K11.wr W22 (Or.inl (List.mem_of_getElem? (i := 0) rfl))
  have f23 := (f12.wr W22)
  have f24 := (f13.other W22 (Or.inr (slot_ne (Or.inl (oW hw 70 rfl)) (Or.inl (oW hw 121 rfl)) (by decide) (t := (.array .int)) (t' := .int) (by decide) (by decide))))
  have f26 := (f15.other W22 (Or.inr (slot_ne (Or.inl (oW hw 72 rfl)) (Or.inl (oW hw 121 rfl)) (by decide) (t := (.array .int)) (t' := .int) (by decide) (by decide))))
  have f27 := (f16.other W22 (Or.inr (slot_ne (Or.inl (oW hw 81 rfl)) (Or.inl (oW hw 121 rfl)) (by decide) (t := .int) (t' := .int) (by decide) (by decide))))
  have f28 := (f17.other W22 (Or.inr (slot_ne (Or.inr (oW hw 74 rfl)) (Or.inl (oW hw 121 rfl)) (by decide) (t := .int) (t' := .int) (by decide) (by decide))))
  have f29 := (f20.other W22 (Ne.symm (Exa.neArv f12 f20 (oW hw 62 rfl))))
  have f30 := (f19.other W22 (Ne.symm (Exa.neArv f12 f19 (oW hw 62 rfl))))
  have f31 := (f14.same W22)
  refine own_st (T22.setTop (mkF m 52 La45 [])) st22 ?_
  refine oaloadN X22 hx hby od22_52 rfl (by rfl) 53 rfl ?_
  refine ogetF X22 hx hZ hown (host := "") (Or.inl (oW hw 120 rfl)) Via.refl e22 f31 rfl hby od22_53 56 rfl fun T32 X32 e32 => ?_
  refine oaloadN X32 hx hby od22_56 rfl (by rfl) 57 rfl ?_
  refine ogetF X32 hx hZ hown (host := "") (Or.inl (oW hw 69 rfl)) Via.refl e32 f24 rfl hby od22_57 60 rfl fun T33 X33 e33 => ?_
  obtain ⟨cl34, q34a, q34b, q34c, q34d, q34e, q34f⟩ := id f29
  refine own_st (T33.setTop (mkF m 61 La45 [(.int 16), (.int (sz + (1 : Int32)))])) (fun tq kq => X33.arraylength hx (by rw [e33]; exact q34a.1) (State.isArrayOf_alike hZ.alike q34a.2.1) (g := (mkF m 60 La45 [(.ref b), (.int (sz + (1 : Int32)))])) rfl rfl (hb hby od22_60) tq (by rw [len_of q34c q34d]; exact kq)) ?_
  refine oiconst X33 hx hby od22_61 (2 : Int32) rfl 62 rfl ?_
  refine own_st (T33.setTop (mkF m 63 La45 [(.int 8), (.int (sz + (1 : Int32)))])) (fun tq kq => XS.idiv X33.here hx rfl (hb hby od22_62) rfl (by decide) kq) ?_
  refine oicmpYes X33 hx hby od22_63 rfl (flt ((OwnSz.no (OwnSz.up hz (by omega)) (by omega)) : ¬ ((8 : Int32) < (sz + (1 : Int32))))).2.2.2 70 (by decide) (by decide) ?_
  have f35 : Arv Z h22 b kb .int (16 : Int32) ((own_ins tb x1).map Value.int) (.int 0) := (own_insT c32_8) ▸ f29
  let La46 : Array Slot := #[rv o, .val (.int 2), .val (.int x1), .val (.int (Int32.ofNat (own_fnd tb x1)))]
  refine oiinc X33 hx hby od22_70 rfl (L' := La46) rfl 73 rfl ?_
  refine ogoto X33 hx hby od22_73 2 (by decide) (by decide) ?_
  refine own_goM (fun v h L q => ⟨q.1, q.2.1, q.2.2.1, q.2.2.2.1, q.2.2.2.2.1, q.2.2.2.2.2.1, q.2.2.2.2.2.2.1, q.2.2.2.2.2.2.2.1, q.2.2.2.2.2.2.2.2.elim fun sz' q' => ⟨sz', q'.1, OwnSz.mono q'.2 (by simp only [List.length_append, List.length_cons, List.length_nil]; omega)⟩⟩) (own_setL_3_3_2 l Z a0 hw o b pb kb kp (own_ins tb x1) (hs ++ [x1]) (sz + (1 : Int32)) mp x0 x1 x2 p e s m below meth c _ _ h0 _ _ _ _ hx hby hml hown hret hlk hZ e33 X33 N22 O22 K22 f23 g0 gb bp f24 f31 f26 f27 f28 f35 f30 (OwnHold.ins H (by omega) nx1) (by simp only [List.length_append, List.length_cons, List.length_nil]; omega) (OwnSz.mono (OwnSz.up hz (by omega)) (by simp only [List.length_append, List.length_cons, List.length_nil]; omega)) nx0 nx1 nx2)
 ·
  refine oifYes X6 hx hby od22_32 rfl ((if0 _ _).trans (feq c32_8).2) 70 (by decide) (by decide) ?_
  have f36 : Arv Z h b kb .int (16 : Int32) ((own_ins tb x1).map Value.int) (.int 0) := (own_insF c32_8) ▸ AT
  let La47 : Array Slot := #[rv o, .val (.int 2), .val (.int x1), .val (.int (Int32.ofNat (own_fnd tb x1)))]
  refine oiinc X6 hx hby od22_70 rfl (L' := La47) rfl 73 rfl ?_
  refine ogoto X6 hx hby od22_73 2 (by decide) (by decide) ?_
  refine own_goM (fun v h L q => ⟨q.1, q.2.1, q.2.2.1, q.2.2.2.1, q.2.2.2.2.1, q.2.2.2.2.2.1, q.2.2.2.2.2.2.1, q.2.2.2.2.2.2.2.1, q.2.2.2.2.2.2.2.2.elim fun sz' q' => ⟨sz', q'.1, OwnSz.mono q'.2 (by simp only [List.length_append, List.length_cons, List.length_nil]; omega)⟩⟩) (own_setL_3_3_2 l Z a0 hw o b pb kb kp (own_ins tb x1) (hs ++ [x1]) sz mp x0 x1 x2 p e s m below meth c _ _ h0 _ _ _ _ hx hby hml hown hret hlk hZ e6 X6 N5 O0 K0 E0 g0 gb bp F0 F1 F2 F3 F4 f36 AP (OwnHold.ins H (by omega) nx1) (by simp only [List.length_append, List.length_cons, List.length_nil]; omega) (OwnSz.mono hz (by simp only [List.length_append, List.length_cons, List.length_nil]; omega)) nx0 nx1 nx2)
theorem own_setL_3_3_0 (l : Launch) (Z : State) (a0 : Array Value) (hw : OWS a0 Z) (o b pb : Addr) (kb kp : ClassId) (tb hs : List Int32) (sz mp x0 x1 x2 : Int32) (p : Program) (e : Env) (s : State) (m : MethodId) (below : List Frame) (meth : Method) (c : Code) (T : State) (locs : List Loc) (h0 h : Heap) (args : Array Value) (w2 w3 : Int32) (hx : p.tables.exec = Jvm.exec) (hby : c.code = prog_107_method_7_code) (hml : c.maxLocals = 4) (hown : s.vm.findClass "com/example/rising_block/risingblock/util/StringHashes" = some m.cls) (hret : meth.sig.returnType = none) (hlk : meth.locks = false) (hZ : Z.Warmed39 s.vm) (e0 : T.heap = h)
  (X0 : Stand p l e (oR 2 0 0 29) s m args below meth c T locs 0 0) (N0 : Fr Z.heap.size locs) (O0 : Old Z Z.heap.size h) (K0 : Keep h0 h [o, b]) (E0 : oE7 Z h o) (g0 : Z.heap.size ≤ o) (gb : Z.heap.size ≤ b) (bp : b ≠ pb) (F0 : oF2 Z h o (.ref b)) (F1 : oF3 Z h o (.int sz)) (F2 : oF4 Z h o (.ref pb)) (F3 : oF5 Z h o (.int 3)) (F4 : oF6 Z h o (.int mp)) (AT : Arv Z h b kb .int (16 : Int32) (tb.map Value.int) (.int 0)) (AP : Arv Z h pb kp .int (3 : Int32) [(.int x0), (.int x1), (.int x2)] (.int 0)) (H : OwnHold tb hs) (hl : hs.length < 6) (hz : OwnSz sz hs.length) (nx0 : x0 ≠ 0) (nx1 : x1 ≠ 0) (nx2 : x2 ≠ 0) :
  ownGo p e below (ownQ s (fun v h L => v = none ∧ Fr Z.heap.size L ∧ Keep h0 h [o, b] ∧ oF2 Z h o (.ref b) ∧ oF4 Z h o (.ref pb) ∧ oF5 Z h o (.int 0) ∧ oF6 Z h o (.int mp) ∧ Arv Z h b kb .int (16 : Int32) ((own_ins (own_ins (own_ins tb x0) x1) x2).map Value.int) (.int 0) ∧ ∃ sz' : Int32, oF3 Z h o (.int sz') ∧ OwnSz sz' (hs.length + 3)) 0 0) (T.setTop (mkF m 2 #[.val (.ref o), .val (.int 0), .unset, .unset] [])) := by
 refine oiloadN X0 hx hby od22_2 rfl 3 rfl ?_
 refine oaloadN X0 hx hby od22_3 rfl (by rfl) 4 rfl ?_
 refine ogetF X0 hx hZ hown (host := "") (Or.inl (oW hw 80 rfl)) Via.refl e0 F3 rfl hby od22_4 7 rfl fun T1 X1 e1 => ?_
 refine oicmpNo X1 hx hby od22_7 rfl (tlt ((by decide) : (0 : Int32) < (3 : Int32))).2.1 10 rfl ?_
 refine oaloadN X1 hx hby od22_10 rfl (by rfl) 11 rfl ?_
 refine ogetF X1 hx hZ hown (host := "") (Or.inl (oW hw 71 rfl)) Via.refl e1 F2 rfl hby od22_11 14 rfl fun T2 X2 e2 => ?_
 refine oiloadN X2 hx hby od22_14 rfl 15 rfl ?_
 obtain ⟨cl3, q3a, q3b, q3c, q3d, q3e, q3f⟩ := id AP
 let La48 : Array Slot := #[rv o, .val (.int 0), .unset, .unset]
 refine own_st (T2.setTop (mkF m 16 La48 [(.int x0)])) (fun tq kq => X2.iaload hx (j := (0 : Int32)) (v := (.int x0)) (by rw [e2]; exact q3a.1) (State.isArrayOf_alike hZ.alike q3a.2.1) q3a.2.2 (inb_of q3c ⟨by decide, by decide⟩) (q3e.at (inb_of q3c ⟨by decide, by decide⟩) rfl) (g := (mkF m 15 La48 [(.int 0), (.ref pb)])) rfl rfl (hb hby od22_15) tq kq) ?_
 let La49 : Array Slot := #[rv o, .val (.int 0), .val (.int x0), .unset]
 refine oistoreN X2 hx hby od22_16 rfl (L' := La49) rfl 17 rfl ?_
 refine oaloadN X2 hx hby od22_17 rfl (by rfl) 18 rfl ?_
 refine ogetF X2 hx hZ hown (host := "") (Or.inl (oW hw 69 rfl)) Via.refl e2 F0 rfl hby od22_18 21 rfl fun T4 X4 e4 => ?_
 refine oiloadN X4 hx hby od22_21 rfl 22 rfl ?_
 obtain ⟨v5, T5, L5, X5, q5, st5⟩ := own_callS X4 hx hZ hown (oW hw 111 rfl) (oW hw 112 rfl) (oW hw 63 rfl) (oW hw 113 rfl) (argsL := [(.ref b), (.int x0)]) (own_find l Z a0 hw [] b kb tb x0 h O0 AT (own_fst H (by omega) _)) 0 (by decide) (by decide) (by decide) (by decide) (by decide) e4 (g := (mkF m 22 La49 [(.int x0), (.ref b)])) rfl (by rw [hml]; rfl) [] (lenOf oP76 rfl) rfl (by show 2 * 0 + _ ≤ _; exact Nat.le_of_eq rfl) (hb hby od22_22)
 obtain ⟨rfl, N5q, e5⟩ := q5
 have N5 := Fr.app N0 N5q
 refine own_st (T5.setTop (mkF m 25 La49 [(.int (Int32.ofNat (own_fnd tb x0)))])) st5 ?_
 let La50 : Array Slot := #[rv o, .val (.int 0), .val (.int x0), .val (.int (Int32.ofNat (own_fnd tb x0)))]
 refine oistoreN X5 hx hby od22_25 rfl (L' := La50) rfl 26 rfl ?_
 refine oaloadN X5 hx hby od22_26 rfl (by rfl) 27 rfl ?_
 refine ogetF X5 hx hZ hown (host := "") (Or.inl (oW hw 69 rfl)) Via.refl e5 F0 rfl hby od22_27 30 rfl fun T6 X6 e6 => ?_
 refine oiloadN X6 hx hby od22_30 rfl 31 rfl ?_
 obtain ⟨cl7, q7a, q7b, q7c, q7d, q7e, q7f⟩ := id AT
 refine own_st (T6.setTop (mkF m 32 La50 [(.int (own_g tb (own_fnd tb x0)))])) (fun tq kq => X6.iaload hx (j := (Int32.ofNat (own_fnd tb x0))) (v := (.int (own_g tb (own_fnd tb x0)))) (by rw [e6]; exact q7a.1) (State.isArrayOf_alike hZ.alike q7a.2.1) q7a.2.2 (inb_of q7c (own_ofb (own_flt H (by omega) _))) (q7e.at (inb_of q7c (own_ofb (own_flt H (by omega) _))) (by rw [(own_ofn (own_flt H (by omega) _))]; exact own_gm _ _)) (g := (mkF m 31 La50 [(.int (Int32.ofNat (own_fnd tb x0))), (.ref b)])) rfl rfl (hb hby od22_31) tq kq) ?_
 by_cases c32_8 : (own_g tb (own_fnd tb x0)) = (0 : Int32)
 ·
  refine oifNo X6 hx hby od22_32 rfl ((if0 _ _).trans (teq c32_8).2) 35 rfl ?_
  refine oaloadN X6 hx hby od22_35 rfl (by rfl) 36 rfl ?_
  refine ogetF X6 hx hZ hown (host := "") (Or.inl (oW hw 69 rfl)) Via.refl e6 F0 rfl hby od22_36 39 rfl fun T9 X9 e9 => ?_
  refine oiloadN X9 hx hby od22_39 rfl 40 rfl ?_
  refine oiloadN X9 hx hby od22_40 rfl 41 rfl ?_
  obtain ⟨cl10, q10a, q10b, q10c, q10d, q10e, q10f⟩ := id AT
  obtain ⟨T11, h11, X11, e11, W11, st11⟩ := stI X9 hx hZ e9 q10a (j := (Int32.ofNat (own_fnd tb x0))) (inb_of q10c (own_ofb (own_flt H (by omega) _))) (g := (mkF m 41 La50 [(.int x0), (.int (Int32.ofNat (own_fnd tb x0))), (.ref b)])) rfl rfl (hb hby od22_41)
  have N11 := Fr.snoc X11 N5 gb
  have O11 := O0.wr W11 gb
  have K11 := K0.wr W11 (Or.inl (List.mem_of_getElem? (i := 1) rfl))
  have f12 := (E0.wr W11)
  have f13 := (F0.other W11 (Or.inl (Exa.neArv E0 AT (oW hw 62 rfl))))
  have f14 := (F1.other W11 (Or.inl (Exa.neArv E0 AT (oW hw 62 rfl))))
  have f15 := (F2.other W11 (Or.inl (Exa.neArv E0 AT (oW hw 62 rfl))))
  have f16 := (F3.other W11 (Or.inl (Exa.neArv E0 AT (oW hw 62 rfl))))
  have f17 := (F4.other W11 (Or.inl (Exa.neArv E0 AT (oW hw 62 rfl))))
  have f19 := (AP.other W11 (Ne.symm bp))
  have f20 : Arv Z h11 b kb .int (16 : Int32) ((tb.set (own_fnd tb x0) x0).map Value.int) (.int 0) := own_set q10a q10b q10c q10d q10e q10f W11 (own_ofn (own_flt H (by omega) _)) (own_fln H (by omega) _)
  refine own_st (T11.setTop (mkF m 42 La50 [])) st11 ?_
  refine oaloadN X11 hx hby od22_42 rfl (by rfl) 43 rfl ?_
  refine odup X11 hx hby od22_43 rfl (by rfl) 44 rfl ?_
  refine ogetF X11 hx hZ hown (host := "") (Or.inl (oW hw 120 rfl)) Via.refl e11 f14 rfl hby od22_44 47 rfl fun T21 X21 e21 => ?_
  refine oiconst X21 hx hby od22_47 (1 : Int32) rfl 48 rfl ?_
  refine oiadd X21 hx hby od22_48 rfl _ rfl 49 rfl ?_
  obtain ⟨T22, h22, X22, e22, W22, st22⟩ := putF X21 hx hZ hown (host := "") (Or.inl (oW hw 120 rfl)) Via.refl e21 f14 f12 (Or.inl (oW hw 121 rfl)) (oW hw 62 rfl) (ty := .int) (by decide) (by rfl) (by rfl) (g := (mkF m 49 La50 [(.int (sz + (1 : Int32))), (.ref o)])) rfl rfl (hb hby od22_49)
  have N22 := Fr.snoc X22 N11 g0
  have O22 := O11.wr W22 g0
  have K22 := K11.wr W22 (Or.inl (List.mem_of_getElem? (i := 0) rfl))
  have f23 := (f12.wr W22)
  have f24 := (f13.other W22 (Or.inr (slot_ne (Or.inl (oW hw 70 rfl)) (Or.inl (oW hw 121 rfl)) (by decide) (t := (.array .int)) (t' := .int) (by decide) (by decide))))
  have f26 := (f15.other W22 (Or.inr (slot_ne (Or.inl (oW hw 72 rfl)) (Or.inl (oW hw 121 rfl)) (by decide) (t := (.array .int)) (t' := .int) (by decide) (by decide))))
  have f27 := (f16.other W22 (Or.inr (slot_ne (Or.inl (oW hw 81 rfl)) (Or.inl (oW hw 121 rfl)) (by decide) (t := .int) (t' := .int) (by decide) (by decide))))
  have f28 := (f17.other W22 (Or.inr (slot_ne (Or.inr (oW hw 74 rfl)) (Or.inl (oW hw 121 rfl)) (by decide) (t := .int) (t' := .int) (by decide) (by decide))))
  have f29 := (f20.other W22 (Ne.symm (Exa.neArv f12 f20 (oW hw 62 rfl))))
  have f30 := (f19.other W22 (Ne.symm (Exa.neArv f12 f19 (oW hw 62 rfl))))
  have f31 := (f14.same W22)
  refine own_st (T22.setTop (mkF m 52 La50 [])) st22 ?_
  refine oaloadN X22 hx hby od22_52 rfl (by rfl) 53 rfl ?_
  refine ogetF X22 hx hZ hown (host := "") (Or.inl (oW hw 120 rfl)) Via.refl e22 f31 rfl hby od22_53 56 rfl fun T32 X32 e32 => ?_
  refine oaloadN X32 hx hby od22_56 rfl (by rfl) 57 rfl ?_
  refine ogetF X32 hx hZ hown (host := "") (Or.inl (oW hw 69 rfl)) Via.refl e32 f24 rfl hby od22_57 60 rfl fun T33 X33 e33 => ?_
  obtain ⟨cl34, q34a, q34b, q34c, q34d, q34e, q34f⟩ := id f29
  refine own_st (T33.setTop (mkF m 61 La50 [(.int 16), (.int (sz + (1 : Int32)))])) (fun tq kq => X33.arraylength hx (by rw [e33]; exact q34a.1) (State.isArrayOf_alike hZ.alike q34a.2.1) (g := (mkF m 60 La50 [(.ref b), (.int (sz + (1 : Int32)))])) rfl rfl (hb hby od22_60) tq (by rw [len_of q34c q34d]; exact kq)) ?_
  refine oiconst X33 hx hby od22_61 (2 : Int32) rfl 62 rfl ?_
  refine own_st (T33.setTop (mkF m 63 La50 [(.int 8), (.int (sz + (1 : Int32)))])) (fun tq kq => XS.idiv X33.here hx rfl (hb hby od22_62) rfl (by decide) kq) ?_
  refine oicmpYes X33 hx hby od22_63 rfl (flt ((OwnSz.no (OwnSz.up hz (by omega)) (by omega)) : ¬ ((8 : Int32) < (sz + (1 : Int32))))).2.2.2 70 (by decide) (by decide) ?_
  have f35 : Arv Z h22 b kb .int (16 : Int32) ((own_ins tb x0).map Value.int) (.int 0) := (own_insT c32_8) ▸ f29
  let La51 : Array Slot := #[rv o, .val (.int 1), .val (.int x0), .val (.int (Int32.ofNat (own_fnd tb x0)))]
  refine oiinc X33 hx hby od22_70 rfl (L' := La51) rfl 73 rfl ?_
  refine ogoto X33 hx hby od22_73 2 (by decide) (by decide) ?_
  refine own_goM (fun v h L q => ⟨q.1, q.2.1, q.2.2.1, q.2.2.2.1, q.2.2.2.2.1, q.2.2.2.2.2.1, q.2.2.2.2.2.2.1, q.2.2.2.2.2.2.2.1, q.2.2.2.2.2.2.2.2.elim fun sz' q' => ⟨sz', q'.1, OwnSz.mono q'.2 (by simp only [List.length_append, List.length_cons, List.length_nil]; omega)⟩⟩) (own_setL_3_3_1 l Z a0 hw o b pb kb kp (own_ins tb x0) (hs ++ [x0]) (sz + (1 : Int32)) mp x0 x1 x2 p e s m below meth c _ _ h0 _ _ _ _ hx hby hml hown hret hlk hZ e33 X33 N22 O22 K22 f23 g0 gb bp f24 f31 f26 f27 f28 f35 f30 (OwnHold.ins H (by omega) nx0) (by simp only [List.length_append, List.length_cons, List.length_nil]; omega) (OwnSz.mono (OwnSz.up hz (by omega)) (by simp only [List.length_append, List.length_cons, List.length_nil]; omega)) nx0 nx1 nx2)
 ·
  refine oifYes X6 hx hby od22_32 rfl ((if0 _ _).trans (feq c32_8).2) 70 (by decide) (by decide) ?_
  have f36 : Arv Z h b kb .int (16 : Int32) ((own_ins tb x0).map Value.int) (.int 0) := (own_insF c32_8) ▸ AT
  let La52 : Array Slot := #[rv o, .val (.int 1), .val (.int x0), .val (.int (Int32.ofNat (own_fnd tb x0)))]
  refine oiinc X6 hx hby od22_70 rfl (L' := La52) rfl 73 rfl ?_
  refine ogoto X6 hx hby od22_73 2 (by decide) (by decide) ?_
  refine own_goM (fun v h L q => ⟨q.1, q.2.1, q.2.2.1, q.2.2.2.1, q.2.2.2.2.1, q.2.2.2.2.2.1, q.2.2.2.2.2.2.1, q.2.2.2.2.2.2.2.1, q.2.2.2.2.2.2.2.2.elim fun sz' q' => ⟨sz', q'.1, OwnSz.mono q'.2 (by simp only [List.length_append, List.length_cons, List.length_nil]; omega)⟩⟩) (own_setL_3_3_1 l Z a0 hw o b pb kb kp (own_ins tb x0) (hs ++ [x0]) sz mp x0 x1 x2 p e s m below meth c _ _ h0 _ _ _ _ hx hby hml hown hret hlk hZ e6 X6 N5 O0 K0 E0 g0 gb bp F0 F1 F2 F3 F4 f36 AP (OwnHold.ins H (by omega) nx0) (by simp only [List.length_append, List.length_cons, List.length_nil]; omega) (OwnSz.mono hz (by simp only [List.length_append, List.length_cons, List.length_nil]; omega)) nx0 nx1 nx2)
theorem own_settle_3_3 (l : Launch) (Z : State) (a0 : Array Value) (hw : OWS a0 Z) (ws : List Jvm.Cond) (o b pb : Addr) (kb kp : ClassId) (tb hs : List Int32) (sz mp x0 x1 x2 : Int32) (h0 : Heap) (O0 : Old Z Z.heap.size h0) (E0 : oE7 Z h0 o) (g0 : Z.heap.size ≤ o) (gb : Z.heap.size ≤ b) (bp : b ≠ pb) (F0 : oF2 Z h0 o (.ref b)) (F1 : oF3 Z h0 o (.int sz)) (F2 : oF4 Z h0 o (.ref pb)) (F3 : oF5 Z h0 o (.int 3)) (F4 : oF6 Z h0 o (.int mp)) (AT : Arv Z h0 b kb .int (16 : Int32) (tb.map Value.int) (.int 0)) (AP : Arv Z h0 pb kp .int (3 : Int32) [(.int x0), (.int x1), (.int x2)] (.int 0)) (H : OwnHold tb hs) (hl : hs.length < 6) (hz : OwnSz sz hs.length) (nx0 : x0 ≠ 0) (nx1 : x1 ≠ 0) (nx2 : x2 ≠ 0) :
  ownMet l oM8 prog_107_method_7_code 4 none ws (oR 2 0 0 29) Z #[(.ref o)] h0 (fun v h L => v = none ∧ Fr Z.heap.size L ∧ Keep h0 h [o, b] ∧ oF2 Z h o (.ref b) ∧ oF4 Z h o (.ref pb) ∧ oF5 Z h o (.int 0) ∧ oF6 Z h o (.int mp) ∧ Arv Z h b kb .int (16 : Int32) ((own_ins (own_ins (own_ins tb x0) x1) x2).map Value.int) (.int 0) ∧ ∃ sz' : Int32, oF3 Z h o (.int sz') ∧ OwnSz sz' (hs.length + 3)) := by
 refine own_met (plainFor_of_name oP59) ?_
 intro p e s m below meth c s₁ hx hby hml hown hnm hret hlk hZ e0 X0
 refine own_cast (show _ = (mkF m 0 #[.val (.ref o), .unset, .unset, .unset] []) by first | (simp [entryFrame, mkF, argsToLocals, Value.category]; done) | rfl) ?_
 refine oiconst X0 hx hby od22_0 (0 : Int32) rfl 1 rfl ?_
 let La53 : Array Slot := #[rv o, .val (.int 0), .unset, .unset]
 refine oistoreN X0 hx hby od22_1 rfl (L' := La53) rfl 2 rfl ?_
 exact own_setL_3_3_0 l Z a0 hw o b pb kb kp tb hs sz mp x0 x1 x2 p e s m below meth c _ _ h0 _ _ 0 0 hx hby hml hown hret hlk hZ e0 X0 (Fr.nil _) O0 (Keep.refl h0 [o, b]) E0 g0 gb bp F0 F1 F2 F3 F4 AT AP H hl hz nx0 nx1 nx2
theorem own_setL_4_3_3 (l : Launch) (Z : State) (a0 : Array Value) (hw : OWS a0 Z) (o b pb : Addr) (kb kp : ClassId) (tb hs : List Int32) (sz mp x0 x1 x2 x3 : Int32) (p : Program) (e : Env) (s : State) (m : MethodId) (below : List Frame) (meth : Method) (c : Code) (T : State) (locs : List Loc) (h0 h : Heap) (args : Array Value) (w2 w3 : Int32) (hx : p.tables.exec = Jvm.exec) (hby : c.code = prog_107_method_7_code) (hml : c.maxLocals = 4) (hown : s.vm.findClass "com/example/rising_block/risingblock/util/StringHashes" = some m.cls) (hret : meth.sig.returnType = none) (hlk : meth.locks = false) (hZ : Z.Warmed39 s.vm) (e0 : T.heap = h)
  (X0 : Stand p l e (oR 2 0 0 29) s m args below meth c T locs 0 0) (N0 : Fr Z.heap.size locs) (O0 : Old Z Z.heap.size h) (K0 : Keep h0 h [o, b]) (E0 : oE7 Z h o) (g0 : Z.heap.size ≤ o) (gb : Z.heap.size ≤ b) (bp : b ≠ pb) (F0 : oF2 Z h o (.ref b)) (F1 : oF3 Z h o (.int sz)) (F2 : oF4 Z h o (.ref pb)) (F3 : oF5 Z h o (.int 3)) (F4 : oF6 Z h o (.int mp)) (AT : Arv Z h b kb .int (16 : Int32) (tb.map Value.int) (.int 0)) (AP : Arv Z h pb kp .int (4 : Int32) [(.int x0), (.int x1), (.int x2), (.int x3)] (.int 0)) (H : OwnHold tb hs) (hl : hs.length < 9) (hz : OwnSz sz hs.length) (nx0 : x0 ≠ 0) (nx1 : x1 ≠ 0) (nx2 : x2 ≠ 0) :
  ownGo p e below (ownQ s (fun v h L => v = none ∧ Fr Z.heap.size L ∧ Keep h0 h [o, b] ∧ oF2 Z h o (.ref b) ∧ oF4 Z h o (.ref pb) ∧ oF5 Z h o (.int 0) ∧ oF6 Z h o (.int mp) ∧ Arv Z h b kb .int (16 : Int32) (tb.map Value.int) (.int 0) ∧ ∃ sz' : Int32, oF3 Z h o (.int sz') ∧ OwnSz sz' (hs.length + 0)) 0 0) (T.setTop (mkF m 2 #[.val (.ref o), .val (.int 3), .val (.int w2), .val (.int w3)] [])) := by
 refine oiloadN X0 hx hby od22_2 rfl 3 rfl ?_
 refine oaloadN X0 hx hby od22_3 rfl (by rfl) 4 rfl ?_
 refine ogetF X0 hx hZ hown (host := "") (Or.inl (oW hw 80 rfl)) Via.refl e0 F3 rfl hby od22_4 7 rfl fun T1 X1 e1 => ?_
 refine oicmpYes X1 hx hby od22_7 rfl (flt ((by decide) : ¬ ((3 : Int32) < (3 : Int32)))).2.1 76 (by decide) (by decide) ?_
 refine oaloadN X1 hx hby od22_76 rfl (by rfl) 77 rfl ?_
 refine oiconst X1 hx hby od22_77 (0 : Int32) rfl 78 rfl ?_
 let La54 : Array Slot := #[rv o, .val (.int 3), .val (.int w2), .val (.int w3)]
 obtain ⟨T2, h2, X2, e2, W2, st2⟩ := putF X1 hx hZ hown (host := "") (Or.inl (oW hw 80 rfl)) Via.refl e1 F3 E0 (Or.inl (oW hw 81 rfl)) (oW hw 62 rfl) (ty := .int) (by decide) (by rfl) (by rfl) (g := (mkF m 78 La54 [(.int 0), (.ref o)])) rfl rfl (hb hby od22_78)
 have N2 := Fr.snoc X2 N0 g0
 have O2 := O0.wr W2 g0
 have K2 := K0.wr W2 (Or.inl (List.mem_of_getElem? (i := 0) rfl))
 have f3 := (E0.wr W2)
 have f4 := (F0.other W2 (Or.inr (slot_ne (Or.inl (oW hw 70 rfl)) (Or.inl (oW hw 81 rfl)) (by decide) (t := (.array .int)) (t' := .int) (by decide) (by decide))))
 have f5 := (F1.other W2 (Or.inr (slot_ne (Or.inl (oW hw 121 rfl)) (Or.inl (oW hw 81 rfl)) (by decide) (t := .int) (t' := .int) (by decide) (by decide))))
 have f6 := (F2.other W2 (Or.inr (slot_ne (Or.inl (oW hw 72 rfl)) (Or.inl (oW hw 81 rfl)) (by decide) (t := (.array .int)) (t' := .int) (by decide) (by decide))))
 have f8 := (F4.other W2 (Or.inr (slot_ne (Or.inr (oW hw 74 rfl)) (Or.inl (oW hw 81 rfl)) (by decide) (t := .int) (t' := .int) (by decide) (by decide))))
 have f9 := (AT.other W2 (Ne.symm (Exa.neArv E0 AT (oW hw 62 rfl))))
 have f10 := (AP.other W2 (Ne.symm (Exa.neArv E0 AP (oW hw 62 rfl))))
 have f11 := (F3.same W2)
 refine own_st (T2.setTop (mkF m 81 La54 [])) st2 ?_
 exact own_ret X2 hlk (v := none) (fun _ => rfl) e2 (⟨rfl, N2, K2, f4, f6, f11, f8, f9, _, f5, OwnSz.mono hz (by omega)⟩) (by decide) (by decide) (fun fs hr => X2.returnOut hx hret (hb hby od22_81) hr)
theorem own_setL_4_3_2 (l : Launch) (Z : State) (a0 : Array Value) (hw : OWS a0 Z) (o b pb : Addr) (kb kp : ClassId) (tb hs : List Int32) (sz mp x0 x1 x2 x3 : Int32) (p : Program) (e : Env) (s : State) (m : MethodId) (below : List Frame) (meth : Method) (c : Code) (T : State) (locs : List Loc) (h0 h : Heap) (args : Array Value) (w2 w3 : Int32) (hx : p.tables.exec = Jvm.exec) (hby : c.code = prog_107_method_7_code) (hml : c.maxLocals = 4) (hown : s.vm.findClass "com/example/rising_block/risingblock/util/StringHashes" = some m.cls) (hret : meth.sig.returnType = none) (hlk : meth.locks = false) (hZ : Z.Warmed39 s.vm) (e0 : T.heap = h)
  (X0 : Stand p l e (oR 2 0 0 29) s m args below meth c T locs 0 0) (N0 : Fr Z.heap.size locs) (O0 : Old Z Z.heap.size h) (K0 : Keep h0 h [o, b]) (E0 : oE7 Z h o) (g0 : Z.heap.size ≤ o) (gb : Z.heap.size ≤ b) (bp : b ≠ pb) (F0 : oF2 Z h o (.ref b)) (F1 : oF3 Z h o (.int sz)) (F2 : oF4 Z h o (.ref pb)) (F3 : oF5 Z h o (.int 3)) (F4 : oF6 Z h o (.int mp)) (AT : Arv Z h b kb .int (16 : Int32) (tb.map Value.int) (.int 0)) (AP : Arv Z h pb kp .int (4 : Int32) [(.int x0), (.int x1), (.int x2), (.int x3)] (.int 0)) (H : OwnHold tb hs) (hl : hs.length < 8) (hz : OwnSz sz hs.length) (nx0 : x0 ≠ 0) (nx1 : x1 ≠ 0) (nx2 : x2 ≠ 0) :
  ownGo p e below (ownQ s (fun v h L => v = none ∧ Fr Z.heap.size L ∧ Keep h0 h [o, b] ∧ oF2 Z h o (.ref b) ∧ oF4 Z h o (.ref pb) ∧ oF5 Z h o (.int 0) ∧ oF6 Z h o (.int mp) ∧ Arv Z h b kb .int (16 : Int32) ((own_ins tb x2).map Value.int) (.int 0) ∧ ∃ sz' : Int32, oF3 Z h o (.int sz') ∧ OwnSz sz' (hs.length + 1)) 0 0) (T.setTop (mkF m 2 #[.val (.ref o), .val (.int 2), .val (.int w2), .val (.int w3)] [])) := by
 refine oiloadN X0 hx hby od22_2 rfl 3 rfl ?_
 refine oaloadN X0 hx hby od22_3 rfl (by rfl) 4 rfl ?_
 refine ogetF X0 hx hZ hown (host := "") (Or.inl (oW hw 80 rfl)) Via.refl e0 F3 rfl hby od22_4 7 rfl fun T1 X1 e1 => ?_
 refine oicmpNo X1 hx hby od22_7 rfl (tlt ((by decide) : (2 : Int32) < (3 : Int32))).2.1 10 rfl ?_
 refine oaloadN X1 hx hby od22_10 rfl (by rfl) 11 rfl ?_
 refine ogetF X1 hx hZ hown (host := "") (Or.inl (oW hw 71 rfl)) Via.refl e1 F2 rfl hby od22_11 14 rfl fun T2 X2 e2 => ?_
 refine oiloadN X2 hx hby od22_14 rfl 15 rfl ?_
 obtain ⟨cl3, q3a, q3b, q3c, q3d, q3e, q3f⟩ := id AP
 let La55 : Array Slot := #[rv o, .val (.int 2), .val (.int w2), .val (.int w3)]
 refine own_st (T2.setTop (mkF m 16 La55 [(.int x2)])) (fun tq kq => X2.iaload hx (j := (2 : Int32)) (v := (.int x2)) (by rw [e2]; exact q3a.1) (State.isArrayOf_alike hZ.alike q3a.2.1) q3a.2.2 (inb_of q3c ⟨by decide, by decide⟩) (q3e.at (inb_of q3c ⟨by decide, by decide⟩) rfl) (g := (mkF m 15 La55 [(.int 2), (.ref pb)])) rfl rfl (hb hby od22_15) tq kq) ?_
 let La56 : Array Slot := #[rv o, .val (.int 2), .val (.int x2), .val (.int w3)]
 refine oistoreN X2 hx hby od22_16 rfl (L' := La56) rfl 17 rfl ?_
 refine oaloadN X2 hx hby od22_17 rfl (by rfl) 18 rfl ?_
 refine ogetF X2 hx hZ hown (host := "") (Or.inl (oW hw 69 rfl)) Via.refl e2 F0 rfl hby od22_18 21 rfl fun T4 X4 e4 => ?_
 refine oiloadN X4 hx hby od22_21 rfl 22 rfl ?_
 obtain ⟨v5, T5, L5, X5, q5, st5⟩ := own_callS X4 hx hZ hown (oW hw 111 rfl) (oW hw 112 rfl) (oW hw 63 rfl) (oW hw 113 rfl) (argsL := [(.ref b), (.int x2)]) (own_find l Z a0 hw [] b kb tb x2 h O0 AT (own_fst H (by omega) _)) 0 (by decide) (by decide) (by decide) (by decide) (by decide) e4 (g := (mkF m 22 La56 [(.int x2), (.ref b)])) rfl (by rw [hml]; rfl) [] (lenOf oP76 rfl) rfl (by show 2 * 0 + _ ≤ _; exact Nat.le_of_eq rfl) (hb hby od22_22)
 obtain ⟨rfl, N5q, e5⟩ := q5
 have N5 := Fr.app N0 N5q
 refine own_st (T5.setTop (mkF m 25 La56 [(.int (Int32.ofNat (own_fnd tb x2)))])) st5 ?_
 let La57 : Array Slot := #[rv o, .val (.int 2), .val (.int x2), .val (.int (Int32.ofNat (own_fnd tb x2)))]
 refine oistoreN X5 hx hby od22_25 rfl (L' := La57) rfl 26 rfl ?_
 refine oaloadN X5 hx hby od22_26 rfl (by rfl) 27 rfl ?_
 refine ogetF X5 hx hZ hown (host := "") (Or.inl (oW hw 69 rfl)) Via.refl e5 F0 rfl hby od22_27 30 rfl fun T6 X6 e6 => ?_
 refine oiloadN X6 hx hby od22_30 rfl 31 rfl ?_
 obtain ⟨cl7, q7a, q7b, q7c, q7d, q7e, q7f⟩ := id AT
 refine own_st (T6.setTop (mkF m 32 La57 [(.int (own_g tb (own_fnd tb x2)))])) (fun tq kq => X6.iaload hx (j := (Int32.ofNat (own_fnd tb x2))) (v := (.int (own_g tb (own_fnd tb x2)))) (by rw [e6]; exact q7a.1) (State.isArrayOf_alike hZ.alike q7a.2.1) q7a.2.2 (inb_of q7c (own_ofb (own_flt H (by omega) _))) (q7e.at (inb_of q7c (own_ofb (own_flt H (by omega) _))) (by rw [(own_ofn (own_flt H (by omega) _))]; exact own_gm _ _)) (g := (mkF m 31 La57 [(.int (Int32.ofNat (own_fnd tb x2))), (.ref b)])) rfl rfl (hb hby od22_31) tq kq) ?_
 by_cases c32_8 : (own_g tb (own_fnd tb x2)) = (0 : Int32)
 ·
  refine oifNo X6 hx hby od22_32 rfl ((if0 _ _).trans (teq c32_8).2) 35 rfl ?_
  refine oaloadN X6 hx hby od22_35 rfl (by rfl) 36 rfl ?_
  refine ogetF X6 hx hZ hown (host := "") (Or.inl (oW hw 69 rfl)) Via.refl e6 F0 rfl hby od22_36 39 rfl fun T9 X9 e9 => ?_
  refine oiloadN X9 hx hby od22_39 rfl 40 rfl ?_
  refine oiloadN X9 hx hby od22_40 rfl 41 rfl ?_
  obtain ⟨cl10, q10a, q10b, q10c, q10d, q10e, q10f⟩ := id AT
  obtain ⟨T11, h11, X11, e11, W11, st11⟩ := stI X9 hx hZ e9 q10a (j := (Int32.ofNat (own_fnd tb x2))) (inb_of q10c (own_ofb (own_flt H (by omega) _))) (g := (mkF m 41 La57 [(.int x2), (.int (Int32.ofNat (own_fnd tb x2))), (.ref b)])) rfl rfl (hb hby od22_41)
  have N11 := Fr.snoc X11 N5 gb
  have O11 := O0.wr W11 gb
  have K11 := K0.wr W11 (Or.inl (List.mem_of_getElem? (i := 1) rfl))
  have f12 := (E0.wr W11)
  have f13 := (F0.other W11 (Or.inl (Exa.neArv E0 AT (oW hw 62 rfl))))
  have f14 := (F1.other W11 (Or.inl (Exa.neArv E0 AT (oW hw 62 rfl))))
  have f15 := (F2.other W11 (Or.inl (Exa.neArv E0 AT (oW hw 62 rfl))))
  have f16 := (F3.other W11 (Or.inl (Exa.neArv E0 AT (oW hw 62 rfl))))
  have f17 := (F4.other W11 (Or.inl (Exa.neArv E0 AT (oW hw 62 rfl))))
  have f19 := (AP.other W11 (Ne.symm bp))
  have f20 : Arv Z h11 b kb .int (16 : Int32) ((tb.set (own_fnd tb x2) x2).map Value.int) (.int 0) := own_set q10a q10b q10c q10d q10e q10f W11 (own_ofn (own_flt H (by omega) _)) (own_fln H (by omega) _)
  refine own_st (T11.setTop (mkF m 42 La57 [])) st11 ?_
  refine oaloadN X11 hx hby od22_42 rfl (by rfl) 43 rfl ?_
  refine odup X11 hx hby od22_43 rfl (by rfl) 44 rfl ?_
  refine ogetF X11 hx hZ hown (host := "") (Or.inl (oW hw 120 rfl)) Via.refl e11 f14 rfl hby od22_44 47 rfl fun T21 X21 e21 => ?_
  refine oiconst X21 hx hby od22_47 (1 : Int32) rfl 48 rfl ?_
  refine oiadd X21 hx hby od22_48 rfl _ rfl 49 rfl ?_
  obtain ⟨T22, h22, X22, e22, W22, st22⟩ := putF X21 hx hZ hown (host := "") (Or.inl (oW hw 120 rfl)) Via.refl e21 f14 f12 (Or.inl (oW hw 121 rfl)) (oW hw 62 rfl) (ty := .int) (by decide) (by rfl) (by rfl) (g := (mkF m 49 La57 [(.int (sz + (1 : Int32))), (.ref o)])) rfl rfl (hb hby od22_49)
  have N22 := Fr.snoc X22 N11 g0
  have O22 := O11.wr W22 g0
  have K22 := K11.wr W22 (Or.inl (List.mem_of_getElem? (i := 0) rfl))
  have f23 := (f12.wr W22)
  have f24 := (f13.other W22 (Or.inr (slot_ne (Or.inl (oW hw 70 rfl)) (Or.inl (oW hw 121 rfl)) (by decide) (t := (.array .int)) (t' := .int) (by decide) (by decide))))
  have f26 := (f15.other W22 (Or.inr (slot_ne (Or.inl (oW hw 72 rfl)) (Or.inl (oW hw 121 rfl)) (by decide) (t := (.array .int)) (t' := .int) (by decide) (by decide))))
  have f27 := (f16.other W22 (Or.inr (slot_ne (Or.inl (oW hw 81 rfl)) (Or.inl (oW hw 121 rfl)) (by decide) (t := .int) (t' := .int) (by decide) (by decide))))
  have f28 := (f17.other W22 (Or.inr (slot_ne (Or.inr (oW hw 74 rfl)) (Or.inl (oW hw 121 rfl)) (by decide) (t := .int) (t' := .int) (by decide) (by decide))))
  have f29 := (f20.other W22 (Ne.symm (Exa.neArv f12 f20 (oW hw 62 rfl))))
  have f30 := (f19.other W22 (Ne.symm (Exa.neArv f12 f19 (oW hw 62 rfl))))
  have f31 := (f14.same W22)
  refine own_st (T22.setTop (mkF m 52 La57 [])) st22 ?_
  refine oaloadN X22 hx hby od22_52 rfl (by rfl) 53 rfl ?_
  refine ogetF X22 hx hZ hown (host := "") (Or.inl (oW hw 120 rfl)) Via.refl e22 f31 rfl hby od22_53 56 rfl fun T32 X32 e32 => ?_
  refine oaloadN X32 hx hby od22_56 rfl (by rfl) 57 rfl ?_
  refine ogetF X32 hx hZ hown (host := "") (Or.inl (oW hw 69 rfl)) Via.refl e32 f24 rfl hby od22_57 60 rfl fun T33 X33 e33 => ?_
  obtain ⟨cl34, q34a, q34b, q34c, q34d, q34e, q34f⟩ := id f29
  refine own_st (T33.setTop (mkF m 61 La57 [(.int 16), (.int (sz + (1 : Int32)))])) (fun tq kq => X33.arraylength hx (by rw [e33]; exact q34a.1) (State.isArrayOf_alike hZ.alike q34a.2.1) (g := (mkF m 60 La57 [(.ref b), (.int (sz + (1 : Int32)))])) rfl rfl (hb hby od22_60) tq (by rw [len_of q34c q34d]; exact kq)) ?_
  refine oiconst X33 hx hby od22_61 (2 : Int32) rfl 62 rfl ?_
  refine own_st (T33.setTop (mkF m 63 La57 [(.int 8), (.int (sz + (1 : Int32)))])) (fun tq kq => XS.idiv X33.here hx rfl (hb hby od22_62) rfl (by decide) kq) ?_
  refine oicmpYes X33 hx hby od22_63 rfl (flt ((OwnSz.no (OwnSz.up hz (by omega)) (by omega)) : ¬ ((8 : Int32) < (sz + (1 : Int32))))).2.2.2 70 (by decide) (by decide) ?_
  have f35 : Arv Z h22 b kb .int (16 : Int32) ((own_ins tb x2).map Value.int) (.int 0) := (own_insT c32_8) ▸ f29
  let La58 : Array Slot := #[rv o, .val (.int 3), .val (.int x2), .val (.int (Int32.ofNat (own_fnd tb x2)))]
  refine oiinc X33 hx hby od22_70 rfl (L' := La58) rfl 73 rfl ?_
  refine ogoto X33 hx hby od22_73 2 (by decide) (by decide) ?_
  refine own_goM (fun v h L q => ⟨q.1, q.2.1, q.2.2.1, q.2.2.2.1, q.2.2.2.2.1, q.2.2.2.2.2.1, q.2.2.2.2.2.2.1, q.2.2.2.2.2.2.2.1, q.2.2.2.2.2.2.2.2.elim fun sz' q' => ⟨sz', q'.1, OwnSz.mono q'.2 (by simp only [List.length_append, List.length_cons, List.length_nil]; omega)⟩⟩) (own_setL_4_3_3 l Z a0 hw o b pb kb kp (own_ins tb x2) (hs ++ [x2]) (sz + (1 : Int32)) mp x0 x1 x2 x3 p e s m below meth c _ _ h0 _ _ _ _ hx hby hml hown hret hlk hZ e33 X33 N22 O22 K22 f23 g0 gb bp f24 f31 f26 f27 f28 f35 f30 (OwnHold.ins H (by omega) nx2) (by simp only [List.length_append, List.length_cons, List.length_nil]; omega) (OwnSz.mono (OwnSz.up hz (by omega)) (by simp only [List.length_append, List.length_cons, List.length_nil]; omega)) nx0 nx1 nx2)
 ·
  refine oifYes X6 hx hby od22_32 rfl ((if0 _ _).trans (feq c32_8).2) 70 (by decide) (by decide) ?_
  have f36 : Arv Z h b kb .int (16 : Int32) ((own_ins tb x2).map Value.int) (.int 0) := (own_insF c32_8) ▸ AT
  let La59 : Array Slot := #[rv o, .val (.int 3), .val (.int x2), .val (.int (Int32.ofNat (own_fnd tb x2)))]
  refine oiinc X6 hx hby od22_70 rfl (L' := La59) rfl 73 rfl ?_
  refine ogoto X6 hx hby od22_73 2 (by decide) (by decide) ?_
  refine own_goM (fun v h L q => ⟨q.1, q.2.1, q.2.2.1, q.2.2.2.1, q.2.2.2.2.1, q.2.2.2.2.2.1, q.2.2.2.2.2.2.1, q.2.2.2.2.2.2.2.1, q.2.2.2.2.2.2.2.2.elim fun sz' q' => ⟨sz', q'.1, OwnSz.mono q'.2 (by simp only [List.length_append, List.length_cons, List.length_nil]; omega)⟩⟩) (own_setL_4_3_3 l Z a0 hw o b pb kb kp (own_ins tb x2) (hs ++ [x2]) sz mp x0 x1 x2 x3 p e s m below meth c _ _ h0 _ _ _ _ hx hby hml hown hret hlk hZ e6 X6 N5 O0 K0 E0 g0 gb bp F0 F1 F2 F3 F4 f36 AP (OwnHold.ins H (by omega) nx2) (by simp only [List.length_append, List.length_cons, List.length_nil]; omega) (OwnSz.mono hz (by simp only [List.length_append, List.length_cons, List.length_nil]; omega)) nx0 nx1 nx2)
theorem own_setL_4_3_1 (l : Launch) (Z : State) (a0 : Array Value) (hw : OWS a0 Z) (o b pb : Addr) (kb kp : ClassId) (tb hs : List Int32) (sz mp x0 x1 x2 x3 : Int32) (p : Program) (e : Env) (s : State) (m : MethodId) (below : List Frame) (meth : Method) (c : Code) (T : State) (locs : List Loc) (h0 h : Heap) (args : Array Value) (w2 w3 : Int32) (hx : p.tables.exec = Jvm.exec) (hby : c.code = prog_107_method_7_code) (hml : c.maxLocals = 4) (hown : s.vm.findClass "com/example/rising_block/risingblock/util/StringHashes" = some m.cls) (hret : meth.sig.returnType = none) (hlk : meth.locks = false) (hZ : Z.Warmed39 s.vm) (e0 : T.heap = h)
  (X0 : Stand p l e (oR 2 0 0 29) s m args below meth c T locs 0 0) (N0 : Fr Z.heap.size locs) (O0 : Old Z Z.heap.size h) (K0 : Keep h0 h [o, b]) (E0 : oE7 Z h o) (g0 : Z.heap.size ≤ o) (gb : Z.heap.size ≤ b) (bp : b ≠ pb) (F0 : oF2 Z h o (.ref b)) (F1 : oF3 Z h o (.int sz)) (F2 : oF4 Z h o (.ref pb)) (F3 : oF5 Z h o (.int 3)) (F4 : oF6 Z h o (.int mp)) (AT : Arv Z h b kb .int (16 : Int32) (tb.map Value.int) (.int 0)) (AP : Arv Z h pb kp .int (4 : Int32) [(.int x0), (.int x1), (.int x2), (.int x3)] (.int 0)) (H : OwnHold tb hs) (hl : hs.length < 7) (hz : OwnSz sz hs.length) (nx0 : x0 ≠ 0) (nx1 : x1 ≠ 0) (nx2 : x2 ≠ 0) :
  ownGo p e below (ownQ s (fun v h L => v = none ∧ Fr Z.heap.size L ∧ Keep h0 h [o, b] ∧ oF2 Z h o (.ref b) ∧ oF4 Z h o (.ref pb) ∧ oF5 Z h o (.int 0) ∧ oF6 Z h o (.int mp) ∧ Arv Z h b kb .int (16 : Int32) ((own_ins (own_ins tb x1) x2).map Value.int) (.int 0) ∧ ∃ sz' : Int32, oF3 Z h o (.int sz') ∧ OwnSz sz' (hs.length + 2)) 0 0) (T.setTop (mkF m 2 #[.val (.ref o), .val (.int 1), .val (.int w2), .val (.int w3)] [])) := by
 refine oiloadN X0 hx hby od22_2 rfl 3 rfl ?_
 refine oaloadN X0 hx hby od22_3 rfl (by rfl) 4 rfl ?_
 refine ogetF X0 hx hZ hown (host := "") (Or.inl (oW hw 80 rfl)) Via.refl e0 F3 rfl hby od22_4 7 rfl fun T1 X1 e1 => ?_
 refine oicmpNo X1 hx hby od22_7 rfl (tlt ((by decide) : (1 : Int32) < (3 : Int32))).2.1 10 rfl ?_
 refine oaloadN X1 hx hby od22_10 rfl (by rfl) 11 rfl ?_
 refine ogetF X1 hx hZ hown (host := "") (Or.inl (oW hw 71 rfl)) Via.refl e1 F2 rfl hby od22_11 14 rfl fun T2 X2 e2 => ?_
 refine oiloadN X2 hx hby od22_14 rfl 15 rfl ?_
 obtain ⟨cl3, q3a, q3b, q3c, q3d, q3e, q3f⟩ := id AP
 let La60 : Array Slot := #[rv o, .val (.int 1), .val (.int w2), .val (.int w3)]
 refine own_st (T2.setTop (mkF m 16 La60 [(.int x1)])) (fun tq kq => X2.iaload hx (j := (1 : Int32)) (v := (.int x1)) (by rw [e2]; exact q3a.1) (State.isArrayOf_alike hZ.alike q3a.2.1) q3a.2.2 (inb_of q3c ⟨by decide, by decide⟩) (q3e.at (inb_of q3c ⟨by decide, by decide⟩) rfl) (g := (mkF m 15 La60 [(.int 1), (.ref pb)])) rfl rfl (hb hby od22_15) tq kq) ?_
 let La61 : Array Slot := #[rv o, .val (.int 1), .val (.int x1), .val (.int w3)]
 refine oistoreN X2 hx hby od22_16 rfl (L' := La61) rfl 17 rfl ?_
 refine oaloadN X2 hx hby od22_17 rfl (by rfl) 18 rfl ?_
 refine ogetF X2 hx hZ hown (host := "") (Or.inl (oW hw 69 rfl)) Via.refl e2 F0 rfl hby od22_18 21 rfl fun T4 X4 e4 => ?_
 refine oiloadN X4 hx hby od22_21 rfl 22 rfl ?_
 obtain ⟨v5, T5, L5, X5, q5, st5⟩ := own_callS X4 hx hZ hown (oW hw 111 rfl) (oW hw 112 rfl) (oW hw 63 rfl) (oW hw 113 rfl) (argsL := [(.ref b), (.int x1)]) (own_find l Z a0 hw [] b kb tb x1 h O0 AT (own_fst H (by omega) _)) 0 (by decide) (by decide) (by decide) (by decide) (by decide) e4 (g := (mkF m 22 La61 [(.int x1), (.ref b)])) rfl (by rw [hml]; rfl) [] (lenOf oP76 rfl) rfl (by show 2 * 0 + _ ≤ _; exact Nat.le_of_eq rfl) (hb hby od22_22)
 obtain ⟨rfl, N5q, e5⟩ := q5
 have N5 := Fr.app N0 N5q
 refine own_st (T5.setTop (mkF m 25 La61 [(.int (Int32.ofNat (own_fnd tb x1)))])) st5 ?_
 let La62 : Array Slot := #[rv o, .val (.int 1), .val (.int x1), .val (.int (Int32.ofNat (own_fnd tb x1)))]
 refine oistoreN X5 hx hby od22_25 rfl (L' := La62) rfl 26 rfl ?_
 refine oaloadN X5 hx hby od22_26 rfl (by rfl) 27 rfl ?_
 refine ogetF X5 hx hZ hown (host := "") (Or.inl (oW hw 69 rfl)) Via.refl e5 F0 rfl hby od22_27 30 rfl fun T6 X6 e6 => ?_
 refine oiloadN X6 hx hby od22_30 rfl 31 rfl ?_
 obtain ⟨cl7, q7a, q7b, q7c, q7d, q7e, q7f⟩ := id AT
 refine own_st (T6.setTop (mkF m 32 La62 [(.int (own_g tb (own_fnd tb x1)))])) (fun tq kq => X6.iaload hx (j := (Int32.ofNat (own_fnd tb x1))) (v := (.int (own_g tb (own_fnd tb x1)))) (by rw [e6]; exact q7a.1) (State.isArrayOf_alike hZ.alike q7a.2.1) q7a.2.2 (inb_of q7c (own_ofb (own_flt H (by omega) _))) (q7e.at (inb_of q7c (own_ofb (own_flt H (by omega) _))) (by rw [(own_ofn (own_flt H (by omega) _))]; exact own_gm _ _)) (g := (mkF m 31 La62 [(.int (Int32.ofNat (own_fnd tb x1))), (.ref b)])) rfl rfl (hb hby od22_31) tq kq) ?_
 by_cases c32_8 : (own_g tb (own_fnd tb x1)) = (0 : Int32)
 ·
  refine oifNo X6 hx hby od22_32 rfl ((if0 _ _).trans (teq c32_8).2) 35 rfl ?_
  refine oaloadN X6 hx hby od22_35 rfl (by rfl) 36 rfl ?_
  refine ogetF X6 hx hZ hown (host := "") (Or.inl (oW hw 69 rfl)) Via.refl e6 F0 rfl hby od22_36 39 rfl fun T9 X9 e9 => ?_
  refine oiloadN X9 hx hby od22_39 rfl 40 rfl ?_
  refine oiloadN X9 hx hby od22_40 rfl 41 rfl ?_
  obtain ⟨cl10, q10a, q10b, q10c, q10d, q10e, q10f⟩ := id AT
  obtain ⟨T11, h11, X11, e11, W11, st11⟩ := stI X9 hx hZ e9 q10a (j := (Int32.ofNat (own_fnd tb x1))) (inb_of q10c (own_ofb (own_flt H (by omega) _))) (g := (mkF m 41 La62 [(.int x1), (.int (Int32.ofNat (own_fnd tb x1))), (.ref b)])) rfl rfl (hb hby od22_41)
  have N11 := Fr.snoc X11 N5 gb
  have O11 := O0.wr W11 gb
  have K11 := K0.wr W11 (Or.inl (List.mem_of_getElem? (i := 1) rfl))
  have f12 := (E0.wr W11)
  have f13 := (F0.other W11 (Or.inl (Exa.neArv E0 AT (oW hw 62 rfl))))
  have f14 := (F1.other W11 (Or.inl (Exa.neArv E0 AT (oW hw 62 rfl))))
  have f15 := (F2.other W11 (Or.inl (Exa.neArv E0 AT (oW hw 62 rfl))))
  have f16 := (F3.other W11 (Or.inl (Exa.neArv E0 AT (oW hw 62 rfl))))
  have f17 := (F4.other W11 (Or.inl (Exa.neArv E0 AT (oW hw 62 rfl))))
  have f19 := (AP.other W11 (Ne.symm bp))
  have f20 : Arv Z h11 b kb .int (16 : Int32) ((tb.set (own_fnd tb x1) x1).map Value.int) (.int 0) := own_set q10a q10b q10c q10d q10e q10f W11 (own_ofn (own_flt H (by omega) _)) (own_fln H (by omega) _)
  refine own_st (T11.setTop (mkF m 42 La62 [])) st11 ?_
  refine oaloadN X11 hx hby od22_42 rfl (by rfl) 43 rfl ?_
  refine odup X11 hx hby od22_43 rfl (by rfl) 44 rfl ?_
  refine ogetF X11 hx hZ hown (host := "") (Or.inl (oW hw 120 rfl)) Via.refl e11 f14 rfl hby od22_44 47 rfl fun T21 X21 e21 => ?_
  refine oiconst X21 hx hby od22_47 (1 : Int32) rfl 48 rfl ?_
  refine oiadd X21 hx hby od22_48 rfl _ rfl 49 rfl ?_
  obtain ⟨T22, h22, X22, e22, W22, st22⟩ := putF X21 hx hZ hown (host := "") (Or.inl (oW hw 120 rfl)) Via.refl e21 f14 f12 (Or.inl (oW hw 121 rfl)) (oW hw 62 rfl) (ty := .int) (by decide) (by rfl) (by rfl) (g := (mkF m 49 La62 [(.int (sz + (1 : Int32))), (.ref o)])) rfl rfl (hb hby od22_49)
  have N22 := Fr.snoc X22 N11 g0
  have O22 := O11.wr W22 g0
  have K22 := K11.wr W22 (Or.inl (List.mem_of_getElem? (i := 0) rfl))
  have f23 := (f12.wr W22)
  have f24 := (f13.other W22 (Or.inr (slot_ne (Or.inl (oW hw 70 rfl)) (Or.inl (oW hw 121 rfl)) (by decide) (t := (.array .int)) (t' := .int) (by decide) (by decide))))
  have f26 := (f15.other W22 (Or.inr (slot_ne (Or.inl (oW hw 72 rfl)) (Or.inl (oW hw 121 rfl)) (by decide) (t := (.array .int)) (t' := .int) (by decide) (by decide))))
  have f27 := (f16.other W22 (Or.inr (slot_ne (Or.inl (oW hw 81 rfl)) (Or.inl (oW hw 121 rfl)) (by decide) (t := .int) (t' := .int) (by decide) (by decide))))
  have f28 := (f17.other W22 (Or.inr (slot_ne (Or.inr (oW hw 74 rfl)) (Or.inl (oW hw 121 rfl)) (by decide) (t := .int) (t' := .int) (by decide) (by decide))))
  have f29 := (f20.other W22 (Ne.symm (Exa.neArv f12 f20 (oW hw 62 rfl))))
  have f30 := (f19.other W22 (Ne.symm (Exa.neArv f12 f19 (oW hw 62 rfl))))
  have f31 := (f14.same W22)
  refine own_st (T22.setTop (mkF m 52 La62 [])) st22 ?_
  refine oaloadN X22 hx hby od22_52 rfl (by rfl) 53 rfl ?_
  refine ogetF X22 hx hZ hown (host := "") (Or.inl (oW hw 120 rfl)) Via.refl e22 f31 rfl hby od22_53 56 rfl fun T32 X32 e32 => ?_
  refine oaloadN X32 hx hby od22_56 rfl (by rfl) 57 rfl ?_
  refine ogetF X32 hx hZ hown (host := "") (Or.inl (oW hw 69 rfl)) Via.refl e32 f24 rfl hby od22_57 60 rfl fun T33 X33 e33 => ?_
  obtain ⟨cl34, q34a, q34b, q34c, q34d, q34e, q34f⟩ := id f29
  refine own_st (T33.setTop (mkF m 61 La62 [(.int 16), (.int (sz + (1 : Int32)))])) (fun tq kq => X33.arraylength hx (by rw [e33]; exact q34a.1) (State.isArrayOf_alike hZ.alike q34a.2.1) (g := (mkF m 60 La62 [(.ref b), (.int (sz + (1 : Int32)))])) rfl rfl (hb hby od22_60) tq (by rw [len_of q34c q34d]; exact kq)) ?_
  refine oiconst X33 hx hby od22_61 (2 : Int32) rfl 62 rfl ?_
  refine own_st (T33.setTop (mkF m 63 La62 [(.int 8), (.int (sz + (1 : Int32)))])) (fun tq kq => XS.idiv X33.here hx rfl (hb hby od22_62) rfl (by decide) kq) ?_
  refine oicmpYes X33 hx hby od22_63 rfl (flt ((OwnSz.no (OwnSz.up hz (by omega)) (by omega)) : ¬ ((8 : Int32) < (sz + (1 : Int32))))).2.2.2 70 (by decide) (by decide) ?_
  have f35 : Arv Z h22 b kb .int (16 : Int32) ((own_ins tb x1).map Value.int) (.int 0) := (own_insT c32_8) ▸ f29
  let La63 : Array Slot := #[rv o, .val (.int 2), .val (.int x1), .val (.int (Int32.ofNat (own_fnd tb x1)))]
  refine oiinc X33 hx hby od22_70 rfl (L' := La63) rfl 73 rfl ?_
  refine ogoto X33 hx hby od22_73 2 (by decide) (by decide) ?_
  refine own_goM (fun v h L q => ⟨q.1, q.2.1, q.2.2.1, q.2.2.2.1, q.2.2.2.2.1, q.2.2.2.2.2.1, q.2.2.2.2.2.2.1, q.2.2.2.2.2.2.2.1, q.2.2.2.2.2.2.2.2.elim fun sz' q' => ⟨sz', q'.1, OwnSz.mono q'.2 (by simp only [List.length_append, List.length_cons, List.length_nil]; omega)⟩⟩) (own_setL_4_3_2 l Z a0 hw o b pb kb kp (own_ins tb x1) (hs ++ [x1]) (sz + (1 : Int32)) mp x0 x1 x2 x3 p e s m below meth c _ _ h0 _ _ _ _ hx hby hml hown hret hlk hZ e33 X33 N22 O22 K22 f23 g0 gb bp f24 f31 f26 f27 f28 f35 f30 (OwnHold.ins H (by omega) nx1) (by simp only [List.length_append, List.length_cons, List.length_nil]; omega) (OwnSz.mono (OwnSz.up hz (by omega)) (by simp only [List.length_append, List.length_cons, List.length_nil]; omega)) nx0 nx1 nx2)
 ·
  refine oifYes X6 hx hby od22_32 rfl ((if0 _ _).trans (feq c32_8).2) 70 (by decide) (by decide) ?_
  have f36 : Arv Z h b kb .int (16 : Int32) ((own_ins tb x1).map Value.int) (.int 0) := (own_insF c32_8) ▸ AT
  let La64 : Array Slot := #[rv o, .val (.int 2), .val (.int x1), .val (.int (Int32.ofNat (own_fnd tb x1)))]
  refine oiinc X6 hx hby od22_70 rfl (L' := La64) rfl 73 rfl ?_
  refine ogoto X6 hx hby od22_73 2 (by decide) (by decide) ?_
  refine own_goM (fun v h L q => ⟨q.1, q.2.1, q.2.2.1, q.2.2.2.1, q.2.2.2.2.1, q.2.2.2.2.2.1, q.2.2.2.2.2.2.1, q.2.2.2.2.2.2.2.1, q.2.2.2.2.2.2.2.2.elim fun sz' q' => ⟨sz', q'.1, OwnSz.mono q'.2 (by simp only [List.length_append, List.length_cons, List.length_nil]; omega)⟩⟩) (own_setL_4_3_2 l Z a0 hw o b pb kb kp (own_ins tb x1) (hs ++ [x1]) sz mp x0 x1 x2 x3 p e s m below meth c _ _ h0 _ _ _ _ hx hby hml hown hret hlk hZ e6 X6 N5 O0 K0 E0 g0 gb bp F0 F1 F2 F3 F4 f36 AP (OwnHold.ins H (by omega) nx1) (by simp only [List.length_append, List.length_cons, List.length_nil]; omega) (OwnSz.mono hz (by simp only [List.length_append, List.length_cons, List.length_nil]; omega)) nx0 nx1 nx2)
theorem own_setL_4_3_0 (l : Launch) (Z : State) (a0 : Array Value) (hw : OWS a0 Z) (o b pb : Addr) (kb kp : ClassId) (tb hs : List Int32) (sz mp x0 x1 x2 x3 : Int32) (p : Program) (e : Env) (s : State) (m : MethodId) (below : List Frame) (meth : Method) (c : Code) (T : State) (locs : List Loc) (h0 h : Heap) (args : Array Value) (w2 w3 : Int32) (hx : p.tables.exec = Jvm.exec) (hby : c.code = prog_107_method_7_code) (hml : c.maxLocals = 4) (hown : s.vm.findClass "com/example/rising_block/risingblock/util/StringHashes" = some m.cls) (hret : meth.sig.returnType = none) (hlk : meth.locks = false) (hZ : Z.Warmed39 s.vm) (e0 : T.heap = h)
  (X0 : Stand p l e (oR 2 0 0 29) s m args below meth c T locs 0 0) (N0 : Fr Z.heap.size locs) (O0 : Old Z Z.heap.size h) (K0 : Keep h0 h [o, b]) (E0 : oE7 Z h o) (g0 : Z.heap.size ≤ o) (gb : Z.heap.size ≤ b) (bp : b ≠ pb) (F0 : oF2 Z h o (.ref b)) (F1 : oF3 Z h o (.int sz)) (F2 : oF4 Z h o (.ref pb)) (F3 : oF5 Z h o (.int 3)) (F4 : oF6 Z h o (.int mp)) (AT : Arv Z h b kb .int (16 : Int32) (tb.map Value.int) (.int 0)) (AP : Arv Z h pb kp .int (4 : Int32) [(.int x0), (.int x1), (.int x2), (.int x3)] (.int 0)) (H : OwnHold tb hs) (hl : hs.length < 6) (hz : OwnSz sz hs.length) (nx0 : x0 ≠ 0) (nx1 : x1 ≠ 0) (nx2 : x2 ≠ 0) :
  ownGo p e below (ownQ s (fun v h L => v = none ∧ Fr Z.heap.size L ∧ Keep h0 h [o, b] ∧ oF2 Z h o (.ref b) ∧ oF4 Z h o (.ref pb) ∧ oF5 Z h o (.int 0) ∧ oF6 Z h o (.int mp) ∧ Arv Z h b kb .int (16 : Int32) ((own_ins (own_ins (own_ins tb x0) x1) x2).map Value.int) (.int 0) ∧ ∃ sz' : Int32, oF3 Z h o (.int sz') ∧ OwnSz sz' (hs.length + 3)) 0 0) (T.setTop (mkF m 2 #[.val (.ref o), .val (.int 0), .unset, .unset] [])) := by
 refine oiloadN X0 hx hby od22_2 rfl 3 rfl ?_
 refine oaloadN X0 hx hby od22_3 rfl (by rfl) 4 rfl ?_
 refine ogetF X0 hx hZ hown (host := "") (Or.inl (oW hw 80 rfl)) Via.refl e0 F3 rfl hby od22_4 7 rfl fun T1 X1 e1 => ?_
 refine oicmpNo X1 hx hby od22_7 rfl (tlt ((by decide) : (0 : Int32) < (3 : Int32))).2.1 10 rfl ?_
 refine oaloadN X1 hx hby od22_10 rfl (by rfl) 11 rfl ?_
 refine ogetF X1 hx hZ hown (host := "") (Or.inl (oW hw 71 rfl)) Via.refl e1 F2 rfl hby od22_11 14 rfl fun T2 X2 e2 => ?_
 refine oiloadN X2 hx hby od22_14 rfl 15 rfl ?_
 obtain ⟨cl3, q3a, q3b, q3c, q3d, q3e, q3f⟩ := id AP
 let La65 : Array Slot := #[rv o, .val (.int 0), .unset, .unset]
 refine own_st (T2.setTop (mkF m 16 La65 [(.int x0)])) (fun tq kq => X2.iaload hx (j := (0 : Int32)) (v := (.int x0)) (by rw [e2]; exact q3a.1) (State.isArrayOf_alike hZ.alike q3a.2.1) q3a.2.2 (inb_of q3c ⟨by decide, by decide⟩) (q3e.at (inb_of q3c ⟨by decide, by decide⟩) rfl) (g := (mkF m 15 La65 [(.int 0), (.ref pb)])) rfl rfl (hb hby od22_15) tq kq) ?_
 let La66 : Array Slot := #[rv o, .val (.int 0), .val (.int x0), .unset]
 refine oistoreN X2 hx hby od22_16 rfl (L' := La66) rfl 17 rfl ?_
 refine oaloadN X2 hx hby od22_17 rfl (by rfl) 18 rfl ?_
 refine ogetF X2 hx hZ hown (host := "") (Or.inl (oW hw 69 rfl)) Via.refl e2 F0 rfl hby od22_18 21 rfl fun T4 X4 e4 => ?_
 refine oiloadN X4 hx hby od22_21 rfl 22 rfl ?_
 obtain ⟨v5, T5, L5, X5, q5, st5⟩ := own_callS X4 hx hZ hown (oW hw 111 rfl) (oW hw 112 rfl) (oW hw 63 rfl) (oW hw 113 rfl) (argsL := [(.ref b), (.int x0)]) (own_find l Z a0 hw [] b kb tb x0 h O0 AT (own_fst H (by omega) _)) 0 (by decide) (by decide) (by decide) (by decide) (by decide) e4 (g := (mkF m 22 La66 [(.int x0), (.ref b)])) rfl (by rw [hml]; rfl) [] (lenOf oP76 rfl) rfl (by show 2 * 0 + _ ≤ _; exact Nat.le_of_eq rfl) (hb hby od22_22)
 obtain ⟨rfl, N5q, e5⟩ := q5
 have N5 := Fr.app N0 N5q
 refine own_st (T5.setTop (mkF m 25 La66 [(.int (Int32.ofNat (own_fnd tb x0)))])) st5 ?_
 let La67 : Array Slot := #[rv o, .val (.int 0), .val (.int x0), .val (.int (Int32.ofNat (own_fnd tb x0)))]
 refine oistoreN X5 hx hby od22_25 rfl (L' := La67) rfl 26 rfl ?_
 refine oaloadN X5 hx hby od22_26 rfl (by rfl) 27 rfl ?_
 refine ogetF X5 hx hZ hown (host := "") (Or.inl (oW hw 69 rfl)) Via.refl e5 F0 rfl hby od22_27 30 rfl fun T6 X6 e6 => ?_
 refine oiloadN X6 hx hby od22_30 rfl 31 rfl ?_
 obtain ⟨cl7, q7a, q7b, q7c, q7d, q7e, q7f⟩ := id AT
 refine own_st (T6.setTop (mkF m 32 La67 [(.int (own_g tb (own_fnd tb x0)))])) (fun tq kq => X6.iaload hx (j := (Int32.ofNat (own_fnd tb x0))) (v := (.int (own_g tb (own_fnd tb x0)))) (by rw [e6]; exact q7a.1) (State.isArrayOf_alike hZ.alike q7a.2.1) q7a.2.2 (inb_of q7c (own_ofb (own_flt H (by omega) _))) (q7e.at (inb_of q7c (own_ofb (own_flt H (by omega) _))) (by rw [(own_ofn (own_flt H (by omega) _))]; exact own_gm _ _)) (g := (mkF m 31 La67 [(.int (Int32.ofNat (own_fnd tb x0))), (.ref b)])) rfl rfl (hb hby od22_31) tq kq) ?_
 by_cases c32_8 : (own_g tb (own_fnd tb x0)) = (0 : Int32)
 ·
  refine oifNo X6 hx hby od22_32 rfl ((if0 _ _).trans (teq c32_8).2) 35 rfl ?_
  refine oaloadN X6 hx hby od22_35 rfl (by rfl) 36 rfl ?_
  refine ogetF X6 hx hZ hown (host := "") (Or.inl (oW hw 69 rfl)) Via.refl e6 F0 rfl hby od22_36 39 rfl fun T9 X9 e9 => ?_
  refine oiloadN X9 hx hby od22_39 rfl 40 rfl ?_
  refine oiloadN X9 hx hby od22_40 rfl 41 rfl ?_
  obtain ⟨cl10, q10a, q10b, q10c, q10d, q10e, q10f⟩ := id AT
  obtain ⟨T11, h11, X11, e11, W11, st11⟩ := stI X9 hx hZ e9 q10a (j := (Int32.ofNat (own_fnd tb x0))) (inb_of q10c (own_ofb (own_flt H (by omega) _))) (g := (mkF m 41 La67 [(.int x0), (.int (Int32.ofNat (own_fnd tb x0))), (.ref b)])) rfl rfl (hb hby od22_41)
  have N11 := Fr.snoc X11 N5 gb
  have O11 := O0.wr W11 gb
  have K11 := K0.wr W11 (Or.inl (List.mem_of_getElem? (i := 1) rfl))
  have f12 := (E0.wr W11)
  have f13 := (F0.other W11 (Or.inl (Exa.neArv E0 AT (oW hw 62 rfl))))
  have f14 := (F1.other W11 (Or.inl (Exa.neArv E0 AT (oW hw 62 rfl))))
  have f15 := (F2.other W11 (Or.inl (Exa.neArv E0 AT (oW hw 62 rfl))))
  have f16 := (F3.other W11 (Or.inl (Exa.neArv E0 AT (oW hw 62 rfl))))
  have f17 := (F4.other W11 (Or.inl (Exa.neArv E0 AT (oW hw 62 rfl))))
  have f19 := (AP.other W11 (Ne.symm bp))
  have f20 : Arv Z h11 b kb .int (16 : Int32) ((tb.set (own_fnd tb x0) x0).map Value.int) (.int 0) := own_set q10a q10b q10c q10d q10e q10f W11 (own_ofn (own_flt H (by omega) _)) (own_fln H (by omega) _)
  refine own_st (T11.setTop (mkF m 42 La67 [])) st11 ?_
  refine oaloadN X11 hx hby od22_42 rfl (by rfl) 43 rfl ?_
  refine odup X11 hx hby od22_43 rfl (by rfl) 44 rfl ?_
  refine ogetF X11 hx hZ hown (host := "") (Or.inl (oW hw 120 rfl)) Via.refl e11 f14 rfl hby od22_44 47 rfl fun T21 X21 e21 => ?_
  refine oiconst X21 hx hby od22_47 (1 : Int32) rfl 48 rfl ?_
  refine oiadd X21 hx hby od22_48 rfl _ rfl 49 rfl ?_
  obtain ⟨T22, h22, X22, e22, W22, st22⟩ := putF X21 hx hZ hown (host := "") (Or.inl (oW hw 120 rfl)) Via.refl e21 f14 f12 (Or.inl (oW hw 121 rfl)) (oW hw 62 rfl) (ty := .int) (by decide) (by rfl) (by rfl) (g := (mkF m 49 La67 [(.int (sz + (1 : Int32))), (.ref o)])) rfl rfl (hb hby od22_49)
  have N22 := Fr.snoc X22 N11 g0
  have O22 := O11.wr W22 g0
  have K22 := K11.wr W22 (Or.inl (List.mem_of_getElem? (i := 0) rfl))
  have f23 := (f12.wr W22)
  have f24 := (f13.other W22 (Or.inr (slot_ne (Or.inl (oW hw 70 rfl)) (Or.inl (oW hw 121 rfl)) (by decide) (t := (.array .int)) (t' := .int) (by decide) (by decide))))
  have f26 := (f15.other W22 (Or.inr (slot_ne (Or.inl (oW hw 72 rfl)) (Or.inl (oW hw 121 rfl)) (by decide) (t := (.array .int)) (t' := .int) (by decide) (by decide))))
  have f27 := (f16.other W22 (Or.inr (slot_ne (Or.inl (oW hw 81 rfl)) (Or.inl (oW hw 121 rfl)) (by decide) (t := .int) (t' := .int) (by decide) (by decide))))
  have f28 := (f17.other W22 (Or.inr (slot_ne (Or.inr (oW hw 74 rfl)) (Or.inl (oW hw 121 rfl)) (by decide) (t := .int) (t' := .int) (by decide) (by decide))))
  have f29 := (f20.other W22 (Ne.symm (Exa.neArv f12 f20 (oW hw 62 rfl))))
  have f30 := (f19.other W22 (Ne.symm (Exa.neArv f12 f19 (oW hw 62 rfl))))
  have f31 := (f14.same W22)
  refine own_st (T22.setTop (mkF m 52 La67 [])) st22 ?_
  refine oaloadN X22 hx hby od22_52 rfl (by rfl) 53 rfl ?_
  refine ogetF X22 hx hZ hown (host := "") (Or.inl (oW hw 120 rfl)) Via.refl e22 f31 rfl hby od22_53 56 rfl fun T32 X32 e32 => ?_
  refine oaloadN X32 hx hby od22_56 rfl (by rfl) 57 rfl ?_
  refine ogetF X32 hx hZ hown (host := "") (Or.inl (oW hw 69 rfl)) Via.refl e32 f24 rfl hby od22_57 60 rfl fun T33 X33 e33 => ?_
  obtain ⟨cl34, q34a, q34b, q34c, q34d, q34e, q34f⟩ := id f29
  refine own_st (T33.setTop (mkF m 61 La67 [(.int 16), (.int (sz + (1 : Int32)))])) (fun tq kq => X33.arraylength hx (by rw [e33]; exact q34a.1) (State.isArrayOf_alike hZ.alike q34a.2.1) (g := (mkF m 60 La67 [(.ref b), (.int (sz + (1 : Int32)))])) rfl rfl (hb hby od22_60) tq (by rw [len_of q34c q34d]; exact kq)) ?_
  refine oiconst X33 hx hby od22_61 (2 : Int32) rfl 62 rfl ?_
  refine own_st (T33.setTop (mkF m 63 La67 [(.int 8), (.int (sz + (1 : Int32)))])) (fun tq kq => XS.idiv X33.here hx rfl (hb hby od22_62) rfl (by decide) kq) ?_
  refine oicmpYes X33 hx hby od22_63 rfl (flt ((OwnSz.no (OwnSz.up hz (by omega)) (by omega)) : ¬ ((8 : Int32) < (sz + (1 : Int32))))).2.2.2 70 (by decide) (by decide) ?_
  have f35 : Arv Z h22 b kb .int (16 : Int32) ((own_ins tb x0).map Value.int) (.int 0) := (own_insT c32_8) ▸ f29
  let La68 : Array Slot := #[rv o, .val (.int 1), .val (.int x0), .val (.int (Int32.ofNat (own_fnd tb x0)))]
  refine oiinc X33 hx hby od22_70 rfl (L' := La68) rfl 73 rfl ?_
  refine ogoto X33 hx hby od22_73 2 (by decide) (by decide) ?_
  refine own_goM (fun v h L q => ⟨q.1, q.2.1, q.2.2.1, q.2.2.2.1, q.2.2.2.2.1, q.2.2.2.2.2.1, q.2.2.2.2.2.2.1, q.2.2.2.2.2.2.2.1, q.2.2.2.2.2.2.2.2.elim fun sz' q' => ⟨sz', q'.1, OwnSz.mono q'.2 (by simp only [List.length_append, List.length_cons, List.length_nil]; omega)⟩⟩) (own_setL_4_3_1 l Z a0 hw o b pb kb kp (own_ins tb x0) (hs ++ [x0]) (sz + (1 : Int32)) mp x0 x1 x2 x3 p e s m below meth c _ _ h0 _ _ _ _ hx hby hml hown hret hlk hZ e33 X33 N22 O22 K22 f23 g0 gb bp f24 f31 f26 f27 f28 f35 f30 (OwnHold.ins H (by omega) nx0) (by simp only [List.length_append, List.length_cons, List.length_nil]; omega) (OwnSz.mono (OwnSz.up hz (by omega)) (by simp only [List.length_append, List.length_cons, List.length_nil]; omega)) nx0 nx1 nx2)
 ·
  refine oifYes X6 hx hby od22_32 rfl ((if0 _ _).trans (feq c32_8).2) 70 (by decide) (by decide) ?_
  have f36 : Arv Z h b kb .int (16 : Int32) ((own_ins tb x0).map Value.int) (.int 0) := (own_insF c32_8) ▸ AT
  let La69 : Array Slot := #[rv o, .val (.int 1), .val (.int x0), .val (.int (Int32.ofNat (own_fnd tb x0)))]
  refine oiinc X6 hx hby od22_70 rfl (L' := La69) rfl 73 rfl ?_
  refine ogoto X6 hx hby od22_73 2 (by decide) (by decide) ?_
  refine own_goM (fun v h L q => ⟨q.1, q.2.1, q.2.2.1, q.2.2.2.1, q.2.2.2.2.1, q.2.2.2.2.2.1, q.2.2.2.2.2.2.1, q.2.2.2.2.2.2.2.1, q.2.2.2.2.2.2.2.2.elim fun sz' q' => ⟨sz', q'.1, OwnSz.mono q'.2 (by simp only [List.length_append, List.length_cons, List.length_nil]; omega)⟩⟩) (own_setL_4_3_1 l Z a0 hw o b pb kb kp (own_ins tb x0) (hs ++ [x0]) sz mp x0 x1 x2 x3 p e s m below meth c _ _ h0 _ _ _ _ hx hby hml hown hret hlk hZ e6 X6 N5 O0 K0 E0 g0 gb bp F0 F1 F2 F3 F4 f36 AP (OwnHold.ins H (by omega) nx0) (by simp only [List.length_append, List.length_cons, List.length_nil]; omega) (OwnSz.mono hz (by simp only [List.length_append, List.length_cons, List.length_nil]; omega)) nx0 nx1 nx2)
theorem own_settle_4_3 (l : Launch) (Z : State) (a0 : Array Value) (hw : OWS a0 Z) (ws : List Jvm.Cond) (o b pb : Addr) (kb kp : ClassId) (tb hs : List Int32) (sz mp x0 x1 x2 x3 : Int32) (h0 : Heap) (O0 : Old Z Z.heap.size h0) (E0 : oE7 Z h0 o) (g0 : Z.heap.size ≤ o) (gb : Z.heap.size ≤ b) (bp : b ≠ pb) (F0 : oF2 Z h0 o (.ref b)) (F1 : oF3 Z h0 o (.int sz)) (F2 : oF4 Z h0 o (.ref pb)) (F3 : oF5 Z h0 o (.int 3)) (F4 : oF6 Z h0 o (.int mp)) (AT : Arv Z h0 b kb .int (16 : Int32) (tb.map Value.int) (.int 0)) (AP : Arv Z h0 pb kp .int (4 : Int32) [(.int x0), (.int x1), (.int x2), (.int x3)] (.int 0)) (H : OwnHold tb hs) (hl : hs.length < 6) (hz : OwnSz sz hs.length) (nx0 : x0 ≠ 0) (nx1 : x1 ≠ 0) (nx2 : x2 ≠ 0) :
  ownMet l oM8 prog_107_method_7_code 4 none ws (oR 2 0 0 29) Z #[(.ref o)] h0 (fun v h L => v = none ∧ Fr Z.heap.size L ∧ Keep h0 h [o, b] ∧ oF2 Z h o (.ref b) ∧ oF4 Z h o (.ref pb) ∧ oF5 Z h o (.int 0) ∧ oF6 Z h o (.int mp) ∧ Arv Z h b kb .int (16 : Int32) ((own_ins (own_ins (own_ins tb x0) x1) x2).map Value.int) (.int 0) ∧ ∃ sz' : Int32, oF3 Z h o (.int sz') ∧ OwnSz sz' (hs.length + 3)) := by
 refine own_met (plainFor_of_name oP59) ?_
 intro p e s m below meth c s₁ hx hby hml hown hnm hret hlk hZ e0 X0
 refine own_cast (show _ = (mkF m 0 #[.val (.ref o), .unset, .unset, .unset] []) by first | (simp [entryFrame, mkF, argsToLocals, Value.category]; done) | rfl) ?_
 refine oiconst X0 hx hby od22_0 (0 : Int32) rfl 1 rfl ?_
 let La70 : Array Slot := #[rv o, .val (.int 0), .unset, .unset]
 refine oistoreN X0 hx hby od22_1 rfl (L' := La70) rfl 2 rfl ?_
 exact own_setL_4_3_0 l Z a0 hw o b pb kb kp tb hs sz mp x0 x1 x2 x3 p e s m below meth c _ _ h0 _ _ 0 0 hx hby hml hown hret hlk hZ e0 X0 (Fr.nil _) O0 (Keep.refl h0 [o, b]) E0 g0 gb bp F0 F1 F2 F3 F4 AT AP H hl hz nx0 nx1 nx2
theorem od25_0 : decode prog_107_method_5_code 0 = .ok (.aload_n 0, 1) := by decide +kernel
theorem od25_1 : decode prog_107_method_5_code 1 = .ok (.getfield 33, 3) := by decide +kernel
theorem od25_4 : decode prog_107_method_5_code 4 = .ok (.ifCond .le 7, 3) := by decide +kernel
theorem od25_11 : decode prog_107_method_5_code 11 = .ok (.aload_n 0, 1) := by decide +kernel
theorem od25_12 : decode prog_107_method_5_code 12 = .ok (.getfield 13, 3) := by decide +kernel
theorem od25_15 : decode prog_107_method_5_code 15 = .ok (.aload_n 0, 1) := by decide +kernel
theorem od25_16 : decode prog_107_method_5_code 16 = .ok (.getfield 13, 3) := by decide +kernel
theorem od25_19 : decode prog_107_method_5_code 19 = .ok (.iload_n 1, 1) := by decide +kernel
theorem od25_20 : decode prog_107_method_5_code 20 = .ok (.invokestatic 59, 3) := by decide +kernel
theorem od25_23 : decode prog_107_method_5_code 23 = .ok (.iaload, 1) := by decide +kernel
theorem od25_24 : decode prog_107_method_5_code 24 = .ok (.ifCond .eq 7, 3) := by decide +kernel
theorem od25_31 : decode prog_107_method_5_code 31 = .ok (.iconst 0, 1) := by decide +kernel
theorem od25_32 : decode prog_107_method_5_code 32 = .ok (.ireturn, 1) := by decide +kernel
theorem od25_27 : decode prog_107_method_5_code 27 = .ok (.iconst 1, 1) := by decide +kernel
theorem od25_28 : decode prog_107_method_5_code 28 = .ok (.goto 4, 3) := by decide +kernel
theorem own_mch_0_0 (l : Launch) (Z : State) (a0 : Array Value) (hw : OWS a0 Z) (ws : List Jvm.Cond) (o b : Addr) (kb : ClassId) (tb hs : List Int32) (y : Int32) (h0 : Heap) (O0 : Old Z Z.heap.size h0) (E0 : oE7 Z h0 o) (F0 : oF2 Z h0 o (.ref b)) (F3 : oF5 Z h0 o (.int 0)) (AT : Arv Z h0 b kb .int (16 : Int32) (tb.map Value.int) (.int 0)) (H : OwnHold tb hs) (hl : hs.length < 6) (ny : y ≠ 0) :
  ownMet l oM9 prog_107_method_5_code 2 (some .boolean) ws (oR 3 0 0 60) Z #[(.ref o), (.int y)] h0 (fun v h L => v = some (.int (if y ∈ hs then (1 : Int32) else 0)) ∧ Fr Z.heap.size L ∧ h = h0) := by
 refine own_met (plainFor_of_name oP59) ?_
 intro p e s m below meth c s₁ hx hby hml hown hnm hret hlk hZ e0 X0
 refine own_cast (show _ = (mkF m 0 #[.val (.ref o), .val (.int y)] []) by first | (simp [entryFrame, mkF, argsToLocals, Value.category]; done) | rfl) ?_
 refine oaloadN X0 hx hby od25_0 rfl (by rfl) 1 rfl ?_
 refine ogetF X0 hx hZ hown (host := "") (Or.inl (oW hw 80 rfl)) Via.refl e0 F3 rfl hby od25_1 4 rfl fun T1 X1 e1 => ?_
 refine oifYes X1 hx hby od25_4 rfl ((if0 _ _).trans (flt ((by decide) : ¬ ((0 : Int32) < (0 : Int32)))).2.2.2) 11 (by decide) (by decide) ?_
 refine oaloadN X1 hx hby od25_11 rfl (by rfl) 12 rfl ?_
 refine ogetF X1 hx hZ hown (host := "") (Or.inl (oW hw 69 rfl)) Via.refl e1 F0 rfl hby od25_12 15 rfl fun T2 X2 e2 => ?_
 refine oaloadN X2 hx hby od25_15 rfl (by rfl) 16 rfl ?_
 refine ogetF X2 hx hZ hown (host := "") (Or.inl (oW hw 69 rfl)) Via.refl e2 F0 rfl hby od25_16 19 rfl fun T3 X3 e3 => ?_
 refine oiloadN X3 hx hby od25_19 rfl 20 rfl ?_
 obtain ⟨v4, T4, L4, X4, q4, st4⟩ := own_callS X3 hx hZ hown (oW hw 111 rfl) (oW hw 112 rfl) (oW hw 63 rfl) (oW hw 113 rfl) (argsL := [(.ref b), (.int y)]) (own_find l Z a0 hw [] b kb tb y h0 O0 AT (own_fst H (by omega) _)) 1 (by decide) (by decide) (by decide) (by decide) (by decide) e3 (g := (mkF m 20 #[.val (.ref o), .val (.int y)] [(.int y), (.ref b), (.ref b)])) rfl (by rw [hml]; rfl) [(.ref b)] (lenOf oP76 rfl) rfl (by show 2 * 0 + _ ≤ _; exact Nat.le_of_eq rfl) (hb hby od25_20)
 obtain ⟨rfl, N4q, e4⟩ := q4
 have N4 := Fr.app (Fr.nil _) N4q
 refine own_st (T4.setTop (mkF m 23 #[.val (.ref o), .val (.int y)] [(.int (Int32.ofNat (own_fnd tb y))), (.ref b)])) st4 ?_
 obtain ⟨cl5, q5a, q5b, q5c, q5d, q5e, q5f⟩ := id AT
 refine own_st (T4.setTop (mkF m 24 #[.val (.ref o), .val (.int y)] [(.int (own_g tb (own_fnd tb y)))])) (fun tq kq => X4.iaload hx (j := (Int32.ofNat (own_fnd tb y))) (v := (.int (own_g tb (own_fnd tb y)))) (by rw [e4]; exact q5a.1) (State.isArrayOf_alike hZ.alike q5a.2.1) q5a.2.2 (inb_of q5c (own_ofb (own_flt H (by omega) _))) (q5e.at (inb_of q5c (own_ofb (own_flt H (by omega) _))) (by rw [(own_ofn (own_flt H (by omega) _))]; exact own_gm _ _)) (g := (mkF m 23 #[.val (.ref o), .val (.int y)] [(.int (Int32.ofNat (own_fnd tb y))), (.ref b)])) rfl rfl (hb hby od25_23) tq kq) ?_
 by_cases c24_6 : (own_g tb (own_fnd tb y)) = (0 : Int32)
 ·
  refine oifYes X4 hx hby od25_24 rfl ((if0 _ _).trans (teq c24_6).1) 31 (by decide) (by decide) ?_
  refine oiconst X4 hx hby od25_31 (0 : Int32) rfl 32 rfl ?_
  exact own_ret X4 hlk (v := some (.int 0)) (fun h => by rw [hret] at h; cases h) e4 (⟨own_iteF (own_memF H (by omega) ny c24_6), N4, rfl⟩) (by decide) (by decide) (fun fs hr => own_retN X4 hx (t := .boolean) hret (by simp) (hb hby od25_32) rfl hr)
 ·
  refine oifNo X4 hx hby od25_24 rfl ((if0 _ _).trans (feq c24_6).1) 27 rfl ?_
  refine oiconst X4 hx hby od25_27 (1 : Int32) rfl 28 rfl ?_
  refine ogoto X4 hx hby od25_28 32 (by decide) (by decide) ?_
  exact own_ret X4 hlk (v := some (.int 1)) (fun h => by rw [hret] at h; cases h) e4 (⟨own_iteT (own_memT H (by omega) ny c24_6), N4, rfl⟩) (by decide) (by decide) (fun fs hr => own_retN X4 hx (t := .boolean) hret (by simp) (hb hby od25_32) rfl hr)
theorem od25_7 : decode prog_107_method_5_code 7 = .ok (.aload_n 0, 1) := by decide +kernel
theorem oP123 : parseMethodDescriptor "()V" = some ⟨[], none⟩ := by decide +kernel
theorem od25_8 : decode prog_107_method_5_code 8 = .ok (.invokevirtual 48, 3) := by decide +kernel
theorem own_nf22 {Z : State} {a0 : Array Value} (hw : OWS a0 Z) : NotFace Z oM8 := by
 obtain ⟨r, hr⟩ := own_named (oW hw 77 rfl)
 exact own_nfc (notFace_of_selects (args := a0) (oW hw 78 rfl)) hr rfl
theorem own_mch_1_1 (l : Launch) (Z : State) (a0 : Array Value) (hw : OWS a0 Z) (ws : List Jvm.Cond) (o b pb : Addr) (kb kp : ClassId) (tb hs : List Int32) (sz mp x0 : Int32) (y : Int32) (h0 : Heap) (O0 : Old Z Z.heap.size h0) (E0 : oE7 Z h0 o) (g0 : Z.heap.size ≤ o) (gb : Z.heap.size ≤ b) (bp : b ≠ pb) (F0 : oF2 Z h0 o (.ref b)) (F1 : oF3 Z h0 o (.int sz)) (F2 : oF4 Z h0 o (.ref pb)) (F3 : oF5 Z h0 o (.int 1)) (F4 : oF6 Z h0 o (.int mp)) (AT : Arv Z h0 b kb .int (16 : Int32) (tb.map Value.int) (.int 0)) (AP : Arv Z h0 pb kp .int (1 : Int32) [(.int x0)] (.int 0)) (H : OwnHold tb hs) (hl : hs.length < 6) (hz : OwnSz sz hs.length) (nx0 : x0 ≠ 0) (ny : y ≠ 0) :
  ownMet l oM9 prog_107_method_5_code 2 (some .boolean) ws (oR 3 0 0 60) Z #[(.ref o), (.int y)] h0 (fun v h L => v = some (.int (if y ∈ (hs ++ [x0]) then (1 : Int32) else 0)) ∧ Fr Z.heap.size L ∧ Keep h0 h [o, b] ∧ oF2 Z h o (.ref b) ∧ oF4 Z h o (.ref pb) ∧ oF5 Z h o (.int 0) ∧ oF6 Z h o (.int mp) ∧ Arv Z h b kb .int (16 : Int32) ((own_ins tb x0).map Value.int) (.int 0) ∧ ∃ sz' : Int32, oF3 Z h o (.int sz') ∧ OwnSz sz' (hs.length + 1)) := by
 refine own_met (plainFor_of_name oP59) ?_
 intro p e s m below meth c s₁ hx hby hml hown hnm hret hlk hZ e0 X0
 refine own_cast (show _ = (mkF m 0 #[.val (.ref o), .val (.int y)] []) by first | (simp [entryFrame, mkF, argsToLocals, Value.category]; done) | rfl) ?_
 refine oaloadN X0 hx hby od25_0 rfl (by rfl) 1 rfl ?_
 refine ogetF X0 hx hZ hown (host := "") (Or.inl (oW hw 80 rfl)) Via.refl e0 F3 rfl hby od25_1 4 rfl fun T1 X1 e1 => ?_
 refine oifNo X1 hx hby od25_4 rfl ((if0 _ _).trans (tlt ((by decide) : (0 : Int32) < (1 : Int32))).2.2.2) 7 rfl ?_
 refine oaloadN X1 hx hby od25_7 rfl (by rfl) 8 rfl ?_
 obtain ⟨v2, T2, L2, X2, q2, st2⟩ := own_callP X1 hx hZ hown (y := oM8) (oW hw 107 rfl) (oW hw 109 rfl) (own_nf22 hw) (oW hw 108 rfl) (oW hw 63 rfl) (oW hw 110 rfl) E0 (b := o) (argsL := []) (own_settle_1_1 l Z a0 hw [] o b pb kb kp tb hs sz mp x0 h0 O0 E0 g0 gb bp F0 F1 F2 F3 F4 AT AP H (by omega) hz nx0) 0 (by decide) (by decide) (by decide) (by decide) (by decide) e1 (g := (mkF m 8 #[.val (.ref o), .val (.int y)] [(.ref o)])) rfl (by rw [hml]; rfl) [] (lenOf oP123 rfl) rfl (by show 2 * 0 + _ ≤ _; exact Nat.le_of_eq rfl) (hb hby od25_8)
 obtain ⟨rfl, N2q, K2q, f2a, f2b, f2c, f2d, f2e, sz2, f2f, hz2⟩ := q2
 have N2 := Fr.app (Fr.nil _) N2q
 have f3 := (E0.keep K2q)
 have f10 := (AP.keep K2q (ninS (Ne.symm (Exa.neArv E0 AP (oW hw 62 rfl))) (ninS (Ne.symm bp) nin0)))
 have O2 := O0.keep K2q (allS g0 (allS gb all0))
 have K2 := (Keep.refl h0 [o, b]).trans K2q (allS (Or.inl (List.mem_of_getElem? (i := 0) rfl)) (allS (Or.inl (List.mem_of_getElem? (i := 1) rfl)) all0))
 refine own_st (T2.setTop (mkF m 11 #[.val (.ref o), .val (.int y)] [])) st2 ?_
 refine oaloadN X2 hx hby od25_11 rfl (by rfl) 12 rfl ?_
 refine ogetF X2 hx hZ hown (host := "") (Or.inl (oW hw 69 rfl)) Via.refl rfl f2a rfl hby od25_12 15 rfl fun T11 X11 e11 => ?_
 refine oaloadN X11 hx hby od25_15 rfl (by rfl) 16 rfl ?_
 refine ogetF X11 hx hZ hown (host := "") (Or.inl (oW hw 69 rfl)) Via.refl e11 f2a rfl hby od25_16 19 rfl fun T12 X12 e12 => ?_
 refine oiloadN X12 hx hby od25_19 rfl 20 rfl ?_
 obtain ⟨v13, T13, L13, X13, q13, st13⟩ := own_callS X12 hx hZ hown (oW hw 111 rfl) (oW hw 112 rfl) (oW hw 63 rfl) (oW hw 113 rfl) (argsL := [(.ref b), (.int y)]) (own_find l Z a0 hw [] b kb (own_ins tb x0) y T2.heap O2 f2e (own_fst (OwnHold.ins H (by omega) nx0) (by simp only [List.length_append, List.length_cons, List.length_nil]; omega) _)) 1 (by decide) (by decide) (by decide) (by decide) (by decide) e12 (g := (mkF m 20 #[.val (.ref o), .val (.int y)] [(.int y), (.ref b), (.ref b)])) rfl (by rw [hml]; rfl) [(.ref b)] (lenOf oP76 rfl) rfl (by show 2 * 0 + _ ≤ _; exact Nat.le_of_eq rfl) (hb hby od25_20)
 obtain ⟨rfl, N13q, e13⟩ := q13
 have N13 := Fr.app N2 N13q
 refine own_st (T13.setTop (mkF m 23 #[.val (.ref o), .val (.int y)] [(.int (Int32.ofNat (own_fnd (own_ins tb x0) y))), (.ref b)])) st13 ?_
 obtain ⟨cl14, q14a, q14b, q14c, q14d, q14e, q14f⟩ := id f2e
 refine own_st (T13.setTop (mkF m 24 #[.val (.ref o), .val (.int y)] [(.int (own_g (own_ins tb x0) (own_fnd (own_ins tb x0) y)))])) (fun tq kq => X13.iaload hx (j := (Int32.ofNat (own_fnd (own_ins tb x0) y))) (v := (.int (own_g (own_ins tb x0) (own_fnd (own_ins tb x0) y)))) (by rw [e13]; exact q14a.1) (State.isArrayOf_alike hZ.alike q14a.2.1) q14a.2.2 (inb_of q14c (own_ofb (own_flt (OwnHold.ins H (by omega) nx0) (by simp only [List.length_append, List.length_cons, List.length_nil]; omega) _))) (q14e.at (inb_of q14c (own_ofb (own_flt (OwnHold.ins H (by omega) nx0) (by simp only [List.length_append, List.length_cons, List.length_nil]; omega) _))) (by rw [(own_ofn (own_flt (OwnHold.ins H (by omega) nx0) (by simp only [List.length_append, List.length_cons, List.length_nil]; omega) _))]; exact own_gm _ _)) (g := (mkF m 23 #[.val (.ref o), .val (.int y)] [(.int (Int32.ofNat (own_fnd (own_ins tb x0) y))), (.ref b)])) rfl rfl (hb hby od25_23) tq kq) ?_
 by_cases c24_15 : (own_g (own_ins tb x0) (own_fnd (own_ins tb x0) y)) = (0 : Int32)
 ·
  refine oifYes X13 hx hby od25_24 rfl ((if0 _ _).trans (teq c24_15).1) 31 (by decide) (by decide) ?_
  refine oiconst X13 hx hby od25_31 (0 : Int32) rfl 32 rfl ?_
  exact own_ret X13 hlk (v := some (.int 0)) (fun h => by rw [hret] at h; cases h) e13 (⟨own_iteF (own_memF (OwnHold.ins H (by omega) nx0) (by simp only [List.length_append, List.length_cons, List.length_nil]; omega) ny c24_15), N13, K2, f2a, f2b, f2c, f2d, f2e, _, f2f, hz2⟩) (by decide) (by decide) (fun fs hr => own_retN X13 hx (t := .boolean) hret (by simp) (hb hby od25_32) rfl hr)
 ·
  refine oifNo X13 hx hby od25_24 rfl ((if0 _ _).trans (feq c24_15).1) 27 rfl ?_
  refine oiconst X13 hx hby od25_27 (1 : Int32) rfl 28 rfl ?_
  refine ogoto X13 hx hby od25_28 32 (by decide) (by decide) ?_
  exact own_ret X13 hlk (v := some (.int 1)) (fun h => by rw [hret] at h; cases h) e13 (⟨own_iteT (own_memT (OwnHold.ins H (by omega) nx0) (by simp only [List.length_append, List.length_cons, List.length_nil]; omega) ny c24_15), N13, K2, f2a, f2b, f2c, f2d, f2e, _, f2f, hz2⟩) (by decide) (by decide) (fun fs hr => own_retN X13 hx (t := .boolean) hret (by simp) (hb hby od25_32) rfl hr)
theorem own_mch_2_2 (l : Launch) (Z : State) (a0 : Array Value) (hw : OWS a0 Z) (ws : List Jvm.Cond) (o b pb : Addr) (kb kp : ClassId) (tb hs : List Int32) (sz mp x0 x1 : Int32) (y : Int32) (h0 : Heap) (O0 : Old Z Z.heap.size h0) (E0 : oE7 Z h0 o) (g0 : Z.heap.size ≤ o) (gb : Z.heap.size ≤ b) (bp : b ≠ pb) (F0 : oF2 Z h0 o (.ref b)) (F1 : oF3 Z h0 o (.int sz)) (F2 : oF4 Z h0 o (.ref pb)) (F3 : oF5 Z h0 o (.int 2)) (F4 : oF6 Z h0 o (.int mp)) (AT : Arv Z h0 b kb .int (16 : Int32) (tb.map Value.int) (.int 0)) (AP : Arv Z h0 pb kp .int (2 : Int32) [(.int x0), (.int x1)] (.int 0)) (H : OwnHold tb hs) (hl : hs.length < 6) (hz : OwnSz sz hs.length) (nx0 : x0 ≠ 0) (nx1 : x1 ≠ 0) (ny : y ≠ 0) :
  ownMet l oM9 prog_107_method_5_code 2 (some .boolean) ws (oR 3 0 0 60) Z #[(.ref o), (.int y)] h0 (fun v h L => v = some (.int (if y ∈ ((hs ++ [x0]) ++ [x1]) then (1 : Int32) else 0)) ∧ Fr Z.heap.size L ∧ Keep h0 h [o, b] ∧ oF2 Z h o (.ref b) ∧ oF4 Z h o (.ref pb) ∧ oF5 Z h o (.int 0) ∧ oF6 Z h o (.int mp) ∧ Arv Z h b kb .int (16 : Int32) ((own_ins (own_ins tb x0) x1).map Value.int) (.int 0) ∧ ∃ sz' : Int32, oF3 Z h o (.int sz') ∧ OwnSz sz' (hs.length + 2)) := by
 refine own_met (plainFor_of_name oP59) ?_
 intro p e s m below meth c s₁ hx hby hml hown hnm hret hlk hZ e0 X0
 refine own_cast (show _ = (mkF m 0 #[.val (.ref o), .val (.int y)] []) by first | (simp [entryFrame, mkF, argsToLocals, Value.category]; done) | rfl) ?_
 refine oaloadN X0 hx hby od25_0 rfl (by rfl) 1 rfl ?_
 refine ogetF X0 hx hZ hown (host := "") (Or.inl (oW hw 80 rfl)) Via.refl e0 F3 rfl hby od25_1 4 rfl fun T1 X1 e1 => ?_
 refine oifNo X1 hx hby od25_4 rfl ((if0 _ _).trans (tlt ((by decide) : (0 : Int32) < (2 : Int32))).2.2.2) 7 rfl ?_
 refine oaloadN X1 hx hby od25_7 rfl (by rfl) 8 rfl ?_
 obtain ⟨v2, T2, L2, X2, q2, st2⟩ := own_callP X1 hx hZ hown (y := oM8) (oW hw 107 rfl) (oW hw 109 rfl) (own_nf22 hw) (oW hw 108 rfl) (oW hw 63 rfl) (oW hw 110 rfl) E0 (b := o) (argsL := []) (own_settle_2_2 l Z a0 hw [] o b pb kb kp tb hs sz mp x0 x1 h0 O0 E0 g0 gb bp F0 F1 F2 F3 F4 AT AP H (by omega) hz nx0 nx1) 0 (by decide) (by decide) (by decide) (by decide) (by decide) e1 (g := (mkF m 8 #[.val (.ref o), .val (.int y)] [(.ref o)])) rfl (by rw [hml]; rfl) [] (lenOf oP123 rfl) rfl (by show 2 * 0 + _ ≤ _; exact Nat.le_of_eq rfl) (hb hby od25_8)
 obtain ⟨rfl, N2q, K2q, f2a, f2b, f2c, f2d, f2e, sz2, f2f, hz2⟩ := q2
 have N2 := Fr.app (Fr.nil _) N2q
 have f3 := (E0.keep K2q)
 have f10 := (AP.keep K2q (ninS (Ne.symm (Exa.neArv E0 AP (oW hw 62 rfl))) (ninS (Ne.symm bp) nin0)))
 have O2 := O0.keep K2q (allS g0 (allS gb all0))
 have K2 := (Keep.refl h0 [o, b]).trans K2q (allS (Or.inl (List.mem_of_getElem? (i := 0) rfl)) (allS (Or.inl (List.mem_of_getElem? (i := 1) rfl)) all0))
 refine own_st (T2.setTop (mkF m 11 #[.val (.ref o), .val (.int y)] [])) st2 ?_
 refine oaloadN X2 hx hby od25_11 rfl (by rfl) 12 rfl ?_
 refine ogetF X2 hx hZ hown (host := "") (Or.inl (oW hw 69 rfl)) Via.refl rfl f2a rfl hby od25_12 15 rfl fun T11 X11 e11 => ?_
 refine oaloadN X11 hx hby od25_15 rfl (by rfl) 16 rfl ?_
 refine ogetF X11 hx hZ hown (host := "") (Or.inl (oW hw 69 rfl)) Via.refl e11 f2a rfl hby od25_16 19 rfl fun T12 X12 e12 => ?_
 refine oiloadN X12 hx hby od25_19 rfl 20 rfl ?_
 obtain ⟨v13, T13, L13, X13, q13, st13⟩ := own_callS X12 hx hZ hown (oW hw 111 rfl) (oW hw 112 rfl) (oW hw 63 rfl) (oW hw 113 rfl) (argsL := [(.ref b), (.int y)]) (own_find l Z a0 hw [] b kb (own_ins (own_ins tb x0) x1) y T2.heap O2 f2e (own_fst (OwnHold.ins (OwnHold.ins H (by omega) nx0) (by simp only [List.length_append, List.length_cons, List.length_nil]; omega) nx1) (by simp only [List.length_append, List.length_cons, List.length_nil]; omega) _)) 1 (by decide) (by decide) (by decide) (by decide) (by decide) e12 (g := (mkF m 20 #[.val (.ref o), .val (.int y)] [(.int y), (.ref b), (.ref b)])) rfl (by rw [hml]; rfl) [(.ref b)] (lenOf oP76 rfl) rfl (by show 2 * 0 + _ ≤ _; exact Nat.le_of_eq rfl) (hb hby od25_20)
 obtain ⟨rfl, N13q, e13⟩ := q13
 have N13 := Fr.app N2 N13q
 refine own_st (T13.setTop (mkF m 23 #[.val (.ref o), .val (.int y)] [(.int (Int32.ofNat (own_fnd (own_ins (own_ins tb x0) x1) y))), (.ref b)])) st13 ?_
 obtain ⟨cl14, q14a, q14b, q14c, q14d, q14e, q14f⟩ := id f2e
 refine own_st (T13.setTop (mkF m 24 #[.val (.ref o), .val (.int y)] [(.int (own_g (own_ins (own_ins tb x0) x1) (own_fnd (own_ins (own_ins tb x0) x1) y)))])) (fun tq kq => X13.iaload hx (j := (Int32.ofNat (own_fnd (own_ins (own_ins tb x0) x1) y))) (v := (.int (own_g (own_ins (own_ins tb x0) x1) (own_fnd (own_ins (own_ins tb x0) x1) y)))) (by rw [e13]; exact q14a.1) (State.isArrayOf_alike hZ.alike q14a.2.1) q14a.2.2 (inb_of q14c (own_ofb (own_flt (OwnHold.ins (OwnHold.ins H (by omega) nx0) (by simp only [List.length_append, List.length_cons, List.length_nil]; omega) nx1) (by simp only [List.length_append, List.length_cons, List.length_nil]; omega) _))) (q14e.at (inb_of q14c (own_ofb (own_flt (OwnHold.ins (OwnHold.ins H (by omega) nx0) (by simp only [List.length_append, List.length_cons, List.length_nil]; omega) nx1) (by simp only [List.length_append, List.length_cons, List.length_nil]; omega) _))) (by rw [(own_ofn (own_flt (OwnHold.ins (OwnHold.ins H (by omega) nx0) (by simp only [List.length_append, List.length_cons, List.length_nil]; omega) nx1) (by simp only [List.length_append, List.length_cons, List.length_nil]; omega) _))]; exact own_gm _ _)) (g := (mkF m 23 #[.val (.ref o), .val (.int y)] [(.int (Int32.ofNat (own_fnd (own_ins (own_ins tb x0) x1) y))), (.ref b)])) rfl rfl (hb hby od25_23) tq kq) ?_
 by_cases c24_15 : (own_g (own_ins (own_ins tb x0) x1) (own_fnd (own_ins (own_ins tb x0) x1) y)) = (0 : Int32)
 ·
  refine oifYes X13 hx hby od25_24 rfl ((if0 _ _).trans (teq c24_15).1) 31 (by decide) (by decide) ?_
  refine oiconst X13 hx hby od25_31 (0 : Int32) rfl 32 rfl ?_
  exact own_ret X13 hlk (v := some (.int 0)) (fun h => by rw [hret] at h; cases h) e13 (⟨own_iteF (own_memF (OwnHold.ins (OwnHold.ins H (by omega) nx0) (by simp only [List.length_append, List.length_cons, List.length_nil]; omega) nx1) (by simp only [List.length_append, List.length_cons, List.length_nil]; omega) ny c24_15), N13, K2, f2a, f2b, f2c, f2d, f2e, _, f2f, hz2⟩) (by decide) (by decide) (fun fs hr => own_retN X13 hx (t := .boolean) hret (by simp) (hb hby od25_32) rfl hr)
 ·
  refine oifNo X13 hx hby od25_24 rfl ((if0 _ _).trans (feq c24_15).1) 27 rfl ?_
  refine oiconst X13 hx hby od25_27 (1 : Int32) rfl 28 rfl ?_
  refine ogoto X13 hx hby od25_28 32 (by decide) (by decide) ?_
  exact own_ret X13 hlk (v := some (.int 1)) (fun h => by rw [hret] at h; cases h) e13 (⟨own_iteT (own_memT (OwnHold.ins (OwnHold.ins H (by omega) nx0) (by simp only [List.length_append, List.length_cons, List.length_nil]; omega) nx1) (by simp only [List.length_append, List.length_cons, List.length_nil]; omega) ny c24_15), N13, K2, f2a, f2b, f2c, f2d, f2e, _, f2f, hz2⟩) (by decide) (by decide) (fun fs hr => own_retN X13 hx (t := .boolean) hret (by simp) (hb hby od25_32) rfl hr)
theorem own_mch_2_1 (l : Launch) (Z : State) (a0 : Array Value) (hw : OWS a0 Z) (ws : List Jvm.Cond) (o b pb : Addr) (kb kp : ClassId) (tb hs : List Int32) (sz mp x0 x1 : Int32) (y : Int32) (h0 : Heap) (O0 : Old Z Z.heap.size h0) (E0 : oE7 Z h0 o) (g0 : Z.heap.size ≤ o) (gb : Z.heap.size ≤ b) (bp : b ≠ pb) (F0 : oF2 Z h0 o (.ref b)) (F1 : oF3 Z h0 o (.int sz)) (F2 : oF4 Z h0 o (.ref pb)) (F3 : oF5 Z h0 o (.int 1)) (F4 : oF6 Z h0 o (.int mp)) (AT : Arv Z h0 b kb .int (16 : Int32) (tb.map Value.int) (.int 0)) (AP : Arv Z h0 pb kp .int (2 : Int32) [(.int x0), (.int x1)] (.int 0)) (H : OwnHold tb hs) (hl : hs.length < 6) (hz : OwnSz sz hs.length) (nx0 : x0 ≠ 0) (ny : y ≠ 0) :
  ownMet l oM9 prog_107_method_5_code 2 (some .boolean) ws (oR 3 0 0 60) Z #[(.ref o), (.int y)] h0 (fun v h L => v = some (.int (if y ∈ (hs ++ [x0]) then (1 : Int32) else 0)) ∧ Fr Z.heap.size L ∧ Keep h0 h [o, b] ∧ oF2 Z h o (.ref b) ∧ oF4 Z h o (.ref pb) ∧ oF5 Z h o (.int 0) ∧ oF6 Z h o (.int mp) ∧ Arv Z h b kb .int (16 : Int32) ((own_ins tb x0).map Value.int) (.int 0) ∧ ∃ sz' : Int32, oF3 Z h o (.int sz') ∧ OwnSz sz' (hs.length + 1)) := by
 refine own_met (plainFor_of_name oP59) ?_
 intro p e s m below meth c s₁ hx hby hml hown hnm hret hlk hZ e0 X0
 refine own_cast (show _ = (mkF m 0 #[.val (.ref o), .val (.int y)] []) by first | (simp [entryFrame, mkF, argsToLocals, Value.category]; done) | rfl) ?_
 refine oaloadN X0 hx hby od25_0 rfl (by rfl) 1 rfl ?_
 refine ogetF X0 hx hZ hown (host := "") (Or.inl (oW hw 80 rfl)) Via.refl e0 F3 rfl hby od25_1 4 rfl fun T1 X1 e1 => ?_
 refine oifNo X1 hx hby od25_4 rfl ((if0 _ _).trans (tlt ((by decide) : (0 : Int32) < (1 : Int32))).2.2.2) 7 rfl ?_
 refine oaloadN X1 hx hby od25_7 rfl (by rfl) 8 rfl ?_
 obtain ⟨v2, T2, L2, X2, q2, st2⟩ := own_callP X1 hx hZ hown (y := oM8) (oW hw 107 rfl) (oW hw 109 rfl) (own_nf22 hw) (oW hw 108 rfl) (oW hw 63 rfl) (oW hw 110 rfl) E0 (b := o) (argsL := []) (own_settle_2_1 l Z a0 hw [] o b pb kb kp tb hs sz mp x0 x1 h0 O0 E0 g0 gb bp F0 F1 F2 F3 F4 AT AP H (by omega) hz nx0) 0 (by decide) (by decide) (by decide) (by decide) (by decide) e1 (g := (mkF m 8 #[.val (.ref o), .val (.int y)] [(.ref o)])) rfl (by rw [hml]; rfl) [] (lenOf oP123 rfl) rfl (by show 2 * 0 + _ ≤ _; exact Nat.le_of_eq rfl) (hb hby od25_8)
 obtain ⟨rfl, N2q, K2q, f2a, f2b, f2c, f2d, f2e, sz2, f2f, hz2⟩ := q2
 have N2 := Fr.app (Fr.nil _) N2q
 have f3 := (E0.keep K2q)
 have f10 := (AP.keep K2q (ninS (Ne.symm (Exa.neArv E0 AP (oW hw 62 rfl))) (ninS (Ne.symm bp) nin0)))
 have O2 := O0.keep K2q (allS g0 (allS gb all0))
 have K2 := (Keep.refl h0 [o, b]).trans K2q (allS (Or.inl (List.mem_of_getElem? (i := 0) rfl)) (allS (Or.inl (List.mem_of_getElem? (i := 1) rfl)) all0))
 refine own_st (T2.setTop (mkF m 11 #[.val (.ref o), .val (.int y)] [])) st2 ?_
 refine oaloadN X2 hx hby od25_11 rfl (by rfl) 12 rfl ?_
 refine ogetF X2 hx hZ hown (host := "") (Or.inl (oW hw 69 rfl)) Via.refl rfl f2a rfl hby od25_12 15 rfl fun T11 X11 e11 => ?_
 refine oaloadN X11 hx hby od25_15 rfl (by rfl) 16 rfl ?_
 refine ogetF X11 hx hZ hown (host := "") (Or.inl (oW hw 69 rfl)) Via.refl e11 f2a rfl hby od25_16 19 rfl fun T12 X12 e12 => ?_
 refine oiloadN X12 hx hby od25_19 rfl 20 rfl ?_
 obtain ⟨v13, T13, L13, X13, q13, st13⟩ := own_callS X12 hx hZ hown (oW hw 111 rfl) (oW hw 112 rfl) (oW hw 63 rfl) (oW hw 113 rfl) (argsL := [(.ref b), (.int y)]) (own_find l Z a0 hw [] b kb (own_ins tb x0) y T2.heap O2 f2e (own_fst (OwnHold.ins H (by omega) nx0) (by simp only [List.length_append, List.length_cons, List.length_nil]; omega) _)) 1 (by decide) (by decide) (by decide) (by decide) (by decide) e12 (g := (mkF m 20 #[.val (.ref o), .val (.int y)] [(.int y), (.ref b), (.ref b)])) rfl (by rw [hml]; rfl) [(.ref b)] (lenOf oP76 rfl) rfl (by show 2 * 0 + _ ≤ _; exact Nat.le_of_eq rfl) (hb hby od25_20)
 obtain ⟨rfl, N13q, e13⟩ := q13
 have N13 := Fr.app N2 N13q
 refine own_st (T13.setTop (mkF m 23 #[.val (.ref o), .val (.int y)] [(.int (Int32.ofNat (own_fnd (own_ins tb x0) y))), (.ref b)])) st13 ?_
 obtain ⟨cl14, q14a, q14b, q14c, q14d, q14e, q14f⟩ := id f2e
 refine own_st (T13.setTop (mkF m 24 #[.val (.ref o), .val (.int y)] [(.int (own_g (own_ins tb x0) (own_fnd (own_ins tb x0) y)))])) (fun tq kq => X13.iaload hx (j := (Int32.ofNat (own_fnd (own_ins tb x0) y))) (v := (.int (own_g (own_ins tb x0) (own_fnd (own_ins tb x0) y)))) (by rw [e13]; exact q14a.1) (State.isArrayOf_alike hZ.alike q14a.2.1) q14a.2.2 (inb_of q14c (own_ofb (own_flt (OwnHold.ins H (by omega) nx0) (by simp only [List.length_append, List.length_cons, List.length_nil]; omega) _))) (q14e.at (inb_of q14c (own_ofb (own_flt (OwnHold.ins H (by omega) nx0) (by simp only [List.length_append, List.length_cons, List.length_nil]; omega) _))) (by rw [(own_ofn (own_flt (OwnHold.ins H (by omega) nx0) (by simp only [List.length_append, List.length_cons, List.length_nil]; omega) _))]; exact own_gm _ _)) (g := (mkF m 23 #[.val (.ref o), .val (.int y)] [(.int (Int32.ofNat (own_fnd (own_ins tb x0) y))), (.ref b)])) rfl rfl (hb hby od25_23) tq kq) ?_
 by_cases c24_15 : (own_g (own_ins tb x0) (own_fnd (own_ins tb x0) y)) = (0 : Int32)
 ·
  refine oifYes X13 hx hby od25_24 rfl ((if0 _ _).trans (teq c24_15).1) 31 (by decide) (by decide) ?_
  refine oiconst X13 hx hby od25_31 (0 : Int32) rfl 32 rfl ?_
  exact own_ret X13 hlk (v := some (.int 0)) (fun h => by rw [hret] at h; cases h) e13 (⟨own_iteF (own_memF (OwnHold.ins H (by omega) nx0) (by simp only [List.length_append, List.length_cons, List.length_nil]; omega) ny c24_15), N13, K2, f2a, f2b, f2c, f2d, f2e, _, f2f, hz2⟩) (by decide) (by decide) (fun fs hr => own_retN X13 hx (t := .boolean) hret (by simp) (hb hby od25_32) rfl hr)
 ·
  refine oifNo X13 hx hby od25_24 rfl ((if0 _ _).trans (feq c24_15).1) 27 rfl ?_
  refine oiconst X13 hx hby od25_27 (1 : Int32) rfl 28 rfl ?_
  refine ogoto X13 hx hby od25_28 32 (by decide) (by decide) ?_
  exact own_ret X13 hlk (v := some (.int 1)) (fun h => by rw [hret] at h; cases h) e13 (⟨own_iteT (own_memT (OwnHold.ins H (by omega) nx0) (by simp only [List.length_append, List.length_cons, List.length_nil]; omega) ny c24_15), N13, K2, f2a, f2b, f2c, f2d, f2e, _, f2f, hz2⟩) (by decide) (by decide) (fun fs hr => own_retN X13 hx (t := .boolean) hret (by simp) (hb hby od25_32) rfl hr)
theorem own_mch_3_3 (l : Launch) (Z : State) (a0 : Array Value) (hw : OWS a0 Z) (ws : List Jvm.Cond) (o b pb : Addr) (kb kp : ClassId) (tb hs : List Int32) (sz mp x0 x1 x2 : Int32) (y : Int32) (h0 : Heap) (O0 : Old Z Z.heap.size h0) (E0 : oE7 Z h0 o) (g0 : Z.heap.size ≤ o) (gb : Z.heap.size ≤ b) (bp : b ≠ pb) (F0 : oF2 Z h0 o (.ref b)) (F1 : oF3 Z h0 o (.int sz)) (F2 : oF4 Z h0 o (.ref pb)) (F3 : oF5 Z h0 o (.int 3)) (F4 : oF6 Z h0 o (.int mp)) (AT : Arv Z h0 b kb .int (16 : Int32) (tb.map Value.int) (.int 0)) (AP : Arv Z h0 pb kp .int (3 : Int32) [(.int x0), (.int x1), (.int x2)] (.int 0)) (H : OwnHold tb hs) (hl : hs.length < 6) (hz : OwnSz sz hs.length) (nx0 : x0 ≠ 0) (nx1 : x1 ≠ 0) (nx2 : x2 ≠ 0) (ny : y ≠ 0) :
  ownMet l oM9 prog_107_method_5_code 2 (some .boolean) ws (oR 3 0 0 60) Z #[(.ref o), (.int y)] h0 (fun v h L => v = some (.int (if y ∈ (((hs ++ [x0]) ++ [x1]) ++ [x2]) then (1 : Int32) else 0)) ∧ Fr Z.heap.size L ∧ Keep h0 h [o, b] ∧ oF2 Z h o (.ref b) ∧ oF4 Z h o (.ref pb) ∧ oF5 Z h o (.int 0) ∧ oF6 Z h o (.int mp) ∧ Arv Z h b kb .int (16 : Int32) ((own_ins (own_ins (own_ins tb x0) x1) x2).map Value.int) (.int 0) ∧ ∃ sz' : Int32, oF3 Z h o (.int sz') ∧ OwnSz sz' (hs.length + 3)) := by
 refine own_met (plainFor_of_name oP59) ?_
 intro p e s m below meth c s₁ hx hby hml hown hnm hret hlk hZ e0 X0
 refine own_cast (show _ = (mkF m 0 #[.val (.ref o), .val (.int y)] []) by first | (simp [entryFrame, mkF, argsToLocals, Value.category]; done) | rfl) ?_
 refine oaloadN X0 hx hby od25_0 rfl (by rfl) 1 rfl ?_
 refine ogetF X0 hx hZ hown (host := "") (Or.inl (oW hw 80 rfl)) Via.refl e0 F3 rfl hby od25_1 4 rfl fun T1 X1 e1 => ?_
 refine oifNo X1 hx hby od25_4 rfl ((if0 _ _).trans (tlt ((by decide) : (0 : Int32) < (3 : Int32))).2.2.2) 7 rfl ?_
 refine oaloadN X1 hx hby od25_7 rfl (by rfl) 8 rfl ?_
 obtain ⟨v2, T2, L2, X2, q2, st2⟩ := own_callP X1 hx hZ hown (y := oM8) (oW hw 107 rfl) (oW hw 109 rfl) (own_nf22 hw) (oW hw 108 rfl) (oW hw 63 rfl) (oW hw 110 rfl) E0 (b := o) (argsL := []) (own_settle_3_3 l Z a0 hw [] o b pb kb kp tb hs sz mp x0 x1 x2 h0 O0 E0 g0 gb bp F0 F1 F2 F3 F4 AT AP H (by omega) hz nx0 nx1 nx2) 0 (by decide) (by decide) (by decide) (by decide) (by decide) e1 (g := (mkF m 8 #[.val (.ref o), .val (.int y)] [(.ref o)])) rfl (by rw [hml]; rfl) [] (lenOf oP123 rfl) rfl (by show 2 * 0 + _ ≤ _; exact Nat.le_of_eq rfl) (hb hby od25_8)
 obtain ⟨rfl, N2q, K2q, f2a, f2b, f2c, f2d, f2e, sz2, f2f, hz2⟩ := q2
 have N2 := Fr.app (Fr.nil _) N2q
 have f3 := (E0.keep K2q)
 have f10 := (AP.keep K2q (ninS (Ne.symm (Exa.neArv E0 AP (oW hw 62 rfl))) (ninS (Ne.symm bp) nin0)))
 have O2 := O0.keep K2q (allS g0 (allS gb all0))
 have K2 := (Keep.refl h0 [o, b]).trans K2q (allS (Or.inl (List.mem_of_getElem? (i := 0) rfl)) (allS (Or.inl (List.mem_of_getElem? (i := 1) rfl)) all0))
 refine own_st (T2.setTop (mkF m 11 #[.val (.ref o), .val (.int y)] [])) st2 ?_
 refine oaloadN X2 hx hby od25_11 rfl (by rfl) 12 rfl ?_
 refine ogetF X2 hx hZ hown (host := "") (Or.inl (oW hw 69 rfl)) Via.refl rfl f2a rfl hby od25_12 15 rfl fun T11 X11 e11 => ?_
 refine oaloadN X11 hx hby od25_15 rfl (by rfl) 16 rfl ?_
 refine ogetF X11 hx hZ hown (host := "") (Or.inl (oW hw 69 rfl)) Via.refl e11 f2a rfl hby od25_16 19 rfl fun T12 X12 e12 => ?_
 refine oiloadN X12 hx hby od25_19 rfl 20 rfl ?_
 obtain ⟨v13, T13, L13, X13, q13, st13⟩ := own_callS X12 hx hZ hown (oW hw 111 rfl) (oW hw 112 rfl) (oW hw 63 rfl) (oW hw 113 rfl) (argsL := [(.ref b), (.int y)]) (own_find l Z a0 hw [] b kb (own_ins (own_ins (own_ins tb x0) x1) x2) y T2.heap O2 f2e (own_fst (OwnHold.ins (OwnHold.ins (OwnHold.ins H (by omega) nx0) (by simp only [List.length_append, List.length_cons, List.length_nil]; omega) nx1) (by simp only [List.length_append, List.length_cons, List.length_nil]; omega) nx2) (by simp only [List.length_append, List.length_cons, List.length_nil]; omega) _)) 1 (by decide) (by decide) (by decide) (by decide) (by decide) e12 (g := (mkF m 20 #[.val (.ref o), .val (.int y)] [(.int y), (.ref b), (.ref b)])) rfl (by rw [hml]; rfl) [(.ref b)] (lenOf oP76 rfl) rfl (by show 2 * 0 + _ ≤ _; exact Nat.le_of_eq rfl) (hb hby od25_20)
 obtain ⟨rfl, N13q, e13⟩ := q13
 have N13 := Fr.app N2 N13q
 refine own_st (T13.setTop (mkF m 23 #[.val (.ref o), .val (.int y)] [(.int (Int32.ofNat (own_fnd (own_ins (own_ins (own_ins tb x0) x1) x2) y))), (.ref b)])) st13 ?_
 obtain ⟨cl14, q14a, q14b, q14c, q14d, q14e, q14f⟩ := id f2e
 refine own_st (T13.setTop (mkF m 24 #[.val (.ref o), .val (.int y)] [(.int (own_g (own_ins (own_ins (own_ins tb x0) x1) x2) (own_fnd (own_ins (own_ins (own_ins tb x0) x1) x2) y)))])) (fun tq kq => X13.iaload hx (j := (Int32.ofNat (own_fnd (own_ins (own_ins (own_ins tb x0) x1) x2) y))) (v := (.int (own_g (own_ins (own_ins (own_ins tb x0) x1) x2) (own_fnd (own_ins (own_ins (own_ins tb x0) x1) x2) y)))) (by rw [e13]; exact q14a.1) (State.isArrayOf_alike hZ.alike q14a.2.1) q14a.2.2 (inb_of q14c (own_ofb (own_flt (OwnHold.ins (OwnHold.ins (OwnHold.ins H (by omega) nx0) (by simp only [List.length_append, List.length_cons, List.length_nil]; omega) nx1) (by simp only [List.length_append, List.length_cons, List.length_nil]; omega) nx2) (by simp only [List.length_append, List.length_cons, List.length_nil]; omega) _))) (q14e.at (inb_of q14c (own_ofb (own_flt (OwnHold.ins (OwnHold.ins (OwnHold.ins H (by omega) nx0) (by simp only [List.length_append, List.length_cons, List.length_nil]; omega) nx1) (by simp only [List.length_append, List.length_cons, List.length_nil]; omega) nx2) (by simp only [List.length_append, List.length_cons, List.length_nil]; omega) _))) (by rw [(own_ofn (own_flt (OwnHold.ins (OwnHold.ins (OwnHold.ins H (by omega) nx0) (by simp only [List.length_append, List.length_cons, List.length_nil]; omega) nx1) (by simp only [List.length_append, List.length_cons, List.length_nil]; omega) nx2) (by simp only [List.length_append, List.length_cons, List.length_nil]; omega) _))]; exact own_gm _ _)) (g := (mkF m 23 #[.val (.ref o), .val (.int y)] [(.int (Int32.ofNat (own_fnd (own_ins (own_ins (own_ins tb x0) x1) x2) y))), (.ref b)])) rfl rfl (hb hby od25_23) tq kq) ?_
 by_cases c24_15 : (own_g (own_ins (own_ins (own_ins tb x0) x1) x2) (own_fnd (own_ins (own_ins (own_ins tb x0) x1) x2) y)) = (0 : Int32)
 ·
  refine oifYes X13 hx hby od25_24 rfl ((if0 _ _).trans (teq c24_15).1) 31 (by decide) (by decide) ?_
  refine oiconst X13 hx hby od25_31 (0 : Int32) rfl 32 rfl ?_
  exact own_ret X13 hlk (v := some (.int 0)) (fun h => by rw [hret] at h; cases h) e13 (⟨own_iteF (own_memF (OwnHold.ins (OwnHold.ins (OwnHold.ins H (by omega) nx0) (by simp only [List.length_append, List.length_cons, List.length_nil]; omega) nx1) (by simp only [List.length_append, List.length_cons, List.length_nil]; omega) nx2) (by simp only [List.length_append, List.length_cons, List.length_nil]; omega) ny c24_15), N13, K2, f2a, f2b, f2c, f2d, f2e, _, f2f, hz2⟩) (by decide) (by decide) (fun fs hr => own_retN X13 hx (t := .boolean) hret (by simp) (hb hby od25_32) rfl hr)
 ·
  refine oifNo X13 hx hby od25_24 rfl ((if0 _ _).trans (feq c24_15).1) 27 rfl ?_
  refine oiconst X13 hx hby od25_27 (1 : Int32) rfl 28 rfl ?_
  refine ogoto X13 hx hby od25_28 32 (by decide) (by decide) ?_
  exact own_ret X13 hlk (v := some (.int 1)) (fun h => by rw [hret] at h; cases h) e13 (⟨own_iteT (own_memT (OwnHold.ins (OwnHold.ins (OwnHold.ins H (by omega) nx0) (by simp only [List.length_append, List.length_cons, List.length_nil]; omega) nx1) (by simp only [List.length_append, List.length_cons, List.length_nil]; omega) nx2) (by simp only [List.length_append, List.length_cons, List.length_nil]; omega) ny c24_15), N13, K2, f2a, f2b, f2c, f2d, f2e, _, f2f, hz2⟩) (by decide) (by decide) (fun fs hr => own_retN X13 hx (t := .boolean) hret (by simp) (hb hby od25_32) rfl hr)
theorem own_mch_4_3 (l : Launch) (Z : State) (a0 : Array Value) (hw : OWS a0 Z) (ws : List Jvm.Cond) (o b pb : Addr) (kb kp : ClassId) (tb hs : List Int32) (sz mp x0 x1 x2 x3 : Int32) (y : Int32) (h0 : Heap) (O0 : Old Z Z.heap.size h0) (E0 : oE7 Z h0 o) (g0 : Z.heap.size ≤ o) (gb : Z.heap.size ≤ b) (bp : b ≠ pb) (F0 : oF2 Z h0 o (.ref b)) (F1 : oF3 Z h0 o (.int sz)) (F2 : oF4 Z h0 o (.ref pb)) (F3 : oF5 Z h0 o (.int 3)) (F4 : oF6 Z h0 o (.int mp)) (AT : Arv Z h0 b kb .int (16 : Int32) (tb.map Value.int) (.int 0)) (AP : Arv Z h0 pb kp .int (4 : Int32) [(.int x0), (.int x1), (.int x2), (.int x3)] (.int 0)) (H : OwnHold tb hs) (hl : hs.length < 6) (hz : OwnSz sz hs.length) (nx0 : x0 ≠ 0) (nx1 : x1 ≠ 0) (nx2 : x2 ≠ 0) (ny : y ≠ 0) :
  ownMet l oM9 prog_107_method_5_code 2 (some .boolean) ws (oR 3 0 0 60) Z #[(.ref o), (.int y)] h0 (fun v h L => v = some (.int (if y ∈ (((hs ++ [x0]) ++ [x1]) ++ [x2]) then (1 : Int32) else 0)) ∧ Fr Z.heap.size L ∧ Keep h0 h [o, b] ∧ oF2 Z h o (.ref b) ∧ oF4 Z h o (.ref pb) ∧ oF5 Z h o (.int 0) ∧ oF6 Z h o (.int mp) ∧ Arv Z h b kb .int (16 : Int32) ((own_ins (own_ins (own_ins tb x0) x1) x2).map Value.int) (.int 0) ∧ ∃ sz' : Int32, oF3 Z h o (.int sz') ∧ OwnSz sz' (hs.length + 3)) := by
 refine own_met (plainFor_of_name oP59) ?_
 intro p e s m below meth c s₁ hx hby hml hown hnm hret hlk hZ e0 X0
 refine own_cast (show _ = (mkF m 0 #[.val (.ref o), .val (.int y)] []) by first | (simp [entryFrame, mkF, argsToLocals, Value.category]; done) | rfl) ?_
 refine oaloadN X0 hx hby od25_0 rfl (by rfl) 1 rfl ?_
 refine ogetF X0 hx hZ hown (host := "") (Or.inl (oW hw 80 rfl)) Via.refl e0 F3 rfl hby od25_1 4 rfl fun T1 X1 e1 => ?_
 refine oifNo X1 hx hby od25_4 rfl ((if0 _ _).trans (tlt ((by decide) : (0 : Int32) < (3 : Int32))).2.2.2) 7 rfl ?_
 refine oaloadN X1 hx hby od25_7 rfl (by rfl) 8 rfl ?_
 obtain ⟨v2, T2, L2, X2, q2, st2⟩ := own_callP X1 hx hZ hown (y := oM8) (oW hw 107 rfl) (oW hw 109 rfl) (own_nf22 hw) (oW hw 108 rfl) (oW hw 63 rfl) (oW hw 110 rfl) E0 (b := o) (argsL := []) (own_settle_4_3 l Z a0 hw [] o b pb kb kp tb hs sz mp x0 x1 x2 x3 h0 O0 E0 g0 gb bp F0 F1 F2 F3 F4 AT AP H (by omega) hz nx0 nx1 nx2) 0 (by decide) (by decide) (by decide) (by decide) (by decide) e1 (g := (mkF m 8 #[.val (.ref o), .val (.int y)] [(.ref o)])) rfl (by rw [hml]; rfl) [] (lenOf oP123 rfl) rfl (by show 2 * 0 + _ ≤ _; exact Nat.le_of_eq rfl) (hb hby od25_8)
 obtain ⟨rfl, N2q, K2q, f2a, f2b, f2c, f2d, f2e, sz2, f2f, hz2⟩ := q2
 have N2 := Fr.app (Fr.nil _) N2q
 have f3 := (E0.keep K2q)
 have f10 := (AP.keep K2q (ninS (Ne.symm (Exa.neArv E0 AP (oW hw 62 rfl))) (ninS (Ne.symm bp) nin0)))
 have O2 := O0.keep K2q (allS g0 (allS gb all0))
 have K2 := (Keep.refl h0 [o, b]).trans K2q (allS (Or.inl (List.mem_of_getElem? (i := 0) rfl)) (allS (Or.inl (List.mem_of_getElem? (i := 1) rfl)) all0))
 refine own_st (T2.setTop (mkF m 11 #[.val (.ref o), .val (.int y)] [])) st2 ?_
 refine oaloadN X2 hx hby od25_11 rfl (by rfl) 12 rfl ?_
 refine ogetF X2 hx hZ hown (host := "") (Or.inl (oW hw 69 rfl)) Via.refl rfl f2a rfl hby od25_12 15 rfl fun T11 X11 e11 => ?_
 refine oaloadN X11 hx hby od25_15 rfl (by rfl) 16 rfl ?_
 refine ogetF X11 hx hZ hown (host := "") (Or.inl (oW hw 69 rfl)) Via.refl e11 f2a rfl hby od25_16 19 rfl fun T12 X12 e12 => ?_
 refine oiloadN X12 hx hby od25_19 rfl 20 rfl ?_
 obtain ⟨v13, T13, L13, X13, q13, st13⟩ := own_callS X12 hx hZ hown (oW hw 111 rfl) (oW hw 112 rfl) (oW hw 63 rfl) (oW hw 113 rfl) (argsL := [(.ref b), (.int y)]) (own_find l Z a0 hw [] b kb (own_ins (own_ins (own_ins tb x0) x1) x2) y T2.heap O2 f2e (own_fst (OwnHold.ins (OwnHold.ins (OwnHold.ins H (by omega) nx0) (by simp only [List.length_append, List.length_cons, List.length_nil]; omega) nx1) (by simp only [List.length_append, List.length_cons, List.length_nil]; omega) nx2) (by simp only [List.length_append, List.length_cons, List.length_nil]; omega) _)) 1 (by decide) (by decide) (by decide) (by decide) (by decide) e12 (g := (mkF m 20 #[.val (.ref o), .val (.int y)] [(.int y), (.ref b), (.ref b)])) rfl (by rw [hml]; rfl) [(.ref b)] (lenOf oP76 rfl) rfl (by show 2 * 0 + _ ≤ _; exact Nat.le_of_eq rfl) (hb hby od25_20)
 obtain ⟨rfl, N13q, e13⟩ := q13
 have N13 := Fr.app N2 N13q
 refine own_st (T13.setTop (mkF m 23 #[.val (.ref o), .val (.int y)] [(.int (Int32.ofNat (own_fnd (own_ins (own_ins (own_ins tb x0) x1) x2) y))), (.ref b)])) st13 ?_
 obtain ⟨cl14, q14a, q14b, q14c, q14d, q14e, q14f⟩ := id f2e
 refine own_st (T13.setTop (mkF m 24 #[.val (.ref o), .val (.int y)] [(.int (own_g (own_ins (own_ins (own_ins tb x0) x1) x2) (own_fnd (own_ins (own_ins (own_ins tb x0) x1) x2) y)))])) (fun tq kq => X13.iaload hx (j := (Int32.ofNat (own_fnd (own_ins (own_ins (own_ins tb x0) x1) x2) y))) (v := (.int (own_g (own_ins (own_ins (own_ins tb x0) x1) x2) (own_fnd (own_ins (own_ins (own_ins tb x0) x1) x2) y)))) (by rw [e13]; exact q14a.1) (State.isArrayOf_alike hZ.alike q14a.2.1) q14a.2.2 (inb_of q14c (own_ofb (own_flt (OwnHold.ins (OwnHold.ins (OwnHold.ins H (by omega) nx0) (by simp only [List.length_append, List.length_cons, List.length_nil]; omega) nx1) (by simp only [List.length_append, List.length_cons, List.length_nil]; omega) nx2) (by simp only [List.length_append, List.length_cons, List.length_nil]; omega) _))) (q14e.at (inb_of q14c (own_ofb (own_flt (OwnHold.ins (OwnHold.ins (OwnHold.ins H (by omega) nx0) (by simp only [List.length_append, List.length_cons, List.length_nil]; omega) nx1) (by simp only [List.length_append, List.length_cons, List.length_nil]; omega) nx2) (by simp only [List.length_append, List.length_cons, List.length_nil]; omega) _))) (by rw [(own_ofn (own_flt (OwnHold.ins (OwnHold.ins (OwnHold.ins H (by omega) nx0) (by simp only [List.length_append, List.length_cons, List.length_nil]; omega) nx1) (by simp only [List.length_append, List.length_cons, List.length_nil]; omega) nx2) (by simp only [List.length_append, List.length_cons, List.length_nil]; omega) _))]; exact own_gm _ _)) (g := (mkF m 23 #[.val (.ref o), .val (.int y)] [(.int (Int32.ofNat (own_fnd (own_ins (own_ins (own_ins tb x0) x1) x2) y))), (.ref b)])) rfl rfl (hb hby od25_23) tq kq) ?_
 by_cases c24_15 : (own_g (own_ins (own_ins (own_ins tb x0) x1) x2) (own_fnd (own_ins (own_ins (own_ins tb x0) x1) x2) y)) = (0 : Int32)
 ·
  refine oifYes X13 hx hby od25_24 rfl ((if0 _ _).trans (teq c24_15).1) 31 (by decide) (by decide) ?_
  refine oiconst X13 hx hby od25_31 (0 : Int32) rfl 32 rfl ?_
  exact own_ret X13 hlk (v := some (.int 0)) (fun h => by rw [hret] at h; cases h) e13 (⟨own_iteF (own_memF (OwnHold.ins (OwnHold.ins (OwnHold.ins H (by omega) nx0) (by simp only [List.length_append, List.length_cons, List.length_nil]; omega) nx1) (by simp only [List.length_append, List.length_cons, List.length_nil]; omega) nx2) (by simp only [List.length_append, List.length_cons, List.length_nil]; omega) ny c24_15), N13, K2, f2a, f2b, f2c, f2d, f2e, _, f2f, hz2⟩) (by decide) (by decide) (fun fs hr => own_retN X13 hx (t := .boolean) hret (by simp) (hb hby od25_32) rfl hr)
 ·
  refine oifNo X13 hx hby od25_24 rfl ((if0 _ _).trans (feq c24_15).1) 27 rfl ?_
  refine oiconst X13 hx hby od25_27 (1 : Int32) rfl 28 rfl ?_
  refine ogoto X13 hx hby od25_28 32 (by decide) (by decide) ?_
  exact own_ret X13 hlk (v := some (.int 1)) (fun h => by rw [hret] at h; cases h) e13 (⟨own_iteT (own_memT (OwnHold.ins (OwnHold.ins (OwnHold.ins H (by omega) nx0) (by simp only [List.length_append, List.length_cons, List.length_nil]; omega) nx1) (by simp only [List.length_append, List.length_cons, List.length_nil]; omega) nx2) (by simp only [List.length_append, List.length_cons, List.length_nil]; omega) ny c24_15), N13, K2, f2a, f2b, f2c, f2d, f2e, _, f2f, hz2⟩) (by decide) (by decide) (fun fs hr => own_retN X13 hx (t := .boolean) hret (by simp) (hb hby od25_32) rfl hr)
theorem own_mchR (l : Launch) (Z : State) (a0 : Array Value) (hw : OWS a0 Z) (ws : List Jvm.Cond) (o b pb : Addr) (hs : List Int32) (y : Int32) (h0 : Heap) (O0 : Old Z Z.heap.size h0) (R : OwnRep Z h0 o b pb hs) (hl : hs.length < 6) (ny : y ≠ 0) :
  ownMet l oM9 prog_107_method_5_code 2 (some .boolean) ws (oR 3 0 0 60) Z #[(.ref o), (.int y)] h0 (fun v h L => v = some (.int (if y ∈ hs then (1 : Int32) else 0)) ∧ Fr Z.heap.size L ∧ Keep h0 h [o, b] ∧ OwnRep Z h o b pb hs) := by
 obtain ⟨kb, kp, tb, hs0, sz, mp, E0, g0, gb, bp, F0, F1, F2, F4, AT, H, hz, P⟩ := R
 rcases P with ⟨F3, rfl⟩ | ⟨x0, F3, AP, nx0, rfl⟩ | ⟨x0, x1, F3, AP, nx0, nx1, rfl⟩ | ⟨x0, x1, F3, AP, nx0, rfl⟩ | ⟨x0, x1, x2, F3, AP, nx0, nx1, nx2, rfl⟩ | ⟨x0, x1, x2, x3, F3, AP, nx0, nx1, nx2, rfl⟩
 ·
  refine own_mono (own_mch_0_0 l Z a0 hw ws o b kb tb hs y h0 O0 E0 F0 F3 AT H hl ny) ?_
  rintro v h L ⟨q, N, rfl⟩
  exact ⟨q, N, Keep.refl _ _, kb, kp, tb, hs, sz, mp, E0, g0, gb, bp, F0, F1, F2, F4, AT, H, hz, Or.inl ⟨F3, rfl⟩⟩
 ·
  refine own_mono (own_mch_1_1 l Z a0 hw ws o b pb kb kp tb hs0 sz mp x0 y h0 O0 E0 g0 gb bp F0 F1 F2 F3 F4 AT AP H (by simp only [List.length_append, List.length_cons, List.length_nil] at hl ⊢; omega) hz nx0 ny) ?_
  rintro v h L ⟨q, N, K, fa, fb, fc, fd, fe, sz', ff, hz'⟩
  exact ⟨q, N, K, ⟨kb, kp, _, _, sz', mp, E0.keep K, g0, gb, bp, fa, ff, fb, fd, fe, (OwnHold.ins H (by simp only [List.length_append, List.length_cons, List.length_nil] at hl ⊢; omega) nx0), OwnSz.mono hz' (by simp only [List.length_append, List.length_cons, List.length_nil]; omega), Or.inl ⟨fc, rfl⟩⟩⟩
 ·
  refine own_mono (own_mch_2_2 l Z a0 hw ws o b pb kb kp tb hs0 sz mp x0 x1 y h0 O0 E0 g0 gb bp F0 F1 F2 F3 F4 AT AP H (by simp only [List.length_append, List.length_cons, List.length_nil] at hl ⊢; omega) hz nx0 nx1 ny) ?_
  rintro v h L ⟨q, N, K, fa, fb, fc, fd, fe, sz', ff, hz'⟩
  exact ⟨q, N, K, ⟨kb, kp, _, _, sz', mp, E0.keep K, g0, gb, bp, fa, ff, fb, fd, fe, (OwnHold.ins (OwnHold.ins H (by simp only [List.length_append, List.length_cons, List.length_nil] at hl ⊢; omega) nx0) (by simp only [List.length_append, List.length_cons, List.length_nil] at hl ⊢; omega) nx1), OwnSz.mono hz' (by simp only [List.length_append, List.length_cons, List.length_nil]; omega), Or.inl ⟨fc, rfl⟩⟩⟩
 ·
  refine own_mono (own_mch_2_1 l Z a0 hw ws o b pb kb kp tb hs0 sz mp x0 x1 y h0 O0 E0 g0 gb bp F0 F1 F2 F3 F4 AT AP H (by simp only [List.length_append, List.length_cons, List.length_nil] at hl ⊢; omega) hz nx0 ny) ?_
  rintro v h L ⟨q, N, K, fa, fb, fc, fd, fe, sz', ff, hz'⟩
  exact ⟨q, N, K, ⟨kb, kp, _, _, sz', mp, E0.keep K, g0, gb, bp, fa, ff, fb, fd, fe, (OwnHold.ins H (by simp only [List.length_append, List.length_cons, List.length_nil] at hl ⊢; omega) nx0), OwnSz.mono hz' (by simp only [List.length_append, List.length_cons, List.length_nil]; omega), Or.inl ⟨fc, rfl⟩⟩⟩
 ·
  refine own_mono (own_mch_3_3 l Z a0 hw ws o b pb kb kp tb hs0 sz mp x0 x1 x2 y h0 O0 E0 g0 gb bp F0 F1 F2 F3 F4 AT AP H (by simp only [List.length_append, List.length_cons, List.length_nil] at hl ⊢; omega) hz nx0 nx1 nx2 ny) ?_
  rintro v h L ⟨q, N, K, fa, fb, fc, fd, fe, sz', ff, hz'⟩
  exact ⟨q, N, K, ⟨kb, kp, _, _, sz', mp, E0.keep K, g0, gb, bp, fa, ff, fb, fd, fe, (OwnHold.ins (OwnHold.ins (OwnHold.ins H (by simp only [List.length_append, List.length_cons, List.length_nil] at hl ⊢; omega) nx0) (by simp only [List.length_append, List.length_cons, List.length_nil] at hl ⊢; omega) nx1) (by simp only [List.length_append, List.length_cons, List.length_nil] at hl ⊢; omega) nx2), OwnSz.mono hz' (by simp only [List.length_append, List.length_cons, List.length_nil]; omega), Or.inl ⟨fc, rfl⟩⟩⟩
 ·
  refine own_mono (own_mch_4_3 l Z a0 hw ws o b pb kb kp tb hs0 sz mp x0 x1 x2 x3 y h0 O0 E0 g0 gb bp F0 F1 F2 F3 F4 AT AP H (by simp only [List.length_append, List.length_cons, List.length_nil] at hl ⊢; omega) hz nx0 nx1 nx2 ny) ?_
  rintro v h L ⟨q, N, K, fa, fb, fc, fd, fe, sz', ff, hz'⟩
  exact ⟨q, N, K, ⟨kb, kp, _, _, sz', mp, E0.keep K, g0, gb, bp, fa, ff, fb, fd, fe, (OwnHold.ins (OwnHold.ins (OwnHold.ins H (by simp only [List.length_append, List.length_cons, List.length_nil] at hl ⊢; omega) nx0) (by simp only [List.length_append, List.length_cons, List.length_nil] at hl ⊢; omega) nx1) (by simp only [List.length_append, List.length_cons, List.length_nil] at hl ⊢; omega) nx2), OwnSz.mono hz' (by simp only [List.length_append, List.length_cons, List.length_nil]; omega), Or.inl ⟨fc, rfl⟩⟩⟩
theorem od16_15 : decode prog_107_method_6_code 15 = .ok (.iload_n 3, 1) := by decide +kernel
theorem od16_16 : decode prog_107_method_6_code 16 = .ok (.aload_n 0, 1) := by decide +kernel
theorem od16_17 : decode prog_107_method_6_code 17 = .ok (.getfield 13, 3) := by decide +kernel
theorem od16_20 : decode prog_107_method_6_code 20 = .ok (.arraylength, 1) := by decide +kernel
theorem od16_21 : decode prog_107_method_6_code 21 = .ok (.if_icmp .ge 41, 3) := by decide +kernel
theorem od16_62 : decode prog_107_method_6_code 62 = .ok (.iload_n 2, 1) := by decide +kernel
theorem od16_63 : decode prog_107_method_6_code 63 = .ok (.ireturn, 1) := by decide +kernel
theorem od16_24 : decode prog_107_method_6_code 24 = .ok (.iload_n 2, 1) := by decide +kernel
theorem od16_25 : decode prog_107_method_6_code 25 = .ok (.ifCond .ne 37, 3) := by decide +kernel
theorem od16_28 : decode prog_107_method_6_code 28 = .ok (.aload_n 0, 1) := by decide +kernel
theorem od16_29 : decode prog_107_method_6_code 29 = .ok (.getfield 13, 3) := by decide +kernel
theorem od16_32 : decode prog_107_method_6_code 32 = .ok (.iload_n 3, 1) := by decide +kernel
theorem od16_33 : decode prog_107_method_6_code 33 = .ok (.iaload, 1) := by decide +kernel
theorem od16_34 : decode prog_107_method_6_code 34 = .ok (.istore 4, 2) := by decide +kernel
theorem od16_36 : decode prog_107_method_6_code 36 = .ok (.iload 4, 2) := by decide +kernel
theorem od16_38 : decode prog_107_method_6_code 38 = .ok (.ifCond .eq 16, 3) := by decide +kernel
theorem od16_54 : decode prog_107_method_6_code 54 = .ok (.iconst 0, 1) := by decide +kernel
theorem od16_55 : decode prog_107_method_6_code 55 = .ok (.istore_n 2, 1) := by decide +kernel
theorem od16_56 : decode prog_107_method_6_code 56 = .ok (.iinc 3 1, 3) := by decide +kernel
theorem od16_59 : decode prog_107_method_6_code 59 = .ok (.goto (-44), 3) := by decide +kernel
theorem od16_41 : decode prog_107_method_6_code 41 = .ok (.aload_n 1, 1) := by decide +kernel
theorem od16_42 : decode prog_107_method_6_code 42 = .ok (.iload 4, 2) := by decide +kernel
theorem oP147 : parseMethodDescriptor "(I)Z" = some ⟨[.int], some .boolean⟩ := by decide +kernel
theorem od16_44 : decode prog_107_method_6_code 44 = .ok (.invokevirtual 55, 3) := by decide +kernel
theorem own_nf25 {Z : State} {a0 : Array Value} (hw : OWS a0 Z) : NotFace Z oM9 := by
 obtain ⟨r, hr⟩ := own_named (oW hw 77 rfl)
 exact own_nfc (notFace_of_selects (args := a0) (oW hw 78 rfl)) hr rfl
theorem od16_47 : decode prog_107_method_6_code 47 = .ok (.ifCond .eq 7, 3) := by decide +kernel
theorem od16_50 : decode prog_107_method_6_code 50 = .ok (.iconst 1, 1) := by decide +kernel
theorem od16_51 : decode prog_107_method_6_code 51 = .ok (.goto 4, 3) := by decide +kernel
theorem own_meetsL (l : Launch) (Z : State) (a0 : Array Value) (hw : OWS a0 Z) (o b o2 b2 p2 : Addr) (kb : ClassId) (tb hs2 : List Int32) (h0 : Heap) (hl2 : hs2.length < 6) (u1 : o ≠ o2) (u2 : o ≠ b2) (u3 : b ≠ o2) (u4 : b ≠ b2) :
  ∀ (n : Nat) (i : Int32) (sl : Slot) (p : Program) (e : Env) (s : State) (m : MethodId) (below : List Frame) (meth : Method) (c : Code) (T : State) (LL : List Loc) (h : Heap), p.tables.exec = Jvm.exec → c.code = prog_107_method_6_code → c.maxLocals = 5 → s.vm.findClass "com/example/rising_block/risingblock/util/StringHashes" = some m.cls → meth.sig.returnType = some .boolean → meth.locks = false → Z.Warmed39 s.vm → T.heap = h →
   Stand p l e (oR 5 0 0 100) s m #[.ref o, .ref o2] below meth c T LL 0 0 → Fr Z.heap.size LL → Old Z Z.heap.size h → Keep h0 h [o2, b2] → oE7 Z h o → oF2 Z h o (.ref b) → Arv Z h b kb .int (16 : Int32) (tb.map Value.int) (.int 0) → OwnRep Z h o2 b2 p2 hs2 → i.toInt + (n : Int) = 16 → 0 ≤ i.toInt → (sl = .unset ∨ ∃ zz : Int32, sl = .val (.int zz)) →
   ownGo p e below (ownQ s (fun v h' L => v = some (.int (if own_any tb hs2 n i.toNatClampNeg = true then (1 : Int32) else 0)) ∧ Fr Z.heap.size L ∧ Keep h0 h' [o2, b2] ∧ OwnRep Z h' o2 b2 p2 hs2) 0 0) (T.setTop (mkF m 15 #[.val (.ref o), .val (.ref o2), .val (.int 0), .val (.int i), sl] [])) := by
 intro n
 induction n with
 | zero =>
  intro i sl p e s m below meth c T LL h hx hby hml hown hret hlk hZ e0 X0 N0 O0 K0 E0 F0 AT R2 hn h0i hsl
  rcases hsl with rfl | ⟨zz, rfl⟩
  ·
   refine oiloadN X0 hx hby od16_15 rfl 16 rfl ?_
   refine oaloadN X0 hx hby od16_16 rfl (by rfl) 17 rfl ?_
   refine ogetF X0 hx hZ hown (host := "") (Or.inl (oW hw 69 rfl)) Via.refl e0 F0 rfl hby od16_17 20 rfl fun T1 X1 e1 => ?_
   obtain ⟨cl2, q2a, q2b, q2c, q2d, q2e, q2f⟩ := id AT
   let La71 : Array Slot := #[rv o, rv o2, .val (.int 0), .val (.int i), .unset]
   refine own_st (T1.setTop (mkF m 21 La71 [(.int 16), (.int i)])) (fun tq kq => X1.arraylength hx (by rw [e1]; exact q2a.1) (State.isArrayOf_alike hZ.alike q2a.2.1) (g := (mkF m 20 La71 [(.ref b), (.int i)])) rfl rfl (hb hby od16_20) tq (by rw [len_of q2c q2d]; exact kq)) ?_
   refine oicmpYes X1 hx hby od16_21 rfl (flt ((own_end hn) : ¬ (i < (16 : Int32)))).2.1 62 (by decide) (by decide) ?_
   refine oiloadN X1 hx hby od16_62 rfl 63 rfl ?_
   exact own_ret X1 hlk (v := some (.int 0)) (fun h => by rw [hret] at h; cases h) e1 (⟨own_iteF (by simp [own_any]), N0, K0, R2⟩) (by decide) (by decide) (fun fs hr => own_retN X1 hx (t := .boolean) hret (by simp) (hb hby od16_63) rfl hr)
  ·
   refine oiloadN X0 hx hby od16_15 rfl 16 rfl ?_
   refine oaloadN X0 hx hby od16_16 rfl (by rfl) 17 rfl ?_
   refine ogetF X0 hx hZ hown (host := "") (Or.inl (oW hw 69 rfl)) Via.refl e0 F0 rfl hby od16_17 20 rfl fun T1 X1 e1 => ?_
   obtain ⟨cl2, q2a, q2b, q2c, q2d, q2e, q2f⟩ := id AT
   let La72 : Array Slot := #[rv o, rv o2, .val (.int 0), .val (.int i), .val (.int zz)]
   refine own_st (T1.setTop (mkF m 21 La72 [(.int 16), (.int i)])) (fun tq kq => X1.arraylength hx (by rw [e1]; exact q2a.1) (State.isArrayOf_alike hZ.alike q2a.2.1) (g := (mkF m 20 La72 [(.ref b), (.int i)])) rfl rfl (hb hby od16_20) tq (by rw [len_of q2c q2d]; exact kq)) ?_
   refine oicmpYes X1 hx hby od16_21 rfl (flt ((own_end hn) : ¬ (i < (16 : Int32)))).2.1 62 (by decide) (by decide) ?_
   refine oiloadN X1 hx hby od16_62 rfl 63 rfl ?_
   exact own_ret X1 hlk (v := some (.int 0)) (fun h => by rw [hret] at h; cases h) e1 (⟨own_iteF (by simp [own_any]), N0, K0, R2⟩) (by decide) (by decide) (fun fs hr => own_retN X1 hx (t := .boolean) hret (by simp) (hb hby od16_63) rfl hr)
 | succ n ih =>
  intro i sl p e s m below meth c T LL h hx hby hml hown hret hlk hZ e0 X0 N0 O0 K0 E0 F0 AT R2 hn h0i hsl
  rcases hsl with rfl | ⟨zz, rfl⟩
  ·
   refine oiloadN X0 hx hby od16_15 rfl 16 rfl ?_
   refine oaloadN X0 hx hby od16_16 rfl (by rfl) 17 rfl ?_
   refine ogetF X0 hx hZ hown (host := "") (Or.inl (oW hw 69 rfl)) Via.refl e0 F0 rfl hby od16_17 20 rfl fun T1 X1 e1 => ?_
   obtain ⟨cl2, q2a, q2b, q2c, q2d, q2e, q2f⟩ := id AT
   let La73 : Array Slot := #[rv o, rv o2, .val (.int 0), .val (.int i), .unset]
   refine own_st (T1.setTop (mkF m 21 La73 [(.int 16), (.int i)])) (fun tq kq => X1.arraylength hx (by rw [e1]; exact q2a.1) (State.isArrayOf_alike hZ.alike q2a.2.1) (g := (mkF m 20 La73 [(.ref b), (.int i)])) rfl rfl (hb hby od16_20) tq (by rw [len_of q2c q2d]; exact kq)) ?_
   refine oicmpNo X1 hx hby od16_21 rfl (tlt ((own_step hn h0i).2.1 : i < (16 : Int32))).2.1 24 rfl ?_
   refine oiloadN X1 hx hby od16_24 rfl 25 rfl ?_
   refine oifNo X1 hx hby od16_25 rfl ((if0 _ _).trans (teq ((by decide) : (0 : Int32) = (0 : Int32))).2) 28 rfl ?_
   refine oaloadN X1 hx hby od16_28 rfl (by rfl) 29 rfl ?_
   refine ogetF X1 hx hZ hown (host := "") (Or.inl (oW hw 69 rfl)) Via.refl e1 F0 rfl hby od16_29 32 rfl fun T3 X3 e3 => ?_
   refine oiloadN X3 hx hby od16_32 rfl 33 rfl ?_
   obtain ⟨cl4, q4a, q4b, q4c, q4d, q4e, q4f⟩ := id AT
   refine own_st (T3.setTop (mkF m 34 La73 [(.int (own_g tb i.toNatClampNeg))])) (fun tq kq => X3.iaload hx (j := i) (v := (.int (own_g tb i.toNatClampNeg))) (by rw [e3]; exact q4a.1) (State.isArrayOf_alike hZ.alike q4a.2.1) q4a.2.2 (inb_of q4c ⟨(own_step hn h0i).1, (own_step hn h0i).2.1⟩) (q4e.at (inb_of q4c ⟨(own_step hn h0i).1, (own_step hn h0i).2.1⟩) (own_gm _ _)) (g := (mkF m 33 La73 [(.int i), (.ref b)])) rfl rfl (hb hby od16_33) tq kq) ?_
   let La74 : Array Slot := #[rv o, rv o2, .val (.int 0), .val (.int i), .val (.int (own_g tb i.toNatClampNeg))]
   refine oistore X3 hx hby od16_34 rfl (L' := La74) rfl 36 rfl ?_
   refine oiload X3 hx hby od16_36 rfl 38 rfl ?_
   by_cases c38_5 : (own_g tb i.toNatClampNeg) = (0 : Int32)
   ·
    refine oifYes X3 hx hby od16_38 rfl ((if0 _ _).trans (teq c38_5).1) 54 (by decide) (by decide) ?_
    refine oiconst X3 hx hby od16_54 (0 : Int32) rfl 55 rfl ?_
    refine oistoreN X3 hx hby od16_55 rfl (L' := La74) rfl 56 rfl ?_
    let La75 : Array Slot := #[rv o, rv o2, .val (.int 0), .val (.int (i + (1 : Int32))), .val (.int (own_g tb i.toNatClampNeg))]
    refine oiinc X3 hx hby od16_56 rfl (L' := La75) rfl 59 rfl ?_
    refine ogoto X3 hx hby od16_59 15 (by decide) (by decide) ?_
    have eqn : own_any tb hs2 (n + 1) i.toNatClampNeg = own_any tb hs2 n (i + (1 : Int32)).toNatClampNeg := by rw [(own_step hn h0i).2.2.2.2]; exact own_any0 c38_5
    rw [eqn]
    exact ih _ _ p e s m below meth c _ _ _ hx hby hml hown hret hlk hZ e3 X3 N0 O0 K0 E0 F0 AT R2 (own_step hn h0i).2.2.1 (own_step hn h0i).2.2.2.1 (Or.inr ⟨_, rfl⟩)
   ·
    refine oifNo X3 hx hby od16_38 rfl ((if0 _ _).trans (feq c38_5).1) 41 rfl ?_
    refine oaloadN X3 hx hby od16_41 rfl (by rfl) 42 rfl ?_
    refine oiload X3 hx hby od16_42 rfl 44 rfl ?_
    obtain ⟨v6, T6, L6, X6, q6, st6⟩ := own_callP X3 hx hZ hown (y := oM9) (oW hw 122 rfl) (oW hw 124 rfl) (own_nf25 hw) (oW hw 123 rfl) (oW hw 63 rfl) (oW hw 125 rfl) R2.exa (b := o2) (argsL := [(.int (own_g tb i.toNatClampNeg))]) (own_mchR l Z a0 hw [] o2 b2 p2 hs2 (own_g tb i.toNatClampNeg) h O0 R2 hl2 c38_5) 0 (by decide) (by decide) (by decide) (by decide) (by decide) e3 (g := (mkF m 44 La74 [(.int (own_g tb i.toNatClampNeg)), (.ref o2)])) rfl (by rw [hml]; rfl) [] (lenOf oP147 rfl) rfl (by show 2 * 0 + _ ≤ _; exact Nat.le_of_eq rfl) (hb hby od16_44)
    obtain ⟨rfl, N6q, K6q, R6r⟩ := q6
    have N6 := Fr.app N0 N6q
    have f7 := (E0.keep K6q)
    have f8 := (F0.keep K6q (ninS u1 (ninS u2 nin0)))
    have f9 := (AT.keep K6q (ninS u3 (ninS u4 nin0)))
    have O6 := O0.keep K6q (allS R2.ge1 (allS R2.ge2 all0))
    have K6 := K0.trans K6q (allS (Or.inl (List.mem_of_getElem? (i := 0) rfl)) (allS (Or.inl (List.mem_of_getElem? (i := 1) rfl)) all0))
    refine own_st (T6.setTop (mkF m 47 La74 [(.int (if (own_g tb i.toNatClampNeg) ∈ hs2 then (1 : Int32) else 0))])) st6 ?_
    by_cases c47_10 : (if (own_g tb i.toNatClampNeg) ∈ hs2 then (1 : Int32) else 0) = (0 : Int32)
    ·
     refine oifYes X6 hx hby od16_47 rfl ((if0 _ _).trans (teq c47_10).1) 54 (by decide) (by decide) ?_
     refine oiconst X6 hx hby od16_54 (0 : Int32) rfl 55 rfl ?_
     refine oistoreN X6 hx hby od16_55 rfl (L' := La74) rfl 56 rfl ?_
     let La76 : Array Slot := #[rv o, rv o2, .val (.int 0), .val (.int (i + (1 : Int32))), .val (.int (own_g tb i.toNatClampNeg))]
     refine oiinc X6 hx hby od16_56 rfl (L' := La76) rfl 59 rfl ?_
     refine ogoto X6 hx hby od16_59 15 (by decide) (by decide) ?_
     have eqn : own_any tb hs2 (n + 1) i.toNatClampNeg = own_any tb hs2 n (i + (1 : Int32)).toNatClampNeg := by rw [(own_step hn h0i).2.2.2.2]; exact own_anyN (own_if0 c47_10)
     rw [eqn]
     exact ih _ _ p e s m below meth c _ _ _ hx hby hml hown hret hlk hZ rfl X6 N6 O6 K6 f7 f8 f9 R6r (own_step hn h0i).2.2.1 (own_step hn h0i).2.2.2.1 (Or.inr ⟨_, rfl⟩)
    ·
     refine oifNo X6 hx hby od16_47 rfl ((if0 _ _).trans (feq c47_10).1) 50 rfl ?_
     refine oiconst X6 hx hby od16_50 (1 : Int32) rfl 51 rfl ?_
     refine ogoto X6 hx hby od16_51 55 (by decide) (by decide) ?_
     let La77 : Array Slot := #[rv o, rv o2, .val (.int 1), .val (.int i), .val (.int (own_g tb i.toNatClampNeg))]
     refine oistoreN X6 hx hby od16_55 rfl (L' := La77) rfl 56 rfl ?_
     let La78 : Array Slot := #[rv o, rv o2, .val (.int 1), .val (.int (i + (1 : Int32))), .val (.int (own_g tb i.toNatClampNeg))]
     refine oiinc X6 hx hby od16_56 rfl (L' := La78) rfl 59 rfl ?_
     refine ogoto X6 hx hby od16_59 15 (by decide) (by decide) ?_
     refine oiloadN X6 hx hby od16_15 rfl 16 rfl ?_
     refine oaloadN X6 hx hby od16_16 rfl (by rfl) 17 rfl ?_
     refine ogetF X6 hx hZ hown (host := "") (Or.inl (oW hw 69 rfl)) Via.refl rfl f8 rfl hby od16_17 20 rfl fun T11 X11 e11 => ?_
     obtain ⟨cl12, q12a, q12b, q12c, q12d, q12e, q12f⟩ := id f9
     refine own_st (T11.setTop (mkF m 21 La78 [(.int 16), (.int (i + (1 : Int32)))])) (fun tq kq => X11.arraylength hx (by rw [e11]; exact q12a.1) (State.isArrayOf_alike hZ.alike q12a.2.1) (g := (mkF m 20 La78 [(.ref b), (.int (i + (1 : Int32)))])) rfl rfl (hb hby od16_20) tq (by rw [len_of q12c q12d]; exact kq)) ?_
     by_cases c21_13 : (i + (1 : Int32)) < (16 : Int32)
     ·
      refine oicmpNo X11 hx hby od16_21 rfl (tlt c21_13).2.1 24 rfl ?_
      refine oiloadN X11 hx hby od16_24 rfl 25 rfl ?_
      refine oifYes X11 hx hby od16_25 rfl ((if0 _ _).trans (feq ((by decide) : ¬ ((1 : Int32) = (0 : Int32)))).2) 62 (by decide) (by decide) ?_
      refine oiloadN X11 hx hby od16_62 rfl 63 rfl ?_
      exact own_ret X11 hlk (v := some (.int 1)) (fun h => by rw [hret] at h; cases h) e11 (⟨own_iteT (own_anyY c38_5 (own_if1 c47_10)), N6, K6, R6r⟩) (by decide) (by decide) (fun fs hr => own_retN X11 hx (t := .boolean) hret (by simp) (hb hby od16_63) rfl hr)
     ·
      refine oicmpYes X11 hx hby od16_21 rfl (flt c21_13).2.1 62 (by decide) (by decide) ?_
      refine oiloadN X11 hx hby od16_62 rfl 63 rfl ?_
      exact own_ret X11 hlk (v := some (.int 1)) (fun h => by rw [hret] at h; cases h) e11 (⟨own_iteT (own_anyY c38_5 (own_if1 c47_10)), N6, K6, R6r⟩) (by decide) (by decide) (fun fs hr => own_retN X11 hx (t := .boolean) hret (by simp) (hb hby od16_63) rfl hr)
  ·
   refine oiloadN X0 hx hby od16_15 rfl 16 rfl ?_
   refine oaloadN X0 hx hby od16_16 rfl (by rfl) 17 rfl ?_
   refine ogetF X0 hx hZ hown (host := "") (Or.inl (oW hw 69 rfl)) Via.refl e0 F0 rfl hby od16_17 20 rfl fun T1 X1 e1 => ?_
   obtain ⟨cl2, q2a, q2b, q2c, q2d, q2e, q2f⟩ := id AT
   let La79 : Array Slot := #[rv o, rv o2, .val (.int 0), .val (.int i), .val (.int zz)]
   refine own_st (T1.setTop (mkF m 21 La79 [(.int 16), (.int i)])) (fun tq kq => X1.arraylength hx (by rw [e1]; exact q2a.1) (State.isArrayOf_alike hZ.alike q2a.2.1) (g := (mkF m 20 La79 [(.ref b), (.int i)])) rfl rfl (hb hby od16_20) tq (by rw [len_of q2c q2d]; exact kq)) ?_
   refine oicmpNo X1 hx hby od16_21 rfl (tlt ((own_step hn h0i).2.1 : i < (16 : Int32))).2.1 24 rfl ?_
   refine oiloadN X1 hx hby od16_24 rfl 25 rfl ?_
   refine oifNo X1 hx hby od16_25 rfl ((if0 _ _).trans (teq ((by decide) : (0 : Int32) = (0 : Int32))).2) 28 rfl ?_
   refine oaloadN X1 hx hby od16_28 rfl (by rfl) 29 rfl ?_
   refine ogetF X1 hx hZ hown (host := "") (Or.inl (oW hw 69 rfl)) Via.refl e1 F0 rfl hby od16_29 32 rfl fun T3 X3 e3 => ?_
   refine oiloadN X3 hx hby od16_32 rfl 33 rfl ?_
   obtain ⟨cl4, q4a, q4b, q4c, q4d, q4e, q4f⟩ := id AT
   refine own_st (T3.setTop (mkF m 34 La79 [(.int (own_g tb i.toNatClampNeg))])) (fun tq kq => X3.iaload hx (j := i) (v := (.int (own_g tb i.toNatClampNeg))) (by rw [e3]; exact q4a.1) (State.isArrayOf_alike hZ.alike q4a.2.1) q4a.2.2 (inb_of q4c ⟨(own_step hn h0i).1, (own_step hn h0i).2.1⟩) (q4e.at (inb_of q4c ⟨(own_step hn h0i).1, (own_step hn h0i).2.1⟩) (own_gm _ _)) (g := (mkF m 33 La79 [(.int i), (.ref b)])) rfl rfl (hb hby od16_33) tq kq) ?_
   let La80 : Array Slot := #[rv o, rv o2, .val (.int 0), .val (.int i), .val (.int (own_g tb i.toNatClampNeg))]
   refine oistore X3 hx hby od16_34 rfl (L' := La80) rfl 36 rfl ?_
   refine oiload X3 hx hby od16_36 rfl 38 rfl ?_
   by_cases c38_5 : (own_g tb i.toNatClampNeg) = (0 : Int32)
   ·
    refine oifYes X3 hx hby od16_38 rfl ((if0 _ _).trans (teq c38_5).1) 54 (by decide) (by decide) ?_
    refine oiconst X3 hx hby od16_54 (0 : Int32) rfl 55 rfl ?_
    refine oistoreN X3 hx hby od16_55 rfl (L' := La80) rfl 56 rfl ?_
    let La81 : Array Slot := #[rv o, rv o2, .val (.int 0), .val (.int (i + (1 : Int32))), .val (.int (own_g tb i.toNatClampNeg))]
    refine oiinc X3 hx hby od16_56 rfl (L' := La81) rfl 59 rfl ?_
    refine ogoto X3 hx hby od16_59 15 (by decide) (by decide) ?_
    have eqn : own_any tb hs2 (n + 1) i.toNatClampNeg = own_any tb hs2 n (i + (1 : Int32)).toNatClampNeg := by rw [(own_step hn h0i).2.2.2.2]; exact own_any0 c38_5
    rw [eqn]
    exact ih _ _ p e s m below meth c _ _ _ hx hby hml hown hret hlk hZ e3 X3 N0 O0 K0 E0 F0 AT R2 (own_step hn h0i).2.2.1 (own_step hn h0i).2.2.2.1 (Or.inr ⟨_, rfl⟩)
   ·
    refine oifNo X3 hx hby od16_38 rfl ((if0 _ _).trans (feq c38_5).1) 41 rfl ?_
    refine oaloadN X3 hx hby od16_41 rfl (by rfl) 42 rfl ?_
    refine oiload X3 hx hby od16_42 rfl 44 rfl ?_
    obtain ⟨v6, T6, L6, X6, q6, st6⟩ := own_callP X3 hx hZ hown (y := oM9) (oW hw 122 rfl) (oW hw 124 rfl) (own_nf25 hw) (oW hw 123 rfl) (oW hw 63 rfl) (oW hw 125 rfl) R2.exa (b := o2) (argsL := [(.int (own_g tb i.toNatClampNeg))]) (own_mchR l Z a0 hw [] o2 b2 p2 hs2 (own_g tb i.toNatClampNeg) h O0 R2 hl2 c38_5) 0 (by decide) (by decide) (by decide) (by decide) (by decide) e3 (g := (mkF m 44 La80 [(.int (own_g tb i.toNatClampNeg)), (.ref o2)])) rfl (by rw [hml]; rfl) [] (lenOf oP147 rfl) rfl (by show 2 * 0 + _ ≤ _; exact Nat.le_of_eq rfl) (hb hby od16_44)
    obtain ⟨rfl, N6q, K6q, R6r⟩ := q6
    have N6 := Fr.app N0 N6q
    have f7 := (E0.keep K6q)
    have f8 := (F0.keep K6q (ninS u1 (ninS u2 nin0)))
    have f9 := (AT.keep K6q (ninS u3 (ninS u4 nin0)))
    have O6 := O0.keep K6q (allS R2.ge1 (allS R2.ge2 all0))
    have K6 := K0.trans K6q (allS (Or.inl (List.mem_of_getElem? (i := 0) rfl)) (allS (Or.inl (List.mem_of_getElem? (i := 1) rfl)) all0))
    refine own_st (T6.setTop (mkF m 47 La80 [(.int (if (own_g tb i.toNatClampNeg) ∈ hs2 then (1 : Int32) else 0))])) st6 ?_
    by_cases c47_10 : (if (own_g tb i.toNatClampNeg) ∈ hs2 then (1 : Int32) else 0) = (0 : Int32)
    ·
     refine oifYes X6 hx hby od16_47 rfl ((if0 _ _).trans (teq c47_10).1) 54 (by decide) (by decide) ?_
     refine oiconst X6 hx hby od16_54 (0 : Int32) rfl 55 rfl ?_
     refine oistoreN X6 hx hby od16_55 rfl (L' := La80) rfl 56 rfl ?_
     let La82 : Array Slot := #[rv o, rv o2, .val (.int 0), .val (.int (i + (1 : Int32))), .val (.int (own_g tb i.toNatClampNeg))]
     refine oiinc X6 hx hby od16_56 rfl (L' := La82) rfl 59 rfl ?_
     refine ogoto X6 hx hby od16_59 15 (by decide) (by decide) ?_
     have eqn : own_any tb hs2 (n + 1) i.toNatClampNeg = own_any tb hs2 n (i + (1 : Int32)).toNatClampNeg := by rw [(own_step hn h0i).2.2.2.2]; exact own_anyN (own_if0 c47_10)
     rw [eqn]
     exact ih _ _ p e s m below meth c _ _ _ hx hby hml hown hret hlk hZ rfl X6 N6 O6 K6 f7 f8 f9 R6r (own_step hn h0i).2.2.1 (own_step hn h0i).2.2.2.1 (Or.inr ⟨_, rfl⟩)
    ·
     refine oifNo X6 hx hby od16_47 rfl ((if0 _ _).trans (feq c47_10).1) 50 rfl ?_
     refine oiconst X6 hx hby od16_50 (1 : Int32) rfl 51 rfl ?_
     refine ogoto X6 hx hby od16_51 55 (by decide) (by decide) ?_
     let La83 : Array Slot := #[rv o, rv o2, .val (.int 1), .val (.int i), .val (.int (own_g tb i.toNatClampNeg))]
     refine oistoreN X6 hx hby od16_55 rfl (L' := La83) rfl 56 rfl ?_
     let La84 : Array Slot := #[rv o, rv o2, .val (.int 1), .val (.int (i + (1 : Int32))), .val (.int (own_g tb i.toNatClampNeg))]
     refine oiinc X6 hx hby od16_56 rfl (L' := La84) rfl 59 rfl ?_
     refine ogoto X6 hx hby od16_59 15 (by decide) (by decide) ?_
     refine oiloadN X6 hx hby od16_15 rfl 16 rfl ?_
     refine oaloadN X6 hx hby od16_16 rfl (by rfl) 17 rfl ?_
     refine ogetF X6 hx hZ hown (host := "") (Or.inl (oW hw 69 rfl)) Via.refl rfl f8 rfl hby od16_17 20 rfl fun T11 X11 e11 => ?_
     obtain ⟨cl12, q12a, q12b, q12c, q12d, q12e, q12f⟩ := id f9
     refine own_st (T11.setTop (mkF m 21 La84 [(.int 16), (.int (i + (1 : Int32)))])) (fun tq kq => X11.arraylength hx (by rw [e11]; exact q12a.1) (State.isArrayOf_alike hZ.alike q12a.2.1) (g := (mkF m 20 La84 [(.ref b), (.int (i + (1 : Int32)))])) rfl rfl (hb hby od16_20) tq (by rw [len_of q12c q12d]; exact kq)) ?_
     by_cases c21_13 : (i + (1 : Int32)) < (16 : Int32)
     ·
      refine oicmpNo X11 hx hby od16_21 rfl (tlt c21_13).2.1 24 rfl ?_
      refine oiloadN X11 hx hby od16_24 rfl 25 rfl ?_
      refine oifYes X11 hx hby od16_25 rfl ((if0 _ _).trans (feq ((by decide) : ¬ ((1 : Int32) = (0 : Int32)))).2) 62 (by decide) (by decide) ?_
      refine oiloadN X11 hx hby od16_62 rfl 63 rfl ?_
      exact own_ret X11 hlk (v := some (.int 1)) (fun h => by rw [hret] at h; cases h) e11 (⟨own_iteT (own_anyY c38_5 (own_if1 c47_10)), N6, K6, R6r⟩) (by decide) (by decide) (fun fs hr => own_retN X11 hx (t := .boolean) hret (by simp) (hb hby od16_63) rfl hr)
     ·
      refine oicmpYes X11 hx hby od16_21 rfl (flt c21_13).2.1 62 (by decide) (by decide) ?_
      refine oiloadN X11 hx hby od16_62 rfl 63 rfl ?_
      exact own_ret X11 hlk (v := some (.int 1)) (fun h => by rw [hret] at h; cases h) e11 (⟨own_iteT (own_anyY c38_5 (own_if1 c47_10)), N6, K6, R6r⟩) (by decide) (by decide) (fun fs hr => own_retN X11 hx (t := .boolean) hret (by simp) (hb hby od16_63) rfl hr)
theorem od16_0 : decode prog_107_method_6_code 0 = .ok (.aload_n 0, 1) := by decide +kernel
theorem od16_1 : decode prog_107_method_6_code 1 = .ok (.getfield 33, 3) := by decide +kernel
theorem od16_4 : decode prog_107_method_6_code 4 = .ok (.ifCond .le 7, 3) := by decide +kernel
theorem od16_11 : decode prog_107_method_6_code 11 = .ok (.iconst 0, 1) := by decide +kernel
theorem od16_12 : decode prog_107_method_6_code 12 = .ok (.istore_n 2, 1) := by decide +kernel
theorem od16_13 : decode prog_107_method_6_code 13 = .ok (.iconst 0, 1) := by decide +kernel
theorem od16_14 : decode prog_107_method_6_code 14 = .ok (.istore_n 3, 1) := by decide +kernel
theorem own_meets_0_0 (l : Launch) (Z : State) (a0 : Array Value) (hw : OWS a0 Z) (ws : List Jvm.Cond) (o b pb : Addr) (kb kp : ClassId) (tb hs : List Int32) (sz mp : Int32) (o2 b2 p2 : Addr) (hs2 : List Int32) (h0 : Heap) (O0 : Old Z Z.heap.size h0) (E0 : oE7 Z h0 o) (g0 : Z.heap.size ≤ o) (gb : Z.heap.size ≤ b) (bp : b ≠ pb) (F0 : oF2 Z h0 o (.ref b)) (F1 : oF3 Z h0 o (.int sz)) (F2 : oF4 Z h0 o (.ref pb)) (F3 : oF5 Z h0 o (.int 0)) (F4 : oF6 Z h0 o (.int mp)) (AT : Arv Z h0 b kb .int (16 : Int32) (tb.map Value.int) (.int 0)) (AP : True) (H : OwnHold tb hs) (hl : hs.length < 6) (hz : OwnSz sz hs.length) (na : ∀ y ∈ hs, y ≠ 0) (R2 : OwnRep Z h0 o2 b2 p2 hs2) (hl2 : hs2.length < 6) (u1 : o ≠ o2) (u2 : o ≠ b2) (u3 : b ≠ o2) (u4 : b ≠ b2) (u5 : o ≠ p2) (u6 : b ≠ p2) :
  ownMet l oM10 prog_107_method_6_code 5 (some .boolean) ws (oR 5 0 0 100) Z #[(.ref o), (.ref o2)] h0 (fun v h L => v = some (.int (if own_meet hs hs2 = true then (1 : Int32) else 0)) ∧ Fr Z.heap.size L ∧ Keep h0 h [o, b, o2, b2] ∧ OwnRep Z h o b pb hs ∧ OwnRep Z h o2 b2 p2 hs2) := by
 refine own_met (plainFor_of_name oP59) ?_
 intro p e s m below meth c s₁ hx hby hml hown hnm hret hlk hZ e0 X0
 refine own_cast (show _ = (mkF m 0 #[.val (.ref o), .val (.ref o2), .unset, .unset, .unset] []) by first | (simp [entryFrame, mkF, argsToLocals, Value.category]; done) | rfl) ?_
 refine oaloadN X0 hx hby od16_0 rfl (by rfl) 1 rfl ?_
 refine ogetF X0 hx hZ hown (host := "") (Or.inl (oW hw 80 rfl)) Via.refl e0 F3 rfl hby od16_1 4 rfl fun T1 X1 e1 => ?_
 refine oifYes X1 hx hby od16_4 rfl ((if0 _ _).trans (flt ((by decide) : ¬ ((0 : Int32) < (0 : Int32)))).2.2.2) 11 (by decide) (by decide) ?_
 refine oiconst X1 hx hby od16_11 (0 : Int32) rfl 12 rfl ?_
 let La85 : Array Slot := #[rv o, rv o2, .val (.int 0), .unset, .unset]
 refine oistoreN X1 hx hby od16_12 rfl (L' := La85) rfl 13 rfl ?_
 refine oiconst X1 hx hby od16_13 (0 : Int32) rfl 14 rfl ?_
 let La86 : Array Slot := #[rv o, rv o2, .val (.int 0), .val (.int 0), .unset]
 refine oistoreN X1 hx hby od16_14 rfl (L' := La86) rfl 15 rfl ?_
 have hH : OwnHold tb hs := H
 refine own_goM (fun v h' L q => ⟨q.1.trans (by rw [show ((0 : Int32).toNatClampNeg) = 0 from rfl, own_anyM hH na]), q.2.1, (Keep.refl h0 [o, b, o2, b2]).trans q.2.2.1 (allS (Or.inl (List.mem_of_getElem? (i := 2) rfl)) (allS (Or.inl (List.mem_of_getElem? (i := 3) rfl)) all0)), ⟨kb, kp, _, _, _, mp, E0.keep q.2.2.1, g0, gb, bp, F0.keep q.2.2.1 (ninS u1 (ninS u2 nin0)), F1.keep q.2.2.1 (ninS u1 (ninS u2 nin0)), F2.keep q.2.2.1 (ninS u1 (ninS u2 nin0)), F4.keep q.2.2.1 (ninS u1 (ninS u2 nin0)), AT.keep q.2.2.1 (ninS u3 (ninS u4 nin0)), H, OwnSz.mono hz (by first | omega | (simp only [List.length_append, List.length_cons, List.length_nil]; omega)), Or.inl ⟨F3.keep q.2.2.1 (ninS u1 (ninS u2 nin0)), rfl⟩⟩, q.2.2.2⟩) (own_meetsL l Z a0 hw o b o2 b2 p2 kb tb hs2 h0 hl2 u1 u2 u3 u4 16 (0 : Int32) .unset p e s m below meth c _ _ _ hx hby hml hown hret hlk hZ e1 X1 (Fr.nil _) O0 (Keep.refl _ _) E0 F0 AT R2 rfl (by decide) (Or.inl rfl))
theorem od16_7 : decode prog_107_method_6_code 7 = .ok (.aload_n 0, 1) := by decide +kernel
theorem od16_8 : decode prog_107_method_6_code 8 = .ok (.invokevirtual 48, 3) := by decide +kernel
theorem own_meets_1_1 (l : Launch) (Z : State) (a0 : Array Value) (hw : OWS a0 Z) (ws : List Jvm.Cond) (o b pb : Addr) (kb kp : ClassId) (tb hs : List Int32) (sz mp x0 : Int32) (o2 b2 p2 : Addr) (hs2 : List Int32) (h0 : Heap) (O0 : Old Z Z.heap.size h0) (E0 : oE7 Z h0 o) (g0 : Z.heap.size ≤ o) (gb : Z.heap.size ≤ b) (bp : b ≠ pb) (F0 : oF2 Z h0 o (.ref b)) (F1 : oF3 Z h0 o (.int sz)) (F2 : oF4 Z h0 o (.ref pb)) (F3 : oF5 Z h0 o (.int 1)) (F4 : oF6 Z h0 o (.int mp)) (AT : Arv Z h0 b kb .int (16 : Int32) (tb.map Value.int) (.int 0)) (AP : Arv Z h0 pb kp .int (1 : Int32) [(.int x0)] (.int 0)) (H : OwnHold tb hs) (hl : hs.length < 6) (hz : OwnSz sz hs.length) (nx0 : x0 ≠ 0) (na : ∀ y ∈ (hs ++ [x0]), y ≠ 0) (R2 : OwnRep Z h0 o2 b2 p2 hs2) (hl2 : hs2.length < 6) (u1 : o ≠ o2) (u2 : o ≠ b2) (u3 : b ≠ o2) (u4 : b ≠ b2) (u5 : o ≠ p2) (u6 : b ≠ p2) :
  ownMet l oM10 prog_107_method_6_code 5 (some .boolean) ws (oR 5 0 0 100) Z #[(.ref o), (.ref o2)] h0 (fun v h L => v = some (.int (if own_meet (hs ++ [x0]) hs2 = true then (1 : Int32) else 0)) ∧ Fr Z.heap.size L ∧ Keep h0 h [o, b, o2, b2] ∧ OwnRep Z h o b pb (hs ++ [x0]) ∧ OwnRep Z h o2 b2 p2 hs2) := by
 refine own_met (plainFor_of_name oP59) ?_
 intro p e s m below meth c s₁ hx hby hml hown hnm hret hlk hZ e0 X0
 refine own_cast (show _ = (mkF m 0 #[.val (.ref o), .val (.ref o2), .unset, .unset, .unset] []) by first | (simp [entryFrame, mkF, argsToLocals, Value.category]; done) | rfl) ?_
 refine oaloadN X0 hx hby od16_0 rfl (by rfl) 1 rfl ?_
 refine ogetF X0 hx hZ hown (host := "") (Or.inl (oW hw 80 rfl)) Via.refl e0 F3 rfl hby od16_1 4 rfl fun T1 X1 e1 => ?_
 refine oifNo X1 hx hby od16_4 rfl ((if0 _ _).trans (tlt ((by decide) : (0 : Int32) < (1 : Int32))).2.2.2) 7 rfl ?_
 refine oaloadN X1 hx hby od16_7 rfl (by rfl) 8 rfl ?_
 let La87 : Array Slot := #[rv o, rv o2, .unset, .unset, .unset]
 obtain ⟨v2, T2, L2, X2, q2, st2⟩ := own_callP X1 hx hZ hown (y := oM8) (oW hw 107 rfl) (oW hw 109 rfl) (own_nf22 hw) (oW hw 108 rfl) (oW hw 63 rfl) (oW hw 110 rfl) E0 (b := o) (argsL := []) (own_settle_1_1 l Z a0 hw [] o b pb kb kp tb hs sz mp x0 h0 O0 E0 g0 gb bp F0 F1 F2 F3 F4 AT AP H (by omega) hz nx0) 0 (by decide) (by decide) (by decide) (by decide) (by decide) e1 (g := (mkF m 8 La87 [(.ref o)])) rfl (by rw [hml]; rfl) [] (lenOf oP123 rfl) rfl (by show 2 * 0 + _ ≤ _; exact Nat.le_of_eq rfl) (hb hby od16_8)
 obtain ⟨rfl, N2q, K2q, f2a, f2b, f2c, f2d, f2e, sz2, f2f, hz2⟩ := q2
 have N2 := Fr.app (Fr.nil _) N2q
 have R2r := R2.keep K2q (ninS (Ne.symm u1) (ninS (Ne.symm u3) nin0)) (ninS (Ne.symm u2) (ninS (Ne.symm u4) nin0)) (ninS (Ne.symm u5) (ninS (Ne.symm u6) nin0))
 have f3 := (E0.keep K2q)
 have f10 := (AP.keep K2q (ninS (Ne.symm (Exa.neArv E0 AP (oW hw 62 rfl))) (ninS (Ne.symm bp) nin0)))
 have O2 := O0.keep K2q (allS g0 (allS gb all0))
 have K2 := (Keep.refl h0 [o, b, o2, b2]).trans K2q (allS (Or.inl (List.mem_of_getElem? (i := 0) rfl)) (allS (Or.inl (List.mem_of_getElem? (i := 1) rfl)) all0))
 refine own_st (T2.setTop (mkF m 11 La87 [])) st2 ?_
 refine oiconst X2 hx hby od16_11 (0 : Int32) rfl 12 rfl ?_
 let La88 : Array Slot := #[rv o, rv o2, .val (.int 0), .unset, .unset]
 refine oistoreN X2 hx hby od16_12 rfl (L' := La88) rfl 13 rfl ?_
 refine oiconst X2 hx hby od16_13 (0 : Int32) rfl 14 rfl ?_
 let La89 : Array Slot := #[rv o, rv o2, .val (.int 0), .val (.int 0), .unset]
 refine oistoreN X2 hx hby od16_14 rfl (L' := La89) rfl 15 rfl ?_
 have hH : OwnHold (own_ins tb x0) (hs ++ [x0]) := (OwnHold.ins H (by omega) nx0)
 refine own_goM (fun v h' L q => ⟨q.1.trans (by rw [show ((0 : Int32).toNatClampNeg) = 0 from rfl, own_anyM hH na]), q.2.1, K2.trans q.2.2.1 (allS (Or.inl (List.mem_of_getElem? (i := 2) rfl)) (allS (Or.inl (List.mem_of_getElem? (i := 3) rfl)) all0)), ⟨kb, kp, _, _, _, mp, f3.keep q.2.2.1, g0, gb, bp, f2a.keep q.2.2.1 (ninS u1 (ninS u2 nin0)), f2f.keep q.2.2.1 (ninS u1 (ninS u2 nin0)), f2b.keep q.2.2.1 (ninS u1 (ninS u2 nin0)), f2d.keep q.2.2.1 (ninS u1 (ninS u2 nin0)), f2e.keep q.2.2.1 (ninS u3 (ninS u4 nin0)), (OwnHold.ins H (by omega) nx0), OwnSz.mono hz2 (by first | omega | (simp only [List.length_append, List.length_cons, List.length_nil]; omega)), Or.inl ⟨f2c.keep q.2.2.1 (ninS u1 (ninS u2 nin0)), rfl⟩⟩, q.2.2.2⟩) (own_meetsL l Z a0 hw o b o2 b2 p2 kb (own_ins tb x0) hs2 T2.heap hl2 u1 u2 u3 u4 16 (0 : Int32) .unset p e s m below meth c _ _ _ hx hby hml hown hret hlk hZ rfl X2 N2 O2 (Keep.refl _ _) f3 f2a f2e R2r rfl (by decide) (Or.inl rfl))
theorem own_meets_2_2 (l : Launch) (Z : State) (a0 : Array Value) (hw : OWS a0 Z) (ws : List Jvm.Cond) (o b pb : Addr) (kb kp : ClassId) (tb hs : List Int32) (sz mp x0 x1 : Int32) (o2 b2 p2 : Addr) (hs2 : List Int32) (h0 : Heap) (O0 : Old Z Z.heap.size h0) (E0 : oE7 Z h0 o) (g0 : Z.heap.size ≤ o) (gb : Z.heap.size ≤ b) (bp : b ≠ pb) (F0 : oF2 Z h0 o (.ref b)) (F1 : oF3 Z h0 o (.int sz)) (F2 : oF4 Z h0 o (.ref pb)) (F3 : oF5 Z h0 o (.int 2)) (F4 : oF6 Z h0 o (.int mp)) (AT : Arv Z h0 b kb .int (16 : Int32) (tb.map Value.int) (.int 0)) (AP : Arv Z h0 pb kp .int (2 : Int32) [(.int x0), (.int x1)] (.int 0)) (H : OwnHold tb hs) (hl : hs.length < 6) (hz : OwnSz sz hs.length) (nx0 : x0 ≠ 0) (nx1 : x1 ≠ 0) (na : ∀ y ∈ ((hs ++ [x0]) ++ [x1]), y ≠ 0) (R2 : OwnRep Z h0 o2 b2 p2 hs2) (hl2 : hs2.length < 6) (u1 : o ≠ o2) (u2 : o ≠ b2) (u3 : b ≠ o2) (u4 : b ≠ b2) (u5 : o ≠ p2) (u6 : b ≠ p2) :
  ownMet l oM10 prog_107_method_6_code 5 (some .boolean) ws (oR 5 0 0 100) Z #[(.ref o), (.ref o2)] h0 (fun v h L => v = some (.int (if own_meet ((hs ++ [x0]) ++ [x1]) hs2 = true then (1 : Int32) else 0)) ∧ Fr Z.heap.size L ∧ Keep h0 h [o, b, o2, b2] ∧ OwnRep Z h o b pb ((hs ++ [x0]) ++ [x1]) ∧ OwnRep Z h o2 b2 p2 hs2) := by
 refine own_met (plainFor_of_name oP59) ?_
 intro p e s m below meth c s₁ hx hby hml hown hnm hret hlk hZ e0 X0
 refine own_cast (show _ = (mkF m 0 #[.val (.ref o), .val (.ref o2), .unset, .unset, .unset] []) by first | (simp [entryFrame, mkF, argsToLocals, Value.category]; done) | rfl) ?_
 refine oaloadN X0 hx hby od16_0 rfl (by rfl) 1 rfl ?_
 refine ogetF X0 hx hZ hown (host := "") (Or.inl (oW hw 80 rfl)) Via.refl e0 F3 rfl hby od16_1 4 rfl fun T1 X1 e1 => ?_
 refine oifNo X1 hx hby od16_4 rfl ((if0 _ _).trans (tlt ((by decide) : (0 : Int32) < (2 : Int32))).2.2.2) 7 rfl ?_
 refine oaloadN X1 hx hby od16_7 rfl (by rfl) 8 rfl ?_
 let La90 : Array Slot := #[rv o, rv o2, .unset, .unset, .unset]
 obtain ⟨v2, T2, L2, X2, q2, st2⟩ := own_callP X1 hx hZ hown (y := oM8) (oW hw 107 rfl) (oW hw 109 rfl) (own_nf22 hw) (oW hw 108 rfl) (oW hw 63 rfl) (oW hw 110 rfl) E0 (b := o) (argsL := []) (own_settle_2_2 l Z a0 hw [] o b pb kb kp tb hs sz mp x0 x1 h0 O0 E0 g0 gb bp F0 F1 F2 F3 F4 AT AP H (by omega) hz nx0 nx1) 0 (by decide) (by decide) (by decide) (by decide) (by decide) e1 (g := (mkF m 8 La90 [(.ref o)])) rfl (by rw [hml]; rfl) [] (lenOf oP123 rfl) rfl (by show 2 * 0 + _ ≤ _; exact Nat.le_of_eq rfl) (hb hby od16_8)
 obtain ⟨rfl, N2q, K2q, f2a, f2b, f2c, f2d, f2e, sz2, f2f, hz2⟩ := q2
 have N2 := Fr.app (Fr.nil _) N2q
 have R2r := R2.keep K2q (ninS (Ne.symm u1) (ninS (Ne.symm u3) nin0)) (ninS (Ne.symm u2) (ninS (Ne.symm u4) nin0)) (ninS (Ne.symm u5) (ninS (Ne.symm u6) nin0))
 have f3 := (E0.keep K2q)
 have f10 := (AP.keep K2q (ninS (Ne.symm (Exa.neArv E0 AP (oW hw 62 rfl))) (ninS (Ne.symm bp) nin0)))
 have O2 := O0.keep K2q (allS g0 (allS gb all0))
 have K2 := (Keep.refl h0 [o, b, o2, b2]).trans K2q (allS (Or.inl (List.mem_of_getElem? (i := 0) rfl)) (allS (Or.inl (List.mem_of_getElem? (i := 1) rfl)) all0))
 refine own_st (T2.setTop (mkF m 11 La90 [])) st2 ?_
 refine oiconst X2 hx hby od16_11 (0 : Int32) rfl 12 rfl ?_
 let La91 : Array Slot := #[rv o, rv o2, .val (.int 0), .unset, .unset]
 refine oistoreN X2 hx hby od16_12 rfl (L' := La91) rfl 13 rfl ?_
 refine oiconst X2 hx hby od16_13 (0 : Int32) rfl 14 rfl ?_
 let La92 : Array Slot := #[rv o, rv o2, .val (.int 0), .val (.int 0), .unset]
 refine oistoreN X2 hx hby od16_14 rfl (L' := La92) rfl 15 rfl ?_
 have hH : OwnHold (own_ins (own_ins tb x0) x1) ((hs ++ [x0]) ++ [x1]) := (OwnHold.ins (OwnHold.ins H (by omega) nx0) (by simp only [List.length_append, List.length_cons, List.length_nil]; omega) nx1)
 refine own_goM (fun v h' L q => ⟨q.1.trans (by rw [show ((0 : Int32).toNatClampNeg) = 0 from rfl, own_anyM hH na]), q.2.1, K2.trans q.2.2.1 (allS (Or.inl (List.mem_of_getElem? (i := 2) rfl)) (allS (Or.inl (List.mem_of_getElem? (i := 3) rfl)) all0)), ⟨kb, kp, _, _, _, mp, f3.keep q.2.2.1, g0, gb, bp, f2a.keep q.2.2.1 (ninS u1 (ninS u2 nin0)), f2f.keep q.2.2.1 (ninS u1 (ninS u2 nin0)), f2b.keep q.2.2.1 (ninS u1 (ninS u2 nin0)), f2d.keep q.2.2.1 (ninS u1 (ninS u2 nin0)), f2e.keep q.2.2.1 (ninS u3 (ninS u4 nin0)), (OwnHold.ins (OwnHold.ins H (by omega) nx0) (by simp only [List.length_append, List.length_cons, List.length_nil]; omega) nx1), OwnSz.mono hz2 (by first | omega | (simp only [List.length_append, List.length_cons, List.length_nil]; omega)), Or.inl ⟨f2c.keep q.2.2.1 (ninS u1 (ninS u2 nin0)), rfl⟩⟩, q.2.2.2⟩) (own_meetsL l Z a0 hw o b o2 b2 p2 kb (own_ins (own_ins tb x0) x1) hs2 T2.heap hl2 u1 u2 u3 u4 16 (0 : Int32) .unset p e s m below meth c _ _ _ hx hby hml hown hret hlk hZ rfl X2 N2 O2 (Keep.refl _ _) f3 f2a f2e R2r rfl (by decide) (Or.inl rfl))
theorem own_meets_2_1 (l : Launch) (Z : State) (a0 : Array Value) (hw : OWS a0 Z) (ws : List Jvm.Cond) (o b pb : Addr) (kb kp : ClassId) (tb hs : List Int32) (sz mp x0 x1 : Int32) (o2 b2 p2 : Addr) (hs2 : List Int32) (h0 : Heap) (O0 : Old Z Z.heap.size h0) (E0 : oE7 Z h0 o) (g0 : Z.heap.size ≤ o) (gb : Z.heap.size ≤ b) (bp : b ≠ pb) (F0 : oF2 Z h0 o (.ref b)) (F1 : oF3 Z h0 o (.int sz)) (F2 : oF4 Z h0 o (.ref pb)) (F3 : oF5 Z h0 o (.int 1)) (F4 : oF6 Z h0 o (.int mp)) (AT : Arv Z h0 b kb .int (16 : Int32) (tb.map Value.int) (.int 0)) (AP : Arv Z h0 pb kp .int (2 : Int32) [(.int x0), (.int x1)] (.int 0)) (H : OwnHold tb hs) (hl : hs.length < 6) (hz : OwnSz sz hs.length) (nx0 : x0 ≠ 0) (na : ∀ y ∈ (hs ++ [x0]), y ≠ 0) (R2 : OwnRep Z h0 o2 b2 p2 hs2) (hl2 : hs2.length < 6) (u1 : o ≠ o2) (u2 : o ≠ b2) (u3 : b ≠ o2) (u4 : b ≠ b2) (u5 : o ≠ p2) (u6 : b ≠ p2) :
  ownMet l oM10 prog_107_method_6_code 5 (some .boolean) ws (oR 5 0 0 100) Z #[(.ref o), (.ref o2)] h0 (fun v h L => v = some (.int (if own_meet (hs ++ [x0]) hs2 = true then (1 : Int32) else 0)) ∧ Fr Z.heap.size L ∧ Keep h0 h [o, b, o2, b2] ∧ OwnRep Z h o b pb (hs ++ [x0]) ∧ OwnRep Z h o2 b2 p2 hs2) := by
 refine own_met (plainFor_of_name oP59) ?_
 intro p e s m below meth c s₁ hx hby hml hown hnm hret hlk hZ e0 X0
 refine own_cast (show _ = (mkF m 0 #[.val (.ref o), .val (.ref o2), .unset, .unset, .unset] []) by first | (simp [entryFrame, mkF, argsToLocals, Value.category]; done) | rfl) ?_
 refine oaloadN X0 hx hby od16_0 rfl (by rfl) 1 rfl ?_
 refine ogetF X0 hx hZ hown (host := "") (Or.inl (oW hw 80 rfl)) Via.refl e0 F3 rfl hby od16_1 4 rfl fun T1 X1 e1 => ?_
 refine oifNo X1 hx hby od16_4 rfl ((if0 _ _).trans (tlt ((by decide) : (0 : Int32) < (1 : Int32))).2.2.2) 7 rfl ?_
 refine oaloadN X1 hx hby od16_7 rfl (by rfl) 8 rfl ?_
 let La93 : Array Slot := #[rv o, rv o2, .unset, .unset, .unset]
 obtain ⟨v2, T2, L2, X2, q2, st2⟩ := own_callP X1 hx hZ hown (y := oM8) (oW hw 107 rfl) (oW hw 109 rfl) (own_nf22 hw) (oW hw 108 rfl) (oW hw 63 rfl) (oW hw 110 rfl) E0 (b := o) (argsL := []) (own_settle_2_1 l Z a0 hw [] o b pb kb kp tb hs sz mp x0 x1 h0 O0 E0 g0 gb bp F0 F1 F2 F3 F4 AT AP H (by omega) hz nx0) 0 (by decide) (by decide) (by decide) (by decide) (by decide) e1 (g := (mkF m 8 La93 [(.ref o)])) rfl (by rw [hml]; rfl) [] (lenOf oP123 rfl) rfl (by show 2 * 0 + _ ≤ _; exact Nat.le_of_eq rfl) (hb hby od16_8)
 obtain ⟨rfl, N2q, K2q, f2a, f2b, f2c, f2d, f2e, sz2, f2f, hz2⟩ := q2
 have N2 := Fr.app (Fr.nil _) N2q
 have R2r := R2.keep K2q (ninS (Ne.symm u1) (ninS (Ne.symm u3) nin0)) (ninS (Ne.symm u2) (ninS (Ne.symm u4) nin0)) (ninS (Ne.symm u5) (ninS (Ne.symm u6) nin0))
 have f3 := (E0.keep K2q)
 have f10 := (AP.keep K2q (ninS (Ne.symm (Exa.neArv E0 AP (oW hw 62 rfl))) (ninS (Ne.symm bp) nin0)))
 have O2 := O0.keep K2q (allS g0 (allS gb all0))
 have K2 := (Keep.refl h0 [o, b, o2, b2]).trans K2q (allS (Or.inl (List.mem_of_getElem? (i := 0) rfl)) (allS (Or.inl (List.mem_of_getElem? (i := 1) rfl)) all0))
 refine own_st (T2.setTop (mkF m 11 La93 [])) st2 ?_
 refine oiconst X2 hx hby od16_11 (0 : Int32) rfl 12 rfl ?_
 let La94 : Array Slot := #[rv o, rv o2, .val (.int 0), .unset, .unset]
 refine oistoreN X2 hx hby od16_12 rfl (L' := La94) rfl 13 rfl ?_
 refine oiconst X2 hx hby od16_13 (0 : Int32) rfl 14 rfl ?_
 let La95 : Array Slot := #[rv o, rv o2, .val (.int 0), .val (.int 0), .unset]
 refine oistoreN X2 hx hby od16_14 rfl (L' := La95) rfl 15 rfl ?_
 have hH : OwnHold (own_ins tb x0) (hs ++ [x0]) := (OwnHold.ins H (by omega) nx0)
 refine own_goM (fun v h' L q => ⟨q.1.trans (by rw [show ((0 : Int32).toNatClampNeg) = 0 from rfl, own_anyM hH na]), q.2.1, K2.trans q.2.2.1 (allS (Or.inl (List.mem_of_getElem? (i := 2) rfl)) (allS (Or.inl (List.mem_of_getElem? (i := 3) rfl)) all0)), ⟨kb, kp, _, _, _, mp, f3.keep q.2.2.1, g0, gb, bp, f2a.keep q.2.2.1 (ninS u1 (ninS u2 nin0)), f2f.keep q.2.2.1 (ninS u1 (ninS u2 nin0)), f2b.keep q.2.2.1 (ninS u1 (ninS u2 nin0)), f2d.keep q.2.2.1 (ninS u1 (ninS u2 nin0)), f2e.keep q.2.2.1 (ninS u3 (ninS u4 nin0)), (OwnHold.ins H (by omega) nx0), OwnSz.mono hz2 (by first | omega | (simp only [List.length_append, List.length_cons, List.length_nil]; omega)), Or.inl ⟨f2c.keep q.2.2.1 (ninS u1 (ninS u2 nin0)), rfl⟩⟩, q.2.2.2⟩) (own_meetsL l Z a0 hw o b o2 b2 p2 kb (own_ins tb x0) hs2 T2.heap hl2 u1 u2 u3 u4 16 (0 : Int32) .unset p e s m below meth c _ _ _ hx hby hml hown hret hlk hZ rfl X2 N2 O2 (Keep.refl _ _) f3 f2a f2e R2r rfl (by decide) (Or.inl rfl))
theorem own_meets_3_3 (l : Launch) (Z : State) (a0 : Array Value) (hw : OWS a0 Z) (ws : List Jvm.Cond) (o b pb : Addr) (kb kp : ClassId) (tb hs : List Int32) (sz mp x0 x1 x2 : Int32) (o2 b2 p2 : Addr) (hs2 : List Int32) (h0 : Heap) (O0 : Old Z Z.heap.size h0) (E0 : oE7 Z h0 o) (g0 : Z.heap.size ≤ o) (gb : Z.heap.size ≤ b) (bp : b ≠ pb) (F0 : oF2 Z h0 o (.ref b)) (F1 : oF3 Z h0 o (.int sz)) (F2 : oF4 Z h0 o (.ref pb)) (F3 : oF5 Z h0 o (.int 3)) (F4 : oF6 Z h0 o (.int mp)) (AT : Arv Z h0 b kb .int (16 : Int32) (tb.map Value.int) (.int 0)) (AP : Arv Z h0 pb kp .int (3 : Int32) [(.int x0), (.int x1), (.int x2)] (.int 0)) (H : OwnHold tb hs) (hl : hs.length < 6) (hz : OwnSz sz hs.length) (nx0 : x0 ≠ 0) (nx1 : x1 ≠ 0) (nx2 : x2 ≠ 0) (na : ∀ y ∈ (((hs ++ [x0]) ++ [x1]) ++ [x2]), y ≠ 0) (R2 : OwnRep Z h0 o2 b2 p2 hs2) (hl2 : hs2.length < 6) (u1 : o ≠ o2) (u2 : o ≠ b2) (u3 : b ≠ o2) (u4 : b ≠ b2) (u5 : o ≠ p2) (u6 : b ≠ p2) :
  ownMet l oM10 prog_107_method_6_code 5 (some .boolean) ws (oR 5 0 0 100) Z #[(.ref o), (.ref o2)] h0 (fun v h L => v = some (.int (if own_meet (((hs ++ [x0]) ++ [x1]) ++ [x2]) hs2 = true then (1 : Int32) else 0)) ∧ Fr Z.heap.size L ∧ Keep h0 h [o, b, o2, b2] ∧ OwnRep Z h o b pb (((hs ++ [x0]) ++ [x1]) ++ [x2]) ∧ OwnRep Z h o2 b2 p2 hs2) := by
 refine own_met (plainFor_of_name oP59) ?_
 intro p e s m below meth c s₁ hx hby hml hown hnm hret hlk hZ e0 X0
 refine own_cast (show _ = (mkF m 0 #[.val (.ref o), .val (.ref o2), .unset, .unset, .unset] []) by first | (simp [entryFrame, mkF, argsToLocals, Value.category]; done) | rfl) ?_
 refine oaloadN X0 hx hby od16_0 rfl (by rfl) 1 rfl ?_
 refine ogetF X0 hx hZ hown (host := "") (Or.inl (oW hw 80 rfl)) Via.refl e0 F3 rfl hby od16_1 4 rfl fun T1 X1 e1 => ?_
 refine oifNo X1 hx hby od16_4 rfl ((if0 _ _).trans (tlt ((by decide) : (0 : Int32) < (3 : Int32))).2.2.2) 7 rfl ?_
 refine oaloadN X1 hx hby od16_7 rfl (by rfl) 8 rfl ?_
 let La96 : Array Slot := #[rv o, rv o2, .unset, .unset, .unset]
 obtain ⟨v2, T2, L2, X2, q2, st2⟩ := own_callP X1 hx hZ hown (y := oM8) (oW hw 107 rfl) (oW hw 109 rfl) (own_nf22 hw) (oW hw 108 rfl) (oW hw 63 rfl) (oW hw 110 rfl) E0 (b := o) (argsL := []) (own_settle_3_3 l Z a0 hw [] o b pb kb kp tb hs sz mp x0 x1 x2 h0 O0 E0 g0 gb bp F0 F1 F2 F3 F4 AT AP H (by omega) hz nx0 nx1 nx2) 0 (by decide) (by decide) (by decide) (by decide) (by decide) e1 (g := (mkF m 8 La96 [(.ref o)])) rfl (by rw [hml]; rfl) [] (lenOf oP123 rfl) rfl (by show 2 * 0 + _ ≤ _; exact Nat.le_of_eq rfl) (hb hby od16_8)
 obtain ⟨rfl, N2q, K2q, f2a, f2b, f2c, f2d, f2e, sz2, f2f, hz2⟩ := q2
 have N2 := Fr.app (Fr.nil _) N2q
 have R2r := R2.keep K2q (ninS (Ne.symm u1) (ninS (Ne.symm u3) nin0)) (ninS (Ne.symm u2) (ninS (Ne.symm u4) nin0)) (ninS (Ne.symm u5) (ninS (Ne.symm u6) nin0))
 have f3 := (E0.keep K2q)
 have f10 := (AP.keep K2q (ninS (Ne.symm (Exa.neArv E0 AP (oW hw 62 rfl))) (ninS (Ne.symm bp) nin0)))
 have O2 := O0.keep K2q (allS g0 (allS gb all0))
 have K2 := (Keep.refl h0 [o, b, o2, b2]).trans K2q (allS (Or.inl (List.mem_of_getElem? (i := 0) rfl)) (allS (Or.inl (List.mem_of_getElem? (i := 1) rfl)) all0))
 refine own_st (T2.setTop (mkF m 11 La96 [])) st2 ?_
 refine oiconst X2 hx hby od16_11 (0 : Int32) rfl 12 rfl ?_
 let La97 : Array Slot := #[rv o, rv o2, .val (.int 0), .unset, .unset]
 refine oistoreN X2 hx hby od16_12 rfl (L' := La97) rfl 13 rfl ?_
 refine oiconst X2 hx hby od16_13 (0 : Int32) rfl 14 rfl ?_
 let La98 : Array Slot := #[rv o, rv o2, .val (.int 0), .val (.int 0), .unset]
 refine oistoreN X2 hx hby od16_14 rfl (L' := La98) rfl 15 rfl ?_
 have hH : OwnHold (own_ins (own_ins (own_ins tb x0) x1) x2) (((hs ++ [x0]) ++ [x1]) ++ [x2]) := (OwnHold.ins (OwnHold.ins (OwnHold.ins H (by omega) nx0) (by simp only [List.length_append, List.length_cons, List.length_nil]; omega) nx1) (by simp only [List.length_append, List.length_cons, List.length_nil]; omega) nx2)
 refine own_goM (fun v h' L q => ⟨q.1.trans (by rw [show ((0 : Int32).toNatClampNeg) = 0 from rfl, own_anyM hH na]), q.2.1, K2.trans q.2.2.1 (allS (Or.inl (List.mem_of_getElem? (i := 2) rfl)) (allS (Or.inl (List.mem_of_getElem? (i := 3) rfl)) all0)), ⟨kb, kp, _, _, _, mp, f3.keep q.2.2.1, g0, gb, bp, f2a.keep q.2.2.1 (ninS u1 (ninS u2 nin0)), f2f.keep q.2.2.1 (ninS u1 (ninS u2 nin0)), f2b.keep q.2.2.1 (ninS u1 (ninS u2 nin0)), f2d.keep q.2.2.1 (ninS u1 (ninS u2 nin0)), f2e.keep q.2.2.1 (ninS u3 (ninS u4 nin0)), (OwnHold.ins (OwnHold.ins (OwnHold.ins H (by omega) nx0) (by simp only [List.length_append, List.length_cons, List.length_nil]; omega) nx1) (by simp only [List.length_append, List.length_cons, List.length_nil]; omega) nx2), OwnSz.mono hz2 (by first | omega | (simp only [List.length_append, List.length_cons, List.length_nil]; omega)), Or.inl ⟨f2c.keep q.2.2.1 (ninS u1 (ninS u2 nin0)), rfl⟩⟩, q.2.2.2⟩) (own_meetsL l Z a0 hw o b o2 b2 p2 kb (own_ins (own_ins (own_ins tb x0) x1) x2) hs2 T2.heap hl2 u1 u2 u3 u4 16 (0 : Int32) .unset p e s m below meth c _ _ _ hx hby hml hown hret hlk hZ rfl X2 N2 O2 (Keep.refl _ _) f3 f2a f2e R2r rfl (by decide) (Or.inl rfl))
theorem own_meets_4_3 (l : Launch) (Z : State) (a0 : Array Value) (hw : OWS a0 Z) (ws : List Jvm.Cond) (o b pb : Addr) (kb kp : ClassId) (tb hs : List Int32) (sz mp x0 x1 x2 x3 : Int32) (o2 b2 p2 : Addr) (hs2 : List Int32) (h0 : Heap) (O0 : Old Z Z.heap.size h0) (E0 : oE7 Z h0 o) (g0 : Z.heap.size ≤ o) (gb : Z.heap.size ≤ b) (bp : b ≠ pb) (F0 : oF2 Z h0 o (.ref b)) (F1 : oF3 Z h0 o (.int sz)) (F2 : oF4 Z h0 o (.ref pb)) (F3 : oF5 Z h0 o (.int 3)) (F4 : oF6 Z h0 o (.int mp)) (AT : Arv Z h0 b kb .int (16 : Int32) (tb.map Value.int) (.int 0)) (AP : Arv Z h0 pb kp .int (4 : Int32) [(.int x0), (.int x1), (.int x2), (.int x3)] (.int 0)) (H : OwnHold tb hs) (hl : hs.length < 6) (hz : OwnSz sz hs.length) (nx0 : x0 ≠ 0) (nx1 : x1 ≠ 0) (nx2 : x2 ≠ 0) (na : ∀ y ∈ (((hs ++ [x0]) ++ [x1]) ++ [x2]), y ≠ 0) (R2 : OwnRep Z h0 o2 b2 p2 hs2) (hl2 : hs2.length < 6) (u1 : o ≠ o2) (u2 : o ≠ b2) (u3 : b ≠ o2) (u4 : b ≠ b2) (u5 : o ≠ p2) (u6 : b ≠ p2) :
  ownMet l oM10 prog_107_method_6_code 5 (some .boolean) ws (oR 5 0 0 100) Z #[(.ref o), (.ref o2)] h0 (fun v h L => v = some (.int (if own_meet (((hs ++ [x0]) ++ [x1]) ++ [x2]) hs2 = true then (1 : Int32) else 0)) ∧ Fr Z.heap.size L ∧ Keep h0 h [o, b, o2, b2] ∧ OwnRep Z h o b pb (((hs ++ [x0]) ++ [x1]) ++ [x2]) ∧ OwnRep Z h o2 b2 p2 hs2) := by
 refine own_met (plainFor_of_name oP59) ?_
 intro p e s m below meth c s₁ hx hby hml hown hnm hret hlk hZ e0 X0
 refine own_cast (show _ = (mkF m 0 #[.val (.ref o), .val (.ref o2), .unset, .unset, .unset] []) by first | (simp [entryFrame, mkF, argsToLocals, Value.category]; done) | rfl) ?_
 refine oaloadN X0 hx hby od16_0 rfl (by rfl) 1 rfl ?_
 refine ogetF X0 hx hZ hown (host := "") (Or.inl (oW hw 80 rfl)) Via.refl e0 F3 rfl hby od16_1 4 rfl fun T1 X1 e1 => ?_
 refine oifNo X1 hx hby od16_4 rfl ((if0 _ _).trans (tlt ((by decide) : (0 : Int32) < (3 : Int32))).2.2.2) 7 rfl ?_
 refine oaloadN X1 hx hby od16_7 rfl (by rfl) 8 rfl ?_
 let La99 : Array Slot := #[rv o, rv o2, .unset, .unset, .unset]
 obtain ⟨v2, T2, L2, X2, q2, st2⟩ := own_callP X1 hx hZ hown (y := oM8) (oW hw 107 rfl) (oW hw 109 rfl) (own_nf22 hw) (oW hw 108 rfl) (oW hw 63 rfl) (oW hw 110 rfl) E0 (b := o) (argsL := []) (own_settle_4_3 l Z a0 hw [] o b pb kb kp tb hs sz mp x0 x1 x2 x3 h0 O0 E0 g0 gb bp F0 F1 F2 F3 F4 AT AP H (by omega) hz nx0 nx1 nx2) 0 (by decide) (by decide) (by decide) (by decide) (by decide) e1 (g := (mkF m 8 La99 [(.ref o)])) rfl (by rw [hml]; rfl) [] (lenOf oP123 rfl) rfl (by show 2 * 0 + _ ≤ _; exact Nat.le_of_eq rfl) (hb hby od16_8)
 obtain ⟨rfl, N2q, K2q, f2a, f2b, f2c, f2d, f2e, sz2, f2f, hz2⟩ := q2
 have N2 := Fr.app (Fr.nil _) N2q
 have R2r := R2.keep K2q (ninS (Ne.symm u1) (ninS (Ne.symm u3) nin0)) (ninS (Ne.symm u2) (ninS (Ne.symm u4) nin0)) (ninS (Ne.symm u5) (ninS (Ne.symm u6) nin0))
 have f3 := (E0.keep K2q)
 have f10 := (AP.keep K2q (ninS (Ne.symm (Exa.neArv E0 AP (oW hw 62 rfl))) (ninS (Ne.symm bp) nin0)))
 have O2 := O0.keep K2q (allS g0 (allS gb all0))
 have K2 := (Keep.refl h0 [o, b, o2, b2]).trans K2q (allS (Or.inl (List.mem_of_getElem? (i := 0) rfl)) (allS (Or.inl (List.mem_of_getElem? (i := 1) rfl)) all0))
 refine own_st (T2.setTop (mkF m 11 La99 [])) st2 ?_
 refine oiconst X2 hx hby od16_11 (0 : Int32) rfl 12 rfl ?_
 let La100 : Array Slot := #[rv o, rv o2, .val (.int 0), .unset, .unset]
 refine oistoreN X2 hx hby od16_12 rfl (L' := La100) rfl 13 rfl ?_
 refine oiconst X2 hx hby od16_13 (0 : Int32) rfl 14 rfl ?_
 let La101 : Array Slot := #[rv o, rv o2, .val (.int 0), .val (.int 0), .unset]
 refine oistoreN X2 hx hby od16_14 rfl (L' := La101) rfl 15 rfl ?_
 have hH : OwnHold (own_ins (own_ins (own_ins tb x0) x1) x2) (((hs ++ [x0]) ++ [x1]) ++ [x2]) := (OwnHold.ins (OwnHold.ins (OwnHold.ins H (by omega) nx0) (by simp only [List.length_append, List.length_cons, List.length_nil]; omega) nx1) (by simp only [List.length_append, List.length_cons, List.length_nil]; omega) nx2)
 refine own_goM (fun v h' L q => ⟨q.1.trans (by rw [show ((0 : Int32).toNatClampNeg) = 0 from rfl, own_anyM hH na]), q.2.1, K2.trans q.2.2.1 (allS (Or.inl (List.mem_of_getElem? (i := 2) rfl)) (allS (Or.inl (List.mem_of_getElem? (i := 3) rfl)) all0)), ⟨kb, kp, _, _, _, mp, f3.keep q.2.2.1, g0, gb, bp, f2a.keep q.2.2.1 (ninS u1 (ninS u2 nin0)), f2f.keep q.2.2.1 (ninS u1 (ninS u2 nin0)), f2b.keep q.2.2.1 (ninS u1 (ninS u2 nin0)), f2d.keep q.2.2.1 (ninS u1 (ninS u2 nin0)), f2e.keep q.2.2.1 (ninS u3 (ninS u4 nin0)), (OwnHold.ins (OwnHold.ins (OwnHold.ins H (by omega) nx0) (by simp only [List.length_append, List.length_cons, List.length_nil]; omega) nx1) (by simp only [List.length_append, List.length_cons, List.length_nil]; omega) nx2), OwnSz.mono hz2 (by first | omega | (simp only [List.length_append, List.length_cons, List.length_nil]; omega)), Or.inl ⟨f2c.keep q.2.2.1 (ninS u1 (ninS u2 nin0)), rfl⟩⟩, q.2.2.2⟩) (own_meetsL l Z a0 hw o b o2 b2 p2 kb (own_ins (own_ins (own_ins tb x0) x1) x2) hs2 T2.heap hl2 u1 u2 u3 u4 16 (0 : Int32) .unset p e s m below meth c _ _ _ hx hby hml hown hret hlk hZ rfl X2 N2 O2 (Keep.refl _ _) f3 f2a f2e R2r rfl (by decide) (Or.inl rfl))
theorem own_meetsR (l : Launch) (Z : State) (a0 : Array Value) (hw : OWS a0 Z) (ws : List Jvm.Cond) (o b pb o2 b2 p2 : Addr) (hs hs2 : List Int32) (h0 : Heap) (O0 : Old Z Z.heap.size h0) (R : OwnRep Z h0 o b pb hs) (R2 : OwnRep Z h0 o2 b2 p2 hs2) (hl : hs.length < 6) (hl2 : hs2.length < 6) (na : ∀ y ∈ hs, y ≠ 0) (u1 : o ≠ o2) (u2 : o ≠ b2) (u3 : b ≠ o2) (u4 : b ≠ b2) (u5 : o ≠ p2) (u6 : b ≠ p2) :
  ownMet l oM10 prog_107_method_6_code 5 (some .boolean) ws (oR 5 0 0 100) Z #[(.ref o), (.ref o2)] h0 (fun v h L => v = some (.int (if own_meet hs hs2 = true then (1 : Int32) else 0)) ∧ Fr Z.heap.size L ∧ Keep h0 h [o, b, o2, b2] ∧ OwnRep Z h o b pb hs ∧ OwnRep Z h o2 b2 p2 hs2) := by
 obtain ⟨kb, kp, tb, hs0, sz, mp, E0, g0, gb, bp, F0, F1, F2, F4, AT, H, hz, P⟩ := R
 rcases P with ⟨F3, rfl⟩ | ⟨x0, F3, AP, nx0, rfl⟩ | ⟨x0, x1, F3, AP, nx0, nx1, rfl⟩ | ⟨x0, x1, F3, AP, nx0, rfl⟩ | ⟨x0, x1, x2, F3, AP, nx0, nx1, nx2, rfl⟩ | ⟨x0, x1, x2, x3, F3, AP, nx0, nx1, nx2, rfl⟩
 · exact own_meets_0_0 l Z a0 hw ws o b pb kb kp tb hs sz mp  o2 b2 p2 hs2 h0 O0 E0 g0 gb bp F0 F1 F2 F3 F4 AT trivial H hl hz  na R2 hl2 u1 u2 u3 u4 u5 u6
 · exact own_meets_1_1 l Z a0 hw ws o b pb kb kp tb hs0 sz mp x0 o2 b2 p2 hs2 h0 O0 E0 g0 gb bp F0 F1 F2 F3 F4 AT AP H (by simp only [List.length_append, List.length_cons, List.length_nil] at hl ⊢; omega) hz nx0 na R2 hl2 u1 u2 u3 u4 u5 u6
 · exact own_meets_2_2 l Z a0 hw ws o b pb kb kp tb hs0 sz mp x0 x1 o2 b2 p2 hs2 h0 O0 E0 g0 gb bp F0 F1 F2 F3 F4 AT AP H (by simp only [List.length_append, List.length_cons, List.length_nil] at hl ⊢; omega) hz nx0 nx1 na R2 hl2 u1 u2 u3 u4 u5 u6
 · exact own_meets_2_1 l Z a0 hw ws o b pb kb kp tb hs0 sz mp x0 x1 o2 b2 p2 hs2 h0 O0 E0 g0 gb bp F0 F1 F2 F3 F4 AT AP H (by simp only [List.length_append, List.length_cons, List.length_nil] at hl ⊢; omega) hz nx0 na R2 hl2 u1 u2 u3 u4 u5 u6
 · exact own_meets_3_3 l Z a0 hw ws o b pb kb kp tb hs0 sz mp x0 x1 x2 o2 b2 p2 hs2 h0 O0 E0 g0 gb bp F0 F1 F2 F3 F4 AT AP H (by simp only [List.length_append, List.length_cons, List.length_nil] at hl ⊢; omega) hz nx0 nx1 nx2 na R2 hl2 u1 u2 u3 u4 u5 u6
 · exact own_meets_4_3 l Z a0 hw ws o b pb kb kp tb hs0 sz mp x0 x1 x2 x3 o2 b2 p2 hs2 h0 O0 E0 g0 gb bp F0 F1 F2 F3 F4 AT AP H (by simp only [List.length_append, List.length_cons, List.length_nil] at hl ⊢; omega) hz nx0 nx1 nx2 na R2 hl2 u1 u2 u3 u4 u5 u6
theorem own_meetsS (l : Launch) (Z : State) (a0 : Array Value) (hw : OWS a0 Z) (o b : Addr) (kb : ClassId) (tb hs : List Int32) (h : Heap) (O0 : Old Z Z.heap.size h) (E0 : oE7 Z h o) (F0 : oF2 Z h o (.ref b)) (F3 : oF5 Z h o (.int 0)) (AT : Arv Z h b kb .int (16 : Int32) (tb.map Value.int) (.int 0)) (H : OwnHold tb hs) (hl : hs.length < 6) :
  ∀ (n : Nat) (i : Int32) (sl : Slot) (p : Program) (e : Env) (s : State) (m : MethodId) (below : List Frame) (meth : Method) (c : Code) (T : State) (LL : List Loc), p.tables.exec = Jvm.exec → c.code = prog_107_method_6_code → c.maxLocals = 5 → s.vm.findClass "com/example/rising_block/risingblock/util/StringHashes" = some m.cls → meth.sig.returnType = some .boolean → meth.locks = false → Z.Warmed39 s.vm → T.heap = h →
   Stand p l e (oR 5 0 0 100) s m #[.ref o, .ref o] below meth c T LL 0 0 → Fr Z.heap.size LL → i.toInt + (n : Int) = 16 → 0 ≤ i.toInt → (sl = .unset ∨ ∃ zz : Int32, sl = .val (.int zz)) →
   ownGo p e below (ownQ s (fun v h' L => v = some (.int (if own_any tb hs n i.toNatClampNeg = true then (1 : Int32) else 0)) ∧ Fr Z.heap.size L ∧ h' = h) 0 0) (T.setTop (mkF m 15 #[.val (.ref o), .val (.ref o), .val (.int 0), .val (.int i), sl] [])) := by
 intro n
 induction n with
 | zero =>
  intro i sl p e s m below meth c T LL hx hby hml hown hret hlk hZ e0 X0 N0 hn h0i hsl
  rcases hsl with rfl | ⟨zz, rfl⟩
  ·
   refine oiloadN X0 hx hby od16_15 rfl 16 rfl ?_
   refine oaloadN X0 hx hby od16_16 rfl (by rfl) 17 rfl ?_
   refine ogetF X0 hx hZ hown (host := "") (Or.inl (oW hw 69 rfl)) Via.refl e0 F0 rfl hby od16_17 20 rfl fun T1 X1 e1 => ?_
   obtain ⟨cl2, q2a, q2b, q2c, q2d, q2e, q2f⟩ := id AT
   let La102 : Array Slot := #[rv o, rv o, .val (.int 0), .val (.int i), .unset]
   refine own_st (T1.setTop (mkF m 21 La102 [(.int 16), (.int i)])) (fun tq kq => X1.arraylength hx (by rw [e1]; exact q2a.1) (State.isArrayOf_alike hZ.alike q2a.2.1) (g := (mkF m 20 La102 [(.ref b), (.int i)])) rfl rfl (hb hby od16_20) tq (by rw [len_of q2c q2d]; exact kq)) ?_
   refine oicmpYes X1 hx hby od16_21 rfl (flt ((own_end hn) : ¬ (i < (16 : Int32)))).2.1 62 (by decide) (by decide) ?_
   refine oiloadN X1 hx hby od16_62 rfl 63 rfl ?_
   exact own_ret X1 hlk (v := some (.int 0)) (fun h => by rw [hret] at h; cases h) e1 (⟨own_iteF (by simp [own_any]), N0, rfl⟩) (by decide) (by decide) (fun fs hr => own_retN X1 hx (t := .boolean) hret (by simp) (hb hby od16_63) rfl hr)
  ·
   refine oiloadN X0 hx hby od16_15 rfl 16 rfl ?_
   refine oaloadN X0 hx hby od16_16 rfl (by rfl) 17 rfl ?_
   refine ogetF X0 hx hZ hown (host := "") (Or.inl (oW hw 69 rfl)) Via.refl e0 F0 rfl hby od16_17 20 rfl fun T1 X1 e1 => ?_
   obtain ⟨cl2, q2a, q2b, q2c, q2d, q2e, q2f⟩ := id AT
   let La103 : Array Slot := #[rv o, rv o, .val (.int 0), .val (.int i), .val (.int zz)]
   refine own_st (T1.setTop (mkF m 21 La103 [(.int 16), (.int i)])) (fun tq kq => X1.arraylength hx (by rw [e1]; exact q2a.1) (State.isArrayOf_alike hZ.alike q2a.2.1) (g := (mkF m 20 La103 [(.ref b), (.int i)])) rfl rfl (hb hby od16_20) tq (by rw [len_of q2c q2d]; exact kq)) ?_
   refine oicmpYes X1 hx hby od16_21 rfl (flt ((own_end hn) : ¬ (i < (16 : Int32)))).2.1 62 (by decide) (by decide) ?_
   refine oiloadN X1 hx hby od16_62 rfl 63 rfl ?_
   exact own_ret X1 hlk (v := some (.int 0)) (fun h => by rw [hret] at h; cases h) e1 (⟨own_iteF (by simp [own_any]), N0, rfl⟩) (by decide) (by decide) (fun fs hr => own_retN X1 hx (t := .boolean) hret (by simp) (hb hby od16_63) rfl hr)
 | succ n ih =>
  intro i sl p e s m below meth c T LL hx hby hml hown hret hlk hZ e0 X0 N0 hn h0i hsl
  rcases hsl with rfl | ⟨zz, rfl⟩
  ·
   refine oiloadN X0 hx hby od16_15 rfl 16 rfl ?_
   refine oaloadN X0 hx hby od16_16 rfl (by rfl) 17 rfl ?_
   refine ogetF X0 hx hZ hown (host := "") (Or.inl (oW hw 69 rfl)) Via.refl e0 F0 rfl hby od16_17 20 rfl fun T1 X1 e1 => ?_
   obtain ⟨cl2, q2a, q2b, q2c, q2d, q2e, q2f⟩ := id AT
   let La104 : Array Slot := #[rv o, rv o, .val (.int 0), .val (.int i), .unset]
   refine own_st (T1.setTop (mkF m 21 La104 [(.int 16), (.int i)])) (fun tq kq => X1.arraylength hx (by rw [e1]; exact q2a.1) (State.isArrayOf_alike hZ.alike q2a.2.1) (g := (mkF m 20 La104 [(.ref b), (.int i)])) rfl rfl (hb hby od16_20) tq (by rw [len_of q2c q2d]; exact kq)) ?_
   refine oicmpNo X1 hx hby od16_21 rfl (tlt ((own_step hn h0i).2.1 : i < (16 : Int32))).2.1 24 rfl ?_
   refine oiloadN X1 hx hby od16_24 rfl 25 rfl ?_
   refine oifNo X1 hx hby od16_25 rfl ((if0 _ _).trans (teq ((by decide) : (0 : Int32) = (0 : Int32))).2) 28 rfl ?_
   refine oaloadN X1 hx hby od16_28 rfl (by rfl) 29 rfl ?_
   refine ogetF X1 hx hZ hown (host := "") (Or.inl (oW hw 69 rfl)) Via.refl e1 F0 rfl hby od16_29 32 rfl fun T3 X3 e3 => ?_
   refine oiloadN X3 hx hby od16_32 rfl 33 rfl ?_
   obtain ⟨cl4, q4a, q4b, q4c, q4d, q4e, q4f⟩ := id AT
   refine own_st (T3.setTop (mkF m 34 La104 [(.int (own_g tb i.toNatClampNeg))])) (fun tq kq => X3.iaload hx (j := i) (v := (.int (own_g tb i.toNatClampNeg))) (by rw [e3]; exact q4a.1) (State.isArrayOf_alike hZ.alike q4a.2.1) q4a.2.2 (inb_of q4c ⟨(own_step hn h0i).1, (own_step hn h0i).2.1⟩) (q4e.at (inb_of q4c ⟨(own_step hn h0i).1, (own_step hn h0i).2.1⟩) (own_gm _ _)) (g := (mkF m 33 La104 [(.int i), (.ref b)])) rfl rfl (hb hby od16_33) tq kq) ?_
   let La105 : Array Slot := #[rv o, rv o, .val (.int 0), .val (.int i), .val (.int (own_g tb i.toNatClampNeg))]
   refine oistore X3 hx hby od16_34 rfl (L' := La105) rfl 36 rfl ?_
   refine oiload X3 hx hby od16_36 rfl 38 rfl ?_
   by_cases c38_5 : (own_g tb i.toNatClampNeg) = (0 : Int32)
   ·
    refine oifYes X3 hx hby od16_38 rfl ((if0 _ _).trans (teq c38_5).1) 54 (by decide) (by decide) ?_
    refine oiconst X3 hx hby od16_54 (0 : Int32) rfl 55 rfl ?_
    refine oistoreN X3 hx hby od16_55 rfl (L' := La105) rfl 56 rfl ?_
    let La106 : Array Slot := #[rv o, rv o, .val (.int 0), .val (.int (i + (1 : Int32))), .val (.int (own_g tb i.toNatClampNeg))]
    refine oiinc X3 hx hby od16_56 rfl (L' := La106) rfl 59 rfl ?_
    refine ogoto X3 hx hby od16_59 15 (by decide) (by decide) ?_
    have eqn : own_any tb hs (n + 1) i.toNatClampNeg = own_any tb hs n (i + (1 : Int32)).toNatClampNeg := by rw [(own_step hn h0i).2.2.2.2]; exact own_any0 c38_5
    rw [eqn]
    exact ih _ _ p e s m below meth c _ _ hx hby hml hown hret hlk hZ e3 X3 N0 (own_step hn h0i).2.2.1 (own_step hn h0i).2.2.2.1 (Or.inr ⟨_, rfl⟩)
   ·
    refine oifNo X3 hx hby od16_38 rfl ((if0 _ _).trans (feq c38_5).1) 41 rfl ?_
    refine oaloadN X3 hx hby od16_41 rfl (by rfl) 42 rfl ?_
    refine oiload X3 hx hby od16_42 rfl 44 rfl ?_
    obtain ⟨v6, T6, L6, X6, q6, st6⟩ := own_callP X3 hx hZ hown (y := oM9) (oW hw 122 rfl) (oW hw 124 rfl) (own_nf25 hw) (oW hw 123 rfl) (oW hw 63 rfl) (oW hw 125 rfl) E0 (b := o) (argsL := [(.int (own_g tb i.toNatClampNeg))]) (own_mch_0_0 l Z a0 hw [] o b kb tb hs (own_g tb i.toNatClampNeg) h O0 E0 F0 F3 AT H hl c38_5) 0 (by decide) (by decide) (by decide) (by decide) (by decide) e3 (g := (mkF m 44 La105 [(.int (own_g tb i.toNatClampNeg)), (.ref o)])) rfl (by rw [hml]; rfl) [] (lenOf oP147 rfl) rfl (by show 2 * 0 + _ ≤ _; exact Nat.le_of_eq rfl) (hb hby od16_44)
    obtain ⟨rfl, N6q, e6⟩ := q6
    have N6 := Fr.app N0 N6q
    refine own_st (T6.setTop (mkF m 47 La105 [(.int (if (own_g tb i.toNatClampNeg) ∈ hs then (1 : Int32) else 0))])) st6 ?_
    by_cases c47_7 : (if (own_g tb i.toNatClampNeg) ∈ hs then (1 : Int32) else 0) = (0 : Int32)
    ·
     refine oifYes X6 hx hby od16_47 rfl ((if0 _ _).trans (teq c47_7).1) 54 (by decide) (by decide) ?_
     refine oiconst X6 hx hby od16_54 (0 : Int32) rfl 55 rfl ?_
     refine oistoreN X6 hx hby od16_55 rfl (L' := La105) rfl 56 rfl ?_
     let La107 : Array Slot := #[rv o, rv o, .val (.int 0), .val (.int (i + (1 : Int32))), .val (.int (own_g tb i.toNatClampNeg))]
     refine oiinc X6 hx hby od16_56 rfl (L' := La107) rfl 59 rfl ?_
     refine ogoto X6 hx hby od16_59 15 (by decide) (by decide) ?_
     have eqn : own_any tb hs (n + 1) i.toNatClampNeg = own_any tb hs n (i + (1 : Int32)).toNatClampNeg := by rw [(own_step hn h0i).2.2.2.2]; exact own_anyN (own_if0 c47_7)
     rw [eqn]
     exact ih _ _ p e s m below meth c _ _ hx hby hml hown hret hlk hZ e6 X6 N6 (own_step hn h0i).2.2.1 (own_step hn h0i).2.2.2.1 (Or.inr ⟨_, rfl⟩)
    ·
     refine oifNo X6 hx hby od16_47 rfl ((if0 _ _).trans (feq c47_7).1) 50 rfl ?_
     refine oiconst X6 hx hby od16_50 (1 : Int32) rfl 51 rfl ?_
     refine ogoto X6 hx hby od16_51 55 (by decide) (by decide) ?_
     let La108 : Array Slot := #[rv o, rv o, .val (.int 1), .val (.int i), .val (.int (own_g tb i.toNatClampNeg))]
     refine oistoreN X6 hx hby od16_55 rfl (L' := La108) rfl 56 rfl ?_
     let La109 : Array Slot := #[rv o, rv o, .val (.int 1), .val (.int (i + (1 : Int32))), .val (.int (own_g tb i.toNatClampNeg))]
     refine oiinc X6 hx hby od16_56 rfl (L' := La109) rfl 59 rfl ?_
     refine ogoto X6 hx hby od16_59 15 (by decide) (by decide) ?_
     refine oiloadN X6 hx hby od16_15 rfl 16 rfl ?_
     refine oaloadN X6 hx hby od16_16 rfl (by rfl) 17 rfl ?_
     refine ogetF X6 hx hZ hown (host := "") (Or.inl (oW hw 69 rfl)) Via.refl e6 F0 rfl hby od16_17 20 rfl fun T8 X8 e8 => ?_
     obtain ⟨cl9, q9a, q9b, q9c, q9d, q9e, q9f⟩ := id AT
     refine own_st (T8.setTop (mkF m 21 La109 [(.int 16), (.int (i + (1 : Int32)))])) (fun tq kq => X8.arraylength hx (by rw [e8]; exact q9a.1) (State.isArrayOf_alike hZ.alike q9a.2.1) (g := (mkF m 20 La109 [(.ref b), (.int (i + (1 : Int32)))])) rfl rfl (hb hby od16_20) tq (by rw [len_of q9c q9d]; exact kq)) ?_
     by_cases c21_10 : (i + (1 : Int32)) < (16 : Int32)
     ·
      refine oicmpNo X8 hx hby od16_21 rfl (tlt c21_10).2.1 24 rfl ?_
      refine oiloadN X8 hx hby od16_24 rfl 25 rfl ?_
      refine oifYes X8 hx hby od16_25 rfl ((if0 _ _).trans (feq ((by decide) : ¬ ((1 : Int32) = (0 : Int32)))).2) 62 (by decide) (by decide) ?_
      refine oiloadN X8 hx hby od16_62 rfl 63 rfl ?_
      exact own_ret X8 hlk (v := some (.int 1)) (fun h => by rw [hret] at h; cases h) e8 (⟨own_iteT (own_anyY c38_5 (own_if1 c47_7)), N6, rfl⟩) (by decide) (by decide) (fun fs hr => own_retN X8 hx (t := .boolean) hret (by simp) (hb hby od16_63) rfl hr)
     ·
      refine oicmpYes X8 hx hby od16_21 rfl (flt c21_10).2.1 62 (by decide) (by decide) ?_
      refine oiloadN X8 hx hby od16_62 rfl 63 rfl ?_
      exact own_ret X8 hlk (v := some (.int 1)) (fun h => by rw [hret] at h; cases h) e8 (⟨own_iteT (own_anyY c38_5 (own_if1 c47_7)), N6, rfl⟩) (by decide) (by decide) (fun fs hr => own_retN X8 hx (t := .boolean) hret (by simp) (hb hby od16_63) rfl hr)
  ·
   refine oiloadN X0 hx hby od16_15 rfl 16 rfl ?_
   refine oaloadN X0 hx hby od16_16 rfl (by rfl) 17 rfl ?_
   refine ogetF X0 hx hZ hown (host := "") (Or.inl (oW hw 69 rfl)) Via.refl e0 F0 rfl hby od16_17 20 rfl fun T1 X1 e1 => ?_
   obtain ⟨cl2, q2a, q2b, q2c, q2d, q2e, q2f⟩ := id AT
   let La110 : Array Slot := #[rv o, rv o, .val (.int 0), .val (.int i), .val (.int zz)]
   refine own_st (T1.setTop (mkF m 21 La110 [(.int 16), (.int i)])) (fun tq kq => X1.arraylength hx (by rw [e1]; exact q2a.1) (State.isArrayOf_alike hZ.alike q2a.2.1) (g := (mkF m 20 La110 [(.ref b), (.int i)])) rfl rfl (hb hby od16_20) tq (by rw [len_of q2c q2d]; exact kq)) ?_
   refine oicmpNo X1 hx hby od16_21 rfl (tlt ((own_step hn h0i).2.1 : i < (16 : Int32))).2.1 24 rfl ?_
   refine oiloadN X1 hx hby od16_24 rfl 25 rfl ?_
   refine oifNo X1 hx hby od16_25 rfl ((if0 _ _).trans (teq ((by decide) : (0 : Int32) = (0 : Int32))).2) 28 rfl ?_
   refine oaloadN X1 hx hby od16_28 rfl (by rfl) 29 rfl ?_
   refine ogetF X1 hx hZ hown (host := "") (Or.inl (oW hw 69 rfl)) Via.refl e1 F0 rfl hby od16_29 32 rfl fun T3 X3 e3 => ?_
   refine oiloadN X3 hx hby od16_32 rfl 33 rfl ?_
   obtain ⟨cl4, q4a, q4b, q4c, q4d, q4e, q4f⟩ := id AT
   refine own_st (T3.setTop (mkF m 34 La110 [(.int (own_g tb i.toNatClampNeg))])) (fun tq kq => X3.iaload hx (j := i) (v := (.int (own_g tb i.toNatClampNeg))) (by rw [e3]; exact q4a.1) (State.isArrayOf_alike hZ.alike q4a.2.1) q4a.2.2 (inb_of q4c ⟨(own_step hn h0i).1, (own_step hn h0i).2.1⟩) (q4e.at (inb_of q4c ⟨(own_step hn h0i).1, (own_step hn h0i).2.1⟩) (own_gm _ _)) (g := (mkF m 33 La110 [(.int i), (.ref b)])) rfl rfl (hb hby od16_33) tq kq) ?_
   let La111 : Array Slot := #[rv o, rv o, .val (.int 0), .val (.int i), .val (.int (own_g tb i.toNatClampNeg))]
   refine oistore X3 hx hby od16_34 rfl (L' := La111) rfl 36 rfl ?_
   refine oiload X3 hx hby od16_36 rfl 38 rfl ?_
   by_cases c38_5 : (own_g tb i.toNatClampNeg) = (0 : Int32)
   ·
    refine oifYes X3 hx hby od16_38 rfl ((if0 _ _).trans (teq c38_5).1) 54 (by decide) (by decide) ?_
    refine oiconst X3 hx hby od16_54 (0 : Int32) rfl 55 rfl ?_
    refine oistoreN X3 hx hby od16_55 rfl (L' := La111) rfl 56 rfl ?_
    let La112 : Array Slot := #[rv o, rv o, .val (.int 0), .val (.int (i + (1 : Int32))), .val (.int (own_g tb i.toNatClampNeg))]
    refine oiinc X3 hx hby od16_56 rfl (L' := La112) rfl 59 rfl ?_
    refine ogoto X3 hx hby od16_59 15 (by decide) (by decide) ?_
    have eqn : own_any tb hs (n + 1) i.toNatClampNeg = own_any tb hs n (i + (1 : Int32)).toNatClampNeg := by rw [(own_step hn h0i).2.2.2.2]; exact own_any0 c38_5
    rw [eqn]
    exact ih _ _ p e s m below meth c _ _ hx hby hml hown hret hlk hZ e3 X3 N0 (own_step hn h0i).2.2.1 (own_step hn h0i).2.2.2.1 (Or.inr ⟨_, rfl⟩)
   ·
    refine oifNo X3 hx hby od16_38 rfl ((if0 _ _).trans (feq c38_5).1) 41 rfl ?_
    refine oaloadN X3 hx hby od16_41 rfl (by rfl) 42 rfl ?_
    refine oiload X3 hx hby od16_42 rfl 44 rfl ?_
    obtain ⟨v6, T6, L6, X6, q6, st6⟩ := own_callP X3 hx hZ hown (y := oM9) (oW hw 122 rfl) (oW hw 124 rfl) (own_nf25 hw) (oW hw 123 rfl) (oW hw 63 rfl) (oW hw 125 rfl) E0 (b := o) (argsL := [(.int (own_g tb i.toNatClampNeg))]) (own_mch_0_0 l Z a0 hw [] o b kb tb hs (own_g tb i.toNatClampNeg) h O0 E0 F0 F3 AT H hl c38_5) 0 (by decide) (by decide) (by decide) (by decide) (by decide) e3 (g := (mkF m 44 La111 [(.int (own_g tb i.toNatClampNeg)), (.ref o)])) rfl (by rw [hml]; rfl) [] (lenOf oP147 rfl) rfl (by show 2 * 0 + _ ≤ _; exact Nat.le_of_eq rfl) (hb hby od16_44)
    obtain ⟨rfl, N6q, e6⟩ := q6
    have N6 := Fr.app N0 N6q
    refine own_st (T6.setTop (mkF m 47 La111 [(.int (if (own_g tb i.toNatClampNeg) ∈ hs then (1 : Int32) else 0))])) st6 ?_
    by_cases c47_7 : (if (own_g tb i.toNatClampNeg) ∈ hs then (1 : Int32) else 0) = (0 : Int32)
    ·
     refine oifYes X6 hx hby od16_47 rfl ((if0 _ _).trans (teq c47_7).1) 54 (by decide) (by decide) ?_
     refine oiconst X6 hx hby od16_54 (0 : Int32) rfl 55 rfl ?_
     refine oistoreN X6 hx hby od16_55 rfl (L' := La111) rfl 56 rfl ?_
     let La113 : Array Slot := #[rv o, rv o, .val (.int 0), .val (.int (i + (1 : Int32))), .val (.int (own_g tb i.toNatClampNeg))]
     refine oiinc X6 hx hby od16_56 rfl (L' := La113) rfl 59 rfl ?_
     refine ogoto X6 hx hby od16_59 15 (by decide) (by decide) ?_
     have eqn : own_any tb hs (n + 1) i.toNatClampNeg = own_any tb hs n (i + (1 : Int32)).toNatClampNeg := by rw [(own_step hn h0i).2.2.2.2]; exact own_anyN (own_if0 c47_7)
     rw [eqn]
     exact ih _ _ p e s m below meth c _ _ hx hby hml hown hret hlk hZ e6 X6 N6 (own_step hn h0i).2.2.1 (own_step hn h0i).2.2.2.1 (Or.inr ⟨_, rfl⟩)
    ·
     refine oifNo X6 hx hby od16_47 rfl ((if0 _ _).trans (feq c47_7).1) 50 rfl ?_
     refine oiconst X6 hx hby od16_50 (1 : Int32) rfl 51 rfl ?_
     refine ogoto X6 hx hby od16_51 55 (by decide) (by decide) ?_
     let La114 : Array Slot := #[rv o, rv o, .val (.int 1), .val (.int i), .val (.int (own_g tb i.toNatClampNeg))]
     refine oistoreN X6 hx hby od16_55 rfl (L' := La114) rfl 56 rfl ?_
     let La115 : Array Slot := #[rv o, rv o, .val (.int 1), .val (.int (i + (1 : Int32))), .val (.int (own_g tb i.toNatClampNeg))]
     refine oiinc X6 hx hby od16_56 rfl (L' := La115) rfl 59 rfl ?_
     refine ogoto X6 hx hby od16_59 15 (by decide) (by decide) ?_
     refine oiloadN X6 hx hby od16_15 rfl 16 rfl ?_
     refine oaloadN X6 hx hby od16_16 rfl (by rfl) 17 rfl ?_
     refine ogetF X6 hx hZ hown (host := "") (Or.inl (oW hw 69 rfl)) Via.refl e6 F0 rfl hby od16_17 20 rfl fun T8 X8 e8 => ?_
     obtain ⟨cl9, q9a, q9b, q9c, q9d, q9e, q9f⟩ := id AT
     refine own_st (T8.setTop (mkF m 21 La115 [(.int 16), (.int (i + (1 : Int32)))])) (fun tq kq => X8.arraylength hx (by rw [e8]; exact q9a.1) (State.isArrayOf_alike hZ.alike q9a.2.1) (g := (mkF m 20 La115 [(.ref b), (.int (i + (1 : Int32)))])) rfl rfl (hb hby od16_20) tq (by rw [len_of q9c q9d]; exact kq)) ?_
     by_cases c21_10 : (i + (1 : Int32)) < (16 : Int32)
     ·
      refine oicmpNo X8 hx hby od16_21 rfl (tlt c21_10).2.1 24 rfl ?_
      refine oiloadN X8 hx hby od16_24 rfl 25 rfl ?_
      refine oifYes X8 hx hby od16_25 rfl ((if0 _ _).trans (feq ((by decide) : ¬ ((1 : Int32) = (0 : Int32)))).2) 62 (by decide) (by decide) ?_
      refine oiloadN X8 hx hby od16_62 rfl 63 rfl ?_
      exact own_ret X8 hlk (v := some (.int 1)) (fun h => by rw [hret] at h; cases h) e8 (⟨own_iteT (own_anyY c38_5 (own_if1 c47_7)), N6, rfl⟩) (by decide) (by decide) (fun fs hr => own_retN X8 hx (t := .boolean) hret (by simp) (hb hby od16_63) rfl hr)
     ·
      refine oicmpYes X8 hx hby od16_21 rfl (flt c21_10).2.1 62 (by decide) (by decide) ?_
      refine oiloadN X8 hx hby od16_62 rfl 63 rfl ?_
      exact own_ret X8 hlk (v := some (.int 1)) (fun h => by rw [hret] at h; cases h) e8 (⟨own_iteT (own_anyY c38_5 (own_if1 c47_7)), N6, rfl⟩) (by decide) (by decide) (fun fs hr => own_retN X8 hx (t := .boolean) hret (by simp) (hb hby od16_63) rfl hr)
theorem own_meetsSelf_0_0 (l : Launch) (Z : State) (a0 : Array Value) (hw : OWS a0 Z) (ws : List Jvm.Cond) (o b pb : Addr) (kb kp : ClassId) (tb hs : List Int32) (sz mp : Int32) (h0 : Heap) (O0 : Old Z Z.heap.size h0) (E0 : oE7 Z h0 o) (g0 : Z.heap.size ≤ o) (gb : Z.heap.size ≤ b) (bp : b ≠ pb) (F0 : oF2 Z h0 o (.ref b)) (F1 : oF3 Z h0 o (.int sz)) (F2 : oF4 Z h0 o (.ref pb)) (F3 : oF5 Z h0 o (.int 0)) (F4 : oF6 Z h0 o (.int mp)) (AT : Arv Z h0 b kb .int (16 : Int32) (tb.map Value.int) (.int 0)) (AP : True) (H : OwnHold tb hs) (hl : hs.length < 6) (hz : OwnSz sz hs.length) (na : ∀ y ∈ hs, y ≠ 0) (hlf : hs.length < 6) :
  ownMet l oM10 prog_107_method_6_code 5 (some .boolean) ws (oR 5 0 0 100) Z #[(.ref o), (.ref o)] h0 (fun v h L => v = some (.int (if own_meet hs hs = true then (1 : Int32) else 0)) ∧ Fr Z.heap.size L ∧ Keep h0 h [o, b] ∧ OwnRep Z h o b pb hs) := by
 refine own_met (plainFor_of_name oP59) ?_
 intro p e s m below meth c s₁ hx hby hml hown hnm hret hlk hZ e0 X0
 refine own_cast (show _ = (mkF m 0 #[.val (.ref o), .val (.ref o), .unset, .unset, .unset] []) by first | (simp [entryFrame, mkF, argsToLocals, Value.category]; done) | rfl) ?_
 refine oaloadN X0 hx hby od16_0 rfl (by rfl) 1 rfl ?_
 refine ogetF X0 hx hZ hown (host := "") (Or.inl (oW hw 80 rfl)) Via.refl e0 F3 rfl hby od16_1 4 rfl fun T1 X1 e1 => ?_
 refine oifYes X1 hx hby od16_4 rfl ((if0 _ _).trans (flt ((by decide) : ¬ ((0 : Int32) < (0 : Int32)))).2.2.2) 11 (by decide) (by decide) ?_
 refine oiconst X1 hx hby od16_11 (0 : Int32) rfl 12 rfl ?_
 let La116 : Array Slot := #[rv o, rv o, .val (.int 0), .unset, .unset]
 refine oistoreN X1 hx hby od16_12 rfl (L' := La116) rfl 13 rfl ?_
 refine oiconst X1 hx hby od16_13 (0 : Int32) rfl 14 rfl ?_
 let La117 : Array Slot := #[rv o, rv o, .val (.int 0), .val (.int 0), .unset]
 refine oistoreN X1 hx hby od16_14 rfl (L' := La117) rfl 15 rfl ?_
 have hH : OwnHold tb hs := H
 have hR : OwnRep Z h0 o b pb hs := ⟨kb, kp, _, _, _, mp, E0, g0, gb, bp, F0, F1, F2, F4, AT, H, OwnSz.mono hz (by first | omega | (simp only [List.length_append, List.length_cons, List.length_nil]; omega)), Or.inl ⟨F3, rfl⟩⟩
 refine own_goM (fun v h' L q => ⟨q.1.trans (by rw [show ((0 : Int32).toNatClampNeg) = 0 from rfl, own_anyM hH na]), q.2.1, by rw [q.2.2]; exact (Keep.refl h0 [o, b]), by rw [q.2.2]; exact hR⟩) (own_meetsS l Z a0 hw o b kb tb hs h0 O0 E0 F0 F3 AT hH hlf 16 (0 : Int32) .unset p e s m below meth c _ _ hx hby hml hown hret hlk hZ e1 X1 (Fr.nil _) rfl (by decide) (Or.inl rfl))
theorem own_meetsSelf_1_1 (l : Launch) (Z : State) (a0 : Array Value) (hw : OWS a0 Z) (ws : List Jvm.Cond) (o b pb : Addr) (kb kp : ClassId) (tb hs : List Int32) (sz mp x0 : Int32) (h0 : Heap) (O0 : Old Z Z.heap.size h0) (E0 : oE7 Z h0 o) (g0 : Z.heap.size ≤ o) (gb : Z.heap.size ≤ b) (bp : b ≠ pb) (F0 : oF2 Z h0 o (.ref b)) (F1 : oF3 Z h0 o (.int sz)) (F2 : oF4 Z h0 o (.ref pb)) (F3 : oF5 Z h0 o (.int 1)) (F4 : oF6 Z h0 o (.int mp)) (AT : Arv Z h0 b kb .int (16 : Int32) (tb.map Value.int) (.int 0)) (AP : Arv Z h0 pb kp .int (1 : Int32) [(.int x0)] (.int 0)) (H : OwnHold tb hs) (hl : hs.length < 6) (hz : OwnSz sz hs.length) (nx0 : x0 ≠ 0) (na : ∀ y ∈ (hs ++ [x0]), y ≠ 0) (hlf : (hs ++ [x0]).length < 6) :
  ownMet l oM10 prog_107_method_6_code 5 (some .boolean) ws (oR 5 0 0 100) Z #[(.ref o), (.ref o)] h0 (fun v h L => v = some (.int (if own_meet (hs ++ [x0]) (hs ++ [x0]) = true then (1 : Int32) else 0)) ∧ Fr Z.heap.size L ∧ Keep h0 h [o, b] ∧ OwnRep Z h o b pb (hs ++ [x0])) := by
 refine own_met (plainFor_of_name oP59) ?_
 intro p e s m below meth c s₁ hx hby hml hown hnm hret hlk hZ e0 X0
 refine own_cast (show _ = (mkF m 0 #[.val (.ref o), .val (.ref o), .unset, .unset, .unset] []) by first | (simp [entryFrame, mkF, argsToLocals, Value.category]; done) | rfl) ?_
 refine oaloadN X0 hx hby od16_0 rfl (by rfl) 1 rfl ?_
 refine ogetF X0 hx hZ hown (host := "") (Or.inl (oW hw 80 rfl)) Via.refl e0 F3 rfl hby od16_1 4 rfl fun T1 X1 e1 => ?_
 refine oifNo X1 hx hby od16_4 rfl ((if0 _ _).trans (tlt ((by decide) : (0 : Int32) < (1 : Int32))).2.2.2) 7 rfl ?_
 refine oaloadN X1 hx hby od16_7 rfl (by rfl) 8 rfl ?_
 let La118 : Array Slot := #[rv o, rv o, .unset, .unset, .unset]
 obtain ⟨v2, T2, L2, X2, q2, st2⟩ := own_callP X1 hx hZ hown (y := oM8) (oW hw 107 rfl) (oW hw 109 rfl) (own_nf22 hw) (oW hw 108 rfl) (oW hw 63 rfl) (oW hw 110 rfl) E0 (b := o) (argsL := []) (own_settle_1_1 l Z a0 hw [] o b pb kb kp tb hs sz mp x0 h0 O0 E0 g0 gb bp F0 F1 F2 F3 F4 AT AP H (by omega) hz nx0) 0 (by decide) (by decide) (by decide) (by decide) (by decide) e1 (g := (mkF m 8 La118 [(.ref o)])) rfl (by rw [hml]; rfl) [] (lenOf oP123 rfl) rfl (by show 2 * 0 + _ ≤ _; exact Nat.le_of_eq rfl) (hb hby od16_8)
 obtain ⟨rfl, N2q, K2q, f2a, f2b, f2c, f2d, f2e, sz2, f2f, hz2⟩ := q2
 have N2 := Fr.app (Fr.nil _) N2q
 have f3 := (E0.keep K2q)
 have f10 := (AP.keep K2q (ninS (Ne.symm (Exa.neArv E0 AP (oW hw 62 rfl))) (ninS (Ne.symm bp) nin0)))
 have O2 := O0.keep K2q (allS g0 (allS gb all0))
 have K2 := (Keep.refl h0 [o, b]).trans K2q (allS (Or.inl (List.mem_of_getElem? (i := 0) rfl)) (allS (Or.inl (List.mem_of_getElem? (i := 1) rfl)) all0))
 refine own_st (T2.setTop (mkF m 11 La118 [])) st2 ?_
 refine oiconst X2 hx hby od16_11 (0 : Int32) rfl 12 rfl ?_
 let La119 : Array Slot := #[rv o, rv o, .val (.int 0), .unset, .unset]
 refine oistoreN X2 hx hby od16_12 rfl (L' := La119) rfl 13 rfl ?_
 refine oiconst X2 hx hby od16_13 (0 : Int32) rfl 14 rfl ?_
 let La120 : Array Slot := #[rv o, rv o, .val (.int 0), .val (.int 0), .unset]
 refine oistoreN X2 hx hby od16_14 rfl (L' := La120) rfl 15 rfl ?_
 have hH : OwnHold (own_ins tb x0) (hs ++ [x0]) := (OwnHold.ins H (by omega) nx0)
 have hR : OwnRep Z T2.heap o b pb (hs ++ [x0]) := ⟨kb, kp, _, _, _, mp, f3, g0, gb, bp, f2a, f2f, f2b, f2d, f2e, (OwnHold.ins H (by omega) nx0), OwnSz.mono hz2 (by first | omega | (simp only [List.length_append, List.length_cons, List.length_nil]; omega)), Or.inl ⟨f2c, rfl⟩⟩
 refine own_goM (fun v h' L q => ⟨q.1.trans (by rw [show ((0 : Int32).toNatClampNeg) = 0 from rfl, own_anyM hH na]), q.2.1, by rw [q.2.2]; exact K2, by rw [q.2.2]; exact hR⟩) (own_meetsS l Z a0 hw o b kb (own_ins tb x0) (hs ++ [x0]) T2.heap O2 f3 f2a f2c f2e hH hlf 16 (0 : Int32) .unset p e s m below meth c _ _ hx hby hml hown hret hlk hZ rfl X2 N2 rfl (by decide) (Or.inl rfl))
theorem own_meetsSelf_2_2 (l : Launch) (Z : State) (a0 : Array Value) (hw : OWS a0 Z) (ws : List Jvm.Cond) (o b pb : Addr) (kb kp : ClassId) (tb hs : List Int32) (sz mp x0 x1 : Int32) (h0 : Heap) (O0 : Old Z Z.heap.size h0) (E0 : oE7 Z h0 o) (g0 : Z.heap.size ≤ o) (gb : Z.heap.size ≤ b) (bp : b ≠ pb) (F0 : oF2 Z h0 o (.ref b)) (F1 : oF3 Z h0 o (.int sz)) (F2 : oF4 Z h0 o (.ref pb)) (F3 : oF5 Z h0 o (.int 2)) (F4 : oF6 Z h0 o (.int mp)) (AT : Arv Z h0 b kb .int (16 : Int32) (tb.map Value.int) (.int 0)) (AP : Arv Z h0 pb kp .int (2 : Int32) [(.int x0), (.int x1)] (.int 0)) (H : OwnHold tb hs) (hl : hs.length < 6) (hz : OwnSz sz hs.length) (nx0 : x0 ≠ 0) (nx1 : x1 ≠ 0) (na : ∀ y ∈ ((hs ++ [x0]) ++ [x1]), y ≠ 0) (hlf : ((hs ++ [x0]) ++ [x1]).length < 6) :
  ownMet l oM10 prog_107_method_6_code 5 (some .boolean) ws (oR 5 0 0 100) Z #[(.ref o), (.ref o)] h0 (fun v h L => v = some (.int (if own_meet ((hs ++ [x0]) ++ [x1]) ((hs ++ [x0]) ++ [x1]) = true then (1 : Int32) else 0)) ∧ Fr Z.heap.size L ∧ Keep h0 h [o, b] ∧ OwnRep Z h o b pb ((hs ++ [x0]) ++ [x1])) := by
 refine own_met (plainFor_of_name oP59) ?_
 intro p e s m below meth c s₁ hx hby hml hown hnm hret hlk hZ e0 X0
 refine own_cast (show _ = (mkF m 0 #[.val (.ref o), .val (.ref o), .unset, .unset, .unset] []) by first | (simp [entryFrame, mkF, argsToLocals, Value.category]; done) | rfl) ?_
 refine oaloadN X0 hx hby od16_0 rfl (by rfl) 1 rfl ?_
 refine ogetF X0 hx hZ hown (host := "") (Or.inl (oW hw 80 rfl)) Via.refl e0 F3 rfl hby od16_1 4 rfl fun T1 X1 e1 => ?_
 refine oifNo X1 hx hby od16_4 rfl ((if0 _ _).trans (tlt ((by decide) : (0 : Int32) < (2 : Int32))).2.2.2) 7 rfl ?_
 refine oaloadN X1 hx hby od16_7 rfl (by rfl) 8 rfl ?_
 let La121 : Array Slot := #[rv o, rv o, .unset, .unset, .unset]
 obtain ⟨v2, T2, L2, X2, q2, st2⟩ := own_callP X1 hx hZ hown (y := oM8) (oW hw 107 rfl) (oW hw 109 rfl) (own_nf22 hw) (oW hw 108 rfl) (oW hw 63 rfl) (oW hw 110 rfl) E0 (b := o) (argsL := []) (own_settle_2_2 l Z a0 hw [] o b pb kb kp tb hs sz mp x0 x1 h0 O0 E0 g0 gb bp F0 F1 F2 F3 F4 AT AP H (by omega) hz nx0 nx1) 0 (by decide) (by decide) (by decide) (by decide) (by decide) e1 (g := (mkF m 8 La121 [(.ref o)])) rfl (by rw [hml]; rfl) [] (lenOf oP123 rfl) rfl (by show 2 * 0 + _ ≤ _; exact Nat.le_of_eq rfl) (hb hby od16_8)
 obtain ⟨rfl, N2q, K2q, f2a, f2b, f2c, f2d, f2e, sz2, f2f, hz2⟩ := q2
 have N2 := Fr.app (Fr.nil _) N2q
 have f3 := (E0.keep K2q)
 have f10 := (AP.keep K2q (ninS (Ne.symm (Exa.neArv E0 AP (oW hw 62 rfl))) (ninS (Ne.symm bp) nin0)))
 have O2 := O0.keep K2q (allS g0 (allS gb all0))
 have K2 := (Keep.refl h0 [o, b]).trans K2q (allS (Or.inl (List.mem_of_getElem? (i := 0) rfl)) (allS (Or.inl (List.mem_of_getElem? (i := 1) rfl)) all0))
 refine own_st (T2.setTop (mkF m 11 La121 [])) st2 ?_
 refine oiconst X2 hx hby od16_11 (0 : Int32) rfl 12 rfl ?_
 let La122 : Array Slot := #[rv o, rv o, .val (.int 0), .unset, .unset]
 refine oistoreN X2 hx hby od16_12 rfl (L' := La122) rfl 13 rfl ?_
 refine oiconst X2 hx hby od16_13 (0 : Int32) rfl 14 rfl ?_
 let La123 : Array Slot := #[rv o, rv o, .val (.int 0), .val (.int 0), .unset]
 refine oistoreN X2 hx hby od16_14 rfl (L' := La123) rfl 15 rfl ?_
 have hH : OwnHold (own_ins (own_ins tb x0) x1) ((hs ++ [x0]) ++ [x1]) := (OwnHold.ins (OwnHold.ins H (by omega) nx0) (by simp only [List.length_append, List.length_cons, List.length_nil]; omega) nx1)
 have hR : OwnRep Z T2.heap o b pb ((hs ++ [x0]) ++ [x1]) := ⟨kb, kp, _, _, _, mp, f3, g0, gb, bp, f2a, f2f, f2b, f2d, f2e, (OwnHold.ins (OwnHold.ins H (by omega) nx0) (by simp only [List.length_append, List.length_cons, List.length_nil]; omega) nx1), OwnSz.mono hz2 (by first | omega | (simp only [List.length_append, List.length_cons, List.length_nil]; omega)), Or.inl ⟨f2c, rfl⟩⟩
 refine own_goM (fun v h' L q => ⟨q.1.trans (by rw [show ((0 : Int32).toNatClampNeg) = 0 from rfl, own_anyM hH na]), q.2.1, by rw [q.2.2]; exact K2, by rw [q.2.2]; exact hR⟩) (own_meetsS l Z a0 hw o b kb (own_ins (own_ins tb x0) x1) ((hs ++ [x0]) ++ [x1]) T2.heap O2 f3 f2a f2c f2e hH hlf 16 (0 : Int32) .unset p e s m below meth c _ _ hx hby hml hown hret hlk hZ rfl X2 N2 rfl (by decide) (Or.inl rfl))
theorem own_meetsSelf_2_1 (l : Launch) (Z : State) (a0 : Array Value) (hw : OWS a0 Z) (ws : List Jvm.Cond) (o b pb : Addr) (kb kp : ClassId) (tb hs : List Int32) (sz mp x0 x1 : Int32) (h0 : Heap) (O0 : Old Z Z.heap.size h0) (E0 : oE7 Z h0 o) (g0 : Z.heap.size ≤ o) (gb : Z.heap.size ≤ b) (bp : b ≠ pb) (F0 : oF2 Z h0 o (.ref b)) (F1 : oF3 Z h0 o (.int sz)) (F2 : oF4 Z h0 o (.ref pb)) (F3 : oF5 Z h0 o (.int 1)) (F4 : oF6 Z h0 o (.int mp)) (AT : Arv Z h0 b kb .int (16 : Int32) (tb.map Value.int) (.int 0)) (AP : Arv Z h0 pb kp .int (2 : Int32) [(.int x0), (.int x1)] (.int 0)) (H : OwnHold tb hs) (hl : hs.length < 6) (hz : OwnSz sz hs.length) (nx0 : x0 ≠ 0) (na : ∀ y ∈ (hs ++ [x0]), y ≠ 0) (hlf : (hs ++ [x0]).length < 6) :
  ownMet l oM10 prog_107_method_6_code 5 (some .boolean) ws (oR 5 0 0 100) Z #[(.ref o), (.ref o)] h0 (fun v h L => v = some (.int (if own_meet (hs ++ [x0]) (hs ++ [x0]) = true then (1 : Int32) else 0)) ∧ Fr Z.heap.size L ∧ Keep h0 h [o, b] ∧ OwnRep Z h o b pb (hs ++ [x0])) := by
 refine own_met (plainFor_of_name oP59) ?_
 intro p e s m below meth c s₁ hx hby hml hown hnm hret hlk hZ e0 X0
 refine own_cast (show _ = (mkF m 0 #[.val (.ref o), .val (.ref o), .unset, .unset, .unset] []) by first | (simp [entryFrame, mkF, argsToLocals, Value.category]; done) | rfl) ?_
 refine oaloadN X0 hx hby od16_0 rfl (by rfl) 1 rfl ?_
 refine ogetF X0 hx hZ hown (host := "") (Or.inl (oW hw 80 rfl)) Via.refl e0 F3 rfl hby od16_1 4 rfl fun T1 X1 e1 => ?_
 refine oifNo X1 hx hby od16_4 rfl ((if0 _ _).trans (tlt ((by decide) : (0 : Int32) < (1 : Int32))).2.2.2) 7 rfl ?_
 refine oaloadN X1 hx hby od16_7 rfl (by rfl) 8 rfl ?_
 let La124 : Array Slot := #[rv o, rv o, .unset, .unset, .unset]
 obtain ⟨v2, T2, L2, X2, q2, st2⟩ := own_callP X1 hx hZ hown (y := oM8) (oW hw 107 rfl) (oW hw 109 rfl) (own_nf22 hw) (oW hw 108 rfl) (oW hw 63 rfl) (oW hw 110 rfl) E0 (b := o) (argsL := []) (own_settle_2_1 l Z a0 hw [] o b pb kb kp tb hs sz mp x0 x1 h0 O0 E0 g0 gb bp F0 F1 F2 F3 F4 AT AP H (by omega) hz nx0) 0 (by decide) (by decide) (by decide) (by decide) (by decide) e1 (g := (mkF m 8 La124 [(.ref o)])) rfl (by rw [hml]; rfl) [] (lenOf oP123 rfl) rfl (by show 2 * 0 + _ ≤ _; exact Nat.le_of_eq rfl) (hb hby od16_8)
 obtain ⟨rfl, N2q, K2q, f2a, f2b, f2c, f2d, f2e, sz2, f2f, hz2⟩ := q2
 have N2 := Fr.app (Fr.nil _) N2q
 have f3 := (E0.keep K2q)
 have f10 := (AP.keep K2q (ninS (Ne.symm (Exa.neArv E0 AP (oW hw 62 rfl))) (ninS (Ne.symm bp) nin0)))
 have O2 := O0.keep K2q (allS g0 (allS gb all0))
 have K2 := (Keep.refl h0 [o, b]).trans K2q (allS (Or.inl (List.mem_of_getElem? (i := 0) rfl)) (allS (Or.inl (List.mem_of_getElem? (i := 1) rfl)) all0))
 refine own_st (T2.setTop (mkF m 11 La124 [])) st2 ?_
 refine oiconst X2 hx hby od16_11 (0 : Int32) rfl 12 rfl ?_
 let La125 : Array Slot := #[rv o, rv o, .val (.int 0), .unset, .unset]
 refine oistoreN X2 hx hby od16_12 rfl (L' := La125) rfl 13 rfl ?_
 refine oiconst X2 hx hby od16_13 (0 : Int32) rfl 14 rfl ?_
 let La126 : Array Slot := #[rv o, rv o, .val (.int 0), .val (.int 0), .unset]
 refine oistoreN X2 hx hby od16_14 rfl (L' := La126) rfl 15 rfl ?_
 have hH : OwnHold (own_ins tb x0) (hs ++ [x0]) := (OwnHold.ins H (by omega) nx0)
 have hR : OwnRep Z T2.heap o b pb (hs ++ [x0]) := ⟨kb, kp, _, _, _, mp, f3, g0, gb, bp, f2a, f2f, f2b, f2d, f2e, (OwnHold.ins H (by omega) nx0), OwnSz.mono hz2 (by first | omega | (simp only [List.length_append, List.length_cons, List.length_nil]; omega)), Or.inl ⟨f2c, rfl⟩⟩
 refine own_goM (fun v h' L q => ⟨q.1.trans (by rw [show ((0 : Int32).toNatClampNeg) = 0 from rfl, own_anyM hH na]), q.2.1, by rw [q.2.2]; exact K2, by rw [q.2.2]; exact hR⟩) (own_meetsS l Z a0 hw o b kb (own_ins tb x0) (hs ++ [x0]) T2.heap O2 f3 f2a f2c f2e hH hlf 16 (0 : Int32) .unset p e s m below meth c _ _ hx hby hml hown hret hlk hZ rfl X2 N2 rfl (by decide) (Or.inl rfl))
theorem own_meetsSelf_3_3 (l : Launch) (Z : State) (a0 : Array Value) (hw : OWS a0 Z) (ws : List Jvm.Cond) (o b pb : Addr) (kb kp : ClassId) (tb hs : List Int32) (sz mp x0 x1 x2 : Int32) (h0 : Heap) (O0 : Old Z Z.heap.size h0) (E0 : oE7 Z h0 o) (g0 : Z.heap.size ≤ o) (gb : Z.heap.size ≤ b) (bp : b ≠ pb) (F0 : oF2 Z h0 o (.ref b)) (F1 : oF3 Z h0 o (.int sz)) (F2 : oF4 Z h0 o (.ref pb)) (F3 : oF5 Z h0 o (.int 3)) (F4 : oF6 Z h0 o (.int mp)) (AT : Arv Z h0 b kb .int (16 : Int32) (tb.map Value.int) (.int 0)) (AP : Arv Z h0 pb kp .int (3 : Int32) [(.int x0), (.int x1), (.int x2)] (.int 0)) (H : OwnHold tb hs) (hl : hs.length < 6) (hz : OwnSz sz hs.length) (nx0 : x0 ≠ 0) (nx1 : x1 ≠ 0) (nx2 : x2 ≠ 0) (na : ∀ y ∈ (((hs ++ [x0]) ++ [x1]) ++ [x2]), y ≠ 0) (hlf : (((hs ++ [x0]) ++ [x1]) ++ [x2]).length < 6) :
  ownMet l oM10 prog_107_method_6_code 5 (some .boolean) ws (oR 5 0 0 100) Z #[(.ref o), (.ref o)] h0 (fun v h L => v = some (.int (if own_meet (((hs ++ [x0]) ++ [x1]) ++ [x2]) (((hs ++ [x0]) ++ [x1]) ++ [x2]) = true then (1 : Int32) else 0)) ∧ Fr Z.heap.size L ∧ Keep h0 h [o, b] ∧ OwnRep Z h o b pb (((hs ++ [x0]) ++ [x1]) ++ [x2])) := by
 refine own_met (plainFor_of_name oP59) ?_
 intro p e s m below meth c s₁ hx hby hml hown hnm hret hlk hZ e0 X0
 refine own_cast (show _ = (mkF m 0 #[.val (.ref o), .val (.ref o), .unset, .unset, .unset] []) by first | (simp [entryFrame, mkF, argsToLocals, Value.category]; done) | rfl) ?_
 refine oaloadN X0 hx hby od16_0 rfl (by rfl) 1 rfl ?_
 refine ogetF X0 hx hZ hown (host := "") (Or.inl (oW hw 80 rfl)) Via.refl e0 F3 rfl hby od16_1 4 rfl fun T1 X1 e1 => ?_
 refine oifNo X1 hx hby od16_4 rfl ((if0 _ _).trans (tlt ((by decide) : (0 : Int32) < (3 : Int32))).2.2.2) 7 rfl ?_
 refine oaloadN X1 hx hby od16_7 rfl (by rfl) 8 rfl ?_
 let La127 : Array Slot := #[rv o, rv o, .unset, .unset, .unset]
 obtain ⟨v2, T2, L2, X2, q2, st2⟩ := own_callP X1 hx hZ hown (y := oM8) (oW hw 107 rfl) (oW hw 109 rfl) (own_nf22 hw) (oW hw 108 rfl) (oW hw 63 rfl) (oW hw 110 rfl) E0 (b := o) (argsL := []) (own_settle_3_3 l Z a0 hw [] o b pb kb kp tb hs sz mp x0 x1 x2 h0 O0 E0 g0 gb bp F0 F1 F2 F3 F4 AT AP H (by omega) hz nx0 nx1 nx2) 0 (by decide) (by decide) (by decide) (by decide) (by decide) e1 (g := (mkF m 8 La127 [(.ref o)])) rfl (by rw [hml]; rfl) [] (lenOf oP123 rfl) rfl (by show 2 * 0 + _ ≤ _; exact Nat.le_of_eq rfl) (hb hby od16_8)
 obtain ⟨rfl, N2q, K2q, f2a, f2b, f2c, f2d, f2e, sz2, f2f, hz2⟩ := q2
 have N2 := Fr.app (Fr.nil _) N2q
 have f3 := (E0.keep K2q)
 have f10 := (AP.keep K2q (ninS (Ne.symm (Exa.neArv E0 AP (oW hw 62 rfl))) (ninS (Ne.symm bp) nin0)))
 have O2 := O0.keep K2q (allS g0 (allS gb all0))
 have K2 := (Keep.refl h0 [o, b]).trans K2q (allS (Or.inl (List.mem_of_getElem? (i := 0) rfl)) (allS (Or.inl (List.mem_of_getElem? (i := 1) rfl)) all0))
 refine own_st (T2.setTop (mkF m 11 La127 [])) st2 ?_
 refine oiconst X2 hx hby od16_11 (0 : Int32) rfl 12 rfl ?_
 let La128 : Array Slot := #[rv o, rv o, .val (.int 0), .unset, .unset]
 refine oistoreN X2 hx hby od16_12 rfl (L' := La128) rfl 13 rfl ?_
 refine oiconst X2 hx hby od16_13 (0 : Int32) rfl 14 rfl ?_
 let La129 : Array Slot := #[rv o, rv o, .val (.int 0), .val (.int 0), .unset]
 refine oistoreN X2 hx hby od16_14 rfl (L' := La129) rfl 15 rfl ?_
 have hH : OwnHold (own_ins (own_ins (own_ins tb x0) x1) x2) (((hs ++ [x0]) ++ [x1]) ++ [x2]) := (OwnHold.ins (OwnHold.ins (OwnHold.ins H (by omega) nx0) (by simp only [List.length_append, List.length_cons, List.length_nil]; omega) nx1) (by simp only [List.length_append, List.length_cons, List.length_nil]; omega) nx2)
 have hR : OwnRep Z T2.heap o b pb (((hs ++ [x0]) ++ [x1]) ++ [x2]) := ⟨kb, kp, _, _, _, mp, f3, g0, gb, bp, f2a, f2f, f2b, f2d, f2e, (OwnHold.ins (OwnHold.ins (OwnHold.ins H (by omega) nx0) (by simp only [List.length_append, List.length_cons, List.length_nil]; omega) nx1) (by simp only [List.length_append, List.length_cons, List.length_nil]; omega) nx2), OwnSz.mono hz2 (by first | omega | (simp only [List.length_append, List.length_cons, List.length_nil]; omega)), Or.inl ⟨f2c, rfl⟩⟩
 refine own_goM (fun v h' L q => ⟨q.1.trans (by rw [show ((0 : Int32).toNatClampNeg) = 0 from rfl, own_anyM hH na]), q.2.1, by rw [q.2.2]; exact K2, by rw [q.2.2]; exact hR⟩) (own_meetsS l Z a0 hw o b kb (own_ins (own_ins (own_ins tb x0) x1) x2) (((hs ++ [x0]) ++ [x1]) ++ [x2]) T2.heap O2 f3 f2a f2c f2e hH hlf 16 (0 : Int32) .unset p e s m below meth c _ _ hx hby hml hown hret hlk hZ rfl X2 N2 rfl (by decide) (Or.inl rfl))
theorem own_meetsSelf_4_3 (l : Launch) (Z : State) (a0 : Array Value) (hw : OWS a0 Z) (ws : List Jvm.Cond) (o b pb : Addr) (kb kp : ClassId) (tb hs : List Int32) (sz mp x0 x1 x2 x3 : Int32) (h0 : Heap) (O0 : Old Z Z.heap.size h0) (E0 : oE7 Z h0 o) (g0 : Z.heap.size ≤ o) (gb : Z.heap.size ≤ b) (bp : b ≠ pb) (F0 : oF2 Z h0 o (.ref b)) (F1 : oF3 Z h0 o (.int sz)) (F2 : oF4 Z h0 o (.ref pb)) (F3 : oF5 Z h0 o (.int 3)) (F4 : oF6 Z h0 o (.int mp)) (AT : Arv Z h0 b kb .int (16 : Int32) (tb.map Value.int) (.int 0)) (AP : Arv Z h0 pb kp .int (4 : Int32) [(.int x0), (.int x1), (.int x2), (.int x3)] (.int 0)) (H : OwnHold tb hs) (hl : hs.length < 6) (hz : OwnSz sz hs.length) (nx0 : x0 ≠ 0) (nx1 : x1 ≠ 0) (nx2 : x2 ≠ 0) (na : ∀ y ∈ (((hs ++ [x0]) ++ [x1]) ++ [x2]), y ≠ 0) (hlf : (((hs ++ [x0]) ++ [x1]) ++ [x2]).length < 6) :
  ownMet l oM10 prog_107_method_6_code 5 (some .boolean) ws (oR 5 0 0 100) Z #[(.ref o), (.ref o)] h0 (fun v h L => v = some (.int (if own_meet (((hs ++ [x0]) ++ [x1]) ++ [x2]) (((hs ++ [x0]) ++ [x1]) ++ [x2]) = true then (1 : Int32) else 0)) ∧ Fr Z.heap.size L ∧ Keep h0 h [o, b] ∧ OwnRep Z h o b pb (((hs ++ [x0]) ++ [x1]) ++ [x2])) := by
 refine own_met (plainFor_of_name oP59) ?_
 intro p e s m below meth c s₁ hx hby hml hown hnm hret hlk hZ e0 X0
 refine own_cast (show _ = (mkF m 0 #[.val (.ref o), .val (.ref o), .unset, .unset, .unset] []) by first | (simp [entryFrame, mkF, argsToLocals, Value.category]; done) | rfl) ?_
 refine oaloadN X0 hx hby od16_0 rfl (by rfl) 1 rfl ?_
 refine ogetF X0 hx hZ hown (host := "") (Or.inl (oW hw 80 rfl)) Via.refl e0 F3 rfl hby od16_1 4 rfl fun T1 X1 e1 => ?_
 refine oifNo X1 hx hby od16_4 rfl ((if0 _ _).trans (tlt ((by decide) : (0 : Int32) < (3 : Int32))).2.2.2) 7 rfl ?_
 refine oaloadN X1 hx hby od16_7 rfl (by rfl) 8 rfl ?_
 let La130 : Array Slot := #[rv o, rv o, .unset, .unset, .unset]
 obtain ⟨v2, T2, L2, X2, q2, st2⟩ := own_callP X1 hx hZ hown (y := oM8) (oW hw 107 rfl) (oW hw 109 rfl) (own_nf22 hw) (oW hw 108 rfl) (oW hw 63 rfl) (oW hw 110 rfl) E0 (b := o) (argsL := []) (own_settle_4_3 l Z a0 hw [] o b pb kb kp tb hs sz mp x0 x1 x2 x3 h0 O0 E0 g0 gb bp F0 F1 F2 F3 F4 AT AP H (by omega) hz nx0 nx1 nx2) 0 (by decide) (by decide) (by decide) (by decide) (by decide) e1 (g := (mkF m 8 La130 [(.ref o)])) rfl (by rw [hml]; rfl) [] (lenOf oP123 rfl) rfl (by show 2 * 0 + _ ≤ _; exact Nat.le_of_eq rfl) (hb hby od16_8)
 obtain ⟨rfl, N2q, K2q, f2a, f2b, f2c, f2d, f2e, sz2, f2f, hz2⟩ := q2
 have N2 := Fr.app (Fr.nil _) N2q
 have f3 := (E0.keep K2q)
 have f10 := (AP.keep K2q (ninS (Ne.symm (Exa.neArv E0 AP (oW hw 62 rfl))) (ninS (Ne.symm bp) nin0)))
 have O2 := O0.keep K2q (allS g0 (allS gb all0))
 have K2 := (Keep.refl h0 [o, b]).trans K2q (allS (Or.inl (List.mem_of_getElem? (i := 0) rfl)) (allS (Or.inl (List.mem_of_getElem? (i := 1) rfl)) all0))
 refine own_st (T2.setTop (mkF m 11 La130 [])) st2 ?_
 refine oiconst X2 hx hby od16_11 (0 : Int32) rfl 12 rfl ?_
 let La131 : Array Slot := #[rv o, rv o, .val (.int 0), .unset, .unset]
 refine oistoreN X2 hx hby od16_12 rfl (L' := La131) rfl 13 rfl ?_
 refine oiconst X2 hx hby od16_13 (0 : Int32) rfl 14 rfl ?_
 let La132 : Array Slot := #[rv o, rv o, .val (.int 0), .val (.int 0), .unset]
 refine oistoreN X2 hx hby od16_14 rfl (L' := La132) rfl 15 rfl ?_
 have hH : OwnHold (own_ins (own_ins (own_ins tb x0) x1) x2) (((hs ++ [x0]) ++ [x1]) ++ [x2]) := (OwnHold.ins (OwnHold.ins (OwnHold.ins H (by omega) nx0) (by simp only [List.length_append, List.length_cons, List.length_nil]; omega) nx1) (by simp only [List.length_append, List.length_cons, List.length_nil]; omega) nx2)
 have hR : OwnRep Z T2.heap o b pb (((hs ++ [x0]) ++ [x1]) ++ [x2]) := ⟨kb, kp, _, _, _, mp, f3, g0, gb, bp, f2a, f2f, f2b, f2d, f2e, (OwnHold.ins (OwnHold.ins (OwnHold.ins H (by omega) nx0) (by simp only [List.length_append, List.length_cons, List.length_nil]; omega) nx1) (by simp only [List.length_append, List.length_cons, List.length_nil]; omega) nx2), OwnSz.mono hz2 (by first | omega | (simp only [List.length_append, List.length_cons, List.length_nil]; omega)), Or.inl ⟨f2c, rfl⟩⟩
 refine own_goM (fun v h' L q => ⟨q.1.trans (by rw [show ((0 : Int32).toNatClampNeg) = 0 from rfl, own_anyM hH na]), q.2.1, by rw [q.2.2]; exact K2, by rw [q.2.2]; exact hR⟩) (own_meetsS l Z a0 hw o b kb (own_ins (own_ins (own_ins tb x0) x1) x2) (((hs ++ [x0]) ++ [x1]) ++ [x2]) T2.heap O2 f3 f2a f2c f2e hH hlf 16 (0 : Int32) .unset p e s m below meth c _ _ hx hby hml hown hret hlk hZ rfl X2 N2 rfl (by decide) (Or.inl rfl))
theorem own_meetsSR (l : Launch) (Z : State) (a0 : Array Value) (hw : OWS a0 Z) (ws : List Jvm.Cond) (o b pb : Addr) (hs : List Int32) (h0 : Heap) (O0 : Old Z Z.heap.size h0) (R : OwnRep Z h0 o b pb hs) (hl : hs.length < 6) (na : ∀ y ∈ hs, y ≠ 0) :
  ownMet l oM10 prog_107_method_6_code 5 (some .boolean) ws (oR 5 0 0 100) Z #[(.ref o), (.ref o)] h0 (fun v h L => v = some (.int (if own_meet hs hs = true then (1 : Int32) else 0)) ∧ Fr Z.heap.size L ∧ Keep h0 h [o, b] ∧ OwnRep Z h o b pb hs) := by
 obtain ⟨kb, kp, tb, hs0, sz, mp, E0, g0, gb, bp, F0, F1, F2, F4, AT, H, hz, P⟩ := R
 rcases P with ⟨F3, rfl⟩ | ⟨x0, F3, AP, nx0, rfl⟩ | ⟨x0, x1, F3, AP, nx0, nx1, rfl⟩ | ⟨x0, x1, F3, AP, nx0, rfl⟩ | ⟨x0, x1, x2, F3, AP, nx0, nx1, nx2, rfl⟩ | ⟨x0, x1, x2, x3, F3, AP, nx0, nx1, nx2, rfl⟩
 · exact own_meetsSelf_0_0 l Z a0 hw ws o b pb kb kp tb hs sz mp  h0 O0 E0 g0 gb bp F0 F1 F2 F3 F4 AT trivial H hl hz  na hl
 · exact own_meetsSelf_1_1 l Z a0 hw ws o b pb kb kp tb hs0 sz mp x0 h0 O0 E0 g0 gb bp F0 F1 F2 F3 F4 AT AP H (by simp only [List.length_append, List.length_cons, List.length_nil] at hl ⊢; omega) hz nx0 na hl
 · exact own_meetsSelf_2_2 l Z a0 hw ws o b pb kb kp tb hs0 sz mp x0 x1 h0 O0 E0 g0 gb bp F0 F1 F2 F3 F4 AT AP H (by simp only [List.length_append, List.length_cons, List.length_nil] at hl ⊢; omega) hz nx0 nx1 na hl
 · exact own_meetsSelf_2_1 l Z a0 hw ws o b pb kb kp tb hs0 sz mp x0 x1 h0 O0 E0 g0 gb bp F0 F1 F2 F3 F4 AT AP H (by simp only [List.length_append, List.length_cons, List.length_nil] at hl ⊢; omega) hz nx0 na hl
 · exact own_meetsSelf_3_3 l Z a0 hw ws o b pb kb kp tb hs0 sz mp x0 x1 x2 h0 O0 E0 g0 gb bp F0 F1 F2 F3 F4 AT AP H (by simp only [List.length_append, List.length_cons, List.length_nil] at hl ⊢; omega) hz nx0 nx1 nx2 na hl
 · exact own_meetsSelf_4_3 l Z a0 hw ws o b pb kb kp tb hs0 sz mp x0 x1 x2 x3 h0 O0 E0 g0 gb bp F0 F1 F2 F3 F4 AT AP H (by simp only [List.length_append, List.length_cons, List.length_nil] at hl ⊢; omega) hz nx0 nx1 nx2 na hl
theorem od18_0 : decode prog_107_method_8_code 0 = .ok (.aload_n 0, 1) := by decide +kernel
theorem od19_0 : decode jdk_42_method_78_code 0 = .ok (.aload_n 0, 1) := by decide +kernel
theorem od19_1 : decode jdk_42_method_78_code 1 = .ok (.getfield 19, 3) := by decide +kernel
theorem od19_4 : decode jdk_42_method_78_code 4 = .ok (.istore_n 1, 1) := by decide +kernel
theorem od19_5 : decode jdk_42_method_78_code 5 = .ok (.iload_n 1, 1) := by decide +kernel
theorem od19_6 : decode jdk_42_method_78_code 6 = .ok (.ifCond .ne 52, 3) := by decide +kernel
theorem od19_9 : decode jdk_42_method_78_code 9 = .ok (.aload_n 0, 1) := by decide +kernel
theorem od19_10 : decode jdk_42_method_78_code 10 = .ok (.getfield 23, 3) := by decide +kernel
theorem od19_13 : decode jdk_42_method_78_code 13 = .ok (.ifCond .ne 45, 3) := by decide +kernel
theorem od19_16 : decode jdk_42_method_78_code 16 = .ok (.aload_n 0, 1) := by decide +kernel
theorem od20_0 : decode jdk_42_method_154_code 0 = .ok (.getstatic 38, 3) := by decide +kernel
theorem od20_3 : decode jdk_42_method_154_code 3 = .ok (.ifCond .eq 14, 3) := by decide +kernel
theorem od20_6 : decode jdk_42_method_154_code 6 = .ok (.aload_n 0, 1) := by decide +kernel
theorem od20_7 : decode jdk_42_method_154_code 7 = .ok (.getfield 15, 3) := by decide +kernel
theorem od20_10 : decode jdk_42_method_154_code 10 = .ok (.ifCond .ne 7, 3) := by decide +kernel
theorem od20_13 : decode jdk_42_method_154_code 13 = .ok (.iconst 1, 1) := by decide +kernel
theorem od20_14 : decode jdk_42_method_154_code 14 = .ok (.goto 4, 3) := by decide +kernel
theorem od20_18 : decode jdk_42_method_154_code 18 = .ok (.ireturn, 1) := by decide +kernel
theorem oP179 : plainName "java/lang/String" = true := by first | (simp [plainName, overriddenIn]; done) | decide +kernel
theorem own_au3_isLatin1 (l : Launch) (Z : State) (a0 : Array Value) (hw : OWS a0 Z) (ws : List Jvm.Cond) (ad0 ad1 : Addr) (iv0 : Int32) (kc0 : ClassId) (h0 : Heap) (O0 : Old Z Z.heap.size h0) (PS0 : Sta Z Z.heap "java/lang/String" "COMPACT_STRINGS" "Z" (.int iv0)) (P0 : oE15 Z h0 ad0) (P1 : oF11 Z h0 ad0 (.ref ad1)) (P2 : oF12 Z h0 ad0 (.int 0)) (P3 : oF13 Z h0 ad0 (.int 0)) (P4 : oF14 Z h0 ad0 (.int 0)) (P5 : Arv Z h0 ad1 kc0 .byte (0 : Int32) [] (.int 0)) (G_ad0 : Z.heap.size ≤ ad0) (PC0 : ¬ (iv0 = (0 : Int32))) :
  ownMet l oM16 jdk_42_method_154_code 1 (some .boolean) ws (oR 0 0 0 0) Z #[(.ref ad0)] h0 (fun v h L => v = some (.int 1) ∧ Fr Z.heap.size L ∧ h = h0) := by
 refine own_met (plainFor_of_name oP179) ?_
 intro p e s m below meth c s₁ hx hby hml hown hnm hret hlk hZ e0 X0
 refine own_cast (show _ = (mkF m 0 #[.val (.ref ad0)] []) by first | (simp [entryFrame, mkF, argsToLocals, Value.category]; done) | rfl) ?_
 obtain ⟨T1, X1, e1, st1⟩ := getS2 X0 hx hZ hown (host := "") (Or.inl (oW hw 25 rfl)) Via.refl e0 (PS0.ext O0.2) (g := (mkF m 0 #[.val (.ref ad0)] [])) rfl (hb hby od20_0)
 refine own_st (T1.setTop (mkF m 3 #[.val (.ref ad0)] [(.int iv0)])) st1 ?_
 refine oifNo X1 hx hby od20_3 rfl ((if0 _ _).trans (feq (PC0 : ¬ (iv0 = (0 : Int32)))).1) 6 rfl ?_
 refine oaloadN X1 hx hby od20_6 rfl (by rfl) 7 rfl ?_
 refine ogetF X1 hx hZ hown (host := "") (Or.inl (oW hw 37 rfl)) Via.refl e1 P2 rfl hby od20_7 10 rfl fun T2 X2 e2 => ?_
 refine oifNo X2 hx hby od20_10 rfl ((if0 _ _).trans (teq ((by decide) : (0 : Int32) = (0 : Int32))).2) 13 rfl ?_
 refine oiconst X2 hx hby od20_13 (1 : Int32) rfl 14 rfl ?_
 refine ogoto X2 hx hby od20_14 18 (by decide) (by decide) ?_
 exact own_ret X2 hlk (v := some (.int 1)) (fun h => by rw [hret] at h; cases h) e2 (⟨rfl, (Fr.nil _), rfl⟩) (by decide) (by decide) (fun fs hr => own_retN X2 hx (t := .boolean) hret (by simp) (hb hby od20_18) rfl hr)
theorem oP180 : parseMethodDescriptor "()Z" = some ⟨[], some .boolean⟩ := by decide +kernel
theorem od19_17 : decode jdk_42_method_78_code 17 = .ok (.invokevirtual 492, 3) := by decide +kernel
theorem od19_20 : decode jdk_42_method_78_code 20 = .ok (.ifCond .eq 13, 3) := by decide +kernel
theorem od19_23 : decode jdk_42_method_78_code 23 = .ok (.aload_n 0, 1) := by decide +kernel
theorem od19_24 : decode jdk_42_method_78_code 24 = .ok (.getfield 9, 3) := by decide +kernel
theorem od21_0 : decode jdk_43_method_21_code 0 = .ok (.aload_n 0, 1) := by decide +kernel
theorem od21_1 : decode jdk_43_method_21_code 1 = .ok (.arraylength, 1) := by decide +kernel
theorem od21_2 : decode jdk_43_method_21_code 2 = .ok (.lookupswitch 40 #[(0, 26), (1, 30)], 26) := by decide +kernel
theorem od21_28 : decode jdk_43_method_21_code 28 = .ok (.iconst 0, 1) := by decide +kernel
theorem od21_29 : decode jdk_43_method_21_code 29 = .ok (.goto 22, 3) := by decide +kernel
theorem od21_51 : decode jdk_43_method_21_code 51 = .ok (.ireturn, 1) := by decide +kernel
theorem oP191 : plainName "java/lang/StringLatin1" = true := by first | (simp [plainName, overriddenIn]; done) | decide +kernel
theorem own_au4_hashCode (l : Launch) (Z : State) (a0 : Array Value) (hw : OWS a0 Z) (ws : List Jvm.Cond) (ad0 : Addr) (kc0 : ClassId) (h0 : Heap) (O0 : Old Z Z.heap.size h0) (P0 : Arv Z h0 ad0 kc0 .byte (0 : Int32) [] (.int 0)) :
  ownMet l oM17 jdk_43_method_21_code 1 (some .int) ws (oR 0 0 0 0) Z #[(.ref ad0)] h0 (fun v h L => v = some (.int 0) ∧ Fr Z.heap.size L ∧ h = h0) := by
 refine own_met (plainFor_of_name oP191) ?_
 intro p e s m below meth c s₁ hx hby hml hown hnm hret hlk hZ e0 X0
 refine own_cast (show _ = (mkF m 0 #[.val (.ref ad0)] []) by first | (simp [entryFrame, mkF, argsToLocals, Value.category]; done) | rfl) ?_
 refine oaloadN X0 hx hby od21_0 rfl (by rfl) 1 rfl ?_
 obtain ⟨cl1, q1a, q1b, q1c, q1d, q1e, q1f⟩ := id P0
 refine own_st (s₁.setTop (mkF m 2 #[.val (.ref ad0)] [(.int 0)])) (fun tq kq => X0.arraylength hx (by rw [e0]; exact q1a.1) (State.isArrayOf_alike hZ.alike q1a.2.1) (g := (mkF m 1 #[.val (.ref ad0)] [(.ref ad0)])) rfl rfl (hb hby od21_1) tq (by rw [len_of q1c q1d]; exact kq)) ?_
 refine own_st (s₁.setTop (mkF m 28 #[.val (.ref ad0)] [])) (fun tq kq => X0.lookupswitchHit hx (g := (mkF m 2 #[.val (.ref ad0)] [(.int 0)])) rfl (k := (0 : Int32)) rfl (hb hby od21_2) (by decide) (a := 0) (off := 26) (by decide) (by show (0 : Int) ≤ ((2 : Nat) : Int) + 26; decide) tq kq) ?_
 refine oiconst X0 hx hby od21_28 (0 : Int32) rfl 29 rfl ?_
 refine ogoto X0 hx hby od21_29 51 (by decide) (by decide) ?_
 exact own_ret X0 hlk (v := some (.int 0)) (fun h => by rw [hret] at h; cases h) e0 (⟨rfl, (Fr.nil _), rfl⟩) (by decide) (by decide) (fun fs hr => retI X0 hx hret (hb hby od21_51) hr)
theorem oP192 : parseMethodDescriptor "([B)I" = some ⟨[(.array .byte)], some .int⟩ := by decide +kernel
theorem od19_27 : decode jdk_42_method_78_code 27 = .ok (.invokestatic 628, 3) := by decide +kernel
theorem od19_30 : decode jdk_42_method_78_code 30 = .ok (.goto 10, 3) := by decide +kernel
theorem od19_40 : decode jdk_42_method_78_code 40 = .ok (.istore_n 1, 1) := by decide +kernel
theorem od19_41 : decode jdk_42_method_78_code 41 = .ok (.iload_n 1, 1) := by decide +kernel
theorem od19_42 : decode jdk_42_method_78_code 42 = .ok (.ifCond .ne 11, 3) := by decide +kernel
theorem od19_45 : decode jdk_42_method_78_code 45 = .ok (.aload_n 0, 1) := by decide +kernel
theorem od19_46 : decode jdk_42_method_78_code 46 = .ok (.iconst 1, 1) := by decide +kernel
theorem od19_47 : decode jdk_42_method_78_code 47 = .ok (.putfield 23, 3) := by decide +kernel
theorem od19_50 : decode jdk_42_method_78_code 50 = .ok (.goto 8, 3) := by decide +kernel
theorem od19_58 : decode jdk_42_method_78_code 58 = .ok (.iload_n 1, 1) := by decide +kernel
theorem od19_59 : decode jdk_42_method_78_code 59 = .ok (.ireturn, 1) := by decide +kernel
theorem own_au2_hashCode (l : Launch) (Z : State) (a0 : Array Value) (hw : OWS a0 Z) (ws : List Jvm.Cond) (ad0 ad1 : Addr) (iv0 : Int32) (kc0 : ClassId) (h0 : Heap) (O0 : Old Z Z.heap.size h0) (PS0 : Sta Z Z.heap "java/lang/String" "COMPACT_STRINGS" "Z" (.int iv0)) (P0 : oE15 Z h0 ad0) (P1 : oF11 Z h0 ad0 (.ref ad1)) (P2 : oF12 Z h0 ad0 (.int 0)) (P3 : oF13 Z h0 ad0 (.int 0)) (P4 : oF14 Z h0 ad0 (.int 0)) (P5 : Arv Z h0 ad1 kc0 .byte (0 : Int32) [] (.int 0)) (G_ad0 : Z.heap.size ≤ ad0) (PC0 : ¬ (iv0 = (0 : Int32))) :
  ownMet l oM18 jdk_42_method_78_code 2 (some .int) ws (oR 1 0 0 12) Z #[(.ref ad0)] h0 (fun v h L => v = some (.int 0) ∧ Fr Z.heap.size L ∧ Keep h0 h [ad0] ∧ oF11 Z h ad0 (.ref ad1) ∧ oF12 Z h ad0 (.int 0) ∧ oF13 Z h ad0 (.int 0) ∧ oF14 Z h ad0 (.int 1)) := by
 refine own_met (plainFor_of_name oP179) ?_
 intro p e s m below meth c s₁ hx hby hml hown hnm hret hlk hZ e0 X0
 refine own_cast (show _ = (mkF m 0 #[.val (.ref ad0), .unset] []) by first | (simp [entryFrame, mkF, argsToLocals, Value.category]; done) | rfl) ?_
 refine oaloadN X0 hx hby od19_0 rfl (by rfl) 1 rfl ?_
 refine ogetF X0 hx hZ hown (host := "") (Or.inl (oW hw 95 rfl)) Via.refl e0 P3 rfl hby od19_1 4 rfl fun T1 X1 e1 => ?_
 refine oistoreN X1 hx hby od19_4 rfl (L' := #[.val (.ref ad0), .val (.int 0)]) rfl 5 rfl ?_
 refine oiloadN X1 hx hby od19_5 rfl 6 rfl ?_
 refine oifNo X1 hx hby od19_6 rfl ((if0 _ _).trans (teq ((by decide) : (0 : Int32) = (0 : Int32))).2) 9 rfl ?_
 refine oaloadN X1 hx hby od19_9 rfl (by rfl) 10 rfl ?_
 refine ogetF X1 hx hZ hown (host := "") (Or.inl (oW hw 97 rfl)) Via.refl e1 P4 rfl hby od19_10 13 rfl fun T2 X2 e2 => ?_
 refine oifNo X2 hx hby od19_13 rfl ((if0 _ _).trans (teq ((by decide) : (0 : Int32) = (0 : Int32))).2) 16 rfl ?_
 refine oaloadN X2 hx hby od19_16 rfl (by rfl) 17 rfl ?_
 obtain ⟨v3, T3, L3, X3, q3, st3⟩ := own_callV X2 hx hZ hown (y := oM16) (z := oM16) (oW hw 99 rfl) (oW hw 100 rfl) (notFace_of_selects (args := a0) (oW hw 102 rfl)) (oW hw 102 rfl) (oW hw 101 rfl) (oW hw 13 rfl) (oW hw 103 rfl) P0 (b := ad0) (argsL := []) (own_au3_isLatin1 l Z a0 hw [] ad0 ad1 iv0 kc0 h0 O0 PS0 P0 P1 P2 P3 P4 P5 G_ad0 (PC0 : ¬ (iv0 = (0 : Int32)))) 0 (by decide) (by decide) (by decide) (by decide) (by decide) e2 (g := (mkF m 17 #[.val (.ref ad0), .val (.int 0)] [(.ref ad0)])) rfl (by rw [hml]; rfl) [] (lenOf oP180 rfl) rfl (by show 2 * 0 + _ ≤ _; exact Nat.le_of_eq rfl) (hb hby od19_17)
 obtain ⟨rfl, N3q, e3⟩ := q3
 have N3 := Fr.app (Fr.nil _) N3q
 refine own_st (T3.setTop (mkF m 20 #[.val (.ref ad0), .val (.int 0)] [(.int 1)])) st3 ?_
 refine oifNo X3 hx hby od19_20 rfl ((if0 _ _).trans (feq ((by decide) : ¬ ((1 : Int32) = (0 : Int32)))).1) 23 rfl ?_
 refine oaloadN X3 hx hby od19_23 rfl (by rfl) 24 rfl ?_
 refine ogetF X3 hx hZ hown (host := "") (Or.inl (oW hw 39 rfl)) Via.refl e3 P1 rfl hby od19_24 27 rfl fun T4 X4 e4 => ?_
 obtain ⟨v5, T5, L5, X5, q5, st5⟩ := own_callS X4 hx hZ hown (oW hw 104 rfl) (oW hw 105 rfl) (oW hw 49 rfl) (oW hw 106 rfl) (argsL := [(.ref ad1)]) (own_au4_hashCode l Z a0 hw [] ad1 kc0 h0 O0 P5) 0 (by decide) (by decide) (by decide) (by decide) (by decide) e4 (g := (mkF m 27 #[.val (.ref ad0), .val (.int 0)] [(.ref ad1)])) rfl (by rw [hml]; rfl) [] (lenOf oP192 rfl) rfl (by show 2 * 0 + _ ≤ _; exact Nat.le_of_eq rfl) (hb hby od19_27)
 obtain ⟨rfl, N5q, e5⟩ := q5
 have N5 := Fr.app N3 N5q
 refine own_st (T5.setTop (mkF m 30 #[.val (.ref ad0), .val (.int 0)] [(.int 0)])) st5 ?_
 refine ogoto X5 hx hby od19_30 40 (by decide) (by decide) ?_
 refine oistoreN X5 hx hby od19_40 rfl (L' := #[.val (.ref ad0), .val (.int 0)]) rfl 41 rfl ?_
 refine oiloadN X5 hx hby od19_41 rfl 42 rfl ?_
 refine oifNo X5 hx hby od19_42 rfl ((if0 _ _).trans (teq ((by decide) : (0 : Int32) = (0 : Int32))).2) 45 rfl ?_
 refine oaloadN X5 hx hby od19_45 rfl (by rfl) 46 rfl ?_
 refine oiconst X5 hx hby od19_46 (1 : Int32) rfl 47 rfl ?_
 obtain ⟨T6, h6, X6, e6, W6, st6⟩ := putF X5 hx hZ hown (host := "") (Or.inl (oW hw 97 rfl)) Via.refl e5 P4 P0 (Or.inl (oW hw 98 rfl)) (oW hw 12 rfl) (ty := .boolean) (by decide) (by rfl) (by rfl) (g := (mkF m 47 #[.val (.ref ad0), .val (.int 0)] [(.int 1), (.ref ad0)])) rfl rfl (hb hby od19_47)
 have N6 := Fr.snoc X6 N5 G_ad0
 have O6 := O0.wr W6 G_ad0
 have K6 := (Keep.refl h0 [ad0]).wr W6 (Or.inl (List.mem_of_getElem? (i := 0) rfl))
 have f7 := (P0.wr W6)
 have f8 := (P1.other W6 (Or.inr (slot_ne (Or.inr (oW hw 40 rfl)) (Or.inl (oW hw 98 rfl)) (by decide) (t := (.array .byte)) (t' := .boolean) (by decide) (by decide))))
 have f9 := (P2.other W6 (Or.inr (slot_ne (Or.inr (oW hw 38 rfl)) (Or.inl (oW hw 98 rfl)) (by decide) (t := .byte) (t' := .boolean) (by decide) (by decide))))
 have f10 := (P3.other W6 (Or.inr (slot_ne (Or.inl (oW hw 96 rfl)) (Or.inl (oW hw 98 rfl)) (by decide) (t := .int) (t' := .boolean) (by decide) (by decide))))
 have f12 := (P5.other W6 (Ne.symm (Exa.neArv P0 P5 (oW hw 12 rfl))))
 have f13 := (P4.same W6)
 refine own_st (T6.setTop (mkF m 50 #[.val (.ref ad0), .val (.int 0)] [])) st6 ?_
 refine ogoto X6 hx hby od19_50 58 (by decide) (by decide) ?_
 refine oiloadN X6 hx hby od19_58 rfl 59 rfl ?_
 exact own_ret X6 hlk (v := some (.int 0)) (fun h => by rw [hret] at h; cases h) e6 (⟨rfl, N6, K6, f8, f9, f10, f13⟩) (by decide) (by decide) (fun fs hr => retI X6 hx hret (hb hby od19_59) hr)
theorem oP204 : parseMethodDescriptor "()I" = some ⟨[], some .int⟩ := by decide +kernel
theorem od18_1 : decode prog_107_method_8_code 1 = .ok (.invokevirtual 69, 3) := by decide +kernel
theorem od18_4 : decode prog_107_method_8_code 4 = .ok (.istore_n 1, 1) := by decide +kernel
theorem od18_5 : decode prog_107_method_8_code 5 = .ok (.iload_n 1, 1) := by decide +kernel
theorem od18_6 : decode prog_107_method_8_code 6 = .ok (.ifCond .ne 7, 3) := by decide +kernel
theorem od18_9 : decode prog_107_method_8_code 9 = .ok (.iconst 1, 1) := by decide +kernel
theorem od18_10 : decode prog_107_method_8_code 10 = .ok (.goto 4, 3) := by decide +kernel
theorem od18_14 : decode prog_107_method_8_code 14 = .ok (.ireturn, 1) := by decide +kernel
theorem own_held_0 (l : Launch) (Z : State) (a0 : Array Value) (hw : OWS a0 Z) (ws : List Jvm.Cond) (cz : Int32) (sx t : Addr) (kt : ClassId)  (h0 : Heap) (O0 : Old Z Z.heap.size h0) (SC : Sta Z Z.heap "java/lang/String" "COMPACT_STRINGS" "Z" (.int cz)) (hcz : ¬ (cz = (0 : Int32))) (Es : oE15 Z h0 sx) (gs : Z.heap.size ≤ sx) (Vs : oF11 Z h0 sx (.ref t)) (Cs : oF12 Z h0 sx (.int 0)) (Hs : oF13 Z h0 sx (.int 0)) (Is : oF14 Z h0 sx (.int 0)) (As : Arv Z h0 t kt .byte (0 : Int32) [] (.int 0)) (st_ : t ≠ sx) (Xt : True) :
  ownMet l oM19 prog_107_method_8_code 2 (some .int) ws (oR 4 0 0 90) Z #[(.ref sx)] h0 (fun v h L => v = some (.int (own_hd (0 : Int32))) ∧ Fr Z.heap.size L ∧ Keep h0 h [sx]) := by
 refine own_met (plainFor_of_name oP59) ?_
 intro p e s m below meth c s₁ hx hby hml hown hnm hret hlk hZ e0 X0
 refine own_cast (show _ = (mkF m 0 #[.val (.ref sx), .unset] []) by first | (simp [entryFrame, mkF, argsToLocals, Value.category]; done) | rfl) ?_
 refine oaloadN X0 hx hby od18_0 rfl (by rfl) 1 rfl ?_
 obtain ⟨v1, T1, L1, X1, q1, st1⟩ := own_callV X0 hx hZ hown (y := oM18) (z := oM18) (oW hw 90 rfl) (oW hw 91 rfl) (notFace_of_selects (args := a0) (oW hw 93 rfl)) (oW hw 93 rfl) (oW hw 92 rfl) (oW hw 13 rfl) (oW hw 94 rfl) Es (b := sx) (argsL := []) (own_au2_hashCode l Z a0 hw [] sx t cz kt h0 O0 SC Es Vs Cs Hs Is As gs (hcz : ¬ (cz = (0 : Int32)))) 0 (by decide) (by decide) (by decide) (by decide) (by decide) e0 (g := (mkF m 1 #[.val (.ref sx), .unset] [(.ref sx)])) rfl (by rw [hml]; rfl) [] (lenOf oP204 rfl) rfl (by show 2 * 0 + _ ≤ _; exact Nat.le_of_eq rfl) (hb hby od18_1)
 obtain ⟨rfl, N1q, K1q, f1_0, f1_1, f1_2, f1_3⟩ := q1
 have N1 := Fr.app (Fr.nil _) N1q
 have f2 := (Es.keep K1q)
 have f7 := (As.keep K1q (ninS st_ nin0))
 have O1 := O0.keep K1q (allS gs all0)
 have K1 := (Keep.refl h0 [sx]).trans K1q (allS (Or.inl (List.mem_of_getElem? (i := 0) rfl)) all0)
 refine own_st (T1.setTop (mkF m 4 #[.val (.ref sx), .unset] [(.int 0)])) st1 ?_
 refine oistoreN X1 hx hby od18_4 rfl (L' := #[.val (.ref sx), .val (.int 0)]) rfl 5 rfl ?_
 refine oiloadN X1 hx hby od18_5 rfl 6 rfl ?_
 refine oifNo X1 hx hby od18_6 rfl ((if0 _ _).trans (teq ((by decide) : (0 : Int32) = (0 : Int32))).2) 9 rfl ?_
 refine oiconst X1 hx hby od18_9 (1 : Int32) rfl 10 rfl ?_
 refine ogoto X1 hx hby od18_10 14 (by decide) (by decide) ?_
 exact own_ret X1 hlk (v := some (.int 1)) (fun h => by rw [hret] at h; cases h) rfl (⟨own_hdT rfl, N1, K1⟩) (by decide) (by decide) (fun fs hr => retI X1 hx hret (hb hby od18_14) hr)
theorem own_au6_isLatin1 (l : Launch) (Z : State) (a0 : Array Value) (hw : OWS a0 Z) (ws : List Jvm.Cond) (ad0 ad1 : Addr) (iv0 : Int32) (iv1 : Int32) (kc0 : ClassId) (h0 : Heap) (O0 : Old Z Z.heap.size h0) (PS0 : Sta Z Z.heap "java/lang/String" "COMPACT_STRINGS" "Z" (.int iv0)) (P0 : oE15 Z h0 ad0) (P1 : oF11 Z h0 ad0 (.ref ad1)) (P2 : oF12 Z h0 ad0 (.int 0)) (P3 : oF13 Z h0 ad0 (.int 0)) (P4 : oF14 Z h0 ad0 (.int 0)) (P5 : Arv Z h0 ad1 kc0 .byte (1 : Int32) [(.int iv1)] (.int 0)) (G_ad0 : Z.heap.size ≤ ad0) (PC0 : ¬ (iv0 = (0 : Int32))) :
  ownMet l oM16 jdk_42_method_154_code 1 (some .boolean) ws (oR 0 0 0 0) Z #[(.ref ad0)] h0 (fun v h L => v = some (.int 1) ∧ Fr Z.heap.size L ∧ h = h0) := by
 refine own_met (plainFor_of_name oP179) ?_
 intro p e s m below meth c s₁ hx hby hml hown hnm hret hlk hZ e0 X0
 refine own_cast (show _ = (mkF m 0 #[.val (.ref ad0)] []) by first | (simp [entryFrame, mkF, argsToLocals, Value.category]; done) | rfl) ?_
 obtain ⟨T1, X1, e1, st1⟩ := getS2 X0 hx hZ hown (host := "") (Or.inl (oW hw 25 rfl)) Via.refl e0 (PS0.ext O0.2) (g := (mkF m 0 #[.val (.ref ad0)] [])) rfl (hb hby od20_0)
 refine own_st (T1.setTop (mkF m 3 #[.val (.ref ad0)] [(.int iv0)])) st1 ?_
 refine oifNo X1 hx hby od20_3 rfl ((if0 _ _).trans (feq (PC0 : ¬ (iv0 = (0 : Int32)))).1) 6 rfl ?_
 refine oaloadN X1 hx hby od20_6 rfl (by rfl) 7 rfl ?_
 refine ogetF X1 hx hZ hown (host := "") (Or.inl (oW hw 37 rfl)) Via.refl e1 P2 rfl hby od20_7 10 rfl fun T2 X2 e2 => ?_
 refine oifNo X2 hx hby od20_10 rfl ((if0 _ _).trans (teq ((by decide) : (0 : Int32) = (0 : Int32))).2) 13 rfl ?_
 refine oiconst X2 hx hby od20_13 (1 : Int32) rfl 14 rfl ?_
 refine ogoto X2 hx hby od20_14 18 (by decide) (by decide) ?_
 exact own_ret X2 hlk (v := some (.int 1)) (fun h => by rw [hret] at h; cases h) e2 (⟨rfl, (Fr.nil _), rfl⟩) (by decide) (by decide) (fun fs hr => own_retN X2 hx (t := .boolean) hret (by simp) (hb hby od20_18) rfl hr)
theorem od21_32 : decode jdk_43_method_21_code 32 = .ok (.aload_n 0, 1) := by decide +kernel
theorem od21_33 : decode jdk_43_method_21_code 33 = .ok (.iconst 0, 1) := by decide +kernel
theorem od21_34 : decode jdk_43_method_21_code 34 = .ok (.baload, 1) := by decide +kernel
theorem od21_35 : decode jdk_43_method_21_code 35 = .ok (.sipush 255, 3) := by decide +kernel
theorem od21_38 : decode jdk_43_method_21_code 38 = .ok (.iand, 1) := by decide +kernel
theorem od21_39 : decode jdk_43_method_21_code 39 = .ok (.goto 12, 3) := by decide +kernel
theorem own_au7_hashCode (l : Launch) (Z : State) (a0 : Array Value) (hw : OWS a0 Z) (ws : List Jvm.Cond) (ad0 : Addr) (iv0 : Int32) (kc0 : ClassId) (h0 : Heap) (O0 : Old Z Z.heap.size h0) (P0 : Arv Z h0 ad0 kc0 .byte (1 : Int32) [(.int iv0)] (.int 0)) :
  ownMet l oM17 jdk_43_method_21_code 1 (some .int) ws (oR 0 0 0 0) Z #[(.ref ad0)] h0 (fun v h L => v = some (.int (iv0 &&& (255 : Int32))) ∧ Fr Z.heap.size L ∧ h = h0) := by
 refine own_met (plainFor_of_name oP191) ?_
 intro p e s m below meth c s₁ hx hby hml hown hnm hret hlk hZ e0 X0
 refine own_cast (show _ = (mkF m 0 #[.val (.ref ad0)] []) by first | (simp [entryFrame, mkF, argsToLocals, Value.category]; done) | rfl) ?_
 refine oaloadN X0 hx hby od21_0 rfl (by rfl) 1 rfl ?_
 obtain ⟨cl1, q1a, q1b, q1c, q1d, q1e, q1f⟩ := id P0
 refine own_st (s₁.setTop (mkF m 2 #[.val (.ref ad0)] [(.int 1)])) (fun tq kq => X0.arraylength hx (by rw [e0]; exact q1a.1) (State.isArrayOf_alike hZ.alike q1a.2.1) (g := (mkF m 1 #[.val (.ref ad0)] [(.ref ad0)])) rfl rfl (hb hby od21_1) tq (by rw [len_of q1c q1d]; exact kq)) ?_
 refine own_st (s₁.setTop (mkF m 32 #[.val (.ref ad0)] [])) (fun tq kq => X0.lookupswitchHit hx (g := (mkF m 2 #[.val (.ref ad0)] [(.int 1)])) rfl (k := (1 : Int32)) rfl (hb hby od21_2) (by decide) (a := 1) (off := 30) (by decide) (by show (0 : Int) ≤ ((2 : Nat) : Int) + 30; decide) tq kq) ?_
 refine oaloadN X0 hx hby od21_32 rfl (by rfl) 33 rfl ?_
 refine oiconst X0 hx hby od21_33 (0 : Int32) rfl 34 rfl ?_
 obtain ⟨cl2, q2a, q2b, q2c, q2d, q2e, q2f⟩ := id P0
 refine own_st (s₁.setTop (mkF m 35 #[.val (.ref ad0)] [(.int iv0)])) (fun tq kq => X0.baloadBytes hx (j := (0 : Int32)) (v := (.int iv0)) (by rw [e0]; exact q2a.1) (State.isArrayOf_alike hZ.alike q2a.2.1) q2a.2.2 (inb_of q2c ⟨by decide, by decide⟩) (q2e.at (inb_of q2c ⟨by decide, by decide⟩) rfl) (g := (mkF m 34 #[.val (.ref ad0)] [(.int 0), (.ref ad0)])) rfl rfl (hb hby od21_34) tq kq) ?_
 refine osipush X0 hx hby od21_35 (255 : Int32) rfl 38 rfl ?_
 refine oiand X0 hx hby od21_38 rfl _ rfl 39 rfl ?_
 refine ogoto X0 hx hby od21_39 51 (by decide) (by decide) ?_
 exact own_ret X0 hlk (v := some (.int (iv0 &&& (255 : Int32)))) (fun h => by rw [hret] at h; cases h) e0 (⟨rfl, (Fr.nil _), rfl⟩) (by decide) (by decide) (fun fs hr => retI X0 hx hret (hb hby od21_51) hr)
theorem od19_53 : decode jdk_42_method_78_code 53 = .ok (.aload_n 0, 1) := by decide +kernel
theorem od19_54 : decode jdk_42_method_78_code 54 = .ok (.iload_n 1, 1) := by decide +kernel
theorem od19_55 : decode jdk_42_method_78_code 55 = .ok (.putfield 19, 3) := by decide +kernel
theorem own_au5_hashCode (l : Launch) (Z : State) (a0 : Array Value) (hw : OWS a0 Z) (ws : List Jvm.Cond) (ad0 ad1 : Addr) (iv0 : Int32) (iv1 : Int32) (kc0 : ClassId) (h0 : Heap) (O0 : Old Z Z.heap.size h0) (PS0 : Sta Z Z.heap "java/lang/String" "COMPACT_STRINGS" "Z" (.int iv0)) (P0 : oE15 Z h0 ad0) (P1 : oF11 Z h0 ad0 (.ref ad1)) (P2 : oF12 Z h0 ad0 (.int 0)) (P3 : oF13 Z h0 ad0 (.int 0)) (P4 : oF14 Z h0 ad0 (.int 0)) (P5 : Arv Z h0 ad1 kc0 .byte (1 : Int32) [(.int iv1)] (.int 0)) (G_ad0 : Z.heap.size ≤ ad0) (PC0 : ¬ (iv0 = (0 : Int32))) :
  ownMet l oM18 jdk_42_method_78_code 2 (some .int) ws (oR 1 0 0 12) Z #[(.ref ad0)] h0 (fun v h L => v = some (.int (iv1 &&& (255 : Int32))) ∧ Fr Z.heap.size L ∧ Keep h0 h [ad0] ∧ oF11 Z h ad0 (.ref ad1) ∧ oF12 Z h ad0 (.int 0)) := by
 refine own_met (plainFor_of_name oP179) ?_
 intro p e s m below meth c s₁ hx hby hml hown hnm hret hlk hZ e0 X0
 refine own_cast (show _ = (mkF m 0 #[.val (.ref ad0), .unset] []) by first | (simp [entryFrame, mkF, argsToLocals, Value.category]; done) | rfl) ?_
 refine oaloadN X0 hx hby od19_0 rfl (by rfl) 1 rfl ?_
 refine ogetF X0 hx hZ hown (host := "") (Or.inl (oW hw 95 rfl)) Via.refl e0 P3 rfl hby od19_1 4 rfl fun T1 X1 e1 => ?_
 refine oistoreN X1 hx hby od19_4 rfl (L' := #[.val (.ref ad0), .val (.int 0)]) rfl 5 rfl ?_
 refine oiloadN X1 hx hby od19_5 rfl 6 rfl ?_
 refine oifNo X1 hx hby od19_6 rfl ((if0 _ _).trans (teq ((by decide) : (0 : Int32) = (0 : Int32))).2) 9 rfl ?_
 refine oaloadN X1 hx hby od19_9 rfl (by rfl) 10 rfl ?_
 refine ogetF X1 hx hZ hown (host := "") (Or.inl (oW hw 97 rfl)) Via.refl e1 P4 rfl hby od19_10 13 rfl fun T2 X2 e2 => ?_
 refine oifNo X2 hx hby od19_13 rfl ((if0 _ _).trans (teq ((by decide) : (0 : Int32) = (0 : Int32))).2) 16 rfl ?_
 refine oaloadN X2 hx hby od19_16 rfl (by rfl) 17 rfl ?_
 obtain ⟨v3, T3, L3, X3, q3, st3⟩ := own_callV X2 hx hZ hown (y := oM16) (z := oM16) (oW hw 99 rfl) (oW hw 100 rfl) (notFace_of_selects (args := a0) (oW hw 102 rfl)) (oW hw 102 rfl) (oW hw 101 rfl) (oW hw 13 rfl) (oW hw 103 rfl) P0 (b := ad0) (argsL := []) (own_au6_isLatin1 l Z a0 hw [] ad0 ad1 iv0 iv1 kc0 h0 O0 PS0 P0 P1 P2 P3 P4 P5 G_ad0 (PC0 : ¬ (iv0 = (0 : Int32)))) 0 (by decide) (by decide) (by decide) (by decide) (by decide) e2 (g := (mkF m 17 #[.val (.ref ad0), .val (.int 0)] [(.ref ad0)])) rfl (by rw [hml]; rfl) [] (lenOf oP180 rfl) rfl (by show 2 * 0 + _ ≤ _; exact Nat.le_of_eq rfl) (hb hby od19_17)
 obtain ⟨rfl, N3q, e3⟩ := q3
 have N3 := Fr.app (Fr.nil _) N3q
 refine own_st (T3.setTop (mkF m 20 #[.val (.ref ad0), .val (.int 0)] [(.int 1)])) st3 ?_
 refine oifNo X3 hx hby od19_20 rfl ((if0 _ _).trans (feq ((by decide) : ¬ ((1 : Int32) = (0 : Int32)))).1) 23 rfl ?_
 refine oaloadN X3 hx hby od19_23 rfl (by rfl) 24 rfl ?_
 refine ogetF X3 hx hZ hown (host := "") (Or.inl (oW hw 39 rfl)) Via.refl e3 P1 rfl hby od19_24 27 rfl fun T4 X4 e4 => ?_
 obtain ⟨v5, T5, L5, X5, q5, st5⟩ := own_callS X4 hx hZ hown (oW hw 104 rfl) (oW hw 105 rfl) (oW hw 49 rfl) (oW hw 106 rfl) (argsL := [(.ref ad1)]) (own_au7_hashCode l Z a0 hw [] ad1 iv1 kc0 h0 O0 P5) 0 (by decide) (by decide) (by decide) (by decide) (by decide) e4 (g := (mkF m 27 #[.val (.ref ad0), .val (.int 0)] [(.ref ad1)])) rfl (by rw [hml]; rfl) [] (lenOf oP192 rfl) rfl (by show 2 * 0 + _ ≤ _; exact Nat.le_of_eq rfl) (hb hby od19_27)
 obtain ⟨rfl, N5q, e5⟩ := q5
 have N5 := Fr.app N3 N5q
 refine own_st (T5.setTop (mkF m 30 #[.val (.ref ad0), .val (.int 0)] [(.int (iv1 &&& (255 : Int32)))])) st5 ?_
 refine ogoto X5 hx hby od19_30 40 (by decide) (by decide) ?_
 let La133 : Array Slot := #[rv ad0, .val (.int (iv1 &&& (255 : Int32)))]
 refine oistoreN X5 hx hby od19_40 rfl (L' := La133) rfl 41 rfl ?_
 refine oiloadN X5 hx hby od19_41 rfl 42 rfl ?_
 by_cases c42_6 : (iv1 &&& (255 : Int32)) = (0 : Int32)
 ·
  refine oifNo X5 hx hby od19_42 rfl ((if0 _ _).trans (teq c42_6).2) 45 rfl ?_
  refine oaloadN X5 hx hby od19_45 rfl (by rfl) 46 rfl ?_
  refine oiconst X5 hx hby od19_46 (1 : Int32) rfl 47 rfl ?_
  obtain ⟨T7, h7, X7, e7, W7, st7⟩ := putF X5 hx hZ hown (host := "") (Or.inl (oW hw 97 rfl)) Via.refl e5 P4 P0 (Or.inl (oW hw 98 rfl)) (oW hw 12 rfl) (ty := .boolean) (by decide) (by rfl) (by rfl) (g := (mkF m 47 La133 [(.int 1), (.ref ad0)])) rfl rfl (hb hby od19_47)
  have N7 := Fr.snoc X7 N5 G_ad0
  have O7 := O0.wr W7 G_ad0
  have K7 := (Keep.refl h0 [ad0]).wr W7 (Or.inl (List.mem_of_getElem? (i := 0) rfl))
  have f8 := (P0.wr W7)
  have f9 := (P1.other W7 (Or.inr (slot_ne (Or.inr (oW hw 40 rfl)) (Or.inl (oW hw 98 rfl)) (by decide) (t := (.array .byte)) (t' := .boolean) (by decide) (by decide))))
  have f10 := (P2.other W7 (Or.inr (slot_ne (Or.inr (oW hw 38 rfl)) (Or.inl (oW hw 98 rfl)) (by decide) (t := .byte) (t' := .boolean) (by decide) (by decide))))
  have f11 := (P3.other W7 (Or.inr (slot_ne (Or.inl (oW hw 96 rfl)) (Or.inl (oW hw 98 rfl)) (by decide) (t := .int) (t' := .boolean) (by decide) (by decide))))
  have f13 := (P5.other W7 (Ne.symm (Exa.neArv P0 P5 (oW hw 12 rfl))))
  have f14 := (P4.same W7)
  refine own_st (T7.setTop (mkF m 50 La133 [])) st7 ?_
  refine ogoto X7 hx hby od19_50 58 (by decide) (by decide) ?_
  refine oiloadN X7 hx hby od19_58 rfl 59 rfl ?_
  exact own_ret X7 hlk (v := some (.int (iv1 &&& (255 : Int32)))) (fun h => by rw [hret] at h; cases h) e7 (⟨rfl, N7, K7, f9, f10⟩) (by decide) (by decide) (fun fs hr => retI X7 hx hret (hb hby od19_59) hr)
 ·
  refine oifYes X5 hx hby od19_42 rfl ((if0 _ _).trans (feq c42_6).2) 53 (by decide) (by decide) ?_
  refine oaloadN X5 hx hby od19_53 rfl (by rfl) 54 rfl ?_
  refine oiloadN X5 hx hby od19_54 rfl 55 rfl ?_
  obtain ⟨T15, h15, X15, e15, W15, st15⟩ := putF X5 hx hZ hown (host := "") (Or.inl (oW hw 95 rfl)) Via.refl e5 P3 P0 (Or.inl (oW hw 96 rfl)) (oW hw 12 rfl) (ty := .int) (by decide) (by rfl) (by rfl) (g := (mkF m 55 La133 [(.int (iv1 &&& (255 : Int32))), (.ref ad0)])) rfl rfl (hb hby od19_55)
  have N15 := Fr.snoc X15 N5 G_ad0
  have O15 := O0.wr W15 G_ad0
  have K15 := (Keep.refl h0 [ad0]).wr W15 (Or.inl (List.mem_of_getElem? (i := 0) rfl))
  have f16 := (P0.wr W15)
  have f17 := (P1.other W15 (Or.inr (slot_ne (Or.inr (oW hw 40 rfl)) (Or.inl (oW hw 96 rfl)) (by decide) (t := (.array .byte)) (t' := .int) (by decide) (by decide))))
  have f18 := (P2.other W15 (Or.inr (slot_ne (Or.inr (oW hw 38 rfl)) (Or.inl (oW hw 96 rfl)) (by decide) (t := .byte) (t' := .int) (by decide) (by decide))))
  have f20 := (P4.other W15 (Or.inr (slot_ne (Or.inl (oW hw 98 rfl)) (Or.inl (oW hw 96 rfl)) (by decide) (t := .boolean) (t' := .int) (by decide) (by decide))))
  have f21 := (P5.other W15 (Ne.symm (Exa.neArv P0 P5 (oW hw 12 rfl))))
  have f22 := (P3.same W15)
  refine own_st (T15.setTop (mkF m 58 La133 [])) st15 ?_
  refine oiloadN X15 hx hby od19_58 rfl 59 rfl ?_
  exact own_ret X15 hlk (v := some (.int (iv1 &&& (255 : Int32)))) (fun h => by rw [hret] at h; cases h) e15 (⟨rfl, N15, K15, f17, f18⟩) (by decide) (by decide) (fun fs hr => retI X15 hx hret (hb hby od19_59) hr)
theorem od18_13 : decode prog_107_method_8_code 13 = .ok (.iload_n 1, 1) := by decide +kernel
theorem own_held_1 (l : Launch) (Z : State) (a0 : Array Value) (hw : OWS a0 Z) (ws : List Jvm.Cond) (cz : Int32) (sx t : Addr) (kt : ClassId) (z0 : Int32) (h0 : Heap) (O0 : Old Z Z.heap.size h0) (SC : Sta Z Z.heap "java/lang/String" "COMPACT_STRINGS" "Z" (.int cz)) (hcz : ¬ (cz = (0 : Int32))) (Es : oE15 Z h0 sx) (gs : Z.heap.size ≤ sx) (Vs : oF11 Z h0 sx (.ref t)) (Cs : oF12 Z h0 sx (.int 0)) (Hs : oF13 Z h0 sx (.int 0)) (Is : oF14 Z h0 sx (.int 0)) (As : Arv Z h0 t kt .byte (1 : Int32) [(.int z0)] (.int 0)) (st_ : t ≠ sx) (Xt : True) :
  ownMet l oM19 prog_107_method_8_code 2 (some .int) ws (oR 4 0 0 90) Z #[(.ref sx)] h0 (fun v h L => v = some (.int (own_hd (z0 &&& (255 : Int32)))) ∧ Fr Z.heap.size L ∧ Keep h0 h [sx]) := by
 refine own_met (plainFor_of_name oP59) ?_
 intro p e s m below meth c s₁ hx hby hml hown hnm hret hlk hZ e0 X0
 refine own_cast (show _ = (mkF m 0 #[.val (.ref sx), .unset] []) by first | (simp [entryFrame, mkF, argsToLocals, Value.category]; done) | rfl) ?_
 refine oaloadN X0 hx hby od18_0 rfl (by rfl) 1 rfl ?_
 obtain ⟨v1, T1, L1, X1, q1, st1⟩ := own_callV X0 hx hZ hown (y := oM18) (z := oM18) (oW hw 90 rfl) (oW hw 91 rfl) (notFace_of_selects (args := a0) (oW hw 93 rfl)) (oW hw 93 rfl) (oW hw 92 rfl) (oW hw 13 rfl) (oW hw 94 rfl) Es (b := sx) (argsL := []) (own_au5_hashCode l Z a0 hw [] sx t cz z0 kt h0 O0 SC Es Vs Cs Hs Is As gs (hcz : ¬ (cz = (0 : Int32)))) 0 (by decide) (by decide) (by decide) (by decide) (by decide) e0 (g := (mkF m 1 #[.val (.ref sx), .unset] [(.ref sx)])) rfl (by rw [hml]; rfl) [] (lenOf oP204 rfl) rfl (by show 2 * 0 + _ ≤ _; exact Nat.le_of_eq rfl) (hb hby od18_1)
 obtain ⟨rfl, N1q, K1q, f1_0, f1_1⟩ := q1
 have N1 := Fr.app (Fr.nil _) N1q
 have f2 := (Es.keep K1q)
 have f7 := (As.keep K1q (ninS st_ nin0))
 have O1 := O0.keep K1q (allS gs all0)
 have K1 := (Keep.refl h0 [sx]).trans K1q (allS (Or.inl (List.mem_of_getElem? (i := 0) rfl)) all0)
 refine own_st (T1.setTop (mkF m 4 #[.val (.ref sx), .unset] [(.int (z0 &&& (255 : Int32)))])) st1 ?_
 let La134 : Array Slot := #[rv sx, .val (.int (z0 &&& (255 : Int32)))]
 refine oistoreN X1 hx hby od18_4 rfl (L' := La134) rfl 5 rfl ?_
 refine oiloadN X1 hx hby od18_5 rfl 6 rfl ?_
 by_cases c6_8 : (z0 &&& (255 : Int32)) = (0 : Int32)
 ·
  refine oifNo X1 hx hby od18_6 rfl ((if0 _ _).trans (teq c6_8).2) 9 rfl ?_
  refine oiconst X1 hx hby od18_9 (1 : Int32) rfl 10 rfl ?_
  refine ogoto X1 hx hby od18_10 14 (by decide) (by decide) ?_
  exact own_ret X1 hlk (v := some (.int 1)) (fun h => by rw [hret] at h; cases h) rfl (⟨own_hdT c6_8, N1, K1⟩) (by decide) (by decide) (fun fs hr => retI X1 hx hret (hb hby od18_14) hr)
 ·
  refine oifYes X1 hx hby od18_6 rfl ((if0 _ _).trans (feq c6_8).2) 13 (by decide) (by decide) ?_
  refine oiloadN X1 hx hby od18_13 rfl 14 rfl ?_
  exact own_ret X1 hlk (v := some (.int (z0 &&& (255 : Int32)))) (fun h => by rw [hret] at h; cases h) rfl (⟨own_hdF c6_8, N1, K1⟩) (by decide) (by decide) (fun fs hr => retI X1 hx hret (hb hby od18_14) hr)
theorem own_au9_isLatin1 (l : Launch) (Z : State) (a0 : Array Value) (hw : OWS a0 Z) (ws : List Jvm.Cond) (ad0 ad1 : Addr) (iv0 : Int32) (iv1 : Int32) (iv2 : Int32) (kc0 : ClassId) (h0 : Heap) (O0 : Old Z Z.heap.size h0) (PS0 : Sta Z Z.heap "java/lang/String" "COMPACT_STRINGS" "Z" (.int iv0)) (P0 : oE15 Z h0 ad0) (P1 : oF11 Z h0 ad0 (.ref ad1)) (P2 : oF12 Z h0 ad0 (.int 0)) (P3 : oF13 Z h0 ad0 (.int 0)) (P4 : oF14 Z h0 ad0 (.int 0)) (P5 : Arv Z h0 ad1 kc0 .byte (2 : Int32) [(.int iv1), (.int iv2)] (.int 0)) (P6 : oE20 Z h0 ad1) (G_ad0 : Z.heap.size ≤ ad0) (PC0 : ¬ (iv0 = (0 : Int32))) :
  ownMet l oM16 jdk_42_method_154_code 1 (some .boolean) ws (oR 0 0 0 0) Z #[(.ref ad0)] h0 (fun v h L => v = some (.int 1) ∧ Fr Z.heap.size L ∧ h = h0) := by
 refine own_met (plainFor_of_name oP179) ?_
 intro p e s m below meth c s₁ hx hby hml hown hnm hret hlk hZ e0 X0
 refine own_cast (show _ = (mkF m 0 #[.val (.ref ad0)] []) by first | (simp [entryFrame, mkF, argsToLocals, Value.category]; done) | rfl) ?_
 obtain ⟨T1, X1, e1, st1⟩ := getS2 X0 hx hZ hown (host := "") (Or.inl (oW hw 25 rfl)) Via.refl e0 (PS0.ext O0.2) (g := (mkF m 0 #[.val (.ref ad0)] [])) rfl (hb hby od20_0)
 refine own_st (T1.setTop (mkF m 3 #[.val (.ref ad0)] [(.int iv0)])) st1 ?_
 refine oifNo X1 hx hby od20_3 rfl ((if0 _ _).trans (feq (PC0 : ¬ (iv0 = (0 : Int32)))).1) 6 rfl ?_
 refine oaloadN X1 hx hby od20_6 rfl (by rfl) 7 rfl ?_
 refine ogetF X1 hx hZ hown (host := "") (Or.inl (oW hw 37 rfl)) Via.refl e1 P2 rfl hby od20_7 10 rfl fun T2 X2 e2 => ?_
 refine oifNo X2 hx hby od20_10 rfl ((if0 _ _).trans (teq ((by decide) : (0 : Int32) = (0 : Int32))).2) 13 rfl ?_
 refine oiconst X2 hx hby od20_13 (1 : Int32) rfl 14 rfl ?_
 refine ogoto X2 hx hby od20_14 18 (by decide) (by decide) ?_
 exact own_ret X2 hlk (v := some (.int 1)) (fun h => by rw [hret] at h; cases h) e2 (⟨rfl, (Fr.nil _), rfl⟩) (by decide) (by decide) (fun fs hr => own_retN X2 hx (t := .boolean) hret (by simp) (hb hby od20_18) rfl hr)
theorem od21_42 : decode jdk_43_method_21_code 42 = .ok (.aload_n 0, 1) := by decide +kernel
theorem od21_43 : decode jdk_43_method_21_code 43 = .ok (.iconst 0, 1) := by decide +kernel
theorem od21_44 : decode jdk_43_method_21_code 44 = .ok (.aload_n 0, 1) := by decide +kernel
theorem od21_45 : decode jdk_43_method_21_code 45 = .ok (.arraylength, 1) := by decide +kernel
theorem od21_46 : decode jdk_43_method_21_code 46 = .ok (.iconst 0, 1) := by decide +kernel
theorem od21_47 : decode jdk_43_method_21_code 47 = .ok (.iconst 4, 1) := by decide +kernel
theorem od26_0 : decode jdk_48_method_4_code 0 = .ok (.iload 4, 2) := by decide +kernel
theorem od26_2 : decode jdk_48_method_4_code 2 = .ok (.tableswitch 127 4 10 #[42, 55, 127, 127, 88, 101, 114], 42) := by decide +kernel
theorem od26_44 : decode jdk_48_method_4_code 44 = .ok (.iload_n 3, 1) := by decide +kernel
theorem od26_45 : decode jdk_48_method_4_code 45 = .ok (.aload_n 0, 1) := by decide +kernel
theorem od26_46 : decode jdk_48_method_4_code 46 = .ok (.checkcast 60, 3) := by decide +kernel
theorem od26_49 : decode jdk_48_method_4_code 49 = .ok (.iload_n 1, 1) := by decide +kernel
theorem od26_50 : decode jdk_48_method_4_code 50 = .ok (.iload_n 2, 1) := by decide +kernel
theorem od27_0 : decode jdk_48_method_5_code 0 = .ok (.iload_n 2, 1) := by decide +kernel
theorem od27_1 : decode jdk_48_method_5_code 1 = .ok (.iload_n 3, 1) := by decide +kernel
theorem od27_2 : decode jdk_48_method_5_code 2 = .ok (.iadd, 1) := by decide +kernel
theorem od27_3 : decode jdk_48_method_5_code 3 = .ok (.istore 4, 2) := by decide +kernel
theorem od27_5 : decode jdk_48_method_5_code 5 = .ok (.iload_n 2, 1) := by decide +kernel
theorem od27_6 : decode jdk_48_method_5_code 6 = .ok (.istore 5, 2) := by decide +kernel
theorem od27_8 : decode jdk_48_method_5_code 8 = .ok (.iload 5, 2) := by decide +kernel
theorem od27_10 : decode jdk_48_method_5_code 10 = .ok (.iload 4, 2) := by decide +kernel
theorem od27_12 : decode jdk_48_method_5_code 12 = .ok (.if_icmp .ge 23, 3) := by decide +kernel
theorem od27_15 : decode jdk_48_method_5_code 15 = .ok (.bipush 31, 2) := by decide +kernel
theorem od27_17 : decode jdk_48_method_5_code 17 = .ok (.iload_n 0, 1) := by decide +kernel
theorem od27_18 : decode jdk_48_method_5_code 18 = .ok (.imul, 1) := by decide +kernel
theorem od27_19 : decode jdk_48_method_5_code 19 = .ok (.aload_n 1, 1) := by decide +kernel
theorem od27_20 : decode jdk_48_method_5_code 20 = .ok (.iload 5, 2) := by decide +kernel
theorem od27_22 : decode jdk_48_method_5_code 22 = .ok (.baload, 1) := by decide +kernel
theorem od27_23 : decode jdk_48_method_5_code 23 = .ok (.sipush 255, 3) := by decide +kernel
theorem od27_26 : decode jdk_48_method_5_code 26 = .ok (.iand, 1) := by decide +kernel
theorem od27_27 : decode jdk_48_method_5_code 27 = .ok (.iadd, 1) := by decide +kernel
theorem od27_28 : decode jdk_48_method_5_code 28 = .ok (.istore_n 0, 1) := by decide +kernel
theorem od27_29 : decode jdk_48_method_5_code 29 = .ok (.iinc 5 1, 3) := by decide +kernel
theorem od27_32 : decode jdk_48_method_5_code 32 = .ok (.goto (-24), 3) := by decide +kernel
theorem od27_35 : decode jdk_48_method_5_code 35 = .ok (.iload_n 0, 1) := by decide +kernel
theorem od27_36 : decode jdk_48_method_5_code 36 = .ok (.ireturn, 1) := by decide +kernel
theorem oP258 : plainName "jdk/internal/util/ArraysSupport" = true := by first | (simp [plainName, overriddenIn]; done) | decide +kernel
theorem own_au12_signedHashCode (l : Launch) (Z : State) (a0 : Array Value) (hw : OWS a0 Z) (ws : List Jvm.Cond) (ad0 : Addr) (iv0 : Int32) (iv1 : Int32) (kc0 : ClassId) (h0 : Heap) (O0 : Old Z Z.heap.size h0) (P0 : Arv Z h0 ad0 kc0 .byte (2 : Int32) [(.int iv0), (.int iv1)] (.int 0)) (P1 : oE20 Z h0 ad0) :
  ownMet l oM21 jdk_48_method_5_code 6 (some .int) ws (oR 0 0 0 0) Z #[(.int 0), (.ref ad0), (.int 0), (.int 2)] h0 (fun v h L => v = some (.int (((31 : Int32) * ((0 : Int32) + (iv0 &&& (255 : Int32)))) + (iv1 &&& (255 : Int32)))) ∧ Fr Z.heap.size L ∧ h = h0) := by
 refine own_met (plainFor_of_name oP258) ?_
 intro p e s m below meth c s₁ hx hby hml hown hnm hret hlk hZ e0 X0
 refine own_cast (show _ = (mkF m 0 #[.val (.int 0), .val (.ref ad0), .val (.int 0), .val (.int 2), .unset, .unset] []) by first | (simp [entryFrame, mkF, argsToLocals, Value.category]; done) | rfl) ?_
 refine oiloadN X0 hx hby od27_0 rfl 1 rfl ?_
 refine oiloadN X0 hx hby od27_1 rfl 2 rfl ?_
 refine oiadd X0 hx hby od27_2 rfl (2 : Int32) rfl 3 rfl ?_
 let La135 : Array Slot := #[.val (.int 0), rv ad0, .val (.int 0), .val (.int 2), .val (.int 2), .unset]
 refine oistore X0 hx hby od27_3 rfl (L' := La135) rfl 5 rfl ?_
 refine oiloadN X0 hx hby od27_5 rfl 6 rfl ?_
 let La136 : Array Slot := #[.val (.int 0), rv ad0, .val (.int 0), .val (.int 2), .val (.int 2), .val (.int 0)]
 refine oistore X0 hx hby od27_6 rfl (L' := La136) rfl 8 rfl ?_
 refine oiload X0 hx hby od27_8 rfl 10 rfl ?_
 refine oiload X0 hx hby od27_10 rfl 12 rfl ?_
 refine oicmpNo X0 hx hby od27_12 rfl (tlt ((by decide) : (0 : Int32) < (2 : Int32))).2.1 15 rfl ?_
 refine obipush X0 hx hby od27_15 (31 : Int32) rfl 17 rfl ?_
 refine oiloadN X0 hx hby od27_17 rfl 18 rfl ?_
 refine oimul X0 hx hby od27_18 rfl (0 : Int32) rfl 19 rfl ?_
 refine oaloadN X0 hx hby od27_19 rfl (by rfl) 20 rfl ?_
 refine oiload X0 hx hby od27_20 rfl 22 rfl ?_
 obtain ⟨cl1, q1a, q1b, q1c, q1d, q1e, q1f⟩ := id P0
 refine own_st (s₁.setTop (mkF m 23 La136 [(.int iv0), (.int 0)])) (fun tq kq => X0.baloadBytes hx (j := (0 : Int32)) (v := (.int iv0)) (by rw [e0]; exact q1a.1) (State.isArrayOf_alike hZ.alike q1a.2.1) q1a.2.2 (inb_of q1c ⟨by decide, by decide⟩) (q1e.at (inb_of q1c ⟨by decide, by decide⟩) rfl) (g := (mkF m 22 La136 [(.int 0), (.ref ad0), (.int 0)])) rfl rfl (hb hby od27_22) tq kq) ?_
 refine osipush X0 hx hby od27_23 (255 : Int32) rfl 26 rfl ?_
 refine oiand X0 hx hby od27_26 rfl _ rfl 27 rfl ?_
 refine oiadd X0 hx hby od27_27 rfl _ rfl 28 rfl ?_
 let La137 : Array Slot := #[.val (.int ((0 : Int32) + (iv0 &&& (255 : Int32)))), rv ad0, .val (.int 0), .val (.int 2), .val (.int 2), .val (.int 0)]
 refine oistoreN X0 hx hby od27_28 rfl (L' := La137) rfl 29 rfl ?_
 let La138 : Array Slot := #[.val (.int ((0 : Int32) + (iv0 &&& (255 : Int32)))), rv ad0, .val (.int 0), .val (.int 2), .val (.int 2), .val (.int 1)]
 refine oiinc X0 hx hby od27_29 rfl (L' := La138) rfl 32 rfl ?_
 refine ogoto X0 hx hby od27_32 8 (by decide) (by decide) ?_
 refine oiload X0 hx hby od27_8 rfl 10 rfl ?_
 refine oiload X0 hx hby od27_10 rfl 12 rfl ?_
 refine oicmpNo X0 hx hby od27_12 rfl (tlt ((by decide) : (1 : Int32) < (2 : Int32))).2.1 15 rfl ?_
 refine obipush X0 hx hby od27_15 (31 : Int32) rfl 17 rfl ?_
 refine oiloadN X0 hx hby od27_17 rfl 18 rfl ?_
 refine oimul X0 hx hby od27_18 rfl _ rfl 19 rfl ?_
 refine oaloadN X0 hx hby od27_19 rfl (by rfl) 20 rfl ?_
 refine oiload X0 hx hby od27_20 rfl 22 rfl ?_
 obtain ⟨cl2, q2a, q2b, q2c, q2d, q2e, q2f⟩ := id P0
 refine own_st (s₁.setTop (mkF m 23 La138 [(.int iv1), (.int ((31 : Int32) * ((0 : Int32) + (iv0 &&& (255 : Int32)))))])) (fun tq kq => X0.baloadBytes hx (j := (1 : Int32)) (v := (.int iv1)) (by rw [e0]; exact q2a.1) (State.isArrayOf_alike hZ.alike q2a.2.1) q2a.2.2 (inb_of q2c ⟨by decide, by decide⟩) (q2e.at (inb_of q2c ⟨by decide, by decide⟩) rfl) (g := (mkF m 22 La138 [(.int 1), (.ref ad0), (.int ((31 : Int32) * ((0 : Int32) + (iv0 &&& (255 : Int32)))))])) rfl rfl (hb hby od27_22) tq kq) ?_
 refine osipush X0 hx hby od27_23 (255 : Int32) rfl 26 rfl ?_
 refine oiand X0 hx hby od27_26 rfl _ rfl 27 rfl ?_
 refine oiadd X0 hx hby od27_27 rfl _ rfl 28 rfl ?_
 let La139 : Array Slot := #[.val (.int (((31 : Int32) * ((0 : Int32) + (iv0 &&& (255 : Int32)))) + (iv1 &&& (255 : Int32)))), rv ad0, .val (.int 0), .val (.int 2), .val (.int 2), .val (.int 1)]
 refine oistoreN X0 hx hby od27_28 rfl (L' := La139) rfl 29 rfl ?_
 let La140 : Array Slot := #[.val (.int (((31 : Int32) * ((0 : Int32) + (iv0 &&& (255 : Int32)))) + (iv1 &&& (255 : Int32)))), rv ad0, .val (.int 0), .val (.int 2), .val (.int 2), .val (.int 2)]
 refine oiinc X0 hx hby od27_29 rfl (L' := La140) rfl 32 rfl ?_
 refine ogoto X0 hx hby od27_32 8 (by decide) (by decide) ?_
 refine oiload X0 hx hby od27_8 rfl 10 rfl ?_
 refine oiload X0 hx hby od27_10 rfl 12 rfl ?_
 refine oicmpYes X0 hx hby od27_12 rfl (flt ((by decide) : ¬ ((2 : Int32) < (2 : Int32)))).2.1 35 (by decide) (by decide) ?_
 refine oiloadN X0 hx hby od27_35 rfl 36 rfl ?_
 exact own_ret X0 hlk (v := some (.int (((31 : Int32) * ((0 : Int32) + (iv0 &&& (255 : Int32)))) + (iv1 &&& (255 : Int32))))) (fun h => by rw [hret] at h; cases h) e0 (⟨rfl, (Fr.nil _), rfl⟩) (by decide) (by decide) (fun fs hr => retI X0 hx hret (hb hby od27_36) hr)
theorem oP259 : parseMethodDescriptor "(I[BII)I" = some ⟨[.int, (.array .byte), .int, .int], some .int⟩ := by decide +kernel
theorem od26_51 : decode jdk_48_method_4_code 51 = .ok (.invokestatic 62, 3) := by decide +kernel
theorem od26_54 : decode jdk_48_method_4_code 54 = .ok (.goto 103, 3) := by decide +kernel
theorem od26_157 : decode jdk_48_method_4_code 157 = .ok (.ireturn, 1) := by decide +kernel
theorem own_au11_vectorizedHashCode (l : Launch) (Z : State) (a0 : Array Value) (hw : OWS a0 Z) (ws : List Jvm.Cond) (ad0 : Addr) (iv0 : Int32) (iv1 : Int32) (kc0 : ClassId) (h0 : Heap) (O0 : Old Z Z.heap.size h0) (P0 : Arv Z h0 ad0 kc0 .byte (2 : Int32) [(.int iv0), (.int iv1)] (.int 0)) (P1 : oE20 Z h0 ad0) :
  ownMet l oM22 jdk_48_method_4_code 5 (some .int) ws (oR 1 0 0 17) Z #[(.ref ad0), (.int 0), (.int 2), (.int 0), (.int 4)] h0 (fun v h L => v = some (.int (((31 : Int32) * ((0 : Int32) + (iv0 &&& (255 : Int32)))) + (iv1 &&& (255 : Int32)))) ∧ Fr Z.heap.size L ∧ h = h0) := by
 refine own_met (plainFor_of_name oP258) ?_
 intro p e s m below meth c s₁ hx hby hml hown hnm hret hlk hZ e0 X0
 refine own_cast (show _ = (mkF m 0 #[.val (.ref ad0), .val (.int 0), .val (.int 2), .val (.int 0), .val (.int 4)] []) by first | (simp [entryFrame, mkF, argsToLocals, Value.category]; done) | rfl) ?_
 refine oiload X0 hx hby od26_0 rfl 2 rfl ?_
 let La141 : Array Slot := #[rv ad0, .val (.int 0), .val (.int 2), .val (.int 0), .val (.int 4)]
 refine own_st (s₁.setTop (mkF m 44 La141 [])) (fun tq kq => XS.tswIn X0.here hx rfl (pc0 := 2) (pc' := 44) rfl (hb hby od26_2) rfl (by decide) (by rfl) (by decide) (by decide) kq) ?_
 refine oiloadN X0 hx hby od26_44 rfl 45 rfl ?_
 refine oaloadN X0 hx hby od26_45 rfl (by rfl) 46 rfl ?_
 obtain ⟨T1, X1, e1, st1⟩ := castY X0 hx hZ hown (oW hw 130 rfl) e0 (Ins.self P1) (g := (mkF m 46 La141 [(.ref ad0), (.int 0)])) rfl rfl (hb hby od26_46)
 refine own_st (T1.setTop (mkF m 49 La141 [(.ref ad0), (.int 0)])) st1 ?_
 refine oiloadN X1 hx hby od26_49 rfl 50 rfl ?_
 refine oiloadN X1 hx hby od26_50 rfl 51 rfl ?_
 obtain ⟨v2, T2, L2, X2, q2, st2⟩ := own_callS X1 hx hZ hown (oW hw 132 rfl) (oW hw 133 rfl) (oW hw 128 rfl) (oW hw 134 rfl) (argsL := [(.int 0), (.ref ad0), (.int 0), (.int 2)]) (own_au12_signedHashCode l Z a0 hw [] ad0 iv0 iv1 kc0 h0 O0 P0 P1) 0 (by decide) (by decide) (by decide) (by decide) (by decide) e1 (g := (mkF m 51 La141 [(.int 2), (.int 0), (.ref ad0), (.int 0)])) rfl (by rw [hml]; rfl) [] (lenOf oP259 rfl) rfl (by show 2 * 0 + _ ≤ _; exact Nat.le_of_eq rfl) (hb hby od26_51)
 obtain ⟨rfl, N2q, e2⟩ := q2
 have N2 := Fr.app (Fr.nil _) N2q
 refine own_st (T2.setTop (mkF m 54 La141 [(.int (((31 : Int32) * ((0 : Int32) + (iv0 &&& (255 : Int32)))) + (iv1 &&& (255 : Int32))))])) st2 ?_
 refine ogoto X2 hx hby od26_54 157 (by decide) (by decide) ?_
 exact own_ret X2 hlk (v := some (.int (((31 : Int32) * ((0 : Int32) + (iv0 &&& (255 : Int32)))) + (iv1 &&& (255 : Int32))))) (fun h => by rw [hret] at h; cases h) e2 (⟨rfl, N2, rfl⟩) (by decide) (by decide) (fun fs hr => retI X2 hx hret (hb hby od26_157) hr)
theorem oP263 : parseMethodDescriptor "(Ljava/lang/Object;IIII)I" = some ⟨[(.object "java/lang/Object"), .int, .int, .int, .int], some .int⟩ := by decide +kernel
theorem od21_48 : decode jdk_43_method_21_code 48 = .ok (.invokestatic 84, 3) := by decide +kernel
theorem own_au10_hashCode (l : Launch) (Z : State) (a0 : Array Value) (hw : OWS a0 Z) (ws : List Jvm.Cond) (ad0 : Addr) (iv0 : Int32) (iv1 : Int32) (kc0 : ClassId) (h0 : Heap) (O0 : Old Z Z.heap.size h0) (P0 : Arv Z h0 ad0 kc0 .byte (2 : Int32) [(.int iv0), (.int iv1)] (.int 0)) (P1 : oE20 Z h0 ad0) :
  ownMet l oM17 jdk_43_method_21_code 1 (some .int) ws (oR 2 0 0 33) Z #[(.ref ad0)] h0 (fun v h L => v = some (.int (((31 : Int32) * ((0 : Int32) + (iv0 &&& (255 : Int32)))) + (iv1 &&& (255 : Int32)))) ∧ Fr Z.heap.size L ∧ h = h0) := by
 refine own_met (plainFor_of_name oP191) ?_
 intro p e s m below meth c s₁ hx hby hml hown hnm hret hlk hZ e0 X0
 refine own_cast (show _ = (mkF m 0 #[.val (.ref ad0)] []) by first | (simp [entryFrame, mkF, argsToLocals, Value.category]; done) | rfl) ?_
 refine oaloadN X0 hx hby od21_0 rfl (by rfl) 1 rfl ?_
 obtain ⟨cl1, q1a, q1b, q1c, q1d, q1e, q1f⟩ := id P0
 refine own_st (s₁.setTop (mkF m 2 #[.val (.ref ad0)] [(.int 2)])) (fun tq kq => X0.arraylength hx (by rw [e0]; exact q1a.1) (State.isArrayOf_alike hZ.alike q1a.2.1) (g := (mkF m 1 #[.val (.ref ad0)] [(.ref ad0)])) rfl rfl (hb hby od21_1) tq (by rw [len_of q1c q1d]; exact kq)) ?_
 refine own_st (s₁.setTop (mkF m 42 #[.val (.ref ad0)] [])) (fun tq kq => X0.lookupswitchMiss hx (g := (mkF m 2 #[.val (.ref ad0)] [(.int 2)])) rfl (k := (2 : Int32)) rfl (hb hby od21_2) (by decide) (by decide) (by show (0 : Int) ≤ ((2 : Nat) : Int) + 40; decide) tq kq) ?_
 refine oaloadN X0 hx hby od21_42 rfl (by rfl) 43 rfl ?_
 refine oiconst X0 hx hby od21_43 (0 : Int32) rfl 44 rfl ?_
 refine oaloadN X0 hx hby od21_44 rfl (by rfl) 45 rfl ?_
 obtain ⟨cl2, q2a, q2b, q2c, q2d, q2e, q2f⟩ := id P0
 refine own_st (s₁.setTop (mkF m 46 #[.val (.ref ad0)] [(.int 2), (.int 0), (.ref ad0)])) (fun tq kq => X0.arraylength hx (by rw [e0]; exact q2a.1) (State.isArrayOf_alike hZ.alike q2a.2.1) (g := (mkF m 45 #[.val (.ref ad0)] [(.ref ad0), (.int 0), (.ref ad0)])) rfl rfl (hb hby od21_45) tq (by rw [len_of q2c q2d]; exact kq)) ?_
 refine oiconst X0 hx hby od21_46 (0 : Int32) rfl 47 rfl ?_
 refine oiconst X0 hx hby od21_47 (4 : Int32) rfl 48 rfl ?_
 obtain ⟨v3, T3, L3, X3, q3, st3⟩ := own_callS X0 hx hZ hown (oW hw 126 rfl) (oW hw 127 rfl) (oW hw 128 rfl) (oW hw 129 rfl) (argsL := [(.ref ad0), (.int 0), (.int 2), (.int 0), (.int 4)]) (own_au11_vectorizedHashCode l Z a0 hw [] ad0 iv0 iv1 kc0 h0 O0 P0 P1) 0 (by decide) (by decide) (by decide) (by decide) (by decide) e0 (g := (mkF m 48 #[.val (.ref ad0)] [(.int 4), (.int 0), (.int 2), (.int 0), (.ref ad0)])) rfl (by rw [hml]; rfl) [] (lenOf oP263 rfl) rfl (by show 2 * 0 + _ ≤ _; exact Nat.le_of_eq rfl) (hb hby od21_48)
 obtain ⟨rfl, N3q, e3⟩ := q3
 have N3 := Fr.app (Fr.nil _) N3q
 refine own_st (T3.setTop (mkF m 51 #[.val (.ref ad0)] [(.int (((31 : Int32) * ((0 : Int32) + (iv0 &&& (255 : Int32)))) + (iv1 &&& (255 : Int32))))])) st3 ?_
 exact own_ret X3 hlk (v := some (.int (((31 : Int32) * ((0 : Int32) + (iv0 &&& (255 : Int32)))) + (iv1 &&& (255 : Int32))))) (fun h => by rw [hret] at h; cases h) e3 (⟨rfl, N3, rfl⟩) (by decide) (by decide) (fun fs hr => retI X3 hx hret (hb hby od21_51) hr)
theorem own_au8_hashCode (l : Launch) (Z : State) (a0 : Array Value) (hw : OWS a0 Z) (ws : List Jvm.Cond) (ad0 ad1 : Addr) (iv0 : Int32) (iv1 : Int32) (iv2 : Int32) (kc0 : ClassId) (h0 : Heap) (O0 : Old Z Z.heap.size h0) (PS0 : Sta Z Z.heap "java/lang/String" "COMPACT_STRINGS" "Z" (.int iv0)) (P0 : oE15 Z h0 ad0) (P1 : oF11 Z h0 ad0 (.ref ad1)) (P2 : oF12 Z h0 ad0 (.int 0)) (P3 : oF13 Z h0 ad0 (.int 0)) (P4 : oF14 Z h0 ad0 (.int 0)) (P5 : Arv Z h0 ad1 kc0 .byte (2 : Int32) [(.int iv1), (.int iv2)] (.int 0)) (P6 : oE20 Z h0 ad1) (G_ad0 : Z.heap.size ≤ ad0) (PC0 : ¬ (iv0 = (0 : Int32))) :
  ownMet l oM18 jdk_42_method_78_code 2 (some .int) ws (oR 3 0 0 45) Z #[(.ref ad0)] h0 (fun v h L => v = some (.int (((31 : Int32) * ((0 : Int32) + (iv1 &&& (255 : Int32)))) + (iv2 &&& (255 : Int32)))) ∧ Fr Z.heap.size L ∧ Keep h0 h [ad0] ∧ oF11 Z h ad0 (.ref ad1) ∧ oF12 Z h ad0 (.int 0)) := by
 refine own_met (plainFor_of_name oP179) ?_
 intro p e s m below meth c s₁ hx hby hml hown hnm hret hlk hZ e0 X0
 refine own_cast (show _ = (mkF m 0 #[.val (.ref ad0), .unset] []) by first | (simp [entryFrame, mkF, argsToLocals, Value.category]; done) | rfl) ?_
 refine oaloadN X0 hx hby od19_0 rfl (by rfl) 1 rfl ?_
 refine ogetF X0 hx hZ hown (host := "") (Or.inl (oW hw 95 rfl)) Via.refl e0 P3 rfl hby od19_1 4 rfl fun T1 X1 e1 => ?_
 refine oistoreN X1 hx hby od19_4 rfl (L' := #[.val (.ref ad0), .val (.int 0)]) rfl 5 rfl ?_
 refine oiloadN X1 hx hby od19_5 rfl 6 rfl ?_
 refine oifNo X1 hx hby od19_6 rfl ((if0 _ _).trans (teq ((by decide) : (0 : Int32) = (0 : Int32))).2) 9 rfl ?_
 refine oaloadN X1 hx hby od19_9 rfl (by rfl) 10 rfl ?_
 refine ogetF X1 hx hZ hown (host := "") (Or.inl (oW hw 97 rfl)) Via.refl e1 P4 rfl hby od19_10 13 rfl fun T2 X2 e2 => ?_
 refine oifNo X2 hx hby od19_13 rfl ((if0 _ _).trans (teq ((by decide) : (0 : Int32) = (0 : Int32))).2) 16 rfl ?_
 refine oaloadN X2 hx hby od19_16 rfl (by rfl) 17 rfl ?_
 obtain ⟨v3, T3, L3, X3, q3, st3⟩ := own_callV X2 hx hZ hown (y := oM16) (z := oM16) (oW hw 99 rfl) (oW hw 100 rfl) (notFace_of_selects (args := a0) (oW hw 102 rfl)) (oW hw 102 rfl) (oW hw 101 rfl) (oW hw 13 rfl) (oW hw 103 rfl) P0 (b := ad0) (argsL := []) (own_au9_isLatin1 l Z a0 hw [] ad0 ad1 iv0 iv1 iv2 kc0 h0 O0 PS0 P0 P1 P2 P3 P4 P5 P6 G_ad0 (PC0 : ¬ (iv0 = (0 : Int32)))) 0 (by decide) (by decide) (by decide) (by decide) (by decide) e2 (g := (mkF m 17 #[.val (.ref ad0), .val (.int 0)] [(.ref ad0)])) rfl (by rw [hml]; rfl) [] (lenOf oP180 rfl) rfl (by show 2 * 0 + _ ≤ _; exact Nat.le_of_eq rfl) (hb hby od19_17)
 obtain ⟨rfl, N3q, e3⟩ := q3
 have N3 := Fr.app (Fr.nil _) N3q
 refine own_st (T3.setTop (mkF m 20 #[.val (.ref ad0), .val (.int 0)] [(.int 1)])) st3 ?_
 refine oifNo X3 hx hby od19_20 rfl ((if0 _ _).trans (feq ((by decide) : ¬ ((1 : Int32) = (0 : Int32)))).1) 23 rfl ?_
 refine oaloadN X3 hx hby od19_23 rfl (by rfl) 24 rfl ?_
 refine ogetF X3 hx hZ hown (host := "") (Or.inl (oW hw 39 rfl)) Via.refl e3 P1 rfl hby od19_24 27 rfl fun T4 X4 e4 => ?_
 obtain ⟨v5, T5, L5, X5, q5, st5⟩ := own_callS X4 hx hZ hown (oW hw 104 rfl) (oW hw 105 rfl) (oW hw 49 rfl) (oW hw 106 rfl) (argsL := [(.ref ad1)]) (own_au10_hashCode l Z a0 hw [] ad1 iv1 iv2 kc0 h0 O0 P5 P6) 0 (by decide) (by decide) (by decide) (by decide) (by decide) e4 (g := (mkF m 27 #[.val (.ref ad0), .val (.int 0)] [(.ref ad1)])) rfl (by rw [hml]; rfl) [] (lenOf oP192 rfl) rfl (by show 2 * 0 + _ ≤ _; exact Nat.le_of_eq rfl) (hb hby od19_27)
 obtain ⟨rfl, N5q, e5⟩ := q5
 have N5 := Fr.app N3 N5q
 refine own_st (T5.setTop (mkF m 30 #[.val (.ref ad0), .val (.int 0)] [(.int (((31 : Int32) * ((0 : Int32) + (iv1 &&& (255 : Int32)))) + (iv2 &&& (255 : Int32))))])) st5 ?_
 refine ogoto X5 hx hby od19_30 40 (by decide) (by decide) ?_
 let La142 : Array Slot := #[rv ad0, .val (.int (((31 : Int32) * ((0 : Int32) + (iv1 &&& (255 : Int32)))) + (iv2 &&& (255 : Int32))))]
 refine oistoreN X5 hx hby od19_40 rfl (L' := La142) rfl 41 rfl ?_
 refine oiloadN X5 hx hby od19_41 rfl 42 rfl ?_
 by_cases c42_6 : (((31 : Int32) * ((0 : Int32) + (iv1 &&& (255 : Int32)))) + (iv2 &&& (255 : Int32))) = (0 : Int32)
 ·
  refine oifNo X5 hx hby od19_42 rfl ((if0 _ _).trans (teq c42_6).2) 45 rfl ?_
  refine oaloadN X5 hx hby od19_45 rfl (by rfl) 46 rfl ?_
  refine oiconst X5 hx hby od19_46 (1 : Int32) rfl 47 rfl ?_
  obtain ⟨T7, h7, X7, e7, W7, st7⟩ := putF X5 hx hZ hown (host := "") (Or.inl (oW hw 97 rfl)) Via.refl e5 P4 P0 (Or.inl (oW hw 98 rfl)) (oW hw 12 rfl) (ty := .boolean) (by decide) (by rfl) (by rfl) (g := (mkF m 47 La142 [(.int 1), (.ref ad0)])) rfl rfl (hb hby od19_47)
  have N7 := Fr.snoc X7 N5 G_ad0
  have O7 := O0.wr W7 G_ad0
  have K7 := (Keep.refl h0 [ad0]).wr W7 (Or.inl (List.mem_of_getElem? (i := 0) rfl))
  have f8 := (P0.wr W7)
  have f9 := (P1.other W7 (Or.inr (slot_ne (Or.inr (oW hw 40 rfl)) (Or.inl (oW hw 98 rfl)) (by decide) (t := (.array .byte)) (t' := .boolean) (by decide) (by decide))))
  have f10 := (P2.other W7 (Or.inr (slot_ne (Or.inr (oW hw 38 rfl)) (Or.inl (oW hw 98 rfl)) (by decide) (t := .byte) (t' := .boolean) (by decide) (by decide))))
  have f11 := (P3.other W7 (Or.inr (slot_ne (Or.inl (oW hw 96 rfl)) (Or.inl (oW hw 98 rfl)) (by decide) (t := .int) (t' := .boolean) (by decide) (by decide))))
  have f13 := (P5.other W7 (ne_exa P6 P0 (by decide)))
  have f14 := (P6.wr W7)
  have f15 := (P4.same W7)
  refine own_st (T7.setTop (mkF m 50 La142 [])) st7 ?_
  refine ogoto X7 hx hby od19_50 58 (by decide) (by decide) ?_
  refine oiloadN X7 hx hby od19_58 rfl 59 rfl ?_
  exact own_ret X7 hlk (v := some (.int (((31 : Int32) * ((0 : Int32) + (iv1 &&& (255 : Int32)))) + (iv2 &&& (255 : Int32))))) (fun h => by rw [hret] at h; cases h) e7 (⟨rfl, N7, K7, f9, f10⟩) (by decide) (by decide) (fun fs hr => retI X7 hx hret (hb hby od19_59) hr)
 ·
  refine oifYes X5 hx hby od19_42 rfl ((if0 _ _).trans (feq c42_6).2) 53 (by decide) (by decide) ?_
  refine oaloadN X5 hx hby od19_53 rfl (by rfl) 54 rfl ?_
  refine oiloadN X5 hx hby od19_54 rfl 55 rfl ?_
  obtain ⟨T16, h16, X16, e16, W16, st16⟩ := putF X5 hx hZ hown (host := "") (Or.inl (oW hw 95 rfl)) Via.refl e5 P3 P0 (Or.inl (oW hw 96 rfl)) (oW hw 12 rfl) (ty := .int) (by decide) (by rfl) (by rfl) (g := (mkF m 55 La142 [(.int (((31 : Int32) * ((0 : Int32) + (iv1 &&& (255 : Int32)))) + (iv2 &&& (255 : Int32)))), (.ref ad0)])) rfl rfl (hb hby od19_55)
  have N16 := Fr.snoc X16 N5 G_ad0
  have O16 := O0.wr W16 G_ad0
  have K16 := (Keep.refl h0 [ad0]).wr W16 (Or.inl (List.mem_of_getElem? (i := 0) rfl))
  have f17 := (P0.wr W16)
  have f18 := (P1.other W16 (Or.inr (slot_ne (Or.inr (oW hw 40 rfl)) (Or.inl (oW hw 96 rfl)) (by decide) (t := (.array .byte)) (t' := .int) (by decide) (by decide))))
  have f19 := (P2.other W16 (Or.inr (slot_ne (Or.inr (oW hw 38 rfl)) (Or.inl (oW hw 96 rfl)) (by decide) (t := .byte) (t' := .int) (by decide) (by decide))))
  have f21 := (P4.other W16 (Or.inr (slot_ne (Or.inl (oW hw 98 rfl)) (Or.inl (oW hw 96 rfl)) (by decide) (t := .boolean) (t' := .int) (by decide) (by decide))))
  have f22 := (P5.other W16 (ne_exa P6 P0 (by decide)))
  have f23 := (P6.wr W16)
  have f24 := (P3.same W16)
  refine own_st (T16.setTop (mkF m 58 La142 [])) st16 ?_
  refine oiloadN X16 hx hby od19_58 rfl 59 rfl ?_
  exact own_ret X16 hlk (v := some (.int (((31 : Int32) * ((0 : Int32) + (iv1 &&& (255 : Int32)))) + (iv2 &&& (255 : Int32))))) (fun h => by rw [hret] at h; cases h) e16 (⟨rfl, N16, K16, f18, f19⟩) (by decide) (by decide) (fun fs hr => retI X16 hx hret (hb hby od19_59) hr)
theorem own_held_2 (l : Launch) (Z : State) (a0 : Array Value) (hw : OWS a0 Z) (ws : List Jvm.Cond) (cz : Int32) (sx t : Addr) (kt : ClassId) (z0 z1 : Int32) (h0 : Heap) (O0 : Old Z Z.heap.size h0) (SC : Sta Z Z.heap "java/lang/String" "COMPACT_STRINGS" "Z" (.int cz)) (hcz : ¬ (cz = (0 : Int32))) (Es : oE15 Z h0 sx) (gs : Z.heap.size ≤ sx) (Vs : oF11 Z h0 sx (.ref t)) (Cs : oF12 Z h0 sx (.int 0)) (Hs : oF13 Z h0 sx (.int 0)) (Is : oF14 Z h0 sx (.int 0)) (As : Arv Z h0 t kt .byte (2 : Int32) [(.int z0), (.int z1)] (.int 0)) (st_ : t ≠ sx) (Xt : oE20 Z h0 t) :
  ownMet l oM19 prog_107_method_8_code 2 (some .int) ws (oR 4 0 0 90) Z #[(.ref sx)] h0 (fun v h L => v = some (.int (own_hd (((31 : Int32) * ((0 : Int32) + (z0 &&& (255 : Int32)))) + (z1 &&& (255 : Int32))))) ∧ Fr Z.heap.size L ∧ Keep h0 h [sx]) := by
 refine own_met (plainFor_of_name oP59) ?_
 intro p e s m below meth c s₁ hx hby hml hown hnm hret hlk hZ e0 X0
 refine own_cast (show _ = (mkF m 0 #[.val (.ref sx), .unset] []) by first | (simp [entryFrame, mkF, argsToLocals, Value.category]; done) | rfl) ?_
 refine oaloadN X0 hx hby od18_0 rfl (by rfl) 1 rfl ?_
 obtain ⟨v1, T1, L1, X1, q1, st1⟩ := own_callV X0 hx hZ hown (y := oM18) (z := oM18) (oW hw 90 rfl) (oW hw 91 rfl) (notFace_of_selects (args := a0) (oW hw 93 rfl)) (oW hw 93 rfl) (oW hw 92 rfl) (oW hw 13 rfl) (oW hw 94 rfl) Es (b := sx) (argsL := []) (own_au8_hashCode l Z a0 hw [] sx t cz z0 z1 kt h0 O0 SC Es Vs Cs Hs Is As Xt gs (hcz : ¬ (cz = (0 : Int32)))) 0 (by decide) (by decide) (by decide) (by decide) (by decide) e0 (g := (mkF m 1 #[.val (.ref sx), .unset] [(.ref sx)])) rfl (by rw [hml]; rfl) [] (lenOf oP204 rfl) rfl (by show 2 * 0 + _ ≤ _; exact Nat.le_of_eq rfl) (hb hby od18_1)
 obtain ⟨rfl, N1q, K1q, f1_0, f1_1⟩ := q1
 have N1 := Fr.app (Fr.nil _) N1q
 have f2 := (Es.keep K1q)
 have f7 := (As.keep K1q (ninS st_ nin0))
 have f8 := (Xt.keep K1q)
 have O1 := O0.keep K1q (allS gs all0)
 have K1 := (Keep.refl h0 [sx]).trans K1q (allS (Or.inl (List.mem_of_getElem? (i := 0) rfl)) all0)
 refine own_st (T1.setTop (mkF m 4 #[.val (.ref sx), .unset] [(.int (((31 : Int32) * ((0 : Int32) + (z0 &&& (255 : Int32)))) + (z1 &&& (255 : Int32))))])) st1 ?_
 let La143 : Array Slot := #[rv sx, .val (.int (((31 : Int32) * ((0 : Int32) + (z0 &&& (255 : Int32)))) + (z1 &&& (255 : Int32))))]
 refine oistoreN X1 hx hby od18_4 rfl (L' := La143) rfl 5 rfl ?_
 refine oiloadN X1 hx hby od18_5 rfl 6 rfl ?_
 by_cases c6_9 : (((31 : Int32) * ((0 : Int32) + (z0 &&& (255 : Int32)))) + (z1 &&& (255 : Int32))) = (0 : Int32)
 ·
  refine oifNo X1 hx hby od18_6 rfl ((if0 _ _).trans (teq c6_9).2) 9 rfl ?_
  refine oiconst X1 hx hby od18_9 (1 : Int32) rfl 10 rfl ?_
  refine ogoto X1 hx hby od18_10 14 (by decide) (by decide) ?_
  exact own_ret X1 hlk (v := some (.int 1)) (fun h => by rw [hret] at h; cases h) rfl (⟨own_hdT c6_9, N1, K1⟩) (by decide) (by decide) (fun fs hr => retI X1 hx hret (hb hby od18_14) hr)
 ·
  refine oifYes X1 hx hby od18_6 rfl ((if0 _ _).trans (feq c6_9).2) 13 (by decide) (by decide) ?_
  refine oiloadN X1 hx hby od18_13 rfl 14 rfl ?_
  exact own_ret X1 hlk (v := some (.int (((31 : Int32) * ((0 : Int32) + (z0 &&& (255 : Int32)))) + (z1 &&& (255 : Int32))))) (fun h => by rw [hret] at h; cases h) rfl (⟨own_hdF c6_9, N1, K1⟩) (by decide) (by decide) (fun fs hr => retI X1 hx hret (hb hby od18_14) hr)
theorem own_heldR (l : Launch) (Z : State) (a0 : Array Value) (hw : OWS a0 Z) (ws : List Jvm.Cond) (cz : Int32) (r t : Addr) (hv : Int32) (h0 : Heap) (O0 : Old Z Z.heap.size h0) (SC : Sta Z Z.heap "java/lang/String" "COMPACT_STRINGS" "Z" (.int cz)) (hcz : ¬ (cz = (0 : Int32))) (B : OwnStr Z h0 r t hv) :
  ownMet l oM19 prog_107_method_8_code 2 (some .int) ws (oR 4 0 0 90) Z #[(.ref r)] h0 (fun v h L => v = some (.int (own_hd hv)) ∧ Fr Z.heap.size L ∧ Keep h0 h [r]) := by
 obtain ⟨a, b, c, d, f, g, i, kt, j⟩ := B
 rcases j with ⟨q, rfl⟩ | ⟨z0, q, rfl⟩ | ⟨z0, z1, q, x, rfl⟩
 · exact own_held_0 l Z a0 hw ws cz r t kt h0 O0 SC hcz a b c d f g q i trivial
 · exact own_held_1 l Z a0 hw ws cz r t kt z0 h0 O0 SC hcz a b c d f g q i trivial
 · exact own_held_2 l Z a0 hw ws cz r t kt z0 z1 h0 O0 SC hcz a b c d f g q i x
theorem od17_0 : decode prog_107_method_3_code 0 = .ok (.aload_n 0, 1) := by decide +kernel
theorem od17_1 : decode prog_107_method_3_code 1 = .ok (.getfield 33, 3) := by decide +kernel
theorem od17_4 : decode prog_107_method_3_code 4 = .ok (.aload_n 0, 1) := by decide +kernel
theorem od17_5 : decode prog_107_method_3_code 5 = .ok (.getfield 17, 3) := by decide +kernel
theorem od17_8 : decode prog_107_method_3_code 8 = .ok (.arraylength, 1) := by decide +kernel
theorem od17_9 : decode prog_107_method_3_code 9 = .ok (.if_icmp .ne 47, 3) := by decide +kernel
theorem od17_56 : decode prog_107_method_3_code 56 = .ok (.aload_n 0, 1) := by decide +kernel
theorem od17_57 : decode prog_107_method_3_code 57 = .ok (.getfield 17, 3) := by decide +kernel
theorem od17_60 : decode prog_107_method_3_code 60 = .ok (.aload_n 0, 1) := by decide +kernel
theorem od17_61 : decode prog_107_method_3_code 61 = .ok (.dup, 1) := by decide +kernel
theorem od17_62 : decode prog_107_method_3_code 62 = .ok (.getfield 33, 3) := by decide +kernel
theorem od17_65 : decode prog_107_method_3_code 65 = .ok (.dup_x1, 1) := by decide +kernel
theorem od17_66 : decode prog_107_method_3_code 66 = .ok (.iconst 1, 1) := by decide +kernel
theorem od17_67 : decode prog_107_method_3_code 67 = .ok (.iadd, 1) := by decide +kernel
theorem od17_68 : decode prog_107_method_3_code 68 = .ok (.putfield 33, 3) := by decide +kernel
theorem od17_71 : decode prog_107_method_3_code 71 = .ok (.aload_n 1, 1) := by decide +kernel
theorem oP281 : parseMethodDescriptor "(Ljava/lang/String;)I" = some ⟨[(.object "java/lang/String")], some .int⟩ := by decide +kernel
theorem od17_72 : decode prog_107_method_3_code 72 = .ok (.invokestatic 51, 3) := by decide +kernel
theorem od17_75 : decode prog_107_method_3_code 75 = .ok (.iastore, 1) := by decide +kernel
theorem od17_76 : decode prog_107_method_3_code 76 = .ok (.return_, 1) := by decide +kernel
theorem own_add_1_0 (l : Launch) (Z : State) (a0 : Array Value) (hw : OWS a0 Z) (ws : List Jvm.Cond) (cz : Int32) (o b pb : Addr) (kb kp : ClassId) (tb hs : List Int32) (sz x0 : Int32) (r t : Addr) (hv : Int32) (h0 : Heap) (O0 : Old Z Z.heap.size h0) (SC : Sta Z Z.heap "java/lang/String" "COMPACT_STRINGS" "Z" (.int cz)) (hcz : ¬ (cz = (0 : Int32))) (E0 : oE7 Z h0 o) (g0 : Z.heap.size ≤ o) (gb : Z.heap.size ≤ b) (bp : b ≠ pb) (F0 : oF2 Z h0 o (.ref b)) (F1 : oF3 Z h0 o (.int sz)) (F2 : oF4 Z h0 o (.ref pb)) (F3 : oF5 Z h0 o (.int 0)) (F4 : oF6 Z h0 o (.int 1)) (AT : Arv Z h0 b kb .int (16 : Int32) (tb.map Value.int) (.int 0)) (AP : Arv Z h0 pb kp .int (1 : Int32) [(.int x0)] (.int 0)) (H : OwnHold tb hs) (hl : hs.length < 6) (hz : OwnSz sz hs.length) (gp : Z.heap.size ≤ pb) (B : OwnStr Z h0 r t hv) (v1 : r ≠ o) (v2 : r ≠ b) (v3 : r ≠ pb) (v4 : t ≠ o) (v5 : t ≠ b) (v6 : t ≠ pb) :
  ownMet l oM23 prog_107_method_3_code 2 none ws (oR 6 2 12 130) Z #[(.ref o), (.ref r)] h0 (fun v h L => ∃ pb' : Addr, v = none ∧ Fr Z.heap.size L ∧ Keep h0 h [o, b, pb, r] ∧ (pb' = pb ∨ h0.size ≤ pb') ∧ Z.heap.size ≤ pb' ∧ OwnStage Z h o b pb' 1 (hs ++ [own_hd hv])) := by
 refine own_met (plainFor_of_name oP59) ?_
 intro p e s m below meth c s₁ hx hby hml hown hnm hret hlk hZ e0 X0
 refine own_cast (show _ = (mkF m 0 #[.val (.ref o), .val (.ref r)] []) by first | (simp [entryFrame, mkF, argsToLocals, Value.category]; done) | rfl) ?_
 refine oaloadN X0 hx hby od17_0 rfl (by rfl) 1 rfl ?_
 refine ogetF X0 hx hZ hown (host := "") (Or.inl (oW hw 80 rfl)) Via.refl e0 F3 rfl hby od17_1 4 rfl fun T1 X1 e1 => ?_
 refine oaloadN X1 hx hby od17_4 rfl (by rfl) 5 rfl ?_
 refine ogetF X1 hx hZ hown (host := "") (Or.inl (oW hw 71 rfl)) Via.refl e1 F2 rfl hby od17_5 8 rfl fun T2 X2 e2 => ?_
 obtain ⟨cl3, q3a, q3b, q3c, q3d, q3e, q3f⟩ := id AP
 refine own_st (T2.setTop (mkF m 9 #[.val (.ref o), .val (.ref r)] [(.int 1), (.int 0)])) (fun tq kq => X2.arraylength hx (by rw [e2]; exact q3a.1) (State.isArrayOf_alike hZ.alike q3a.2.1) (g := (mkF m 8 #[.val (.ref o), .val (.ref r)] [(.ref pb), (.int 0)])) rfl rfl (hb hby od17_8) tq (by rw [len_of q3c q3d]; exact kq)) ?_
 refine oicmpYes X2 hx hby od17_9 rfl (feq ((by decide) : ¬ ((0 : Int32) = (1 : Int32)))).2 56 (by decide) (by decide) ?_
 refine oaloadN X2 hx hby od17_56 rfl (by rfl) 57 rfl ?_
 refine ogetF X2 hx hZ hown (host := "") (Or.inl (oW hw 71 rfl)) Via.refl e2 F2 rfl hby od17_57 60 rfl fun T4 X4 e4 => ?_
 refine oaloadN X4 hx hby od17_60 rfl (by rfl) 61 rfl ?_
 refine odup X4 hx hby od17_61 rfl (by rfl) 62 rfl ?_
 refine ogetF X4 hx hZ hown (host := "") (Or.inl (oW hw 80 rfl)) Via.refl e4 F3 rfl hby od17_62 65 rfl fun T5 X5 e5 => ?_
 refine own_st (T5.setTop (mkF m 66 #[.val (.ref o), .val (.ref r)] [(.int 0), (.ref o), (.int 0), (.ref pb)])) (fun tq kq => XS.dupX1 X5.here hx rfl (hb hby od17_65) rfl (by rfl) (by rfl) kq) ?_
 refine oiconst X5 hx hby od17_66 (1 : Int32) rfl 67 rfl ?_
 refine oiadd X5 hx hby od17_67 rfl (1 : Int32) rfl 68 rfl ?_
 obtain ⟨T6, h6, X6, e6, W6, st6⟩ := putF X5 hx hZ hown (host := "") (Or.inl (oW hw 80 rfl)) Via.refl e5 F3 E0 (Or.inl (oW hw 81 rfl)) (oW hw 62 rfl) (ty := .int) (by decide) (by rfl) (by rfl) (g := (mkF m 68 #[.val (.ref o), .val (.ref r)] [(.int 1), (.ref o), (.int 0), (.ref pb)])) rfl rfl (hb hby od17_68)
 have N6 := Fr.snoc X6 (Fr.nil _) g0
 have O6 := O0.wr W6 g0
 have K6 := (Keep.refl h0 [o, b, pb, r]).wr W6 (Or.inl (List.mem_of_getElem? (i := 0) rfl))
 have f7 := (E0.wr W6)
 have f8 := (F0.other W6 (Or.inr (slot_ne (Or.inl (oW hw 70 rfl)) (Or.inl (oW hw 81 rfl)) (by decide) (t := (.array .int)) (t' := .int) (by decide) (by decide))))
 have f9 := (F1.other W6 (Or.inr (slot_ne (Or.inl (oW hw 121 rfl)) (Or.inl (oW hw 81 rfl)) (by decide) (t := .int) (t' := .int) (by decide) (by decide))))
 have f10 := (F2.other W6 (Or.inr (slot_ne (Or.inl (oW hw 72 rfl)) (Or.inl (oW hw 81 rfl)) (by decide) (t := (.array .int)) (t' := .int) (by decide) (by decide))))
 have f12 := (F4.other W6 (Or.inr (slot_ne (Or.inr (oW hw 74 rfl)) (Or.inl (oW hw 81 rfl)) (by decide) (t := .int) (t' := .int) (by decide) (by decide))))
 have f13 := (AT.other W6 (Ne.symm (Exa.neArv E0 AT (oW hw 62 rfl))))
 have f14 := (AP.other W6 (Ne.symm (Exa.neArv E0 AP (oW hw 62 rfl))))
 have f15 := (B.other W6 v1 v4)
 have f16 := (F3.same W6)
 refine own_st (T6.setTop (mkF m 71 #[.val (.ref o), .val (.ref r)] [(.int 0), (.ref pb)])) st6 ?_
 refine oaloadN X6 hx hby od17_71 rfl (by rfl) 72 rfl ?_
 obtain ⟨v17, T17, L17, X17, q17, st17⟩ := own_callS X6 hx hZ hown (oW hw 87 rfl) (oW hw 88 rfl) (oW hw 63 rfl) (oW hw 89 rfl) (argsL := [(.ref r)]) (own_heldR l Z a0 hw [] cz r t hv h6 O6 SC hcz f15) 2 (by decide) (by decide) (by decide) (by decide) (by decide) e6 (g := (mkF m 72 #[.val (.ref o), .val (.ref r)] [(.ref r), (.int 0), (.ref pb)])) rfl (by rw [hml]; rfl) [(.int 0), (.ref pb)] (lenOf oP281 rfl) rfl (by show 2 * 0 + _ ≤ _; exact Nat.le_of_eq rfl) (hb hby od17_72)
 obtain ⟨rfl, N17q, K17q⟩ := q17
 have N17 := Fr.app N6 N17q
 have f18 := (f7.keep K17q)
 have f19 := (f8.keep K17q (ninS (Ne.symm v1) nin0))
 have f20 := (f9.keep K17q (ninS (Ne.symm v1) nin0))
 have f21 := (f10.keep K17q (ninS (Ne.symm v1) nin0))
 have f22 := (f16.keep K17q (ninS (Ne.symm v1) nin0))
 have f23 := (f12.keep K17q (ninS (Ne.symm v1) nin0))
 have f24 := (f13.keep K17q (ninS (Ne.symm v2) nin0))
 have f25 := (f14.keep K17q (ninS (Ne.symm v3) nin0))
 have O17 := O6.keep K17q (allS B.2.1 all0)
 have K17 := K6.trans K17q (allS (Or.inl (List.mem_of_getElem? (i := 3) rfl)) all0)
 refine own_st (T17.setTop (mkF m 75 #[.val (.ref o), .val (.ref r)] [(.int (own_hd hv)), (.int 0), (.ref pb)])) st17 ?_
 obtain ⟨cl27, q27a, q27b, q27c, q27d, q27e, q27f⟩ := id f25
 obtain ⟨T28, h28, X28, e28, W28, st28⟩ := stI X17 hx hZ rfl q27a (j := (0 : Int32)) (inb_of q27c ⟨by decide, by decide⟩) (g := (mkF m 75 #[.val (.ref o), .val (.ref r)] [(.int (own_hd hv)), (.int 0), (.ref pb)])) rfl rfl (hb hby od17_75)
 have N28 := Fr.snoc X28 N17 gp
 have O28 := O17.wr W28 gp
 have K28 := K17.wr W28 (Or.inl (List.mem_of_getElem? (i := 2) rfl))
 have f29 := (f18.wr W28)
 have f30 := (f19.other W28 (Or.inl (Exa.neArv f18 f25 (oW hw 62 rfl))))
 have f31 := (f20.other W28 (Or.inl (Exa.neArv f18 f25 (oW hw 62 rfl))))
 have f32 := (f21.other W28 (Or.inl (Exa.neArv f18 f25 (oW hw 62 rfl))))
 have f33 := (f22.other W28 (Or.inl (Exa.neArv f18 f25 (oW hw 62 rfl))))
 have f34 := (f23.other W28 (Or.inl (Exa.neArv f18 f25 (oW hw 62 rfl))))
 have f35 := (f24.other W28 bp)
 have f37 : Arv Z h28 pb kp .int (1 : Int32) [(.int (own_hd hv))] (.int 0) := Arv.set q27a q27b q27c q27d q27e q27f rfl W28 0 (by decide) (show 0 < 1 by decide)
 refine own_st (T28.setTop (mkF m 76 #[.val (.ref o), .val (.ref r)] [])) st28 ?_
 exact own_ret X28 hlk (v := none) (fun _ => rfl) e28 (⟨_, rfl, N28, K28, Or.inl rfl, gp, kb, _, _, _, _, _, f29, g0, gb, gp, bp, f30, f31, f32, f34, f35, H, OwnSz.mono hz (by first | omega | (simp only [List.length_append, List.length_cons, List.length_nil]; omega)), ⟨Or.inl rfl, _, f33, f37, own_hd0 _, rfl⟩⟩) (by decide) (by decide) (fun fs hr => X28.returnOut hx hret (hb hby od17_76) hr)
theorem od17_12 : decode prog_107_method_3_code 12 = .ok (.aload_n 0, 1) := by decide +kernel
theorem od17_13 : decode prog_107_method_3_code 13 = .ok (.getfield 17, 3) := by decide +kernel
theorem od17_16 : decode prog_107_method_3_code 16 = .ok (.arraylength, 1) := by decide +kernel
theorem od17_17 : decode prog_107_method_3_code 17 = .ok (.aload_n 0, 1) := by decide +kernel
theorem od17_18 : decode prog_107_method_3_code 18 = .ok (.getfield 29, 3) := by decide +kernel
theorem od17_21 : decode prog_107_method_3_code 21 = .ok (.if_icmp .ge 31, 3) := by decide +kernel
theorem od17_52 : decode prog_107_method_3_code 52 = .ok (.aload_n 0, 1) := by decide +kernel
theorem od17_53 : decode prog_107_method_3_code 53 = .ok (.invokevirtual 48, 3) := by decide +kernel
theorem own_add_1_1 (l : Launch) (Z : State) (a0 : Array Value) (hw : OWS a0 Z) (ws : List Jvm.Cond) (cz : Int32) (o b pb : Addr) (kb kp : ClassId) (tb hs : List Int32) (sz x0 : Int32) (r t : Addr) (hv : Int32) (h0 : Heap) (O0 : Old Z Z.heap.size h0) (SC : Sta Z Z.heap "java/lang/String" "COMPACT_STRINGS" "Z" (.int cz)) (hcz : ¬ (cz = (0 : Int32))) (E0 : oE7 Z h0 o) (g0 : Z.heap.size ≤ o) (gb : Z.heap.size ≤ b) (bp : b ≠ pb) (F0 : oF2 Z h0 o (.ref b)) (F1 : oF3 Z h0 o (.int sz)) (F2 : oF4 Z h0 o (.ref pb)) (F3 : oF5 Z h0 o (.int 1)) (F4 : oF6 Z h0 o (.int 1)) (AT : Arv Z h0 b kb .int (16 : Int32) (tb.map Value.int) (.int 0)) (AP : Arv Z h0 pb kp .int (1 : Int32) [(.int x0)] (.int 0)) (H : OwnHold tb hs) (hl : hs.length < 6) (hz : OwnSz sz hs.length) (nx0 : x0 ≠ 0) (gp : Z.heap.size ≤ pb) (B : OwnStr Z h0 r t hv) (v1 : r ≠ o) (v2 : r ≠ b) (v3 : r ≠ pb) (v4 : t ≠ o) (v5 : t ≠ b) (v6 : t ≠ pb) :
  ownMet l oM23 prog_107_method_3_code 2 none ws (oR 6 2 12 130) Z #[(.ref o), (.ref r)] h0 (fun v h L => ∃ pb' : Addr, v = none ∧ Fr Z.heap.size L ∧ Keep h0 h [o, b, pb, r] ∧ (pb' = pb ∨ h0.size ≤ pb') ∧ Z.heap.size ≤ pb' ∧ OwnStage Z h o b pb' 2 ((hs ++ [x0]) ++ [own_hd hv])) := by
 refine own_met (plainFor_of_name oP59) ?_
 intro p e s m below meth c s₁ hx hby hml hown hnm hret hlk hZ e0 X0
 refine own_cast (show _ = (mkF m 0 #[.val (.ref o), .val (.ref r)] []) by first | (simp [entryFrame, mkF, argsToLocals, Value.category]; done) | rfl) ?_
 refine oaloadN X0 hx hby od17_0 rfl (by rfl) 1 rfl ?_
 refine ogetF X0 hx hZ hown (host := "") (Or.inl (oW hw 80 rfl)) Via.refl e0 F3 rfl hby od17_1 4 rfl fun T1 X1 e1 => ?_
 refine oaloadN X1 hx hby od17_4 rfl (by rfl) 5 rfl ?_
 refine ogetF X1 hx hZ hown (host := "") (Or.inl (oW hw 71 rfl)) Via.refl e1 F2 rfl hby od17_5 8 rfl fun T2 X2 e2 => ?_
 obtain ⟨cl3, q3a, q3b, q3c, q3d, q3e, q3f⟩ := id AP
 refine own_st (T2.setTop (mkF m 9 #[.val (.ref o), .val (.ref r)] [(.int 1), (.int 1)])) (fun tq kq => X2.arraylength hx (by rw [e2]; exact q3a.1) (State.isArrayOf_alike hZ.alike q3a.2.1) (g := (mkF m 8 #[.val (.ref o), .val (.ref r)] [(.ref pb), (.int 1)])) rfl rfl (hb hby od17_8) tq (by rw [len_of q3c q3d]; exact kq)) ?_
 refine oicmpNo X2 hx hby od17_9 rfl (teq ((by decide) : (1 : Int32) = (1 : Int32))).2 12 rfl ?_
 refine oaloadN X2 hx hby od17_12 rfl (by rfl) 13 rfl ?_
 refine ogetF X2 hx hZ hown (host := "") (Or.inl (oW hw 71 rfl)) Via.refl e2 F2 rfl hby od17_13 16 rfl fun T4 X4 e4 => ?_
 obtain ⟨cl5, q5a, q5b, q5c, q5d, q5e, q5f⟩ := id AP
 refine own_st (T4.setTop (mkF m 17 #[.val (.ref o), .val (.ref r)] [(.int 1)])) (fun tq kq => X4.arraylength hx (by rw [e4]; exact q5a.1) (State.isArrayOf_alike hZ.alike q5a.2.1) (g := (mkF m 16 #[.val (.ref o), .val (.ref r)] [(.ref pb)])) rfl rfl (hb hby od17_16) tq (by rw [len_of q5c q5d]; exact kq)) ?_
 refine oaloadN X4 hx hby od17_17 rfl (by rfl) 18 rfl ?_
 refine ogetF X4 hx hZ hown (host := "") (Or.inl (oW hw 73 rfl)) Via.refl e4 F4 rfl hby od17_18 21 rfl fun T6 X6 e6 => ?_
 refine oicmpYes X6 hx hby od17_21 rfl (flt ((by decide) : ¬ ((1 : Int32) < (1 : Int32)))).2.1 52 (by decide) (by decide) ?_
 refine oaloadN X6 hx hby od17_52 rfl (by rfl) 53 rfl ?_
 obtain ⟨v7, T7, L7, X7, q7, st7⟩ := own_callP X6 hx hZ hown (y := oM8) (oW hw 107 rfl) (oW hw 109 rfl) (own_nf22 hw) (oW hw 108 rfl) (oW hw 63 rfl) (oW hw 110 rfl) E0 (b := o) (argsL := []) (own_settle_1_1 l Z a0 hw [] o b pb kb kp tb hs sz (1 : Int32) x0 h0 O0 E0 g0 gb bp F0 F1 F2 F3 F4 AT AP H (by omega) hz nx0) 0 (by decide) (by decide) (by decide) (by decide) (by decide) e6 (g := (mkF m 53 #[.val (.ref o), .val (.ref r)] [(.ref o)])) rfl (by rw [hml]; rfl) [] (lenOf oP123 rfl) rfl (by show 2 * 0 + _ ≤ _; exact Nat.le_of_eq rfl) (hb hby od17_53)
 obtain ⟨rfl, N7q, K7q, f7a, f7b, f7c, f7d, f7e, sz7, f7f, hz7⟩ := q7
 have N7 := Fr.app (Fr.nil _) N7q
 have f8 := (E0.keep K7q)
 have f15 := (AP.keep K7q (ninS (Ne.symm (Exa.neArv E0 AP (oW hw 62 rfl))) (ninS (Ne.symm bp) nin0)))
 have f16 := (B.keep K7q (ninS v1 (ninS v2 nin0)) (ninS v4 (ninS v5 nin0)))
 have O7 := O0.keep K7q (allS g0 (allS gb all0))
 have K7 := (Keep.refl h0 [o, b, pb, r]).trans K7q (allS (Or.inl (List.mem_of_getElem? (i := 0) rfl)) (allS (Or.inl (List.mem_of_getElem? (i := 1) rfl)) all0))
 refine own_st (T7.setTop (mkF m 56 #[.val (.ref o), .val (.ref r)] [])) st7 ?_
 refine oaloadN X7 hx hby od17_56 rfl (by rfl) 57 rfl ?_
 refine ogetF X7 hx hZ hown (host := "") (Or.inl (oW hw 71 rfl)) Via.refl rfl f7b rfl hby od17_57 60 rfl fun T17 X17 e17 => ?_
 refine oaloadN X17 hx hby od17_60 rfl (by rfl) 61 rfl ?_
 refine odup X17 hx hby od17_61 rfl (by rfl) 62 rfl ?_
 refine ogetF X17 hx hZ hown (host := "") (Or.inl (oW hw 80 rfl)) Via.refl e17 f7c rfl hby od17_62 65 rfl fun T18 X18 e18 => ?_
 refine own_st (T18.setTop (mkF m 66 #[.val (.ref o), .val (.ref r)] [(.int 0), (.ref o), (.int 0), (.ref pb)])) (fun tq kq => XS.dupX1 X18.here hx rfl (hb hby od17_65) rfl (by rfl) (by rfl) kq) ?_
 refine oiconst X18 hx hby od17_66 (1 : Int32) rfl 67 rfl ?_
 refine oiadd X18 hx hby od17_67 rfl (1 : Int32) rfl 68 rfl ?_
 obtain ⟨T19, h19, X19, e19, W19, st19⟩ := putF X18 hx hZ hown (host := "") (Or.inl (oW hw 80 rfl)) Via.refl e18 f7c f8 (Or.inl (oW hw 81 rfl)) (oW hw 62 rfl) (ty := .int) (by decide) (by rfl) (by rfl) (g := (mkF m 68 #[.val (.ref o), .val (.ref r)] [(.int 1), (.ref o), (.int 0), (.ref pb)])) rfl rfl (hb hby od17_68)
 have N19 := Fr.snoc X19 N7 g0
 have O19 := O7.wr W19 g0
 have K19 := K7.wr W19 (Or.inl (List.mem_of_getElem? (i := 0) rfl))
 have f20 := (f8.wr W19)
 have f21 := (f15.other W19 (Ne.symm (Exa.neArv f8 f15 (oW hw 62 rfl))))
 have f22 := (f16.other W19 v1 v4)
 have f23 := (f7e.other W19 (Ne.symm (Exa.neArv f8 f7e (oW hw 62 rfl))))
 have f24 := (f7a.other W19 (Or.inr (slot_ne (Or.inl (oW hw 70 rfl)) (Or.inl (oW hw 81 rfl)) (by decide) (t := (.array .int)) (t' := .int) (by decide) (by decide))))
 have f25 := (f7b.other W19 (Or.inr (slot_ne (Or.inl (oW hw 72 rfl)) (Or.inl (oW hw 81 rfl)) (by decide) (t := (.array .int)) (t' := .int) (by decide) (by decide))))
 have f27 := (f7d.other W19 (Or.inr (slot_ne (Or.inr (oW hw 74 rfl)) (Or.inl (oW hw 81 rfl)) (by decide) (t := .int) (t' := .int) (by decide) (by decide))))
 have f28 := (f7f.other W19 (Or.inr (slot_ne (Or.inl (oW hw 121 rfl)) (Or.inl (oW hw 81 rfl)) (by decide) (t := .int) (t' := .int) (by decide) (by decide))))
 have f29 := (f7c.same W19)
 refine own_st (T19.setTop (mkF m 71 #[.val (.ref o), .val (.ref r)] [(.int 0), (.ref pb)])) st19 ?_
 refine oaloadN X19 hx hby od17_71 rfl (by rfl) 72 rfl ?_
 obtain ⟨v30, T30, L30, X30, q30, st30⟩ := own_callS X19 hx hZ hown (oW hw 87 rfl) (oW hw 88 rfl) (oW hw 63 rfl) (oW hw 89 rfl) (argsL := [(.ref r)]) (own_heldR l Z a0 hw [] cz r t hv h19 O19 SC hcz f22) 2 (by decide) (by decide) (by decide) (by decide) (by decide) e19 (g := (mkF m 72 #[.val (.ref o), .val (.ref r)] [(.ref r), (.int 0), (.ref pb)])) rfl (by rw [hml]; rfl) [(.int 0), (.ref pb)] (lenOf oP281 rfl) rfl (by show 2 * 0 + _ ≤ _; exact Nat.le_of_eq rfl) (hb hby od17_72)
 obtain ⟨rfl, N30q, K30q⟩ := q30
 have N30 := Fr.app N19 N30q
 have f31 := (f20.keep K30q)
 have f32 := (f21.keep K30q (ninS (Ne.symm v3) nin0))
 have f34 := (f23.keep K30q (ninS (Ne.symm v2) nin0))
 have f35 := (f24.keep K30q (ninS (Ne.symm v1) nin0))
 have f36 := (f25.keep K30q (ninS (Ne.symm v1) nin0))
 have f37 := (f29.keep K30q (ninS (Ne.symm v1) nin0))
 have f38 := (f27.keep K30q (ninS (Ne.symm v1) nin0))
 have f39 := (f28.keep K30q (ninS (Ne.symm v1) nin0))
 have O30 := O19.keep K30q (allS B.2.1 all0)
 have K30 := K19.trans K30q (allS (Or.inl (List.mem_of_getElem? (i := 3) rfl)) all0)
 refine own_st (T30.setTop (mkF m 75 #[.val (.ref o), .val (.ref r)] [(.int (own_hd hv)), (.int 0), (.ref pb)])) st30 ?_
 obtain ⟨cl40, q40a, q40b, q40c, q40d, q40e, q40f⟩ := id f32
 obtain ⟨T41, h41, X41, e41, W41, st41⟩ := stI X30 hx hZ rfl q40a (j := (0 : Int32)) (inb_of q40c ⟨by decide, by decide⟩) (g := (mkF m 75 #[.val (.ref o), .val (.ref r)] [(.int (own_hd hv)), (.int 0), (.ref pb)])) rfl rfl (hb hby od17_75)
 have N41 := Fr.snoc X41 N30 gp
 have O41 := O30.wr W41 gp
 have K41 := K30.wr W41 (Or.inl (List.mem_of_getElem? (i := 2) rfl))
 have f42 := (f31.wr W41)
 have f44 := (f34.other W41 bp)
 have f45 := (f35.other W41 (Or.inl (Exa.neArv f31 f32 (oW hw 62 rfl))))
 have f46 := (f36.other W41 (Or.inl (Exa.neArv f31 f32 (oW hw 62 rfl))))
 have f47 := (f37.other W41 (Or.inl (Exa.neArv f31 f32 (oW hw 62 rfl))))
 have f48 := (f38.other W41 (Or.inl (Exa.neArv f31 f32 (oW hw 62 rfl))))
 have f49 := (f39.other W41 (Or.inl (Exa.neArv f31 f32 (oW hw 62 rfl))))
 have f50 : Arv Z h41 pb kp .int (1 : Int32) [(.int (own_hd hv))] (.int 0) := Arv.set q40a q40b q40c q40d q40e q40f rfl W41 0 (by decide) (show 0 < 1 by decide)
 refine own_st (T41.setTop (mkF m 76 #[.val (.ref o), .val (.ref r)] [])) st41 ?_
 exact own_ret X41 hlk (v := none) (fun _ => rfl) e41 (⟨_, rfl, N41, K41, Or.inl rfl, gp, kb, _, _, _, _, _, f42, g0, gb, gp, bp, f45, f49, f46, f48, f44, (OwnHold.ins H (by omega) nx0), OwnSz.mono hz7 (by first | omega | (simp only [List.length_append, List.length_cons, List.length_nil]; omega)), Or.inl ⟨rfl, _, f47, f50, own_hd0 _, rfl⟩⟩) (by decide) (by decide) (fun fs hr => X41.returnOut hx hret (hb hby od17_76) hr)
theorem own_add_1_2 (l : Launch) (Z : State) (a0 : Array Value) (hw : OWS a0 Z) (ws : List Jvm.Cond) (cz : Int32) (o b pb : Addr) (kb kp : ClassId) (tb hs : List Int32) (sz x0 : Int32) (r t : Addr) (hv : Int32) (h0 : Heap) (O0 : Old Z Z.heap.size h0) (SC : Sta Z Z.heap "java/lang/String" "COMPACT_STRINGS" "Z" (.int cz)) (hcz : ¬ (cz = (0 : Int32))) (E0 : oE7 Z h0 o) (g0 : Z.heap.size ≤ o) (gb : Z.heap.size ≤ b) (bp : b ≠ pb) (F0 : oF2 Z h0 o (.ref b)) (F1 : oF3 Z h0 o (.int sz)) (F2 : oF4 Z h0 o (.ref pb)) (F3 : oF5 Z h0 o (.int 1)) (F4 : oF6 Z h0 o (.int 1)) (AT : Arv Z h0 b kb .int (16 : Int32) (tb.map Value.int) (.int 0)) (AP : Arv Z h0 pb kp .int (1 : Int32) [(.int x0)] (.int 0)) (H : OwnHold tb hs) (hl : hs.length < 6) (hz : OwnSz sz hs.length) (nx0 : x0 ≠ 0) (gp : Z.heap.size ≤ pb) (B : OwnStr Z h0 r t hv) (v1 : r ≠ o) (v2 : r ≠ b) (v3 : r ≠ pb) (v4 : t ≠ o) (v5 : t ≠ b) (v6 : t ≠ pb) :
  ownMet l oM23 prog_107_method_3_code 2 none ws (oR 6 2 12 130) Z #[(.ref o), (.ref r)] h0 (fun v h L => ∃ pb' : Addr, v = none ∧ Fr Z.heap.size L ∧ Keep h0 h [o, b, pb, r] ∧ (pb' = pb ∨ h0.size ≤ pb') ∧ Z.heap.size ≤ pb' ∧ OwnRepL Z h o b pb' ((hs ++ [x0]) ++ [own_hd hv])) := by
 refine own_met (plainFor_of_name oP59) ?_
 intro p e s m below meth c s₁ hx hby hml hown hnm hret hlk hZ e0 X0
 refine own_cast (show _ = (mkF m 0 #[.val (.ref o), .val (.ref r)] []) by first | (simp [entryFrame, mkF, argsToLocals, Value.category]; done) | rfl) ?_
 refine oaloadN X0 hx hby od17_0 rfl (by rfl) 1 rfl ?_
 refine ogetF X0 hx hZ hown (host := "") (Or.inl (oW hw 80 rfl)) Via.refl e0 F3 rfl hby od17_1 4 rfl fun T1 X1 e1 => ?_
 refine oaloadN X1 hx hby od17_4 rfl (by rfl) 5 rfl ?_
 refine ogetF X1 hx hZ hown (host := "") (Or.inl (oW hw 71 rfl)) Via.refl e1 F2 rfl hby od17_5 8 rfl fun T2 X2 e2 => ?_
 obtain ⟨cl3, q3a, q3b, q3c, q3d, q3e, q3f⟩ := id AP
 refine own_st (T2.setTop (mkF m 9 #[.val (.ref o), .val (.ref r)] [(.int 1), (.int 1)])) (fun tq kq => X2.arraylength hx (by rw [e2]; exact q3a.1) (State.isArrayOf_alike hZ.alike q3a.2.1) (g := (mkF m 8 #[.val (.ref o), .val (.ref r)] [(.ref pb), (.int 1)])) rfl rfl (hb hby od17_8) tq (by rw [len_of q3c q3d]; exact kq)) ?_
 refine oicmpNo X2 hx hby od17_9 rfl (teq ((by decide) : (1 : Int32) = (1 : Int32))).2 12 rfl ?_
 refine oaloadN X2 hx hby od17_12 rfl (by rfl) 13 rfl ?_
 refine ogetF X2 hx hZ hown (host := "") (Or.inl (oW hw 71 rfl)) Via.refl e2 F2 rfl hby od17_13 16 rfl fun T4 X4 e4 => ?_
 obtain ⟨cl5, q5a, q5b, q5c, q5d, q5e, q5f⟩ := id AP
 refine own_st (T4.setTop (mkF m 17 #[.val (.ref o), .val (.ref r)] [(.int 1)])) (fun tq kq => X4.arraylength hx (by rw [e4]; exact q5a.1) (State.isArrayOf_alike hZ.alike q5a.2.1) (g := (mkF m 16 #[.val (.ref o), .val (.ref r)] [(.ref pb)])) rfl rfl (hb hby od17_16) tq (by rw [len_of q5c q5d]; exact kq)) ?_
 refine oaloadN X4 hx hby od17_17 rfl (by rfl) 18 rfl ?_
 refine ogetF X4 hx hZ hown (host := "") (Or.inl (oW hw 73 rfl)) Via.refl e4 F4 rfl hby od17_18 21 rfl fun T6 X6 e6 => ?_
 refine oicmpYes X6 hx hby od17_21 rfl (flt ((by decide) : ¬ ((1 : Int32) < (1 : Int32)))).2.1 52 (by decide) (by decide) ?_
 refine oaloadN X6 hx hby od17_52 rfl (by rfl) 53 rfl ?_
 obtain ⟨v7, T7, L7, X7, q7, st7⟩ := own_callP X6 hx hZ hown (y := oM8) (oW hw 107 rfl) (oW hw 109 rfl) (own_nf22 hw) (oW hw 108 rfl) (oW hw 63 rfl) (oW hw 110 rfl) E0 (b := o) (argsL := []) (own_settle_1_1 l Z a0 hw [] o b pb kb kp tb hs sz (1 : Int32) x0 h0 O0 E0 g0 gb bp F0 F1 F2 F3 F4 AT AP H (by omega) hz nx0) 0 (by decide) (by decide) (by decide) (by decide) (by decide) e6 (g := (mkF m 53 #[.val (.ref o), .val (.ref r)] [(.ref o)])) rfl (by rw [hml]; rfl) [] (lenOf oP123 rfl) rfl (by show 2 * 0 + _ ≤ _; exact Nat.le_of_eq rfl) (hb hby od17_53)
 obtain ⟨rfl, N7q, K7q, f7a, f7b, f7c, f7d, f7e, sz7, f7f, hz7⟩ := q7
 have N7 := Fr.app (Fr.nil _) N7q
 have f8 := (E0.keep K7q)
 have f15 := (AP.keep K7q (ninS (Ne.symm (Exa.neArv E0 AP (oW hw 62 rfl))) (ninS (Ne.symm bp) nin0)))
 have f16 := (B.keep K7q (ninS v1 (ninS v2 nin0)) (ninS v4 (ninS v5 nin0)))
 have O7 := O0.keep K7q (allS g0 (allS gb all0))
 have K7 := (Keep.refl h0 [o, b, pb, r]).trans K7q (allS (Or.inl (List.mem_of_getElem? (i := 0) rfl)) (allS (Or.inl (List.mem_of_getElem? (i := 1) rfl)) all0))
 refine own_st (T7.setTop (mkF m 56 #[.val (.ref o), .val (.ref r)] [])) st7 ?_
 refine oaloadN X7 hx hby od17_56 rfl (by rfl) 57 rfl ?_
 refine ogetF X7 hx hZ hown (host := "") (Or.inl (oW hw 71 rfl)) Via.refl rfl f7b rfl hby od17_57 60 rfl fun T17 X17 e17 => ?_
 refine oaloadN X17 hx hby od17_60 rfl (by rfl) 61 rfl ?_
 refine odup X17 hx hby od17_61 rfl (by rfl) 62 rfl ?_
 refine ogetF X17 hx hZ hown (host := "") (Or.inl (oW hw 80 rfl)) Via.refl e17 f7c rfl hby od17_62 65 rfl fun T18 X18 e18 => ?_
 refine own_st (T18.setTop (mkF m 66 #[.val (.ref o), .val (.ref r)] [(.int 0), (.ref o), (.int 0), (.ref pb)])) (fun tq kq => XS.dupX1 X18.here hx rfl (hb hby od17_65) rfl (by rfl) (by rfl) kq) ?_
 refine oiconst X18 hx hby od17_66 (1 : Int32) rfl 67 rfl ?_
 refine oiadd X18 hx hby od17_67 rfl (1 : Int32) rfl 68 rfl ?_
 obtain ⟨T19, h19, X19, e19, W19, st19⟩ := putF X18 hx hZ hown (host := "") (Or.inl (oW hw 80 rfl)) Via.refl e18 f7c f8 (Or.inl (oW hw 81 rfl)) (oW hw 62 rfl) (ty := .int) (by decide) (by rfl) (by rfl) (g := (mkF m 68 #[.val (.ref o), .val (.ref r)] [(.int 1), (.ref o), (.int 0), (.ref pb)])) rfl rfl (hb hby od17_68)
 have N19 := Fr.snoc X19 N7 g0
 have O19 := O7.wr W19 g0
 have K19 := K7.wr W19 (Or.inl (List.mem_of_getElem? (i := 0) rfl))
 have f20 := (f8.wr W19)
 have f21 := (f15.other W19 (Ne.symm (Exa.neArv f8 f15 (oW hw 62 rfl))))
 have f22 := (f16.other W19 v1 v4)
 have f23 := (f7e.other W19 (Ne.symm (Exa.neArv f8 f7e (oW hw 62 rfl))))
 have f24 := (f7a.other W19 (Or.inr (slot_ne (Or.inl (oW hw 70 rfl)) (Or.inl (oW hw 81 rfl)) (by decide) (t := (.array .int)) (t' := .int) (by decide) (by decide))))
 have f25 := (f7b.other W19 (Or.inr (slot_ne (Or.inl (oW hw 72 rfl)) (Or.inl (oW hw 81 rfl)) (by decide) (t := (.array .int)) (t' := .int) (by decide) (by decide))))
 have f27 := (f7d.other W19 (Or.inr (slot_ne (Or.inr (oW hw 74 rfl)) (Or.inl (oW hw 81 rfl)) (by decide) (t := .int) (t' := .int) (by decide) (by decide))))
 have f28 := (f7f.other W19 (Or.inr (slot_ne (Or.inl (oW hw 121 rfl)) (Or.inl (oW hw 81 rfl)) (by decide) (t := .int) (t' := .int) (by decide) (by decide))))
 have f29 := (f7c.same W19)
 refine own_st (T19.setTop (mkF m 71 #[.val (.ref o), .val (.ref r)] [(.int 0), (.ref pb)])) st19 ?_
 refine oaloadN X19 hx hby od17_71 rfl (by rfl) 72 rfl ?_
 obtain ⟨v30, T30, L30, X30, q30, st30⟩ := own_callS X19 hx hZ hown (oW hw 87 rfl) (oW hw 88 rfl) (oW hw 63 rfl) (oW hw 89 rfl) (argsL := [(.ref r)]) (own_heldR l Z a0 hw [] cz r t hv h19 O19 SC hcz f22) 2 (by decide) (by decide) (by decide) (by decide) (by decide) e19 (g := (mkF m 72 #[.val (.ref o), .val (.ref r)] [(.ref r), (.int 0), (.ref pb)])) rfl (by rw [hml]; rfl) [(.int 0), (.ref pb)] (lenOf oP281 rfl) rfl (by show 2 * 0 + _ ≤ _; exact Nat.le_of_eq rfl) (hb hby od17_72)
 obtain ⟨rfl, N30q, K30q⟩ := q30
 have N30 := Fr.app N19 N30q
 have f31 := (f20.keep K30q)
 have f32 := (f21.keep K30q (ninS (Ne.symm v3) nin0))
 have f34 := (f23.keep K30q (ninS (Ne.symm v2) nin0))
 have f35 := (f24.keep K30q (ninS (Ne.symm v1) nin0))
 have f36 := (f25.keep K30q (ninS (Ne.symm v1) nin0))
 have f37 := (f29.keep K30q (ninS (Ne.symm v1) nin0))
 have f38 := (f27.keep K30q (ninS (Ne.symm v1) nin0))
 have f39 := (f28.keep K30q (ninS (Ne.symm v1) nin0))
 have O30 := O19.keep K30q (allS B.2.1 all0)
 have K30 := K19.trans K30q (allS (Or.inl (List.mem_of_getElem? (i := 3) rfl)) all0)
 refine own_st (T30.setTop (mkF m 75 #[.val (.ref o), .val (.ref r)] [(.int (own_hd hv)), (.int 0), (.ref pb)])) st30 ?_
 obtain ⟨cl40, q40a, q40b, q40c, q40d, q40e, q40f⟩ := id f32
 obtain ⟨T41, h41, X41, e41, W41, st41⟩ := stI X30 hx hZ rfl q40a (j := (0 : Int32)) (inb_of q40c ⟨by decide, by decide⟩) (g := (mkF m 75 #[.val (.ref o), .val (.ref r)] [(.int (own_hd hv)), (.int 0), (.ref pb)])) rfl rfl (hb hby od17_75)
 have N41 := Fr.snoc X41 N30 gp
 have O41 := O30.wr W41 gp
 have K41 := K30.wr W41 (Or.inl (List.mem_of_getElem? (i := 2) rfl))
 have f42 := (f31.wr W41)
 have f44 := (f34.other W41 bp)
 have f45 := (f35.other W41 (Or.inl (Exa.neArv f31 f32 (oW hw 62 rfl))))
 have f46 := (f36.other W41 (Or.inl (Exa.neArv f31 f32 (oW hw 62 rfl))))
 have f47 := (f37.other W41 (Or.inl (Exa.neArv f31 f32 (oW hw 62 rfl))))
 have f48 := (f38.other W41 (Or.inl (Exa.neArv f31 f32 (oW hw 62 rfl))))
 have f49 := (f39.other W41 (Or.inl (Exa.neArv f31 f32 (oW hw 62 rfl))))
 have f50 : Arv Z h41 pb kp .int (1 : Int32) [(.int (own_hd hv))] (.int 0) := Arv.set q40a q40b q40c q40d q40e q40f rfl W41 0 (by decide) (show 0 < 1 by decide)
 refine own_st (T41.setTop (mkF m 76 #[.val (.ref o), .val (.ref r)] [])) st41 ?_
 exact own_ret X41 hlk (v := none) (fun _ => rfl) e41 (⟨_, rfl, N41, K41, Or.inl rfl, gp, ⟨kb, _, _, _, _, _, f42, g0, gb, bp, f45, f49, f46, f48, f44, (OwnHold.ins H (by omega) nx0), OwnSz.mono hz7 (by first | omega | (simp only [List.length_append, List.length_cons, List.length_nil]; omega)), Or.inr (Or.inl ⟨_, f47, f50, own_hd0 _, rfl⟩)⟩, f50.lt⟩) (by decide) (by decide) (fun fs hr => X41.returnOut hx hret (hb hby od17_76) hr)
theorem own_add_2_0 (l : Launch) (Z : State) (a0 : Array Value) (hw : OWS a0 Z) (ws : List Jvm.Cond) (cz : Int32) (o b pb : Addr) (kb kp : ClassId) (tb hs : List Int32) (sz x0 : Int32) (r t : Addr) (hv : Int32) (h0 : Heap) (O0 : Old Z Z.heap.size h0) (SC : Sta Z Z.heap "java/lang/String" "COMPACT_STRINGS" "Z" (.int cz)) (hcz : ¬ (cz = (0 : Int32))) (E0 : oE7 Z h0 o) (g0 : Z.heap.size ≤ o) (gb : Z.heap.size ≤ b) (bp : b ≠ pb) (F0 : oF2 Z h0 o (.ref b)) (F1 : oF3 Z h0 o (.int sz)) (F2 : oF4 Z h0 o (.ref pb)) (F3 : oF5 Z h0 o (.int 0)) (F4 : oF6 Z h0 o (.int 2)) (AT : Arv Z h0 b kb .int (16 : Int32) (tb.map Value.int) (.int 0)) (AP : Arv Z h0 pb kp .int (1 : Int32) [(.int x0)] (.int 0)) (H : OwnHold tb hs) (hl : hs.length < 6) (hz : OwnSz sz hs.length) (gp : Z.heap.size ≤ pb) (B : OwnStr Z h0 r t hv) (v1 : r ≠ o) (v2 : r ≠ b) (v3 : r ≠ pb) (v4 : t ≠ o) (v5 : t ≠ b) (v6 : t ≠ pb) :
  ownMet l oM23 prog_107_method_3_code 2 none ws (oR 6 2 12 130) Z #[(.ref o), (.ref r)] h0 (fun v h L => ∃ pb' : Addr, v = none ∧ Fr Z.heap.size L ∧ Keep h0 h [o, b, pb, r] ∧ (pb' = pb ∨ h0.size ≤ pb') ∧ Z.heap.size ≤ pb' ∧ OwnStage Z h o b pb' 1 (hs ++ [own_hd hv])) := by
 refine own_met (plainFor_of_name oP59) ?_
 intro p e s m below meth c s₁ hx hby hml hown hnm hret hlk hZ e0 X0
 refine own_cast (show _ = (mkF m 0 #[.val (.ref o), .val (.ref r)] []) by first | (simp [entryFrame, mkF, argsToLocals, Value.category]; done) | rfl) ?_
 refine oaloadN X0 hx hby od17_0 rfl (by rfl) 1 rfl ?_
 refine ogetF X0 hx hZ hown (host := "") (Or.inl (oW hw 80 rfl)) Via.refl e0 F3 rfl hby od17_1 4 rfl fun T1 X1 e1 => ?_
 refine oaloadN X1 hx hby od17_4 rfl (by rfl) 5 rfl ?_
 refine ogetF X1 hx hZ hown (host := "") (Or.inl (oW hw 71 rfl)) Via.refl e1 F2 rfl hby od17_5 8 rfl fun T2 X2 e2 => ?_
 obtain ⟨cl3, q3a, q3b, q3c, q3d, q3e, q3f⟩ := id AP
 refine own_st (T2.setTop (mkF m 9 #[.val (.ref o), .val (.ref r)] [(.int 1), (.int 0)])) (fun tq kq => X2.arraylength hx (by rw [e2]; exact q3a.1) (State.isArrayOf_alike hZ.alike q3a.2.1) (g := (mkF m 8 #[.val (.ref o), .val (.ref r)] [(.ref pb), (.int 0)])) rfl rfl (hb hby od17_8) tq (by rw [len_of q3c q3d]; exact kq)) ?_
 refine oicmpYes X2 hx hby od17_9 rfl (feq ((by decide) : ¬ ((0 : Int32) = (1 : Int32)))).2 56 (by decide) (by decide) ?_
 refine oaloadN X2 hx hby od17_56 rfl (by rfl) 57 rfl ?_
 refine ogetF X2 hx hZ hown (host := "") (Or.inl (oW hw 71 rfl)) Via.refl e2 F2 rfl hby od17_57 60 rfl fun T4 X4 e4 => ?_
 refine oaloadN X4 hx hby od17_60 rfl (by rfl) 61 rfl ?_
 refine odup X4 hx hby od17_61 rfl (by rfl) 62 rfl ?_
 refine ogetF X4 hx hZ hown (host := "") (Or.inl (oW hw 80 rfl)) Via.refl e4 F3 rfl hby od17_62 65 rfl fun T5 X5 e5 => ?_
 refine own_st (T5.setTop (mkF m 66 #[.val (.ref o), .val (.ref r)] [(.int 0), (.ref o), (.int 0), (.ref pb)])) (fun tq kq => XS.dupX1 X5.here hx rfl (hb hby od17_65) rfl (by rfl) (by rfl) kq) ?_
 refine oiconst X5 hx hby od17_66 (1 : Int32) rfl 67 rfl ?_
 refine oiadd X5 hx hby od17_67 rfl (1 : Int32) rfl 68 rfl ?_
 obtain ⟨T6, h6, X6, e6, W6, st6⟩ := putF X5 hx hZ hown (host := "") (Or.inl (oW hw 80 rfl)) Via.refl e5 F3 E0 (Or.inl (oW hw 81 rfl)) (oW hw 62 rfl) (ty := .int) (by decide) (by rfl) (by rfl) (g := (mkF m 68 #[.val (.ref o), .val (.ref r)] [(.int 1), (.ref o), (.int 0), (.ref pb)])) rfl rfl (hb hby od17_68)
 have N6 := Fr.snoc X6 (Fr.nil _) g0
 have O6 := O0.wr W6 g0
 have K6 := (Keep.refl h0 [o, b, pb, r]).wr W6 (Or.inl (List.mem_of_getElem? (i := 0) rfl))
 have f7 := (E0.wr W6)
 have f8 := (F0.other W6 (Or.inr (slot_ne (Or.inl (oW hw 70 rfl)) (Or.inl (oW hw 81 rfl)) (by decide) (t := (.array .int)) (t' := .int) (by decide) (by decide))))
 have f9 := (F1.other W6 (Or.inr (slot_ne (Or.inl (oW hw 121 rfl)) (Or.inl (oW hw 81 rfl)) (by decide) (t := .int) (t' := .int) (by decide) (by decide))))
 have f10 := (F2.other W6 (Or.inr (slot_ne (Or.inl (oW hw 72 rfl)) (Or.inl (oW hw 81 rfl)) (by decide) (t := (.array .int)) (t' := .int) (by decide) (by decide))))
 have f12 := (F4.other W6 (Or.inr (slot_ne (Or.inr (oW hw 74 rfl)) (Or.inl (oW hw 81 rfl)) (by decide) (t := .int) (t' := .int) (by decide) (by decide))))
 have f13 := (AT.other W6 (Ne.symm (Exa.neArv E0 AT (oW hw 62 rfl))))
 have f14 := (AP.other W6 (Ne.symm (Exa.neArv E0 AP (oW hw 62 rfl))))
 have f15 := (B.other W6 v1 v4)
 have f16 := (F3.same W6)
 refine own_st (T6.setTop (mkF m 71 #[.val (.ref o), .val (.ref r)] [(.int 0), (.ref pb)])) st6 ?_
 refine oaloadN X6 hx hby od17_71 rfl (by rfl) 72 rfl ?_
 obtain ⟨v17, T17, L17, X17, q17, st17⟩ := own_callS X6 hx hZ hown (oW hw 87 rfl) (oW hw 88 rfl) (oW hw 63 rfl) (oW hw 89 rfl) (argsL := [(.ref r)]) (own_heldR l Z a0 hw [] cz r t hv h6 O6 SC hcz f15) 2 (by decide) (by decide) (by decide) (by decide) (by decide) e6 (g := (mkF m 72 #[.val (.ref o), .val (.ref r)] [(.ref r), (.int 0), (.ref pb)])) rfl (by rw [hml]; rfl) [(.int 0), (.ref pb)] (lenOf oP281 rfl) rfl (by show 2 * 0 + _ ≤ _; exact Nat.le_of_eq rfl) (hb hby od17_72)
 obtain ⟨rfl, N17q, K17q⟩ := q17
 have N17 := Fr.app N6 N17q
 have f18 := (f7.keep K17q)
 have f19 := (f8.keep K17q (ninS (Ne.symm v1) nin0))
 have f20 := (f9.keep K17q (ninS (Ne.symm v1) nin0))
 have f21 := (f10.keep K17q (ninS (Ne.symm v1) nin0))
 have f22 := (f16.keep K17q (ninS (Ne.symm v1) nin0))
 have f23 := (f12.keep K17q (ninS (Ne.symm v1) nin0))
 have f24 := (f13.keep K17q (ninS (Ne.symm v2) nin0))
 have f25 := (f14.keep K17q (ninS (Ne.symm v3) nin0))
 have O17 := O6.keep K17q (allS B.2.1 all0)
 have K17 := K6.trans K17q (allS (Or.inl (List.mem_of_getElem? (i := 3) rfl)) all0)
 refine own_st (T17.setTop (mkF m 75 #[.val (.ref o), .val (.ref r)] [(.int (own_hd hv)), (.int 0), (.ref pb)])) st17 ?_
 obtain ⟨cl27, q27a, q27b, q27c, q27d, q27e, q27f⟩ := id f25
 obtain ⟨T28, h28, X28, e28, W28, st28⟩ := stI X17 hx hZ rfl q27a (j := (0 : Int32)) (inb_of q27c ⟨by decide, by decide⟩) (g := (mkF m 75 #[.val (.ref o), .val (.ref r)] [(.int (own_hd hv)), (.int 0), (.ref pb)])) rfl rfl (hb hby od17_75)
 have N28 := Fr.snoc X28 N17 gp
 have O28 := O17.wr W28 gp
 have K28 := K17.wr W28 (Or.inl (List.mem_of_getElem? (i := 2) rfl))
 have f29 := (f18.wr W28)
 have f30 := (f19.other W28 (Or.inl (Exa.neArv f18 f25 (oW hw 62 rfl))))
 have f31 := (f20.other W28 (Or.inl (Exa.neArv f18 f25 (oW hw 62 rfl))))
 have f32 := (f21.other W28 (Or.inl (Exa.neArv f18 f25 (oW hw 62 rfl))))
 have f33 := (f22.other W28 (Or.inl (Exa.neArv f18 f25 (oW hw 62 rfl))))
 have f34 := (f23.other W28 (Or.inl (Exa.neArv f18 f25 (oW hw 62 rfl))))
 have f35 := (f24.other W28 bp)
 have f37 : Arv Z h28 pb kp .int (1 : Int32) [(.int (own_hd hv))] (.int 0) := Arv.set q27a q27b q27c q27d q27e q27f rfl W28 0 (by decide) (show 0 < 1 by decide)
 refine own_st (T28.setTop (mkF m 76 #[.val (.ref o), .val (.ref r)] [])) st28 ?_
 exact own_ret X28 hlk (v := none) (fun _ => rfl) e28 (⟨_, rfl, N28, K28, Or.inl rfl, gp, kb, _, _, _, _, _, f29, g0, gb, gp, bp, f30, f31, f32, f34, f35, H, OwnSz.mono hz (by first | omega | (simp only [List.length_append, List.length_cons, List.length_nil]; omega)), ⟨Or.inr (Or.inl rfl), _, f33, f37, own_hd0 _, rfl⟩⟩) (by decide) (by decide) (fun fs hr => X28.returnOut hx hret (hb hby od17_76) hr)
theorem od17_24 : decode prog_107_method_3_code 24 = .ok (.aload_n 0, 1) := by decide +kernel
theorem od17_25 : decode prog_107_method_3_code 25 = .ok (.aload_n 0, 1) := by decide +kernel
theorem od17_26 : decode prog_107_method_3_code 26 = .ok (.getfield 17, 3) := by decide +kernel
theorem od17_29 : decode prog_107_method_3_code 29 = .ok (.aload_n 0, 1) := by decide +kernel
theorem od17_30 : decode prog_107_method_3_code 30 = .ok (.getfield 17, 3) := by decide +kernel
theorem od17_33 : decode prog_107_method_3_code 33 = .ok (.arraylength, 1) := by decide +kernel
theorem od17_34 : decode prog_107_method_3_code 34 = .ok (.iconst 2, 1) := by decide +kernel
theorem od17_35 : decode prog_107_method_3_code 35 = .ok (.imul, 1) := by decide +kernel
theorem od17_36 : decode prog_107_method_3_code 36 = .ok (.aload_n 0, 1) := by decide +kernel
theorem od17_37 : decode prog_107_method_3_code 37 = .ok (.getfield 29, 3) := by decide +kernel
theorem od28_0 : decode jdk_29_method_69_code 0 = .ok (.iload_n 0, 1) := by decide +kernel
theorem od28_1 : decode jdk_29_method_69_code 1 = .ok (.iload_n 1, 1) := by decide +kernel
theorem od28_2 : decode jdk_29_method_69_code 2 = .ok (.if_icmp .gt 7, 3) := by decide +kernel
theorem od28_5 : decode jdk_29_method_69_code 5 = .ok (.iload_n 0, 1) := by decide +kernel
theorem od28_6 : decode jdk_29_method_69_code 6 = .ok (.goto 4, 3) := by decide +kernel
theorem od28_10 : decode jdk_29_method_69_code 10 = .ok (.ireturn, 1) := by decide +kernel
theorem own_au13_min (l : Launch) (Z : State) (a0 : Array Value) (hw : OWS a0 Z) (ws : List Jvm.Cond)  (h0 : Heap) (O0 : Old Z Z.heap.size h0) :
  ownMet l oM24 jdk_29_method_69_code 2 (some .int) ws (oR 0 0 0 0) Z #[(.int 2), (.int 2)] h0 (fun v h L => v = some (.int 2) ∧ Fr Z.heap.size L ∧ h = h0) := by
 refine own_met (Jvm.Free.JP.mathPlain rfl (by decide +kernel)) ?_
 intro p e s m below meth c s₁ hx hby hml hown hnm hret hlk hZ e0 X0
 refine own_cast (show _ = (mkF m 0 #[.val (.int 2), .val (.int 2)] []) by first | (simp [entryFrame, mkF, argsToLocals, Value.category]; done) | rfl) ?_
 refine oiloadN X0 hx hby od28_0 rfl 1 rfl ?_
 refine oiloadN X0 hx hby od28_1 rfl 2 rfl ?_
 refine oicmpNo X0 hx hby od28_2 rfl (flt ((by decide) : ¬ ((2 : Int32) < (2 : Int32)))).2.2.1 5 rfl ?_
 refine oiloadN X0 hx hby od28_5 rfl 6 rfl ?_
 refine ogoto X0 hx hby od28_6 10 (by decide) (by decide) ?_
 exact own_ret X0 hlk (v := some (.int 2)) (fun h => by rw [hret] at h; cases h) e0 (⟨rfl, (Fr.nil _), rfl⟩) (by decide) (by decide) (fun fs hr => retI X0 hx hret (hb hby od28_10) hr)
theorem oP309 : parseMethodDescriptor "(II)I" = some ⟨[.int, .int], some .int⟩ := by decide +kernel
theorem od17_40 : decode prog_107_method_3_code 40 = .ok (.invokestatic 36, 3) := by decide +kernel
theorem od29_0 : decode jdk_65_method_123_code 0 = .ok (.iload_n 1, 1) := by decide +kernel
theorem od29_1 : decode jdk_65_method_123_code 1 = .ok (.aload_n 0, 1) := by decide +kernel
theorem od29_2 : decode jdk_65_method_123_code 2 = .ok (.arraylength, 1) := by decide +kernel
theorem od29_3 : decode jdk_65_method_123_code 3 = .ok (.if_icmp .ne 11, 3) := by decide +kernel
theorem od29_14 : decode jdk_65_method_123_code 14 = .ok (.iload_n 1, 1) := by decide +kernel
theorem od29_15 : decode jdk_65_method_123_code 15 = .ok (.newarray .int, 2) := by decide +kernel
theorem od29_17 : decode jdk_65_method_123_code 17 = .ok (.astore_n 2, 1) := by decide +kernel
theorem od29_18 : decode jdk_65_method_123_code 18 = .ok (.aload_n 0, 1) := by decide +kernel
theorem od29_19 : decode jdk_65_method_123_code 19 = .ok (.iconst 0, 1) := by decide +kernel
theorem od29_20 : decode jdk_65_method_123_code 20 = .ok (.aload_n 2, 1) := by decide +kernel
theorem od29_21 : decode jdk_65_method_123_code 21 = .ok (.iconst 0, 1) := by decide +kernel
theorem od29_22 : decode jdk_65_method_123_code 22 = .ok (.aload_n 0, 1) := by decide +kernel
theorem od29_23 : decode jdk_65_method_123_code 23 = .ok (.arraylength, 1) := by decide +kernel
theorem od29_24 : decode jdk_65_method_123_code 24 = .ok (.iload_n 1, 1) := by decide +kernel
theorem own_au15_min (l : Launch) (Z : State) (a0 : Array Value) (hw : OWS a0 Z) (ws : List Jvm.Cond)  (h0 : Heap) (O0 : Old Z Z.heap.size h0) :
  ownMet l oM24 jdk_29_method_69_code 2 (some .int) ws (oR 0 0 0 0) Z #[(.int 1), (.int 2)] h0 (fun v h L => v = some (.int 1) ∧ Fr Z.heap.size L ∧ h = h0) := by
 refine own_met (Jvm.Free.JP.mathPlain rfl (by decide +kernel)) ?_
 intro p e s m below meth c s₁ hx hby hml hown hnm hret hlk hZ e0 X0
 refine own_cast (show _ = (mkF m 0 #[.val (.int 1), .val (.int 2)] []) by first | (simp [entryFrame, mkF, argsToLocals, Value.category]; done) | rfl) ?_
 refine oiloadN X0 hx hby od28_0 rfl 1 rfl ?_
 refine oiloadN X0 hx hby od28_1 rfl 2 rfl ?_
 refine oicmpNo X0 hx hby od28_2 rfl (flt ((by decide) : ¬ ((2 : Int32) < (1 : Int32)))).2.2.1 5 rfl ?_
 refine oiloadN X0 hx hby od28_5 rfl 6 rfl ?_
 refine ogoto X0 hx hby od28_6 10 (by decide) (by decide) ?_
 exact own_ret X0 hlk (v := some (.int 1)) (fun h => by rw [hret] at h; cases h) e0 (⟨rfl, (Fr.nil _), rfl⟩) (by decide) (by decide) (fun fs hr => retI X0 hx hret (hb hby od28_10) hr)
theorem od29_25 : decode jdk_65_method_123_code 25 = .ok (.invokestatic 304, 3) := by decide +kernel
theorem od29_28 : decode jdk_65_method_123_code 28 = .ok (.invokestatic 150, 3) := by decide +kernel
theorem od29_31 : decode jdk_65_method_123_code 31 = .ok (.aload_n 2, 1) := by decide +kernel
theorem od29_32 : decode jdk_65_method_123_code 32 = .ok (.areturn, 1) := by decide +kernel
theorem oP329 : plainName "java/util/Arrays" = true := by first | (simp [plainName, overriddenIn]; done) | decide +kernel
theorem own_au14_copyOf (l : Launch) (Z : State) (a0 : Array Value) (hw : OWS a0 Z) (ws : List Jvm.Cond) (ad0 : Addr) (iv0 : Int32) (kc0 : ClassId) (h0 : Heap) (O0 : Old Z Z.heap.size h0) (P0 : Arv Z h0 ad0 kc0 .int (1 : Int32) [(.int iv0)] (.int 0)) (G_ad0 : Z.heap.size ≤ ad0) :
  ownMet l oM25 jdk_65_method_123_code 3 (some (.array .int)) ws (oR 1 1 2 18) Z #[(.ref ad0), (.int 2)] h0 (fun v h L => ∃ (b2 : Addr) (cA2 : ClassId), v = some (.ref b2) ∧ Fr Z.heap.size L ∧ Keep h0 h [] ∧ Z.heap.size ≤ b2 ∧ h0.size ≤ b2 ∧ oE26 Z h b2 ∧ Arv Z h b2 cA2 .int (2 : Int32) [(.int iv0), (.int 0)] (.int 0)) := by
 refine own_met (plainFor_of_name oP329) ?_
 intro p e s m below meth c s₁ hx hby hml hown hnm hret hlk hZ e0 X0
 refine own_cast (show _ = (mkF m 0 #[.val (.ref ad0), .val (.int 2), .unset] []) by first | (simp [entryFrame, mkF, argsToLocals, Value.category]; done) | rfl) ?_
 refine oiloadN X0 hx hby od29_0 rfl 1 rfl ?_
 refine oaloadN X0 hx hby od29_1 rfl (by rfl) 2 rfl ?_
 obtain ⟨cl1, q1a, q1b, q1c, q1d, q1e, q1f⟩ := id P0
 let La144 : Array Slot := #[rv ad0, .val (.int 2), .unset]
 refine own_st (s₁.setTop (mkF m 3 La144 [(.int 1), (.int 2)])) (fun tq kq => X0.arraylength hx (by rw [e0]; exact q1a.1) (State.isArrayOf_alike hZ.alike q1a.2.1) (g := (mkF m 2 La144 [(.ref ad0), (.int 2)])) rfl rfl (hb hby od29_2) tq (by rw [len_of q1c q1d]; exact kq)) ?_
 refine oicmpYes X0 hx hby od29_3 rfl (feq ((by decide) : ¬ ((2 : Int32) = (1 : Int32)))).2 14 (by decide) (by decide) ?_
 refine oiloadN X0 hx hby od29_14 rfl 15 rfl ?_
 obtain ⟨T2, h2, cA2, X2, e2, E2, A2, D2, st2⟩ := newPE X0 hx hZ (oW hw 68 rfl) e0 (g := (mkF m 15 La144 [(.int 2)])) rfl (hb hby od29_15) rfl (by decide) (cap := 2) (by decide) (by decide) (by decide) (by decide) (ad := "[I") (by decide)
 obtain ⟨b2, g2⟩ : ∃ z, z = h0.size := ⟨_, rfl⟩
 have z2 : Z.heap.size ≤ b2 := Nat.le_trans O0.2.1 (Nat.le_of_eq g2.symm)
 have nead0_2 : ad0 ≠ b2 := Nat.ne_of_lt (Nat.lt_of_lt_of_le P0.lt (Nat.le_of_eq g2.symm))
 have s2 : h0.size ≤ b2 := Nat.le_trans (Keep.refl h0 []).1 (Nat.le_of_eq g2.symm)
 rw [← g2] at A2 D2 st2
 have f3 := (P0.ext E2)
 have O2 := O0.ext E2
 have K2 := (Keep.refl h0 []).ext E2
 have f4 : Arv Z h2 b2 cA2 .int (2 : Int32) [(.int 0), (.int 0)] (.int 0) := (Arv.new A2 (by decide)).pad (pad_rep [] (.int 0) 2)
 refine own_st (T2.setTop (mkF m 17 La144 [(.ref b2)])) st2 ?_
 let La145 : Array Slot := #[rv ad0, .val (.int 2), rv b2]
 refine oastoreN X2 hx hby od29_17 rfl (by rfl) (L' := La145) rfl 18 rfl ?_
 refine oaloadN X2 hx hby od29_18 rfl (by rfl) 19 rfl ?_
 refine oiconst X2 hx hby od29_19 (0 : Int32) rfl 20 rfl ?_
 refine oaloadN X2 hx hby od29_20 rfl (by rfl) 21 rfl ?_
 refine oiconst X2 hx hby od29_21 (0 : Int32) rfl 22 rfl ?_
 refine oaloadN X2 hx hby od29_22 rfl (by rfl) 23 rfl ?_
 obtain ⟨cl5, q5a, q5b, q5c, q5d, q5e, q5f⟩ := id f3
 refine own_st (T2.setTop (mkF m 24 La145 [(.int 1), (.int 0), (.ref b2), (.int 0), (.ref ad0)])) (fun tq kq => X2.arraylength hx (by rw [e2]; exact q5a.1) (State.isArrayOf_alike hZ.alike q5a.2.1) (g := (mkF m 23 La145 [(.ref ad0), (.int 0), (.ref b2), (.int 0), (.ref ad0)])) rfl rfl (hb hby od29_23) tq (by rw [len_of q5c q5d]; exact kq)) ?_
 refine oiloadN X2 hx hby od29_24 rfl 25 rfl ?_
 obtain ⟨v6, T6, L6, X6, q6, st6⟩ := own_callS X2 hx hZ hown (oW hw 143 rfl) (oW hw 136 rfl) (oW hw 137 rfl) (oW hw 138 rfl) (argsL := [(.int 1), (.int 2)]) (own_au15_min l Z a0 hw []  h2 O2 ) 4 (by decide) (by decide) (by decide) (by decide) (by decide) e2 (g := (mkF m 25 La145 [(.int 2), (.int 1), (.int 0), (.ref b2), (.int 0), (.ref ad0)])) rfl (by rw [hml]; rfl) [(.int 0), (.ref b2), (.int 0), (.ref ad0)] (lenOf oP309 rfl) rfl (by show 2 * 0 + _ ≤ _; exact Nat.le_of_eq rfl) (hb hby od29_25)
 obtain ⟨rfl, N6q, e6⟩ := q6
 have N6 := Fr.app (Fr.nil _) N6q
 refine own_st (T6.setTop (mkF m 28 La145 [(.int 1), (.int 0), (.ref b2), (.int 0), (.ref ad0)])) st6 ?_
 obtain ⟨T7, h7, L7, X7, e7, N7, K7q, f7q, st7⟩ := cpA X6 hx hZ hown (oW hw 144 rfl) (oW hw 147 rfl) (oW hw 145 rfl) (oW hw 146 rfl) e6 f3 f4 (us := [(.int iv0)]) (Or.inl ⟨rfl, rfl⟩) (by decide) (by decide) (by decide) (by decide) (by decide) (by rfl) (Nat.le_of_ble_eq_true rfl) N6 z2 (g := (mkF m 28 La145 [(.int 1), (.int 0), (.ref b2), (.int 0), (.ref ad0)])) rfl (by rw [hml]; rfl) rfl (hb hby od29_28) (by decide) (W := 0) (by show 2 * 0 + _ ≤ _; exact Nat.le_of_eq rfl) (by decide)
 have f8 : Arv Z h7 b2 cA2 .int (2 : Int32) [(.int iv0), (.int 0)] (.int 0) := f7q
 have f9 := (f3.keep K7q (ninS nead0_2 nin0))
 have f10 := (D2.keep K7q)
 have O7 := O2.keep K7q (allS z2 all0)
 have K7 := K2.trans K7q (allS (Or.inr s2) all0)
 refine own_st (T7.setTop (mkF m 31 La145 [])) st7 ?_
 refine oaloadN X7 hx hby od29_31 rfl (by rfl) 32 rfl ?_
 exact own_ret X7 hlk (v := some (.ref b2)) (fun h => by rw [hret] at h; cases h) e7 (⟨_, _, rfl, N7, K7, z2, s2, f10, f8⟩) (by decide) (by decide) (fun fs hr => retOut X7 hx hret rfl (Or.inr (Or.inr (Or.inr (Or.inr ⟨rfl, rfl, rfl⟩)))) (hb hby od29_32) hr)
theorem oP330 : parseMethodDescriptor "([II)[I" = some ⟨[(.array .int), .int], some (.array .int)⟩ := by decide +kernel
theorem od17_43 : decode prog_107_method_3_code 43 = .ok (.invokestatic 42, 3) := by decide +kernel
theorem od17_46 : decode prog_107_method_3_code 46 = .ok (.putfield 17, 3) := by decide +kernel
theorem od17_49 : decode prog_107_method_3_code 49 = .ok (.goto 7, 3) := by decide +kernel
theorem own_add_2_1 (l : Launch) (Z : State) (a0 : Array Value) (hw : OWS a0 Z) (ws : List Jvm.Cond) (cz : Int32) (o b pb : Addr) (kb kp : ClassId) (tb hs : List Int32) (sz x0 : Int32) (r t : Addr) (hv : Int32) (h0 : Heap) (O0 : Old Z Z.heap.size h0) (SC : Sta Z Z.heap "java/lang/String" "COMPACT_STRINGS" "Z" (.int cz)) (hcz : ¬ (cz = (0 : Int32))) (E0 : oE7 Z h0 o) (g0 : Z.heap.size ≤ o) (gb : Z.heap.size ≤ b) (bp : b ≠ pb) (F0 : oF2 Z h0 o (.ref b)) (F1 : oF3 Z h0 o (.int sz)) (F2 : oF4 Z h0 o (.ref pb)) (F3 : oF5 Z h0 o (.int 1)) (F4 : oF6 Z h0 o (.int 2)) (AT : Arv Z h0 b kb .int (16 : Int32) (tb.map Value.int) (.int 0)) (AP : Arv Z h0 pb kp .int (1 : Int32) [(.int x0)] (.int 0)) (H : OwnHold tb hs) (hl : hs.length < 6) (hz : OwnSz sz hs.length) (nx0 : x0 ≠ 0) (gp : Z.heap.size ≤ pb) (B : OwnStr Z h0 r t hv) (v1 : r ≠ o) (v2 : r ≠ b) (v3 : r ≠ pb) (v4 : t ≠ o) (v5 : t ≠ b) (v6 : t ≠ pb) :
  ownMet l oM23 prog_107_method_3_code 2 none ws (oR 6 2 12 130) Z #[(.ref o), (.ref r)] h0 (fun v h L => ∃ pb' : Addr, v = none ∧ Fr Z.heap.size L ∧ Keep h0 h [o, b, pb, r] ∧ (pb' = pb ∨ h0.size ≤ pb') ∧ Z.heap.size ≤ pb' ∧ OwnStage Z h o b pb' 2 ((hs ++ [x0]) ++ [own_hd hv])) := by
 refine own_met (plainFor_of_name oP59) ?_
 intro p e s m below meth c s₁ hx hby hml hown hnm hret hlk hZ e0 X0
 refine own_cast (show _ = (mkF m 0 #[.val (.ref o), .val (.ref r)] []) by first | (simp [entryFrame, mkF, argsToLocals, Value.category]; done) | rfl) ?_
 refine oaloadN X0 hx hby od17_0 rfl (by rfl) 1 rfl ?_
 refine ogetF X0 hx hZ hown (host := "") (Or.inl (oW hw 80 rfl)) Via.refl e0 F3 rfl hby od17_1 4 rfl fun T1 X1 e1 => ?_
 refine oaloadN X1 hx hby od17_4 rfl (by rfl) 5 rfl ?_
 refine ogetF X1 hx hZ hown (host := "") (Or.inl (oW hw 71 rfl)) Via.refl e1 F2 rfl hby od17_5 8 rfl fun T2 X2 e2 => ?_
 obtain ⟨cl3, q3a, q3b, q3c, q3d, q3e, q3f⟩ := id AP
 refine own_st (T2.setTop (mkF m 9 #[.val (.ref o), .val (.ref r)] [(.int 1), (.int 1)])) (fun tq kq => X2.arraylength hx (by rw [e2]; exact q3a.1) (State.isArrayOf_alike hZ.alike q3a.2.1) (g := (mkF m 8 #[.val (.ref o), .val (.ref r)] [(.ref pb), (.int 1)])) rfl rfl (hb hby od17_8) tq (by rw [len_of q3c q3d]; exact kq)) ?_
 refine oicmpNo X2 hx hby od17_9 rfl (teq ((by decide) : (1 : Int32) = (1 : Int32))).2 12 rfl ?_
 refine oaloadN X2 hx hby od17_12 rfl (by rfl) 13 rfl ?_
 refine ogetF X2 hx hZ hown (host := "") (Or.inl (oW hw 71 rfl)) Via.refl e2 F2 rfl hby od17_13 16 rfl fun T4 X4 e4 => ?_
 obtain ⟨cl5, q5a, q5b, q5c, q5d, q5e, q5f⟩ := id AP
 refine own_st (T4.setTop (mkF m 17 #[.val (.ref o), .val (.ref r)] [(.int 1)])) (fun tq kq => X4.arraylength hx (by rw [e4]; exact q5a.1) (State.isArrayOf_alike hZ.alike q5a.2.1) (g := (mkF m 16 #[.val (.ref o), .val (.ref r)] [(.ref pb)])) rfl rfl (hb hby od17_16) tq (by rw [len_of q5c q5d]; exact kq)) ?_
 refine oaloadN X4 hx hby od17_17 rfl (by rfl) 18 rfl ?_
 refine ogetF X4 hx hZ hown (host := "") (Or.inl (oW hw 73 rfl)) Via.refl e4 F4 rfl hby od17_18 21 rfl fun T6 X6 e6 => ?_
 refine oicmpNo X6 hx hby od17_21 rfl (tlt ((by decide) : (1 : Int32) < (2 : Int32))).2.1 24 rfl ?_
 refine oaloadN X6 hx hby od17_24 rfl (by rfl) 25 rfl ?_
 refine oaloadN X6 hx hby od17_25 rfl (by rfl) 26 rfl ?_
 refine ogetF X6 hx hZ hown (host := "") (Or.inl (oW hw 71 rfl)) Via.refl e6 F2 rfl hby od17_26 29 rfl fun T7 X7 e7 => ?_
 refine oaloadN X7 hx hby od17_29 rfl (by rfl) 30 rfl ?_
 refine ogetF X7 hx hZ hown (host := "") (Or.inl (oW hw 71 rfl)) Via.refl e7 F2 rfl hby od17_30 33 rfl fun T8 X8 e8 => ?_
 obtain ⟨cl9, q9a, q9b, q9c, q9d, q9e, q9f⟩ := id AP
 refine own_st (T8.setTop (mkF m 34 #[.val (.ref o), .val (.ref r)] [(.int 1), (.ref pb), (.ref o)])) (fun tq kq => X8.arraylength hx (by rw [e8]; exact q9a.1) (State.isArrayOf_alike hZ.alike q9a.2.1) (g := (mkF m 33 #[.val (.ref o), .val (.ref r)] [(.ref pb), (.ref pb), (.ref o)])) rfl rfl (hb hby od17_33) tq (by rw [len_of q9c q9d]; exact kq)) ?_
 refine oiconst X8 hx hby od17_34 (2 : Int32) rfl 35 rfl ?_
 refine oimul X8 hx hby od17_35 rfl (2 : Int32) rfl 36 rfl ?_
 refine oaloadN X8 hx hby od17_36 rfl (by rfl) 37 rfl ?_
 refine ogetF X8 hx hZ hown (host := "") (Or.inl (oW hw 73 rfl)) Via.refl e8 F4 rfl hby od17_37 40 rfl fun T10 X10 e10 => ?_
 obtain ⟨v11, T11, L11, X11, q11, st11⟩ := own_callS X10 hx hZ hown (oW hw 135 rfl) (oW hw 136 rfl) (oW hw 137 rfl) (oW hw 138 rfl) (argsL := [(.int 2), (.int 2)]) (own_au13_min l Z a0 hw []  h0 O0 ) 2 (by decide) (by decide) (by decide) (by decide) (by decide) e10 (g := (mkF m 40 #[.val (.ref o), .val (.ref r)] [(.int 2), (.int 2), (.ref pb), (.ref o)])) rfl (by rw [hml]; rfl) [(.ref pb), (.ref o)] (lenOf oP309 rfl) rfl (by show 2 * 0 + _ ≤ _; exact Nat.le_of_eq rfl) (hb hby od17_40)
 obtain ⟨rfl, N11q, e11⟩ := q11
 have N11 := Fr.app (Fr.nil _) N11q
 refine own_st (T11.setTop (mkF m 43 #[.val (.ref o), .val (.ref r)] [(.int 2), (.ref pb), (.ref o)])) st11 ?_
 obtain ⟨v12, T12, L12, X12, q12, st12⟩ := own_callS X11 hx hZ hown (oW hw 139 rfl) (oW hw 140 rfl) (oW hw 141 rfl) (oW hw 142 rfl) (argsL := [(.ref pb), (.int 2)]) (own_au14_copyOf l Z a0 hw [] pb x0 kp h0 O0 AP gp) 1 (by decide) (by decide) (by decide) (by decide) (by decide) e11 (g := (mkF m 43 #[.val (.ref o), .val (.ref r)] [(.int 2), (.ref pb), (.ref o)])) rfl (by rw [hml]; rfl) [(.ref o)] (lenOf oP330 rfl) rfl (by show 2 * 0 + _ ≤ _; exact Nat.le_of_eq rfl) (hb hby od17_43)
 obtain ⟨b12_0, kb12_0, rfl, N12q, K12q, z12_0, s12_0q, f12_0, f12_1⟩ := q12
 have N12 := Fr.app N11 N12q
 have nf12_0_o : o ≠ b12_0 := Nat.ne_of_lt (Nat.lt_of_lt_of_le E0.lt s12_0q)
 have nf12_0_b : b ≠ b12_0 := Nat.ne_of_lt (Nat.lt_of_lt_of_le AT.lt s12_0q)
 have nf12_0_pb : pb ≠ b12_0 := Nat.ne_of_lt (Nat.lt_of_lt_of_le AP.lt s12_0q)
 have nf12_0_r : r ≠ b12_0 := Nat.ne_of_lt (Nat.lt_of_lt_of_le B.lt s12_0q)
 have nf12_0_t : t ≠ b12_0 := Nat.ne_of_lt (Nat.lt_of_lt_of_le B.lt2 s12_0q)
 have s12_0 : h0.size ≤ b12_0 := Nat.le_trans (Keep.refl h0 [o, b, pb, r]).1 s12_0q
 have f13 := (E0.keep K12q)
 have f14 := (F0.keep K12q nin0)
 have f15 := (F1.keep K12q nin0)
 have f16 := (F2.keep K12q nin0)
 have f17 := (F3.keep K12q nin0)
 have f18 := (F4.keep K12q nin0)
 have f19 := (AT.keep K12q nin0)
 have f20 := (AP.keep K12q nin0)
 have f21 := (B.keep K12q nin0 nin0)
 have O12 := O0.keep K12q all0
 have K12 := (Keep.refl h0 [o, b, pb, r]).trans K12q all0
 refine own_st (T12.setTop (mkF m 46 #[.val (.ref o), .val (.ref r)] [(.ref b12_0), (.ref o)])) st12 ?_
 obtain ⟨T22, h22, X22, e22, W22, st22⟩ := putF X12 hx hZ hown (host := "") (Or.inl (oW hw 71 rfl)) Via.refl rfl f16 f13 (Or.inl (oW hw 72 rfl)) (oW hw 62 rfl) (ty := (.array .int)) (by decide) (by rfl) (by rfl) (g := (mkF m 46 #[.val (.ref o), .val (.ref r)] [(.ref b12_0), (.ref o)])) rfl rfl (hb hby od17_46)
 have N22 := Fr.snoc X22 N12 g0
 have O22 := O12.wr W22 g0
 have K22 := K12.wr W22 (Or.inl (List.mem_of_getElem? (i := 0) rfl))
 have f23 := (f13.wr W22)
 have f24 := (f14.other W22 (Or.inr (slot_ne (Or.inl (oW hw 70 rfl)) (Or.inl (oW hw 72 rfl)) (by decide) (t := (.array .int)) (t' := (.array .int)) (by decide) (by decide))))
 have f25 := (f15.other W22 (Or.inr (slot_ne (Or.inl (oW hw 121 rfl)) (Or.inl (oW hw 72 rfl)) (by decide) (t := .int) (t' := (.array .int)) (by decide) (by decide))))
 have f27 := (f17.other W22 (Or.inr (slot_ne (Or.inl (oW hw 81 rfl)) (Or.inl (oW hw 72 rfl)) (by decide) (t := .int) (t' := (.array .int)) (by decide) (by decide))))
 have f28 := (f18.other W22 (Or.inr (slot_ne (Or.inr (oW hw 74 rfl)) (Or.inl (oW hw 72 rfl)) (by decide) (t := .int) (t' := (.array .int)) (by decide) (by decide))))
 have f29 := (f19.other W22 (Ne.symm (Exa.neArv f13 f19 (oW hw 62 rfl))))
 have f30 := (f20.other W22 (Ne.symm (Exa.neArv f13 f20 (oW hw 62 rfl))))
 have f31 := (f21.other W22 v1 v4)
 have f32 := (f12_0.wr W22)
 have f33 := (f12_1.other W22 (Ne.symm nf12_0_o))
 have f34 := (f16.same W22)
 refine own_st (T22.setTop (mkF m 49 #[.val (.ref o), .val (.ref r)] [])) st22 ?_
 refine ogoto X22 hx hby od17_49 56 (by decide) (by decide) ?_
 refine oaloadN X22 hx hby od17_56 rfl (by rfl) 57 rfl ?_
 refine ogetF X22 hx hZ hown (host := "") (Or.inl (oW hw 71 rfl)) Via.refl e22 f34 rfl hby od17_57 60 rfl fun T35 X35 e35 => ?_
 refine oaloadN X35 hx hby od17_60 rfl (by rfl) 61 rfl ?_
 refine odup X35 hx hby od17_61 rfl (by rfl) 62 rfl ?_
 refine ogetF X35 hx hZ hown (host := "") (Or.inl (oW hw 80 rfl)) Via.refl e35 f27 rfl hby od17_62 65 rfl fun T36 X36 e36 => ?_
 refine own_st (T36.setTop (mkF m 66 #[.val (.ref o), .val (.ref r)] [(.int 1), (.ref o), (.int 1), (.ref b12_0)])) (fun tq kq => XS.dupX1 X36.here hx rfl (hb hby od17_65) rfl (by rfl) (by rfl) kq) ?_
 refine oiconst X36 hx hby od17_66 (1 : Int32) rfl 67 rfl ?_
 refine oiadd X36 hx hby od17_67 rfl (2 : Int32) rfl 68 rfl ?_
 obtain ⟨T37, h37, X37, e37, W37, st37⟩ := putF X36 hx hZ hown (host := "") (Or.inl (oW hw 80 rfl)) Via.refl e36 f27 f23 (Or.inl (oW hw 81 rfl)) (oW hw 62 rfl) (ty := .int) (by decide) (by rfl) (by rfl) (g := (mkF m 68 #[.val (.ref o), .val (.ref r)] [(.int 2), (.ref o), (.int 1), (.ref b12_0)])) rfl rfl (hb hby od17_68)
 have N37 := Fr.snoc X37 N22 g0
 have O37 := O22.wr W37 g0
 have K37 := K22.wr W37 (Or.inl (List.mem_of_getElem? (i := 0) rfl))
 have f38 := (f23.wr W37)
 have f39 := (f24.other W37 (Or.inr (slot_ne (Or.inl (oW hw 70 rfl)) (Or.inl (oW hw 81 rfl)) (by decide) (t := (.array .int)) (t' := .int) (by decide) (by decide))))
 have f40 := (f25.other W37 (Or.inr (slot_ne (Or.inl (oW hw 121 rfl)) (Or.inl (oW hw 81 rfl)) (by decide) (t := .int) (t' := .int) (by decide) (by decide))))
 have f41 := (f34.other W37 (Or.inr (slot_ne (Or.inl (oW hw 72 rfl)) (Or.inl (oW hw 81 rfl)) (by decide) (t := (.array .int)) (t' := .int) (by decide) (by decide))))
 have f43 := (f28.other W37 (Or.inr (slot_ne (Or.inr (oW hw 74 rfl)) (Or.inl (oW hw 81 rfl)) (by decide) (t := .int) (t' := .int) (by decide) (by decide))))
 have f44 := (f29.other W37 (Ne.symm (Exa.neArv f23 f29 (oW hw 62 rfl))))
 have f45 := (f30.other W37 (Ne.symm (Exa.neArv f23 f30 (oW hw 62 rfl))))
 have f46 := (f31.other W37 v1 v4)
 have f47 := (f32.wr W37)
 have f48 := (f33.other W37 (Ne.symm nf12_0_o))
 have f49 := (f27.same W37)
 refine own_st (T37.setTop (mkF m 71 #[.val (.ref o), .val (.ref r)] [(.int 1), (.ref b12_0)])) st37 ?_
 refine oaloadN X37 hx hby od17_71 rfl (by rfl) 72 rfl ?_
 obtain ⟨v50, T50, L50, X50, q50, st50⟩ := own_callS X37 hx hZ hown (oW hw 87 rfl) (oW hw 88 rfl) (oW hw 63 rfl) (oW hw 89 rfl) (argsL := [(.ref r)]) (own_heldR l Z a0 hw [] cz r t hv h37 O37 SC hcz f46) 2 (by decide) (by decide) (by decide) (by decide) (by decide) e37 (g := (mkF m 72 #[.val (.ref o), .val (.ref r)] [(.ref r), (.int 1), (.ref b12_0)])) rfl (by rw [hml]; rfl) [(.int 1), (.ref b12_0)] (lenOf oP281 rfl) rfl (by show 2 * 0 + _ ≤ _; exact Nat.le_of_eq rfl) (hb hby od17_72)
 obtain ⟨rfl, N50q, K50q⟩ := q50
 have N50 := Fr.app N37 N50q
 have f51 := (f38.keep K50q)
 have f52 := (f39.keep K50q (ninS (Ne.symm v1) nin0))
 have f53 := (f40.keep K50q (ninS (Ne.symm v1) nin0))
 have f54 := (f41.keep K50q (ninS (Ne.symm v1) nin0))
 have f55 := (f49.keep K50q (ninS (Ne.symm v1) nin0))
 have f56 := (f43.keep K50q (ninS (Ne.symm v1) nin0))
 have f57 := (f44.keep K50q (ninS (Ne.symm v2) nin0))
 have f58 := (f45.keep K50q (ninS (Ne.symm v3) nin0))
 have f60 := (f47.keep K50q)
 have f61 := (f48.keep K50q (ninS (Ne.symm nf12_0_r) nin0))
 have O50 := O37.keep K50q (allS B.2.1 all0)
 have K50 := K37.trans K50q (allS (Or.inl (List.mem_of_getElem? (i := 3) rfl)) all0)
 refine own_st (T50.setTop (mkF m 75 #[.val (.ref o), .val (.ref r)] [(.int (own_hd hv)), (.int 1), (.ref b12_0)])) st50 ?_
 obtain ⟨cl62, q62a, q62b, q62c, q62d, q62e, q62f⟩ := id f61
 obtain ⟨T63, h63, X63, e63, W63, st63⟩ := stI X50 hx hZ rfl q62a (j := (1 : Int32)) (inb_of q62c ⟨by decide, by decide⟩) (g := (mkF m 75 #[.val (.ref o), .val (.ref r)] [(.int (own_hd hv)), (.int 1), (.ref b12_0)])) rfl rfl (hb hby od17_75)
 have N63 := Fr.snoc X63 N50 z12_0
 have O63 := O50.wr W63 z12_0
 have K63 := K50.wr W63 (Or.inr s12_0)
 have f64 := (f51.wr W63)
 have f65 := (f52.other W63 (Or.inl nf12_0_o))
 have f66 := (f53.other W63 (Or.inl nf12_0_o))
 have f67 := (f54.other W63 (Or.inl nf12_0_o))
 have f68 := (f55.other W63 (Or.inl nf12_0_o))
 have f69 := (f56.other W63 (Or.inl nf12_0_o))
 have f70 := (f57.other W63 nf12_0_b)
 have f71 := (f58.other W63 nf12_0_pb)
 have f72 := (f60.wr W63)
 have f74 : Arv Z h63 b12_0 kb12_0 .int (2 : Int32) [(.int x0), (.int (own_hd hv))] (.int 0) := Arv.set q62a q62b q62c q62d q62e q62f rfl W63 1 (by decide) (show 1 < 2 by decide)
 refine own_st (T63.setTop (mkF m 76 #[.val (.ref o), .val (.ref r)] [])) st63 ?_
 exact own_ret X63 hlk (v := none) (fun _ => rfl) e63 (⟨_, rfl, N63, K63, Or.inr s12_0, z12_0, kb, _, _, _, _, _, f64, g0, gb, z12_0, nf12_0_b, f65, f66, f67, f69, f70, H, OwnSz.mono hz (by first | omega | (simp only [List.length_append, List.length_cons, List.length_nil]; omega)), Or.inr ⟨Or.inl rfl, _, _, f68, f74, nx0, own_hd0 _, rfl⟩⟩) (by decide) (by decide) (fun fs hr => X63.returnOut hx hret (hb hby od17_76) hr)
theorem own_add_2_2 (l : Launch) (Z : State) (a0 : Array Value) (hw : OWS a0 Z) (ws : List Jvm.Cond) (cz : Int32) (o b pb : Addr) (kb kp : ClassId) (tb hs : List Int32) (sz x0 x1 : Int32) (r t : Addr) (hv : Int32) (h0 : Heap) (O0 : Old Z Z.heap.size h0) (SC : Sta Z Z.heap "java/lang/String" "COMPACT_STRINGS" "Z" (.int cz)) (hcz : ¬ (cz = (0 : Int32))) (E0 : oE7 Z h0 o) (g0 : Z.heap.size ≤ o) (gb : Z.heap.size ≤ b) (bp : b ≠ pb) (F0 : oF2 Z h0 o (.ref b)) (F1 : oF3 Z h0 o (.int sz)) (F2 : oF4 Z h0 o (.ref pb)) (F3 : oF5 Z h0 o (.int 2)) (F4 : oF6 Z h0 o (.int 2)) (AT : Arv Z h0 b kb .int (16 : Int32) (tb.map Value.int) (.int 0)) (AP : Arv Z h0 pb kp .int (2 : Int32) [(.int x0), (.int x1)] (.int 0)) (H : OwnHold tb hs) (hl : hs.length < 6) (hz : OwnSz sz hs.length) (nx0 : x0 ≠ 0) (nx1 : x1 ≠ 0) (gp : Z.heap.size ≤ pb) (B : OwnStr Z h0 r t hv) (v1 : r ≠ o) (v2 : r ≠ b) (v3 : r ≠ pb) (v4 : t ≠ o) (v5 : t ≠ b) (v6 : t ≠ pb) :
  ownMet l oM23 prog_107_method_3_code 2 none ws (oR 6 2 12 130) Z #[(.ref o), (.ref r)] h0 (fun v h L => ∃ pb' : Addr, v = none ∧ Fr Z.heap.size L ∧ Keep h0 h [o, b, pb, r] ∧ (pb' = pb ∨ h0.size ≤ pb') ∧ Z.heap.size ≤ pb' ∧ OwnRepL Z h o b pb' (((hs ++ [x0]) ++ [x1]) ++ [own_hd hv])) := by
 refine own_met (plainFor_of_name oP59) ?_
 intro p e s m below meth c s₁ hx hby hml hown hnm hret hlk hZ e0 X0
 refine own_cast (show _ = (mkF m 0 #[.val (.ref o), .val (.ref r)] []) by first | (simp [entryFrame, mkF, argsToLocals, Value.category]; done) | rfl) ?_
 refine oaloadN X0 hx hby od17_0 rfl (by rfl) 1 rfl ?_
 refine ogetF X0 hx hZ hown (host := "") (Or.inl (oW hw 80 rfl)) Via.refl e0 F3 rfl hby od17_1 4 rfl fun T1 X1 e1 => ?_
 refine oaloadN X1 hx hby od17_4 rfl (by rfl) 5 rfl ?_
 refine ogetF X1 hx hZ hown (host := "") (Or.inl (oW hw 71 rfl)) Via.refl e1 F2 rfl hby od17_5 8 rfl fun T2 X2 e2 => ?_
 obtain ⟨cl3, q3a, q3b, q3c, q3d, q3e, q3f⟩ := id AP
 refine own_st (T2.setTop (mkF m 9 #[.val (.ref o), .val (.ref r)] [(.int 2), (.int 2)])) (fun tq kq => X2.arraylength hx (by rw [e2]; exact q3a.1) (State.isArrayOf_alike hZ.alike q3a.2.1) (g := (mkF m 8 #[.val (.ref o), .val (.ref r)] [(.ref pb), (.int 2)])) rfl rfl (hb hby od17_8) tq (by rw [len_of q3c q3d]; exact kq)) ?_
 refine oicmpNo X2 hx hby od17_9 rfl (teq ((by decide) : (2 : Int32) = (2 : Int32))).2 12 rfl ?_
 refine oaloadN X2 hx hby od17_12 rfl (by rfl) 13 rfl ?_
 refine ogetF X2 hx hZ hown (host := "") (Or.inl (oW hw 71 rfl)) Via.refl e2 F2 rfl hby od17_13 16 rfl fun T4 X4 e4 => ?_
 obtain ⟨cl5, q5a, q5b, q5c, q5d, q5e, q5f⟩ := id AP
 refine own_st (T4.setTop (mkF m 17 #[.val (.ref o), .val (.ref r)] [(.int 2)])) (fun tq kq => X4.arraylength hx (by rw [e4]; exact q5a.1) (State.isArrayOf_alike hZ.alike q5a.2.1) (g := (mkF m 16 #[.val (.ref o), .val (.ref r)] [(.ref pb)])) rfl rfl (hb hby od17_16) tq (by rw [len_of q5c q5d]; exact kq)) ?_
 refine oaloadN X4 hx hby od17_17 rfl (by rfl) 18 rfl ?_
 refine ogetF X4 hx hZ hown (host := "") (Or.inl (oW hw 73 rfl)) Via.refl e4 F4 rfl hby od17_18 21 rfl fun T6 X6 e6 => ?_
 refine oicmpYes X6 hx hby od17_21 rfl (flt ((by decide) : ¬ ((2 : Int32) < (2 : Int32)))).2.1 52 (by decide) (by decide) ?_
 refine oaloadN X6 hx hby od17_52 rfl (by rfl) 53 rfl ?_
 obtain ⟨v7, T7, L7, X7, q7, st7⟩ := own_callP X6 hx hZ hown (y := oM8) (oW hw 107 rfl) (oW hw 109 rfl) (own_nf22 hw) (oW hw 108 rfl) (oW hw 63 rfl) (oW hw 110 rfl) E0 (b := o) (argsL := []) (own_settle_2_2 l Z a0 hw [] o b pb kb kp tb hs sz (2 : Int32) x0 x1 h0 O0 E0 g0 gb bp F0 F1 F2 F3 F4 AT AP H (by omega) hz nx0 nx1) 0 (by decide) (by decide) (by decide) (by decide) (by decide) e6 (g := (mkF m 53 #[.val (.ref o), .val (.ref r)] [(.ref o)])) rfl (by rw [hml]; rfl) [] (lenOf oP123 rfl) rfl (by show 2 * 0 + _ ≤ _; exact Nat.le_of_eq rfl) (hb hby od17_53)
 obtain ⟨rfl, N7q, K7q, f7a, f7b, f7c, f7d, f7e, sz7, f7f, hz7⟩ := q7
 have N7 := Fr.app (Fr.nil _) N7q
 have f8 := (E0.keep K7q)
 have f15 := (AP.keep K7q (ninS (Ne.symm (Exa.neArv E0 AP (oW hw 62 rfl))) (ninS (Ne.symm bp) nin0)))
 have f16 := (B.keep K7q (ninS v1 (ninS v2 nin0)) (ninS v4 (ninS v5 nin0)))
 have O7 := O0.keep K7q (allS g0 (allS gb all0))
 have K7 := (Keep.refl h0 [o, b, pb, r]).trans K7q (allS (Or.inl (List.mem_of_getElem? (i := 0) rfl)) (allS (Or.inl (List.mem_of_getElem? (i := 1) rfl)) all0))
 refine own_st (T7.setTop (mkF m 56 #[.val (.ref o), .val (.ref r)] [])) st7 ?_
 refine oaloadN X7 hx hby od17_56 rfl (by rfl) 57 rfl ?_
 refine ogetF X7 hx hZ hown (host := "") (Or.inl (oW hw 71 rfl)) Via.refl rfl f7b rfl hby od17_57 60 rfl fun T17 X17 e17 => ?_
 refine oaloadN X17 hx hby od17_60 rfl (by rfl) 61 rfl ?_
 refine odup X17 hx hby od17_61 rfl (by rfl) 62 rfl ?_
 refine ogetF X17 hx hZ hown (host := "") (Or.inl (oW hw 80 rfl)) Via.refl e17 f7c rfl hby od17_62 65 rfl fun T18 X18 e18 => ?_
 refine own_st (T18.setTop (mkF m 66 #[.val (.ref o), .val (.ref r)] [(.int 0), (.ref o), (.int 0), (.ref pb)])) (fun tq kq => XS.dupX1 X18.here hx rfl (hb hby od17_65) rfl (by rfl) (by rfl) kq) ?_
 refine oiconst X18 hx hby od17_66 (1 : Int32) rfl 67 rfl ?_
 refine oiadd X18 hx hby od17_67 rfl (1 : Int32) rfl 68 rfl ?_
 obtain ⟨T19, h19, X19, e19, W19, st19⟩ := putF X18 hx hZ hown (host := "") (Or.inl (oW hw 80 rfl)) Via.refl e18 f7c f8 (Or.inl (oW hw 81 rfl)) (oW hw 62 rfl) (ty := .int) (by decide) (by rfl) (by rfl) (g := (mkF m 68 #[.val (.ref o), .val (.ref r)] [(.int 1), (.ref o), (.int 0), (.ref pb)])) rfl rfl (hb hby od17_68)
 have N19 := Fr.snoc X19 N7 g0
 have O19 := O7.wr W19 g0
 have K19 := K7.wr W19 (Or.inl (List.mem_of_getElem? (i := 0) rfl))
 have f20 := (f8.wr W19)
 have f21 := (f15.other W19 (Ne.symm (Exa.neArv f8 f15 (oW hw 62 rfl))))
 have f22 := (f16.other W19 v1 v4)
 have f23 := (f7e.other W19 (Ne.symm (Exa.neArv f8 f7e (oW hw 62 rfl))))
 have f24 := (f7a.other W19 (Or.inr (slot_ne (Or.inl (oW hw 70 rfl)) (Or.inl (oW hw 81 rfl)) (by decide) (t := (.array .int)) (t' := .int) (by decide) (by decide))))
 have f25 := (f7b.other W19 (Or.inr (slot_ne (Or.inl (oW hw 72 rfl)) (Or.inl (oW hw 81 rfl)) (by decide) (t := (.array .int)) (t' := .int) (by decide) (by decide))))
 have f27 := (f7d.other W19 (Or.inr (slot_ne (Or.inr (oW hw 74 rfl)) (Or.inl (oW hw 81 rfl)) (by decide) (t := .int) (t' := .int) (by decide) (by decide))))
 have f28 := (f7f.other W19 (Or.inr (slot_ne (Or.inl (oW hw 121 rfl)) (Or.inl (oW hw 81 rfl)) (by decide) (t := .int) (t' := .int) (by decide) (by decide))))
 have f29 := (f7c.same W19)
 refine own_st (T19.setTop (mkF m 71 #[.val (.ref o), .val (.ref r)] [(.int 0), (.ref pb)])) st19 ?_
 refine oaloadN X19 hx hby od17_71 rfl (by rfl) 72 rfl ?_
 obtain ⟨v30, T30, L30, X30, q30, st30⟩ := own_callS X19 hx hZ hown (oW hw 87 rfl) (oW hw 88 rfl) (oW hw 63 rfl) (oW hw 89 rfl) (argsL := [(.ref r)]) (own_heldR l Z a0 hw [] cz r t hv h19 O19 SC hcz f22) 2 (by decide) (by decide) (by decide) (by decide) (by decide) e19 (g := (mkF m 72 #[.val (.ref o), .val (.ref r)] [(.ref r), (.int 0), (.ref pb)])) rfl (by rw [hml]; rfl) [(.int 0), (.ref pb)] (lenOf oP281 rfl) rfl (by show 2 * 0 + _ ≤ _; exact Nat.le_of_eq rfl) (hb hby od17_72)
 obtain ⟨rfl, N30q, K30q⟩ := q30
 have N30 := Fr.app N19 N30q
 have f31 := (f20.keep K30q)
 have f32 := (f21.keep K30q (ninS (Ne.symm v3) nin0))
 have f34 := (f23.keep K30q (ninS (Ne.symm v2) nin0))
 have f35 := (f24.keep K30q (ninS (Ne.symm v1) nin0))
 have f36 := (f25.keep K30q (ninS (Ne.symm v1) nin0))
 have f37 := (f29.keep K30q (ninS (Ne.symm v1) nin0))
 have f38 := (f27.keep K30q (ninS (Ne.symm v1) nin0))
 have f39 := (f28.keep K30q (ninS (Ne.symm v1) nin0))
 have O30 := O19.keep K30q (allS B.2.1 all0)
 have K30 := K19.trans K30q (allS (Or.inl (List.mem_of_getElem? (i := 3) rfl)) all0)
 refine own_st (T30.setTop (mkF m 75 #[.val (.ref o), .val (.ref r)] [(.int (own_hd hv)), (.int 0), (.ref pb)])) st30 ?_
 obtain ⟨cl40, q40a, q40b, q40c, q40d, q40e, q40f⟩ := id f32
 obtain ⟨T41, h41, X41, e41, W41, st41⟩ := stI X30 hx hZ rfl q40a (j := (0 : Int32)) (inb_of q40c ⟨by decide, by decide⟩) (g := (mkF m 75 #[.val (.ref o), .val (.ref r)] [(.int (own_hd hv)), (.int 0), (.ref pb)])) rfl rfl (hb hby od17_75)
 have N41 := Fr.snoc X41 N30 gp
 have O41 := O30.wr W41 gp
 have K41 := K30.wr W41 (Or.inl (List.mem_of_getElem? (i := 2) rfl))
 have f42 := (f31.wr W41)
 have f44 := (f34.other W41 bp)
 have f45 := (f35.other W41 (Or.inl (Exa.neArv f31 f32 (oW hw 62 rfl))))
 have f46 := (f36.other W41 (Or.inl (Exa.neArv f31 f32 (oW hw 62 rfl))))
 have f47 := (f37.other W41 (Or.inl (Exa.neArv f31 f32 (oW hw 62 rfl))))
 have f48 := (f38.other W41 (Or.inl (Exa.neArv f31 f32 (oW hw 62 rfl))))
 have f49 := (f39.other W41 (Or.inl (Exa.neArv f31 f32 (oW hw 62 rfl))))
 have f50 : Arv Z h41 pb kp .int (2 : Int32) [(.int (own_hd hv)), (.int x1)] (.int 0) := Arv.set q40a q40b q40c q40d q40e q40f rfl W41 0 (by decide) (show 0 < 2 by decide)
 refine own_st (T41.setTop (mkF m 76 #[.val (.ref o), .val (.ref r)] [])) st41 ?_
 exact own_ret X41 hlk (v := none) (fun _ => rfl) e41 (⟨_, rfl, N41, K41, Or.inl rfl, gp, ⟨kb, _, _, _, _, _, f42, g0, gb, bp, f45, f49, f46, f48, f44, (OwnHold.ins (OwnHold.ins H (by omega) nx0) (by simp only [List.length_append, List.length_cons, List.length_nil]; omega) nx1), OwnSz.mono hz7 (by first | omega | (simp only [List.length_append, List.length_cons, List.length_nil]; omega)), Or.inr (Or.inr (Or.inr (Or.inl ⟨_, _, f47, f50, own_hd0 _, rfl⟩)))⟩, f50.lt⟩) (by decide) (by decide) (fun fs hr => X41.returnOut hx hret (hb hby od17_76) hr)
theorem own_add_3_0 (l : Launch) (Z : State) (a0 : Array Value) (hw : OWS a0 Z) (ws : List Jvm.Cond) (cz : Int32) (o b pb : Addr) (kb kp : ClassId) (tb hs : List Int32) (sz x0 : Int32) (r t : Addr) (hv : Int32) (h0 : Heap) (O0 : Old Z Z.heap.size h0) (SC : Sta Z Z.heap "java/lang/String" "COMPACT_STRINGS" "Z" (.int cz)) (hcz : ¬ (cz = (0 : Int32))) (E0 : oE7 Z h0 o) (g0 : Z.heap.size ≤ o) (gb : Z.heap.size ≤ b) (bp : b ≠ pb) (F0 : oF2 Z h0 o (.ref b)) (F1 : oF3 Z h0 o (.int sz)) (F2 : oF4 Z h0 o (.ref pb)) (F3 : oF5 Z h0 o (.int 0)) (F4 : oF6 Z h0 o (.int 3)) (AT : Arv Z h0 b kb .int (16 : Int32) (tb.map Value.int) (.int 0)) (AP : Arv Z h0 pb kp .int (1 : Int32) [(.int x0)] (.int 0)) (H : OwnHold tb hs) (hl : hs.length < 6) (hz : OwnSz sz hs.length) (gp : Z.heap.size ≤ pb) (B : OwnStr Z h0 r t hv) (v1 : r ≠ o) (v2 : r ≠ b) (v3 : r ≠ pb) (v4 : t ≠ o) (v5 : t ≠ b) (v6 : t ≠ pb) :
  ownMet l oM23 prog_107_method_3_code 2 none ws (oR 6 2 12 130) Z #[(.ref o), (.ref r)] h0 (fun v h L => ∃ pb' : Addr, v = none ∧ Fr Z.heap.size L ∧ Keep h0 h [o, b, pb, r] ∧ (pb' = pb ∨ h0.size ≤ pb') ∧ Z.heap.size ≤ pb' ∧ OwnStage Z h o b pb' 1 (hs ++ [own_hd hv])) := by
 refine own_met (plainFor_of_name oP59) ?_
 intro p e s m below meth c s₁ hx hby hml hown hnm hret hlk hZ e0 X0
 refine own_cast (show _ = (mkF m 0 #[.val (.ref o), .val (.ref r)] []) by first | (simp [entryFrame, mkF, argsToLocals, Value.category]; done) | rfl) ?_
 refine oaloadN X0 hx hby od17_0 rfl (by rfl) 1 rfl ?_
 refine ogetF X0 hx hZ hown (host := "") (Or.inl (oW hw 80 rfl)) Via.refl e0 F3 rfl hby od17_1 4 rfl fun T1 X1 e1 => ?_
 refine oaloadN X1 hx hby od17_4 rfl (by rfl) 5 rfl ?_
 refine ogetF X1 hx hZ hown (host := "") (Or.inl (oW hw 71 rfl)) Via.refl e1 F2 rfl hby od17_5 8 rfl fun T2 X2 e2 => ?_
 obtain ⟨cl3, q3a, q3b, q3c, q3d, q3e, q3f⟩ := id AP
 refine own_st (T2.setTop (mkF m 9 #[.val (.ref o), .val (.ref r)] [(.int 1), (.int 0)])) (fun tq kq => X2.arraylength hx (by rw [e2]; exact q3a.1) (State.isArrayOf_alike hZ.alike q3a.2.1) (g := (mkF m 8 #[.val (.ref o), .val (.ref r)] [(.ref pb), (.int 0)])) rfl rfl (hb hby od17_8) tq (by rw [len_of q3c q3d]; exact kq)) ?_
 refine oicmpYes X2 hx hby od17_9 rfl (feq ((by decide) : ¬ ((0 : Int32) = (1 : Int32)))).2 56 (by decide) (by decide) ?_
 refine oaloadN X2 hx hby od17_56 rfl (by rfl) 57 rfl ?_
 refine ogetF X2 hx hZ hown (host := "") (Or.inl (oW hw 71 rfl)) Via.refl e2 F2 rfl hby od17_57 60 rfl fun T4 X4 e4 => ?_
 refine oaloadN X4 hx hby od17_60 rfl (by rfl) 61 rfl ?_
 refine odup X4 hx hby od17_61 rfl (by rfl) 62 rfl ?_
 refine ogetF X4 hx hZ hown (host := "") (Or.inl (oW hw 80 rfl)) Via.refl e4 F3 rfl hby od17_62 65 rfl fun T5 X5 e5 => ?_
 refine own_st (T5.setTop (mkF m 66 #[.val (.ref o), .val (.ref r)] [(.int 0), (.ref o), (.int 0), (.ref pb)])) (fun tq kq => XS.dupX1 X5.here hx rfl (hb hby od17_65) rfl (by rfl) (by rfl) kq) ?_
 refine oiconst X5 hx hby od17_66 (1 : Int32) rfl 67 rfl ?_
 refine oiadd X5 hx hby od17_67 rfl (1 : Int32) rfl 68 rfl ?_
 obtain ⟨T6, h6, X6, e6, W6, st6⟩ := putF X5 hx hZ hown (host := "") (Or.inl (oW hw 80 rfl)) Via.refl e5 F3 E0 (Or.inl (oW hw 81 rfl)) (oW hw 62 rfl) (ty := .int) (by decide) (by rfl) (by rfl) (g := (mkF m 68 #[.val (.ref o), .val (.ref r)] [(.int 1), (.ref o), (.int 0), (.ref pb)])) rfl rfl (hb hby od17_68)
 have N6 := Fr.snoc X6 (Fr.nil _) g0
 have O6 := O0.wr W6 g0
 have K6 := (Keep.refl h0 [o, b, pb, r]).wr W6 (Or.inl (List.mem_of_getElem? (i := 0) rfl))
 have f7 := (E0.wr W6)
 have f8 := (F0.other W6 (Or.inr (slot_ne (Or.inl (oW hw 70 rfl)) (Or.inl (oW hw 81 rfl)) (by decide) (t := (.array .int)) (t' := .int) (by decide) (by decide))))
 have f9 := (F1.other W6 (Or.inr (slot_ne (Or.inl (oW hw 121 rfl)) (Or.inl (oW hw 81 rfl)) (by decide) (t := .int) (t' := .int) (by decide) (by decide))))
 have f10 := (F2.other W6 (Or.inr (slot_ne (Or.inl (oW hw 72 rfl)) (Or.inl (oW hw 81 rfl)) (by decide) (t := (.array .int)) (t' := .int) (by decide) (by decide))))
 have f12 := (F4.other W6 (Or.inr (slot_ne (Or.inr (oW hw 74 rfl)) (Or.inl (oW hw 81 rfl)) (by decide) (t := .int) (t' := .int) (by decide) (by decide))))
 have f13 := (AT.other W6 (Ne.symm (Exa.neArv E0 AT (oW hw 62 rfl))))
 have f14 := (AP.other W6 (Ne.symm (Exa.neArv E0 AP (oW hw 62 rfl))))
 have f15 := (B.other W6 v1 v4)
 have f16 := (F3.same W6)
 refine own_st (T6.setTop (mkF m 71 #[.val (.ref o), .val (.ref r)] [(.int 0), (.ref pb)])) st6 ?_
 refine oaloadN X6 hx hby od17_71 rfl (by rfl) 72 rfl ?_
 obtain ⟨v17, T17, L17, X17, q17, st17⟩ := own_callS X6 hx hZ hown (oW hw 87 rfl) (oW hw 88 rfl) (oW hw 63 rfl) (oW hw 89 rfl) (argsL := [(.ref r)]) (own_heldR l Z a0 hw [] cz r t hv h6 O6 SC hcz f15) 2 (by decide) (by decide) (by decide) (by decide) (by decide) e6 (g := (mkF m 72 #[.val (.ref o), .val (.ref r)] [(.ref r), (.int 0), (.ref pb)])) rfl (by rw [hml]; rfl) [(.int 0), (.ref pb)] (lenOf oP281 rfl) rfl (by show 2 * 0 + _ ≤ _; exact Nat.le_of_eq rfl) (hb hby od17_72)
 obtain ⟨rfl, N17q, K17q⟩ := q17
 have N17 := Fr.app N6 N17q
 have f18 := (f7.keep K17q)
 have f19 := (f8.keep K17q (ninS (Ne.symm v1) nin0))
 have f20 := (f9.keep K17q (ninS (Ne.symm v1) nin0))
 have f21 := (f10.keep K17q (ninS (Ne.symm v1) nin0))
 have f22 := (f16.keep K17q (ninS (Ne.symm v1) nin0))
 have f23 := (f12.keep K17q (ninS (Ne.symm v1) nin0))
 have f24 := (f13.keep K17q (ninS (Ne.symm v2) nin0))
 have f25 := (f14.keep K17q (ninS (Ne.symm v3) nin0))
 have O17 := O6.keep K17q (allS B.2.1 all0)
 have K17 := K6.trans K17q (allS (Or.inl (List.mem_of_getElem? (i := 3) rfl)) all0)
 refine own_st (T17.setTop (mkF m 75 #[.val (.ref o), .val (.ref r)] [(.int (own_hd hv)), (.int 0), (.ref pb)])) st17 ?_
 obtain ⟨cl27, q27a, q27b, q27c, q27d, q27e, q27f⟩ := id f25
 obtain ⟨T28, h28, X28, e28, W28, st28⟩ := stI X17 hx hZ rfl q27a (j := (0 : Int32)) (inb_of q27c ⟨by decide, by decide⟩) (g := (mkF m 75 #[.val (.ref o), .val (.ref r)] [(.int (own_hd hv)), (.int 0), (.ref pb)])) rfl rfl (hb hby od17_75)
 have N28 := Fr.snoc X28 N17 gp
 have O28 := O17.wr W28 gp
 have K28 := K17.wr W28 (Or.inl (List.mem_of_getElem? (i := 2) rfl))
 have f29 := (f18.wr W28)
 have f30 := (f19.other W28 (Or.inl (Exa.neArv f18 f25 (oW hw 62 rfl))))
 have f31 := (f20.other W28 (Or.inl (Exa.neArv f18 f25 (oW hw 62 rfl))))
 have f32 := (f21.other W28 (Or.inl (Exa.neArv f18 f25 (oW hw 62 rfl))))
 have f33 := (f22.other W28 (Or.inl (Exa.neArv f18 f25 (oW hw 62 rfl))))
 have f34 := (f23.other W28 (Or.inl (Exa.neArv f18 f25 (oW hw 62 rfl))))
 have f35 := (f24.other W28 bp)
 have f37 : Arv Z h28 pb kp .int (1 : Int32) [(.int (own_hd hv))] (.int 0) := Arv.set q27a q27b q27c q27d q27e q27f rfl W28 0 (by decide) (show 0 < 1 by decide)
 refine own_st (T28.setTop (mkF m 76 #[.val (.ref o), .val (.ref r)] [])) st28 ?_
 exact own_ret X28 hlk (v := none) (fun _ => rfl) e28 (⟨_, rfl, N28, K28, Or.inl rfl, gp, kb, _, _, _, _, _, f29, g0, gb, gp, bp, f30, f31, f32, f34, f35, H, OwnSz.mono hz (by first | omega | (simp only [List.length_append, List.length_cons, List.length_nil]; omega)), ⟨Or.inr (Or.inr (Or.inl rfl)), _, f33, f37, own_hd0 _, rfl⟩⟩) (by decide) (by decide) (fun fs hr => X28.returnOut hx hret (hb hby od17_76) hr)
theorem own_au16_min (l : Launch) (Z : State) (a0 : Array Value) (hw : OWS a0 Z) (ws : List Jvm.Cond)  (h0 : Heap) (O0 : Old Z Z.heap.size h0) :
  ownMet l oM24 jdk_29_method_69_code 2 (some .int) ws (oR 0 0 0 0) Z #[(.int 2), (.int 3)] h0 (fun v h L => v = some (.int 2) ∧ Fr Z.heap.size L ∧ h = h0) := by
 refine own_met (Jvm.Free.JP.mathPlain rfl (by decide +kernel)) ?_
 intro p e s m below meth c s₁ hx hby hml hown hnm hret hlk hZ e0 X0
 refine own_cast (show _ = (mkF m 0 #[.val (.int 2), .val (.int 3)] []) by first | (simp [entryFrame, mkF, argsToLocals, Value.category]; done) | rfl) ?_
 refine oiloadN X0 hx hby od28_0 rfl 1 rfl ?_
 refine oiloadN X0 hx hby od28_1 rfl 2 rfl ?_
 refine oicmpNo X0 hx hby od28_2 rfl (flt ((by decide) : ¬ ((3 : Int32) < (2 : Int32)))).2.2.1 5 rfl ?_
 refine oiloadN X0 hx hby od28_5 rfl 6 rfl ?_
 refine ogoto X0 hx hby od28_6 10 (by decide) (by decide) ?_
 exact own_ret X0 hlk (v := some (.int 2)) (fun h => by rw [hret] at h; cases h) e0 (⟨rfl, (Fr.nil _), rfl⟩) (by decide) (by decide) (fun fs hr => retI X0 hx hret (hb hby od28_10) hr)
theorem own_add_3_1 (l : Launch) (Z : State) (a0 : Array Value) (hw : OWS a0 Z) (ws : List Jvm.Cond) (cz : Int32) (o b pb : Addr) (kb kp : ClassId) (tb hs : List Int32) (sz x0 : Int32) (r t : Addr) (hv : Int32) (h0 : Heap) (O0 : Old Z Z.heap.size h0) (SC : Sta Z Z.heap "java/lang/String" "COMPACT_STRINGS" "Z" (.int cz)) (hcz : ¬ (cz = (0 : Int32))) (E0 : oE7 Z h0 o) (g0 : Z.heap.size ≤ o) (gb : Z.heap.size ≤ b) (bp : b ≠ pb) (F0 : oF2 Z h0 o (.ref b)) (F1 : oF3 Z h0 o (.int sz)) (F2 : oF4 Z h0 o (.ref pb)) (F3 : oF5 Z h0 o (.int 1)) (F4 : oF6 Z h0 o (.int 3)) (AT : Arv Z h0 b kb .int (16 : Int32) (tb.map Value.int) (.int 0)) (AP : Arv Z h0 pb kp .int (1 : Int32) [(.int x0)] (.int 0)) (H : OwnHold tb hs) (hl : hs.length < 6) (hz : OwnSz sz hs.length) (nx0 : x0 ≠ 0) (gp : Z.heap.size ≤ pb) (B : OwnStr Z h0 r t hv) (v1 : r ≠ o) (v2 : r ≠ b) (v3 : r ≠ pb) (v4 : t ≠ o) (v5 : t ≠ b) (v6 : t ≠ pb) :
  ownMet l oM23 prog_107_method_3_code 2 none ws (oR 6 2 12 130) Z #[(.ref o), (.ref r)] h0 (fun v h L => ∃ pb' : Addr, v = none ∧ Fr Z.heap.size L ∧ Keep h0 h [o, b, pb, r] ∧ (pb' = pb ∨ h0.size ≤ pb') ∧ Z.heap.size ≤ pb' ∧ OwnStage Z h o b pb' 2 ((hs ++ [x0]) ++ [own_hd hv])) := by
 refine own_met (plainFor_of_name oP59) ?_
 intro p e s m below meth c s₁ hx hby hml hown hnm hret hlk hZ e0 X0
 refine own_cast (show _ = (mkF m 0 #[.val (.ref o), .val (.ref r)] []) by first | (simp [entryFrame, mkF, argsToLocals, Value.category]; done) | rfl) ?_
 refine oaloadN X0 hx hby od17_0 rfl (by rfl) 1 rfl ?_
 refine ogetF X0 hx hZ hown (host := "") (Or.inl (oW hw 80 rfl)) Via.refl e0 F3 rfl hby od17_1 4 rfl fun T1 X1 e1 => ?_
 refine oaloadN X1 hx hby od17_4 rfl (by rfl) 5 rfl ?_
 refine ogetF X1 hx hZ hown (host := "") (Or.inl (oW hw 71 rfl)) Via.refl e1 F2 rfl hby od17_5 8 rfl fun T2 X2 e2 => ?_
 obtain ⟨cl3, q3a, q3b, q3c, q3d, q3e, q3f⟩ := id AP
 refine own_st (T2.setTop (mkF m 9 #[.val (.ref o), .val (.ref r)] [(.int 1), (.int 1)])) (fun tq kq => X2.arraylength hx (by rw [e2]; exact q3a.1) (State.isArrayOf_alike hZ.alike q3a.2.1) (g := (mkF m 8 #[.val (.ref o), .val (.ref r)] [(.ref pb), (.int 1)])) rfl rfl (hb hby od17_8) tq (by rw [len_of q3c q3d]; exact kq)) ?_
 refine oicmpNo X2 hx hby od17_9 rfl (teq ((by decide) : (1 : Int32) = (1 : Int32))).2 12 rfl ?_
 refine oaloadN X2 hx hby od17_12 rfl (by rfl) 13 rfl ?_
 refine ogetF X2 hx hZ hown (host := "") (Or.inl (oW hw 71 rfl)) Via.refl e2 F2 rfl hby od17_13 16 rfl fun T4 X4 e4 => ?_
 obtain ⟨cl5, q5a, q5b, q5c, q5d, q5e, q5f⟩ := id AP
 refine own_st (T4.setTop (mkF m 17 #[.val (.ref o), .val (.ref r)] [(.int 1)])) (fun tq kq => X4.arraylength hx (by rw [e4]; exact q5a.1) (State.isArrayOf_alike hZ.alike q5a.2.1) (g := (mkF m 16 #[.val (.ref o), .val (.ref r)] [(.ref pb)])) rfl rfl (hb hby od17_16) tq (by rw [len_of q5c q5d]; exact kq)) ?_
 refine oaloadN X4 hx hby od17_17 rfl (by rfl) 18 rfl ?_
 refine ogetF X4 hx hZ hown (host := "") (Or.inl (oW hw 73 rfl)) Via.refl e4 F4 rfl hby od17_18 21 rfl fun T6 X6 e6 => ?_
 refine oicmpNo X6 hx hby od17_21 rfl (tlt ((by decide) : (1 : Int32) < (3 : Int32))).2.1 24 rfl ?_
 refine oaloadN X6 hx hby od17_24 rfl (by rfl) 25 rfl ?_
 refine oaloadN X6 hx hby od17_25 rfl (by rfl) 26 rfl ?_
 refine ogetF X6 hx hZ hown (host := "") (Or.inl (oW hw 71 rfl)) Via.refl e6 F2 rfl hby od17_26 29 rfl fun T7 X7 e7 => ?_
 refine oaloadN X7 hx hby od17_29 rfl (by rfl) 30 rfl ?_
 refine ogetF X7 hx hZ hown (host := "") (Or.inl (oW hw 71 rfl)) Via.refl e7 F2 rfl hby od17_30 33 rfl fun T8 X8 e8 => ?_
 obtain ⟨cl9, q9a, q9b, q9c, q9d, q9e, q9f⟩ := id AP
 refine own_st (T8.setTop (mkF m 34 #[.val (.ref o), .val (.ref r)] [(.int 1), (.ref pb), (.ref o)])) (fun tq kq => X8.arraylength hx (by rw [e8]; exact q9a.1) (State.isArrayOf_alike hZ.alike q9a.2.1) (g := (mkF m 33 #[.val (.ref o), .val (.ref r)] [(.ref pb), (.ref pb), (.ref o)])) rfl rfl (hb hby od17_33) tq (by rw [len_of q9c q9d]; exact kq)) ?_
 refine oiconst X8 hx hby od17_34 (2 : Int32) rfl 35 rfl ?_
 refine oimul X8 hx hby od17_35 rfl (2 : Int32) rfl 36 rfl ?_
 refine oaloadN X8 hx hby od17_36 rfl (by rfl) 37 rfl ?_
 refine ogetF X8 hx hZ hown (host := "") (Or.inl (oW hw 73 rfl)) Via.refl e8 F4 rfl hby od17_37 40 rfl fun T10 X10 e10 => ?_
 obtain ⟨v11, T11, L11, X11, q11, st11⟩ := own_callS X10 hx hZ hown (oW hw 135 rfl) (oW hw 136 rfl) (oW hw 137 rfl) (oW hw 138 rfl) (argsL := [(.int 2), (.int 3)]) (own_au16_min l Z a0 hw []  h0 O0 ) 2 (by decide) (by decide) (by decide) (by decide) (by decide) e10 (g := (mkF m 40 #[.val (.ref o), .val (.ref r)] [(.int 3), (.int 2), (.ref pb), (.ref o)])) rfl (by rw [hml]; rfl) [(.ref pb), (.ref o)] (lenOf oP309 rfl) rfl (by show 2 * 0 + _ ≤ _; exact Nat.le_of_eq rfl) (hb hby od17_40)
 obtain ⟨rfl, N11q, e11⟩ := q11
 have N11 := Fr.app (Fr.nil _) N11q
 refine own_st (T11.setTop (mkF m 43 #[.val (.ref o), .val (.ref r)] [(.int 2), (.ref pb), (.ref o)])) st11 ?_
 obtain ⟨v12, T12, L12, X12, q12, st12⟩ := own_callS X11 hx hZ hown (oW hw 139 rfl) (oW hw 140 rfl) (oW hw 141 rfl) (oW hw 142 rfl) (argsL := [(.ref pb), (.int 2)]) (own_au14_copyOf l Z a0 hw [] pb x0 kp h0 O0 AP gp) 1 (by decide) (by decide) (by decide) (by decide) (by decide) e11 (g := (mkF m 43 #[.val (.ref o), .val (.ref r)] [(.int 2), (.ref pb), (.ref o)])) rfl (by rw [hml]; rfl) [(.ref o)] (lenOf oP330 rfl) rfl (by show 2 * 0 + _ ≤ _; exact Nat.le_of_eq rfl) (hb hby od17_43)
 obtain ⟨b12_0, kb12_0, rfl, N12q, K12q, z12_0, s12_0q, f12_0, f12_1⟩ := q12
 have N12 := Fr.app N11 N12q
 have nf12_0_o : o ≠ b12_0 := Nat.ne_of_lt (Nat.lt_of_lt_of_le E0.lt s12_0q)
 have nf12_0_b : b ≠ b12_0 := Nat.ne_of_lt (Nat.lt_of_lt_of_le AT.lt s12_0q)
 have nf12_0_pb : pb ≠ b12_0 := Nat.ne_of_lt (Nat.lt_of_lt_of_le AP.lt s12_0q)
 have nf12_0_r : r ≠ b12_0 := Nat.ne_of_lt (Nat.lt_of_lt_of_le B.lt s12_0q)
 have nf12_0_t : t ≠ b12_0 := Nat.ne_of_lt (Nat.lt_of_lt_of_le B.lt2 s12_0q)
 have s12_0 : h0.size ≤ b12_0 := Nat.le_trans (Keep.refl h0 [o, b, pb, r]).1 s12_0q
 have f13 := (E0.keep K12q)
 have f14 := (F0.keep K12q nin0)
 have f15 := (F1.keep K12q nin0)
 have f16 := (F2.keep K12q nin0)
 have f17 := (F3.keep K12q nin0)
 have f18 := (F4.keep K12q nin0)
 have f19 := (AT.keep K12q nin0)
 have f20 := (AP.keep K12q nin0)
 have f21 := (B.keep K12q nin0 nin0)
 have O12 := O0.keep K12q all0
 have K12 := (Keep.refl h0 [o, b, pb, r]).trans K12q all0
 refine own_st (T12.setTop (mkF m 46 #[.val (.ref o), .val (.ref r)] [(.ref b12_0), (.ref o)])) st12 ?_
 obtain ⟨T22, h22, X22, e22, W22, st22⟩ := putF X12 hx hZ hown (host := "") (Or.inl (oW hw 71 rfl)) Via.refl rfl f16 f13 (Or.inl (oW hw 72 rfl)) (oW hw 62 rfl) (ty := (.array .int)) (by decide) (by rfl) (by rfl) (g := (mkF m 46 #[.val (.ref o), .val (.ref r)] [(.ref b12_0), (.ref o)])) rfl rfl (hb hby od17_46)
 have N22 := Fr.snoc X22 N12 g0
 have O22 := O12.wr W22 g0
 have K22 := K12.wr W22 (Or.inl (List.mem_of_getElem? (i := 0) rfl))
 have f23 := (f13.wr W22)
 have f24 := (f14.other W22 (Or.inr (slot_ne (Or.inl (oW hw 70 rfl)) (Or.inl (oW hw 72 rfl)) (by decide) (t := (.array .int)) (t' := (.array .int)) (by decide) (by decide))))
 have f25 := (f15.other W22 (Or.inr (slot_ne (Or.inl (oW hw 121 rfl)) (Or.inl (oW hw 72 rfl)) (by decide) (t := .int) (t' := (.array .int)) (by decide) (by decide))))
 have f27 := (f17.other W22 (Or.inr (slot_ne (Or.inl (oW hw 81 rfl)) (Or.inl (oW hw 72 rfl)) (by decide) (t := .int) (t' := (.array .int)) (by decide) (by decide))))
 have f28 := (f18.other W22 (Or.inr (slot_ne (Or.inr (oW hw 74 rfl)) (Or.inl (oW hw 72 rfl)) (by decide) (t := .int) (t' := (.array .int)) (by decide) (by decide))))
 have f29 := (f19.other W22 (Ne.symm (Exa.neArv f13 f19 (oW hw 62 rfl))))
 have f30 := (f20.other W22 (Ne.symm (Exa.neArv f13 f20 (oW hw 62 rfl))))
 have f31 := (f21.other W22 v1 v4)
 have f32 := (f12_0.wr W22)
 have f33 := (f12_1.other W22 (Ne.symm nf12_0_o))
 have f34 := (f16.same W22)
 refine own_st (T22.setTop (mkF m 49 #[.val (.ref o), .val (.ref r)] [])) st22 ?_
 refine ogoto X22 hx hby od17_49 56 (by decide) (by decide) ?_
 refine oaloadN X22 hx hby od17_56 rfl (by rfl) 57 rfl ?_
 refine ogetF X22 hx hZ hown (host := "") (Or.inl (oW hw 71 rfl)) Via.refl e22 f34 rfl hby od17_57 60 rfl fun T35 X35 e35 => ?_
 refine oaloadN X35 hx hby od17_60 rfl (by rfl) 61 rfl ?_
 refine odup X35 hx hby od17_61 rfl (by rfl) 62 rfl ?_
 refine ogetF X35 hx hZ hown (host := "") (Or.inl (oW hw 80 rfl)) Via.refl e35 f27 rfl hby od17_62 65 rfl fun T36 X36 e36 => ?_
 refine own_st (T36.setTop (mkF m 66 #[.val (.ref o), .val (.ref r)] [(.int 1), (.ref o), (.int 1), (.ref b12_0)])) (fun tq kq => XS.dupX1 X36.here hx rfl (hb hby od17_65) rfl (by rfl) (by rfl) kq) ?_
 refine oiconst X36 hx hby od17_66 (1 : Int32) rfl 67 rfl ?_
 refine oiadd X36 hx hby od17_67 rfl (2 : Int32) rfl 68 rfl ?_
 obtain ⟨T37, h37, X37, e37, W37, st37⟩ := putF X36 hx hZ hown (host := "") (Or.inl (oW hw 80 rfl)) Via.refl e36 f27 f23 (Or.inl (oW hw 81 rfl)) (oW hw 62 rfl) (ty := .int) (by decide) (by rfl) (by rfl) (g := (mkF m 68 #[.val (.ref o), .val (.ref r)] [(.int 2), (.ref o), (.int 1), (.ref b12_0)])) rfl rfl (hb hby od17_68)
 have N37 := Fr.snoc X37 N22 g0
 have O37 := O22.wr W37 g0
 have K37 := K22.wr W37 (Or.inl (List.mem_of_getElem? (i := 0) rfl))
 have f38 := (f23.wr W37)
 have f39 := (f24.other W37 (Or.inr (slot_ne (Or.inl (oW hw 70 rfl)) (Or.inl (oW hw 81 rfl)) (by decide) (t := (.array .int)) (t' := .int) (by decide) (by decide))))
 have f40 := (f25.other W37 (Or.inr (slot_ne (Or.inl (oW hw 121 rfl)) (Or.inl (oW hw 81 rfl)) (by decide) (t := .int) (t' := .int) (by decide) (by decide))))
 have f41 := (f34.other W37 (Or.inr (slot_ne (Or.inl (oW hw 72 rfl)) (Or.inl (oW hw 81 rfl)) (by decide) (t := (.array .int)) (t' := .int) (by decide) (by decide))))
 have f43 := (f28.other W37 (Or.inr (slot_ne (Or.inr (oW hw 74 rfl)) (Or.inl (oW hw 81 rfl)) (by decide) (t := .int) (t' := .int) (by decide) (by decide))))
 have f44 := (f29.other W37 (Ne.symm (Exa.neArv f23 f29 (oW hw 62 rfl))))
 have f45 := (f30.other W37 (Ne.symm (Exa.neArv f23 f30 (oW hw 62 rfl))))
 have f46 := (f31.other W37 v1 v4)
 have f47 := (f32.wr W37)
 have f48 := (f33.other W37 (Ne.symm nf12_0_o))
 have f49 := (f27.same W37)
 refine own_st (T37.setTop (mkF m 71 #[.val (.ref o), .val (.ref r)] [(.int 1), (.ref b12_0)])) st37 ?_
 refine oaloadN X37 hx hby od17_71 rfl (by rfl) 72 rfl ?_
 obtain ⟨v50, T50, L50, X50, q50, st50⟩ := own_callS X37 hx hZ hown (oW hw 87 rfl) (oW hw 88 rfl) (oW hw 63 rfl) (oW hw 89 rfl) (argsL := [(.ref r)]) (own_heldR l Z a0 hw [] cz r t hv h37 O37 SC hcz f46) 2 (by decide) (by decide) (by decide) (by decide) (by decide) e37 (g := (mkF m 72 #[.val (.ref o), .val (.ref r)] [(.ref r), (.int 1), (.ref b12_0)])) rfl (by rw [hml]; rfl) [(.int 1), (.ref b12_0)] (lenOf oP281 rfl) rfl (by show 2 * 0 + _ ≤ _; exact Nat.le_of_eq rfl) (hb hby od17_72)
 obtain ⟨rfl, N50q, K50q⟩ := q50
 have N50 := Fr.app N37 N50q
 have f51 := (f38.keep K50q)
 have f52 := (f39.keep K50q (ninS (Ne.symm v1) nin0))
 have f53 := (f40.keep K50q (ninS (Ne.symm v1) nin0))
 have f54 := (f41.keep K50q (ninS (Ne.symm v1) nin0))
 have f55 := (f49.keep K50q (ninS (Ne.symm v1) nin0))
 have f56 := (f43.keep K50q (ninS (Ne.symm v1) nin0))
 have f57 := (f44.keep K50q (ninS (Ne.symm v2) nin0))
 have f58 := (f45.keep K50q (ninS (Ne.symm v3) nin0))
 have f60 := (f47.keep K50q)
 have f61 := (f48.keep K50q (ninS (Ne.symm nf12_0_r) nin0))
 have O50 := O37.keep K50q (allS B.2.1 all0)
 have K50 := K37.trans K50q (allS (Or.inl (List.mem_of_getElem? (i := 3) rfl)) all0)
 refine own_st (T50.setTop (mkF m 75 #[.val (.ref o), .val (.ref r)] [(.int (own_hd hv)), (.int 1), (.ref b12_0)])) st50 ?_
 obtain ⟨cl62, q62a, q62b, q62c, q62d, q62e, q62f⟩ := id f61
 obtain ⟨T63, h63, X63, e63, W63, st63⟩ := stI X50 hx hZ rfl q62a (j := (1 : Int32)) (inb_of q62c ⟨by decide, by decide⟩) (g := (mkF m 75 #[.val (.ref o), .val (.ref r)] [(.int (own_hd hv)), (.int 1), (.ref b12_0)])) rfl rfl (hb hby od17_75)
 have N63 := Fr.snoc X63 N50 z12_0
 have O63 := O50.wr W63 z12_0
 have K63 := K50.wr W63 (Or.inr s12_0)
 have f64 := (f51.wr W63)
 have f65 := (f52.other W63 (Or.inl nf12_0_o))
 have f66 := (f53.other W63 (Or.inl nf12_0_o))
 have f67 := (f54.other W63 (Or.inl nf12_0_o))
 have f68 := (f55.other W63 (Or.inl nf12_0_o))
 have f69 := (f56.other W63 (Or.inl nf12_0_o))
 have f70 := (f57.other W63 nf12_0_b)
 have f71 := (f58.other W63 nf12_0_pb)
 have f72 := (f60.wr W63)
 have f74 : Arv Z h63 b12_0 kb12_0 .int (2 : Int32) [(.int x0), (.int (own_hd hv))] (.int 0) := Arv.set q62a q62b q62c q62d q62e q62f rfl W63 1 (by decide) (show 1 < 2 by decide)
 refine own_st (T63.setTop (mkF m 76 #[.val (.ref o), .val (.ref r)] [])) st63 ?_
 exact own_ret X63 hlk (v := none) (fun _ => rfl) e63 (⟨_, rfl, N63, K63, Or.inr s12_0, z12_0, kb, _, _, _, _, _, f64, g0, gb, z12_0, nf12_0_b, f65, f66, f67, f69, f70, H, OwnSz.mono hz (by first | omega | (simp only [List.length_append, List.length_cons, List.length_nil]; omega)), Or.inr ⟨Or.inr (Or.inl rfl), _, _, f68, f74, nx0, own_hd0 _, rfl⟩⟩) (by decide) (by decide) (fun fs hr => X63.returnOut hx hret (hb hby od17_76) hr)
theorem od28_9 : decode jdk_29_method_69_code 9 = .ok (.iload_n 1, 1) := by decide +kernel
theorem own_au17_min (l : Launch) (Z : State) (a0 : Array Value) (hw : OWS a0 Z) (ws : List Jvm.Cond)  (h0 : Heap) (O0 : Old Z Z.heap.size h0) :
  ownMet l oM24 jdk_29_method_69_code 2 (some .int) ws (oR 0 0 0 0) Z #[(.int 4), (.int 3)] h0 (fun v h L => v = some (.int 3) ∧ Fr Z.heap.size L ∧ h = h0) := by
 refine own_met (Jvm.Free.JP.mathPlain rfl (by decide +kernel)) ?_
 intro p e s m below meth c s₁ hx hby hml hown hnm hret hlk hZ e0 X0
 refine own_cast (show _ = (mkF m 0 #[.val (.int 4), .val (.int 3)] []) by first | (simp [entryFrame, mkF, argsToLocals, Value.category]; done) | rfl) ?_
 refine oiloadN X0 hx hby od28_0 rfl 1 rfl ?_
 refine oiloadN X0 hx hby od28_1 rfl 2 rfl ?_
 refine oicmpYes X0 hx hby od28_2 rfl (tlt ((by decide) : (3 : Int32) < (4 : Int32))).2.2.1 9 (by decide) (by decide) ?_
 refine oiloadN X0 hx hby od28_9 rfl 10 rfl ?_
 exact own_ret X0 hlk (v := some (.int 3)) (fun h => by rw [hret] at h; cases h) e0 (⟨rfl, (Fr.nil _), rfl⟩) (by decide) (by decide) (fun fs hr => retI X0 hx hret (hb hby od28_10) hr)
theorem own_au18_copyOf (l : Launch) (Z : State) (a0 : Array Value) (hw : OWS a0 Z) (ws : List Jvm.Cond) (ad0 : Addr) (iv0 : Int32) (iv1 : Int32) (kc0 : ClassId) (h0 : Heap) (O0 : Old Z Z.heap.size h0) (P0 : Arv Z h0 ad0 kc0 .int (2 : Int32) [(.int iv0), (.int iv1)] (.int 0)) (G_ad0 : Z.heap.size ≤ ad0) :
  ownMet l oM25 jdk_65_method_123_code 3 (some (.array .int)) ws (oR 1 1 3 18) Z #[(.ref ad0), (.int 3)] h0 (fun v h L => ∃ (b2 : Addr) (cA2 : ClassId), v = some (.ref b2) ∧ Fr Z.heap.size L ∧ Keep h0 h [] ∧ Z.heap.size ≤ b2 ∧ h0.size ≤ b2 ∧ oE26 Z h b2 ∧ Arv Z h b2 cA2 .int (3 : Int32) [(.int iv0), (.int iv1), (.int 0)] (.int 0)) := by
 refine own_met (plainFor_of_name oP329) ?_
 intro p e s m below meth c s₁ hx hby hml hown hnm hret hlk hZ e0 X0
 refine own_cast (show _ = (mkF m 0 #[.val (.ref ad0), .val (.int 3), .unset] []) by first | (simp [entryFrame, mkF, argsToLocals, Value.category]; done) | rfl) ?_
 refine oiloadN X0 hx hby od29_0 rfl 1 rfl ?_
 refine oaloadN X0 hx hby od29_1 rfl (by rfl) 2 rfl ?_
 obtain ⟨cl1, q1a, q1b, q1c, q1d, q1e, q1f⟩ := id P0
 let La146 : Array Slot := #[rv ad0, .val (.int 3), .unset]
 refine own_st (s₁.setTop (mkF m 3 La146 [(.int 2), (.int 3)])) (fun tq kq => X0.arraylength hx (by rw [e0]; exact q1a.1) (State.isArrayOf_alike hZ.alike q1a.2.1) (g := (mkF m 2 La146 [(.ref ad0), (.int 3)])) rfl rfl (hb hby od29_2) tq (by rw [len_of q1c q1d]; exact kq)) ?_
 refine oicmpYes X0 hx hby od29_3 rfl (feq ((by decide) : ¬ ((3 : Int32) = (2 : Int32)))).2 14 (by decide) (by decide) ?_
 refine oiloadN X0 hx hby od29_14 rfl 15 rfl ?_
 obtain ⟨T2, h2, cA2, X2, e2, E2, A2, D2, st2⟩ := newPE X0 hx hZ (oW hw 68 rfl) e0 (g := (mkF m 15 La146 [(.int 3)])) rfl (hb hby od29_15) rfl (by decide) (cap := 3) (by decide) (by decide) (by decide) (by decide) (ad := "[I") (by decide)
 obtain ⟨b2, g2⟩ : ∃ z, z = h0.size := ⟨_, rfl⟩
 have z2 : Z.heap.size ≤ b2 := Nat.le_trans O0.2.1 (Nat.le_of_eq g2.symm)
 have nead0_2 : ad0 ≠ b2 := Nat.ne_of_lt (Nat.lt_of_lt_of_le P0.lt (Nat.le_of_eq g2.symm))
 have s2 : h0.size ≤ b2 := Nat.le_trans (Keep.refl h0 []).1 (Nat.le_of_eq g2.symm)
 rw [← g2] at A2 D2 st2
 have f3 := (P0.ext E2)
 have O2 := O0.ext E2
 have K2 := (Keep.refl h0 []).ext E2
 have f4 : Arv Z h2 b2 cA2 .int (3 : Int32) [(.int 0), (.int 0), (.int 0)] (.int 0) := (Arv.new A2 (by decide)).pad (pad_rep [] (.int 0) 3)
 refine own_st (T2.setTop (mkF m 17 La146 [(.ref b2)])) st2 ?_
 let La147 : Array Slot := #[rv ad0, .val (.int 3), rv b2]
 refine oastoreN X2 hx hby od29_17 rfl (by rfl) (L' := La147) rfl 18 rfl ?_
 refine oaloadN X2 hx hby od29_18 rfl (by rfl) 19 rfl ?_
 refine oiconst X2 hx hby od29_19 (0 : Int32) rfl 20 rfl ?_
 refine oaloadN X2 hx hby od29_20 rfl (by rfl) 21 rfl ?_
 refine oiconst X2 hx hby od29_21 (0 : Int32) rfl 22 rfl ?_
 refine oaloadN X2 hx hby od29_22 rfl (by rfl) 23 rfl ?_
 obtain ⟨cl5, q5a, q5b, q5c, q5d, q5e, q5f⟩ := id f3
 refine own_st (T2.setTop (mkF m 24 La147 [(.int 2), (.int 0), (.ref b2), (.int 0), (.ref ad0)])) (fun tq kq => X2.arraylength hx (by rw [e2]; exact q5a.1) (State.isArrayOf_alike hZ.alike q5a.2.1) (g := (mkF m 23 La147 [(.ref ad0), (.int 0), (.ref b2), (.int 0), (.ref ad0)])) rfl rfl (hb hby od29_23) tq (by rw [len_of q5c q5d]; exact kq)) ?_
 refine oiloadN X2 hx hby od29_24 rfl 25 rfl ?_
 obtain ⟨v6, T6, L6, X6, q6, st6⟩ := own_callS X2 hx hZ hown (oW hw 143 rfl) (oW hw 136 rfl) (oW hw 137 rfl) (oW hw 138 rfl) (argsL := [(.int 2), (.int 3)]) (own_au16_min l Z a0 hw []  h2 O2 ) 4 (by decide) (by decide) (by decide) (by decide) (by decide) e2 (g := (mkF m 25 La147 [(.int 3), (.int 2), (.int 0), (.ref b2), (.int 0), (.ref ad0)])) rfl (by rw [hml]; rfl) [(.int 0), (.ref b2), (.int 0), (.ref ad0)] (lenOf oP309 rfl) rfl (by show 2 * 0 + _ ≤ _; exact Nat.le_of_eq rfl) (hb hby od29_25)
 obtain ⟨rfl, N6q, e6⟩ := q6
 have N6 := Fr.app (Fr.nil _) N6q
 refine own_st (T6.setTop (mkF m 28 La147 [(.int 2), (.int 0), (.ref b2), (.int 0), (.ref ad0)])) st6 ?_
 obtain ⟨T7, h7, L7, X7, e7, N7, K7q, f7q, st7⟩ := cpA X6 hx hZ hown (oW hw 144 rfl) (oW hw 147 rfl) (oW hw 145 rfl) (oW hw 146 rfl) e6 f3 f4 (us := [(.int iv0), (.int iv1)]) (Or.inl ⟨rfl, rfl⟩) (by decide) (by decide) (by decide) (by decide) (by decide) (by rfl) (Nat.le_of_ble_eq_true rfl) N6 z2 (g := (mkF m 28 La147 [(.int 2), (.int 0), (.ref b2), (.int 0), (.ref ad0)])) rfl (by rw [hml]; rfl) rfl (hb hby od29_28) (by decide) (W := 0) (by show 2 * 0 + _ ≤ _; exact Nat.le_of_eq rfl) (by decide)
 have f8 : Arv Z h7 b2 cA2 .int (3 : Int32) [(.int iv0), (.int iv1), (.int 0)] (.int 0) := f7q
 have f9 := (f3.keep K7q (ninS nead0_2 nin0))
 have f10 := (D2.keep K7q)
 have O7 := O2.keep K7q (allS z2 all0)
 have K7 := K2.trans K7q (allS (Or.inr s2) all0)
 refine own_st (T7.setTop (mkF m 31 La147 [])) st7 ?_
 refine oaloadN X7 hx hby od29_31 rfl (by rfl) 32 rfl ?_
 exact own_ret X7 hlk (v := some (.ref b2)) (fun h => by rw [hret] at h; cases h) e7 (⟨_, _, rfl, N7, K7, z2, s2, f10, f8⟩) (by decide) (by decide) (fun fs hr => retOut X7 hx hret rfl (Or.inr (Or.inr (Or.inr (Or.inr ⟨rfl, rfl, rfl⟩)))) (hb hby od29_32) hr)
theorem own_add_3_2 (l : Launch) (Z : State) (a0 : Array Value) (hw : OWS a0 Z) (ws : List Jvm.Cond) (cz : Int32) (o b pb : Addr) (kb kp : ClassId) (tb hs : List Int32) (sz x0 x1 : Int32) (r t : Addr) (hv : Int32) (h0 : Heap) (O0 : Old Z Z.heap.size h0) (SC : Sta Z Z.heap "java/lang/String" "COMPACT_STRINGS" "Z" (.int cz)) (hcz : ¬ (cz = (0 : Int32))) (E0 : oE7 Z h0 o) (g0 : Z.heap.size ≤ o) (gb : Z.heap.size ≤ b) (bp : b ≠ pb) (F0 : oF2 Z h0 o (.ref b)) (F1 : oF3 Z h0 o (.int sz)) (F2 : oF4 Z h0 o (.ref pb)) (F3 : oF5 Z h0 o (.int 2)) (F4 : oF6 Z h0 o (.int 3)) (AT : Arv Z h0 b kb .int (16 : Int32) (tb.map Value.int) (.int 0)) (AP : Arv Z h0 pb kp .int (2 : Int32) [(.int x0), (.int x1)] (.int 0)) (H : OwnHold tb hs) (hl : hs.length < 6) (hz : OwnSz sz hs.length) (nx0 : x0 ≠ 0) (nx1 : x1 ≠ 0) (gp : Z.heap.size ≤ pb) (B : OwnStr Z h0 r t hv) (v1 : r ≠ o) (v2 : r ≠ b) (v3 : r ≠ pb) (v4 : t ≠ o) (v5 : t ≠ b) (v6 : t ≠ pb) :
  ownMet l oM23 prog_107_method_3_code 2 none ws (oR 6 2 12 130) Z #[(.ref o), (.ref r)] h0 (fun v h L => ∃ pb' : Addr, v = none ∧ Fr Z.heap.size L ∧ Keep h0 h [o, b, pb, r] ∧ (pb' = pb ∨ h0.size ≤ pb') ∧ Z.heap.size ≤ pb' ∧ OwnRepL Z h o b pb' (((hs ++ [x0]) ++ [x1]) ++ [own_hd hv])) := by
 refine own_met (plainFor_of_name oP59) ?_
 intro p e s m below meth c s₁ hx hby hml hown hnm hret hlk hZ e0 X0
 refine own_cast (show _ = (mkF m 0 #[.val (.ref o), .val (.ref r)] []) by first | (simp [entryFrame, mkF, argsToLocals, Value.category]; done) | rfl) ?_
 refine oaloadN X0 hx hby od17_0 rfl (by rfl) 1 rfl ?_
 refine ogetF X0 hx hZ hown (host := "") (Or.inl (oW hw 80 rfl)) Via.refl e0 F3 rfl hby od17_1 4 rfl fun T1 X1 e1 => ?_
 refine oaloadN X1 hx hby od17_4 rfl (by rfl) 5 rfl ?_
 refine ogetF X1 hx hZ hown (host := "") (Or.inl (oW hw 71 rfl)) Via.refl e1 F2 rfl hby od17_5 8 rfl fun T2 X2 e2 => ?_
 obtain ⟨cl3, q3a, q3b, q3c, q3d, q3e, q3f⟩ := id AP
 refine own_st (T2.setTop (mkF m 9 #[.val (.ref o), .val (.ref r)] [(.int 2), (.int 2)])) (fun tq kq => X2.arraylength hx (by rw [e2]; exact q3a.1) (State.isArrayOf_alike hZ.alike q3a.2.1) (g := (mkF m 8 #[.val (.ref o), .val (.ref r)] [(.ref pb), (.int 2)])) rfl rfl (hb hby od17_8) tq (by rw [len_of q3c q3d]; exact kq)) ?_
 refine oicmpNo X2 hx hby od17_9 rfl (teq ((by decide) : (2 : Int32) = (2 : Int32))).2 12 rfl ?_
 refine oaloadN X2 hx hby od17_12 rfl (by rfl) 13 rfl ?_
 refine ogetF X2 hx hZ hown (host := "") (Or.inl (oW hw 71 rfl)) Via.refl e2 F2 rfl hby od17_13 16 rfl fun T4 X4 e4 => ?_
 obtain ⟨cl5, q5a, q5b, q5c, q5d, q5e, q5f⟩ := id AP
 refine own_st (T4.setTop (mkF m 17 #[.val (.ref o), .val (.ref r)] [(.int 2)])) (fun tq kq => X4.arraylength hx (by rw [e4]; exact q5a.1) (State.isArrayOf_alike hZ.alike q5a.2.1) (g := (mkF m 16 #[.val (.ref o), .val (.ref r)] [(.ref pb)])) rfl rfl (hb hby od17_16) tq (by rw [len_of q5c q5d]; exact kq)) ?_
 refine oaloadN X4 hx hby od17_17 rfl (by rfl) 18 rfl ?_
 refine ogetF X4 hx hZ hown (host := "") (Or.inl (oW hw 73 rfl)) Via.refl e4 F4 rfl hby od17_18 21 rfl fun T6 X6 e6 => ?_
 refine oicmpNo X6 hx hby od17_21 rfl (tlt ((by decide) : (2 : Int32) < (3 : Int32))).2.1 24 rfl ?_
 refine oaloadN X6 hx hby od17_24 rfl (by rfl) 25 rfl ?_
 refine oaloadN X6 hx hby od17_25 rfl (by rfl) 26 rfl ?_
 refine ogetF X6 hx hZ hown (host := "") (Or.inl (oW hw 71 rfl)) Via.refl e6 F2 rfl hby od17_26 29 rfl fun T7 X7 e7 => ?_
 refine oaloadN X7 hx hby od17_29 rfl (by rfl) 30 rfl ?_
 refine ogetF X7 hx hZ hown (host := "") (Or.inl (oW hw 71 rfl)) Via.refl e7 F2 rfl hby od17_30 33 rfl fun T8 X8 e8 => ?_
 obtain ⟨cl9, q9a, q9b, q9c, q9d, q9e, q9f⟩ := id AP
 refine own_st (T8.setTop (mkF m 34 #[.val (.ref o), .val (.ref r)] [(.int 2), (.ref pb), (.ref o)])) (fun tq kq => X8.arraylength hx (by rw [e8]; exact q9a.1) (State.isArrayOf_alike hZ.alike q9a.2.1) (g := (mkF m 33 #[.val (.ref o), .val (.ref r)] [(.ref pb), (.ref pb), (.ref o)])) rfl rfl (hb hby od17_33) tq (by rw [len_of q9c q9d]; exact kq)) ?_
 refine oiconst X8 hx hby od17_34 (2 : Int32) rfl 35 rfl ?_
 refine oimul X8 hx hby od17_35 rfl (4 : Int32) rfl 36 rfl ?_
 refine oaloadN X8 hx hby od17_36 rfl (by rfl) 37 rfl ?_
 refine ogetF X8 hx hZ hown (host := "") (Or.inl (oW hw 73 rfl)) Via.refl e8 F4 rfl hby od17_37 40 rfl fun T10 X10 e10 => ?_
 obtain ⟨v11, T11, L11, X11, q11, st11⟩ := own_callS X10 hx hZ hown (oW hw 135 rfl) (oW hw 136 rfl) (oW hw 137 rfl) (oW hw 138 rfl) (argsL := [(.int 4), (.int 3)]) (own_au17_min l Z a0 hw []  h0 O0 ) 2 (by decide) (by decide) (by decide) (by decide) (by decide) e10 (g := (mkF m 40 #[.val (.ref o), .val (.ref r)] [(.int 3), (.int 4), (.ref pb), (.ref o)])) rfl (by rw [hml]; rfl) [(.ref pb), (.ref o)] (lenOf oP309 rfl) rfl (by show 2 * 0 + _ ≤ _; exact Nat.le_of_eq rfl) (hb hby od17_40)
 obtain ⟨rfl, N11q, e11⟩ := q11
 have N11 := Fr.app (Fr.nil _) N11q
 refine own_st (T11.setTop (mkF m 43 #[.val (.ref o), .val (.ref r)] [(.int 3), (.ref pb), (.ref o)])) st11 ?_
 obtain ⟨v12, T12, L12, X12, q12, st12⟩ := own_callS X11 hx hZ hown (oW hw 139 rfl) (oW hw 140 rfl) (oW hw 141 rfl) (oW hw 142 rfl) (argsL := [(.ref pb), (.int 3)]) (own_au18_copyOf l Z a0 hw [] pb x0 x1 kp h0 O0 AP gp) 1 (by decide) (by decide) (by decide) (by decide) (by decide) e11 (g := (mkF m 43 #[.val (.ref o), .val (.ref r)] [(.int 3), (.ref pb), (.ref o)])) rfl (by rw [hml]; rfl) [(.ref o)] (lenOf oP330 rfl) rfl (by show 2 * 0 + _ ≤ _; exact Nat.le_of_eq rfl) (hb hby od17_43)
 obtain ⟨b12_0, kb12_0, rfl, N12q, K12q, z12_0, s12_0q, f12_0, f12_1⟩ := q12
 have N12 := Fr.app N11 N12q
 have nf12_0_o : o ≠ b12_0 := Nat.ne_of_lt (Nat.lt_of_lt_of_le E0.lt s12_0q)
 have nf12_0_b : b ≠ b12_0 := Nat.ne_of_lt (Nat.lt_of_lt_of_le AT.lt s12_0q)
 have nf12_0_pb : pb ≠ b12_0 := Nat.ne_of_lt (Nat.lt_of_lt_of_le AP.lt s12_0q)
 have nf12_0_r : r ≠ b12_0 := Nat.ne_of_lt (Nat.lt_of_lt_of_le B.lt s12_0q)
 have nf12_0_t : t ≠ b12_0 := Nat.ne_of_lt (Nat.lt_of_lt_of_le B.lt2 s12_0q)
 have s12_0 : h0.size ≤ b12_0 := Nat.le_trans (Keep.refl h0 [o, b, pb, r]).1 s12_0q
 have f13 := (E0.keep K12q)
 have f14 := (F0.keep K12q nin0)
 have f15 := (F1.keep K12q nin0)
 have f16 := (F2.keep K12q nin0)
 have f17 := (F3.keep K12q nin0)
 have f18 := (F4.keep K12q nin0)
 have f19 := (AT.keep K12q nin0)
 have f20 := (AP.keep K12q nin0)
 have f21 := (B.keep K12q nin0 nin0)
 have O12 := O0.keep K12q all0
 have K12 := (Keep.refl h0 [o, b, pb, r]).trans K12q all0
 refine own_st (T12.setTop (mkF m 46 #[.val (.ref o), .val (.ref r)] [(.ref b12_0), (.ref o)])) st12 ?_
 obtain ⟨T22, h22, X22, e22, W22, st22⟩ := putF X12 hx hZ hown (host := "") (Or.inl (oW hw 71 rfl)) Via.refl rfl f16 f13 (Or.inl (oW hw 72 rfl)) (oW hw 62 rfl) (ty := (.array .int)) (by decide) (by rfl) (by rfl) (g := (mkF m 46 #[.val (.ref o), .val (.ref r)] [(.ref b12_0), (.ref o)])) rfl rfl (hb hby od17_46)
 have N22 := Fr.snoc X22 N12 g0
 have O22 := O12.wr W22 g0
 have K22 := K12.wr W22 (Or.inl (List.mem_of_getElem? (i := 0) rfl))
 have f23 := (f13.wr W22)
 have f24 := (f14.other W22 (Or.inr (slot_ne (Or.inl (oW hw 70 rfl)) (Or.inl (oW hw 72 rfl)) (by decide) (t := (.array .int)) (t' := (.array .int)) (by decide) (by decide))))
 have f25 := (f15.other W22 (Or.inr (slot_ne (Or.inl (oW hw 121 rfl)) (Or.inl (oW hw 72 rfl)) (by decide) (t := .int) (t' := (.array .int)) (by decide) (by decide))))
 have f27 := (f17.other W22 (Or.inr (slot_ne (Or.inl (oW hw 81 rfl)) (Or.inl (oW hw 72 rfl)) (by decide) (t := .int) (t' := (.array .int)) (by decide) (by decide))))
 have f28 := (f18.other W22 (Or.inr (slot_ne (Or.inr (oW hw 74 rfl)) (Or.inl (oW hw 72 rfl)) (by decide) (t := .int) (t' := (.array .int)) (by decide) (by decide))))
 have f29 := (f19.other W22 (Ne.symm (Exa.neArv f13 f19 (oW hw 62 rfl))))
 have f30 := (f20.other W22 (Ne.symm (Exa.neArv f13 f20 (oW hw 62 rfl))))
 have f31 := (f21.other W22 v1 v4)
 have f32 := (f12_0.wr W22)
 have f33 := (f12_1.other W22 (Ne.symm nf12_0_o))
 have f34 := (f16.same W22)
 refine own_st (T22.setTop (mkF m 49 #[.val (.ref o), .val (.ref r)] [])) st22 ?_
 refine ogoto X22 hx hby od17_49 56 (by decide) (by decide) ?_
 refine oaloadN X22 hx hby od17_56 rfl (by rfl) 57 rfl ?_
 refine ogetF X22 hx hZ hown (host := "") (Or.inl (oW hw 71 rfl)) Via.refl e22 f34 rfl hby od17_57 60 rfl fun T35 X35 e35 => ?_
 refine oaloadN X35 hx hby od17_60 rfl (by rfl) 61 rfl ?_
 refine odup X35 hx hby od17_61 rfl (by rfl) 62 rfl ?_
 refine ogetF X35 hx hZ hown (host := "") (Or.inl (oW hw 80 rfl)) Via.refl e35 f27 rfl hby od17_62 65 rfl fun T36 X36 e36 => ?_
 refine own_st (T36.setTop (mkF m 66 #[.val (.ref o), .val (.ref r)] [(.int 2), (.ref o), (.int 2), (.ref b12_0)])) (fun tq kq => XS.dupX1 X36.here hx rfl (hb hby od17_65) rfl (by rfl) (by rfl) kq) ?_
 refine oiconst X36 hx hby od17_66 (1 : Int32) rfl 67 rfl ?_
 refine oiadd X36 hx hby od17_67 rfl (3 : Int32) rfl 68 rfl ?_
 obtain ⟨T37, h37, X37, e37, W37, st37⟩ := putF X36 hx hZ hown (host := "") (Or.inl (oW hw 80 rfl)) Via.refl e36 f27 f23 (Or.inl (oW hw 81 rfl)) (oW hw 62 rfl) (ty := .int) (by decide) (by rfl) (by rfl) (g := (mkF m 68 #[.val (.ref o), .val (.ref r)] [(.int 3), (.ref o), (.int 2), (.ref b12_0)])) rfl rfl (hb hby od17_68)
 have N37 := Fr.snoc X37 N22 g0
 have O37 := O22.wr W37 g0
 have K37 := K22.wr W37 (Or.inl (List.mem_of_getElem? (i := 0) rfl))
 have f38 := (f23.wr W37)
 have f39 := (f24.other W37 (Or.inr (slot_ne (Or.inl (oW hw 70 rfl)) (Or.inl (oW hw 81 rfl)) (by decide) (t := (.array .int)) (t' := .int) (by decide) (by decide))))
 have f40 := (f25.other W37 (Or.inr (slot_ne (Or.inl (oW hw 121 rfl)) (Or.inl (oW hw 81 rfl)) (by decide) (t := .int) (t' := .int) (by decide) (by decide))))
 have f41 := (f34.other W37 (Or.inr (slot_ne (Or.inl (oW hw 72 rfl)) (Or.inl (oW hw 81 rfl)) (by decide) (t := (.array .int)) (t' := .int) (by decide) (by decide))))
 have f43 := (f28.other W37 (Or.inr (slot_ne (Or.inr (oW hw 74 rfl)) (Or.inl (oW hw 81 rfl)) (by decide) (t := .int) (t' := .int) (by decide) (by decide))))
 have f44 := (f29.other W37 (Ne.symm (Exa.neArv f23 f29 (oW hw 62 rfl))))
 have f45 := (f30.other W37 (Ne.symm (Exa.neArv f23 f30 (oW hw 62 rfl))))
 have f46 := (f31.other W37 v1 v4)
 have f47 := (f32.wr W37)
 have f48 := (f33.other W37 (Ne.symm nf12_0_o))
 have f49 := (f27.same W37)
 refine own_st (T37.setTop (mkF m 71 #[.val (.ref o), .val (.ref r)] [(.int 2), (.ref b12_0)])) st37 ?_
 refine oaloadN X37 hx hby od17_71 rfl (by rfl) 72 rfl ?_
 obtain ⟨v50, T50, L50, X50, q50, st50⟩ := own_callS X37 hx hZ hown (oW hw 87 rfl) (oW hw 88 rfl) (oW hw 63 rfl) (oW hw 89 rfl) (argsL := [(.ref r)]) (own_heldR l Z a0 hw [] cz r t hv h37 O37 SC hcz f46) 2 (by decide) (by decide) (by decide) (by decide) (by decide) e37 (g := (mkF m 72 #[.val (.ref o), .val (.ref r)] [(.ref r), (.int 2), (.ref b12_0)])) rfl (by rw [hml]; rfl) [(.int 2), (.ref b12_0)] (lenOf oP281 rfl) rfl (by show 2 * 0 + _ ≤ _; exact Nat.le_of_eq rfl) (hb hby od17_72)
 obtain ⟨rfl, N50q, K50q⟩ := q50
 have N50 := Fr.app N37 N50q
 have f51 := (f38.keep K50q)
 have f52 := (f39.keep K50q (ninS (Ne.symm v1) nin0))
 have f53 := (f40.keep K50q (ninS (Ne.symm v1) nin0))
 have f54 := (f41.keep K50q (ninS (Ne.symm v1) nin0))
 have f55 := (f49.keep K50q (ninS (Ne.symm v1) nin0))
 have f56 := (f43.keep K50q (ninS (Ne.symm v1) nin0))
 have f57 := (f44.keep K50q (ninS (Ne.symm v2) nin0))
 have f58 := (f45.keep K50q (ninS (Ne.symm v3) nin0))
 have f60 := (f47.keep K50q)
 have f61 := (f48.keep K50q (ninS (Ne.symm nf12_0_r) nin0))
 have O50 := O37.keep K50q (allS B.2.1 all0)
 have K50 := K37.trans K50q (allS (Or.inl (List.mem_of_getElem? (i := 3) rfl)) all0)
 refine own_st (T50.setTop (mkF m 75 #[.val (.ref o), .val (.ref r)] [(.int (own_hd hv)), (.int 2), (.ref b12_0)])) st50 ?_
 obtain ⟨cl62, q62a, q62b, q62c, q62d, q62e, q62f⟩ := id f61
 obtain ⟨T63, h63, X63, e63, W63, st63⟩ := stI X50 hx hZ rfl q62a (j := (2 : Int32)) (inb_of q62c ⟨by decide, by decide⟩) (g := (mkF m 75 #[.val (.ref o), .val (.ref r)] [(.int (own_hd hv)), (.int 2), (.ref b12_0)])) rfl rfl (hb hby od17_75)
 have N63 := Fr.snoc X63 N50 z12_0
 have O63 := O50.wr W63 z12_0
 have K63 := K50.wr W63 (Or.inr s12_0)
 have f64 := (f51.wr W63)
 have f65 := (f52.other W63 (Or.inl nf12_0_o))
 have f66 := (f53.other W63 (Or.inl nf12_0_o))
 have f67 := (f54.other W63 (Or.inl nf12_0_o))
 have f68 := (f55.other W63 (Or.inl nf12_0_o))
 have f69 := (f56.other W63 (Or.inl nf12_0_o))
 have f70 := (f57.other W63 nf12_0_b)
 have f71 := (f58.other W63 nf12_0_pb)
 have f72 := (f60.wr W63)
 have f74 : Arv Z h63 b12_0 kb12_0 .int (3 : Int32) [(.int x0), (.int x1), (.int (own_hd hv))] (.int 0) := Arv.set q62a q62b q62c q62d q62e q62f rfl W63 2 (by decide) (show 2 < 3 by decide)
 refine own_st (T63.setTop (mkF m 76 #[.val (.ref o), .val (.ref r)] [])) st63 ?_
 exact own_ret X63 hlk (v := none) (fun _ => rfl) e63 (⟨_, rfl, N63, K63, Or.inr s12_0, z12_0, ⟨kb, _, _, _, _, _, f64, g0, gb, nf12_0_b, f65, f66, f67, f69, f70, H, OwnSz.mono hz (by first | omega | (simp only [List.length_append, List.length_cons, List.length_nil]; omega)), Or.inr (Or.inr (Or.inr (Or.inr (Or.inl ⟨_, _, _, f68, f74, nx0, nx1, own_hd0 _, rfl⟩))))⟩, f74.lt⟩) (by decide) (by decide) (fun fs hr => X63.returnOut hx hret (hb hby od17_76) hr)
theorem own_add_4_0 (l : Launch) (Z : State) (a0 : Array Value) (hw : OWS a0 Z) (ws : List Jvm.Cond) (cz : Int32) (o b pb : Addr) (kb kp : ClassId) (tb hs : List Int32) (sz x0 : Int32) (r t : Addr) (hv : Int32) (h0 : Heap) (O0 : Old Z Z.heap.size h0) (SC : Sta Z Z.heap "java/lang/String" "COMPACT_STRINGS" "Z" (.int cz)) (hcz : ¬ (cz = (0 : Int32))) (E0 : oE7 Z h0 o) (g0 : Z.heap.size ≤ o) (gb : Z.heap.size ≤ b) (bp : b ≠ pb) (F0 : oF2 Z h0 o (.ref b)) (F1 : oF3 Z h0 o (.int sz)) (F2 : oF4 Z h0 o (.ref pb)) (F3 : oF5 Z h0 o (.int 0)) (F4 : oF6 Z h0 o (.int 4)) (AT : Arv Z h0 b kb .int (16 : Int32) (tb.map Value.int) (.int 0)) (AP : Arv Z h0 pb kp .int (1 : Int32) [(.int x0)] (.int 0)) (H : OwnHold tb hs) (hl : hs.length < 6) (hz : OwnSz sz hs.length) (gp : Z.heap.size ≤ pb) (B : OwnStr Z h0 r t hv) (v1 : r ≠ o) (v2 : r ≠ b) (v3 : r ≠ pb) (v4 : t ≠ o) (v5 : t ≠ b) (v6 : t ≠ pb) :
  ownMet l oM23 prog_107_method_3_code 2 none ws (oR 6 2 12 130) Z #[(.ref o), (.ref r)] h0 (fun v h L => ∃ pb' : Addr, v = none ∧ Fr Z.heap.size L ∧ Keep h0 h [o, b, pb, r] ∧ (pb' = pb ∨ h0.size ≤ pb') ∧ Z.heap.size ≤ pb' ∧ OwnStage Z h o b pb' 1 (hs ++ [own_hd hv])) := by
 refine own_met (plainFor_of_name oP59) ?_
 intro p e s m below meth c s₁ hx hby hml hown hnm hret hlk hZ e0 X0
 refine own_cast (show _ = (mkF m 0 #[.val (.ref o), .val (.ref r)] []) by first | (simp [entryFrame, mkF, argsToLocals, Value.category]; done) | rfl) ?_
 refine oaloadN X0 hx hby od17_0 rfl (by rfl) 1 rfl ?_
 refine ogetF X0 hx hZ hown (host := "") (Or.inl (oW hw 80 rfl)) Via.refl e0 F3 rfl hby od17_1 4 rfl fun T1 X1 e1 => ?_
 refine oaloadN X1 hx hby od17_4 rfl (by rfl) 5 rfl ?_
 refine ogetF X1 hx hZ hown (host := "") (Or.inl (oW hw 71 rfl)) Via.refl e1 F2 rfl hby od17_5 8 rfl fun T2 X2 e2 => ?_
 obtain ⟨cl3, q3a, q3b, q3c, q3d, q3e, q3f⟩ := id AP
 refine own_st (T2.setTop (mkF m 9 #[.val (.ref o), .val (.ref r)] [(.int 1), (.int 0)])) (fun tq kq => X2.arraylength hx (by rw [e2]; exact q3a.1) (State.isArrayOf_alike hZ.alike q3a.2.1) (g := (mkF m 8 #[.val (.ref o), .val (.ref r)] [(.ref pb), (.int 0)])) rfl rfl (hb hby od17_8) tq (by rw [len_of q3c q3d]; exact kq)) ?_
 refine oicmpYes X2 hx hby od17_9 rfl (feq ((by decide) : ¬ ((0 : Int32) = (1 : Int32)))).2 56 (by decide) (by decide) ?_
 refine oaloadN X2 hx hby od17_56 rfl (by rfl) 57 rfl ?_
 refine ogetF X2 hx hZ hown (host := "") (Or.inl (oW hw 71 rfl)) Via.refl e2 F2 rfl hby od17_57 60 rfl fun T4 X4 e4 => ?_
 refine oaloadN X4 hx hby od17_60 rfl (by rfl) 61 rfl ?_
 refine odup X4 hx hby od17_61 rfl (by rfl) 62 rfl ?_
 refine ogetF X4 hx hZ hown (host := "") (Or.inl (oW hw 80 rfl)) Via.refl e4 F3 rfl hby od17_62 65 rfl fun T5 X5 e5 => ?_
 refine own_st (T5.setTop (mkF m 66 #[.val (.ref o), .val (.ref r)] [(.int 0), (.ref o), (.int 0), (.ref pb)])) (fun tq kq => XS.dupX1 X5.here hx rfl (hb hby od17_65) rfl (by rfl) (by rfl) kq) ?_
 refine oiconst X5 hx hby od17_66 (1 : Int32) rfl 67 rfl ?_
 refine oiadd X5 hx hby od17_67 rfl (1 : Int32) rfl 68 rfl ?_
 obtain ⟨T6, h6, X6, e6, W6, st6⟩ := putF X5 hx hZ hown (host := "") (Or.inl (oW hw 80 rfl)) Via.refl e5 F3 E0 (Or.inl (oW hw 81 rfl)) (oW hw 62 rfl) (ty := .int) (by decide) (by rfl) (by rfl) (g := (mkF m 68 #[.val (.ref o), .val (.ref r)] [(.int 1), (.ref o), (.int 0), (.ref pb)])) rfl rfl (hb hby od17_68)
 have N6 := Fr.snoc X6 (Fr.nil _) g0
 have O6 := O0.wr W6 g0
 have K6 := (Keep.refl h0 [o, b, pb, r]).wr W6 (Or.inl (List.mem_of_getElem? (i := 0) rfl))
 have f7 := (E0.wr W6)
 have f8 := (F0.other W6 (Or.inr (slot_ne (Or.inl (oW hw 70 rfl)) (Or.inl (oW hw 81 rfl)) (by decide) (t := (.array .int)) (t' := .int) (by decide) (by decide))))
 have f9 := (F1.other W6 (Or.inr (slot_ne (Or.inl (oW hw 121 rfl)) (Or.inl (oW hw 81 rfl)) (by decide) (t := .int) (t' := .int) (by decide) (by decide))))
 have f10 := (F2.other W6 (Or.inr (slot_ne (Or.inl (oW hw 72 rfl)) (Or.inl (oW hw 81 rfl)) (by decide) (t := (.array .int)) (t' := .int) (by decide) (by decide))))
 have f12 := (F4.other W6 (Or.inr (slot_ne (Or.inr (oW hw 74 rfl)) (Or.inl (oW hw 81 rfl)) (by decide) (t := .int) (t' := .int) (by decide) (by decide))))
 have f13 := (AT.other W6 (Ne.symm (Exa.neArv E0 AT (oW hw 62 rfl))))
 have f14 := (AP.other W6 (Ne.symm (Exa.neArv E0 AP (oW hw 62 rfl))))
 have f15 := (B.other W6 v1 v4)
 have f16 := (F3.same W6)
 refine own_st (T6.setTop (mkF m 71 #[.val (.ref o), .val (.ref r)] [(.int 0), (.ref pb)])) st6 ?_
 refine oaloadN X6 hx hby od17_71 rfl (by rfl) 72 rfl ?_
 obtain ⟨v17, T17, L17, X17, q17, st17⟩ := own_callS X6 hx hZ hown (oW hw 87 rfl) (oW hw 88 rfl) (oW hw 63 rfl) (oW hw 89 rfl) (argsL := [(.ref r)]) (own_heldR l Z a0 hw [] cz r t hv h6 O6 SC hcz f15) 2 (by decide) (by decide) (by decide) (by decide) (by decide) e6 (g := (mkF m 72 #[.val (.ref o), .val (.ref r)] [(.ref r), (.int 0), (.ref pb)])) rfl (by rw [hml]; rfl) [(.int 0), (.ref pb)] (lenOf oP281 rfl) rfl (by show 2 * 0 + _ ≤ _; exact Nat.le_of_eq rfl) (hb hby od17_72)
 obtain ⟨rfl, N17q, K17q⟩ := q17
 have N17 := Fr.app N6 N17q
 have f18 := (f7.keep K17q)
 have f19 := (f8.keep K17q (ninS (Ne.symm v1) nin0))
 have f20 := (f9.keep K17q (ninS (Ne.symm v1) nin0))
 have f21 := (f10.keep K17q (ninS (Ne.symm v1) nin0))
 have f22 := (f16.keep K17q (ninS (Ne.symm v1) nin0))
 have f23 := (f12.keep K17q (ninS (Ne.symm v1) nin0))
 have f24 := (f13.keep K17q (ninS (Ne.symm v2) nin0))
 have f25 := (f14.keep K17q (ninS (Ne.symm v3) nin0))
 have O17 := O6.keep K17q (allS B.2.1 all0)
 have K17 := K6.trans K17q (allS (Or.inl (List.mem_of_getElem? (i := 3) rfl)) all0)
 refine own_st (T17.setTop (mkF m 75 #[.val (.ref o), .val (.ref r)] [(.int (own_hd hv)), (.int 0), (.ref pb)])) st17 ?_
 obtain ⟨cl27, q27a, q27b, q27c, q27d, q27e, q27f⟩ := id f25
 obtain ⟨T28, h28, X28, e28, W28, st28⟩ := stI X17 hx hZ rfl q27a (j := (0 : Int32)) (inb_of q27c ⟨by decide, by decide⟩) (g := (mkF m 75 #[.val (.ref o), .val (.ref r)] [(.int (own_hd hv)), (.int 0), (.ref pb)])) rfl rfl (hb hby od17_75)
 have N28 := Fr.snoc X28 N17 gp
 have O28 := O17.wr W28 gp
 have K28 := K17.wr W28 (Or.inl (List.mem_of_getElem? (i := 2) rfl))
 have f29 := (f18.wr W28)
 have f30 := (f19.other W28 (Or.inl (Exa.neArv f18 f25 (oW hw 62 rfl))))
 have f31 := (f20.other W28 (Or.inl (Exa.neArv f18 f25 (oW hw 62 rfl))))
 have f32 := (f21.other W28 (Or.inl (Exa.neArv f18 f25 (oW hw 62 rfl))))
 have f33 := (f22.other W28 (Or.inl (Exa.neArv f18 f25 (oW hw 62 rfl))))
 have f34 := (f23.other W28 (Or.inl (Exa.neArv f18 f25 (oW hw 62 rfl))))
 have f35 := (f24.other W28 bp)
 have f37 : Arv Z h28 pb kp .int (1 : Int32) [(.int (own_hd hv))] (.int 0) := Arv.set q27a q27b q27c q27d q27e q27f rfl W28 0 (by decide) (show 0 < 1 by decide)
 refine own_st (T28.setTop (mkF m 76 #[.val (.ref o), .val (.ref r)] [])) st28 ?_
 exact own_ret X28 hlk (v := none) (fun _ => rfl) e28 (⟨_, rfl, N28, K28, Or.inl rfl, gp, kb, _, _, _, _, _, f29, g0, gb, gp, bp, f30, f31, f32, f34, f35, H, OwnSz.mono hz (by first | omega | (simp only [List.length_append, List.length_cons, List.length_nil]; omega)), ⟨Or.inr (Or.inr (Or.inr rfl)), _, f33, f37, own_hd0 _, rfl⟩⟩) (by decide) (by decide) (fun fs hr => X28.returnOut hx hret (hb hby od17_76) hr)
theorem own_au19_min (l : Launch) (Z : State) (a0 : Array Value) (hw : OWS a0 Z) (ws : List Jvm.Cond)  (h0 : Heap) (O0 : Old Z Z.heap.size h0) :
  ownMet l oM24 jdk_29_method_69_code 2 (some .int) ws (oR 0 0 0 0) Z #[(.int 2), (.int 4)] h0 (fun v h L => v = some (.int 2) ∧ Fr Z.heap.size L ∧ h = h0) := by
 refine own_met (Jvm.Free.JP.mathPlain rfl (by decide +kernel)) ?_
 intro p e s m below meth c s₁ hx hby hml hown hnm hret hlk hZ e0 X0
 refine own_cast (show _ = (mkF m 0 #[.val (.int 2), .val (.int 4)] []) by first | (simp [entryFrame, mkF, argsToLocals, Value.category]; done) | rfl) ?_
 refine oiloadN X0 hx hby od28_0 rfl 1 rfl ?_
 refine oiloadN X0 hx hby od28_1 rfl 2 rfl ?_
 refine oicmpNo X0 hx hby od28_2 rfl (flt ((by decide) : ¬ ((4 : Int32) < (2 : Int32)))).2.2.1 5 rfl ?_
 refine oiloadN X0 hx hby od28_5 rfl 6 rfl ?_
 refine ogoto X0 hx hby od28_6 10 (by decide) (by decide) ?_
 exact own_ret X0 hlk (v := some (.int 2)) (fun h => by rw [hret] at h; cases h) e0 (⟨rfl, (Fr.nil _), rfl⟩) (by decide) (by decide) (fun fs hr => retI X0 hx hret (hb hby od28_10) hr)
theorem own_add_4_1 (l : Launch) (Z : State) (a0 : Array Value) (hw : OWS a0 Z) (ws : List Jvm.Cond) (cz : Int32) (o b pb : Addr) (kb kp : ClassId) (tb hs : List Int32) (sz x0 : Int32) (r t : Addr) (hv : Int32) (h0 : Heap) (O0 : Old Z Z.heap.size h0) (SC : Sta Z Z.heap "java/lang/String" "COMPACT_STRINGS" "Z" (.int cz)) (hcz : ¬ (cz = (0 : Int32))) (E0 : oE7 Z h0 o) (g0 : Z.heap.size ≤ o) (gb : Z.heap.size ≤ b) (bp : b ≠ pb) (F0 : oF2 Z h0 o (.ref b)) (F1 : oF3 Z h0 o (.int sz)) (F2 : oF4 Z h0 o (.ref pb)) (F3 : oF5 Z h0 o (.int 1)) (F4 : oF6 Z h0 o (.int 4)) (AT : Arv Z h0 b kb .int (16 : Int32) (tb.map Value.int) (.int 0)) (AP : Arv Z h0 pb kp .int (1 : Int32) [(.int x0)] (.int 0)) (H : OwnHold tb hs) (hl : hs.length < 6) (hz : OwnSz sz hs.length) (nx0 : x0 ≠ 0) (gp : Z.heap.size ≤ pb) (B : OwnStr Z h0 r t hv) (v1 : r ≠ o) (v2 : r ≠ b) (v3 : r ≠ pb) (v4 : t ≠ o) (v5 : t ≠ b) (v6 : t ≠ pb) :
  ownMet l oM23 prog_107_method_3_code 2 none ws (oR 6 2 12 130) Z #[(.ref o), (.ref r)] h0 (fun v h L => ∃ pb' : Addr, v = none ∧ Fr Z.heap.size L ∧ Keep h0 h [o, b, pb, r] ∧ (pb' = pb ∨ h0.size ≤ pb') ∧ Z.heap.size ≤ pb' ∧ OwnStage Z h o b pb' 2 ((hs ++ [x0]) ++ [own_hd hv])) := by
 refine own_met (plainFor_of_name oP59) ?_
 intro p e s m below meth c s₁ hx hby hml hown hnm hret hlk hZ e0 X0
 refine own_cast (show _ = (mkF m 0 #[.val (.ref o), .val (.ref r)] []) by first | (simp [entryFrame, mkF, argsToLocals, Value.category]; done) | rfl) ?_
 refine oaloadN X0 hx hby od17_0 rfl (by rfl) 1 rfl ?_
 refine ogetF X0 hx hZ hown (host := "") (Or.inl (oW hw 80 rfl)) Via.refl e0 F3 rfl hby od17_1 4 rfl fun T1 X1 e1 => ?_
 refine oaloadN X1 hx hby od17_4 rfl (by rfl) 5 rfl ?_
 refine ogetF X1 hx hZ hown (host := "") (Or.inl (oW hw 71 rfl)) Via.refl e1 F2 rfl hby od17_5 8 rfl fun T2 X2 e2 => ?_
 obtain ⟨cl3, q3a, q3b, q3c, q3d, q3e, q3f⟩ := id AP
 refine own_st (T2.setTop (mkF m 9 #[.val (.ref o), .val (.ref r)] [(.int 1), (.int 1)])) (fun tq kq => X2.arraylength hx (by rw [e2]; exact q3a.1) (State.isArrayOf_alike hZ.alike q3a.2.1) (g := (mkF m 8 #[.val (.ref o), .val (.ref r)] [(.ref pb), (.int 1)])) rfl rfl (hb hby od17_8) tq (by rw [len_of q3c q3d]; exact kq)) ?_
 refine oicmpNo X2 hx hby od17_9 rfl (teq ((by decide) : (1 : Int32) = (1 : Int32))).2 12 rfl ?_
 refine oaloadN X2 hx hby od17_12 rfl (by rfl) 13 rfl ?_
 refine ogetF X2 hx hZ hown (host := "") (Or.inl (oW hw 71 rfl)) Via.refl e2 F2 rfl hby od17_13 16 rfl fun T4 X4 e4 => ?_
 obtain ⟨cl5, q5a, q5b, q5c, q5d, q5e, q5f⟩ := id AP
 refine own_st (T4.setTop (mkF m 17 #[.val (.ref o), .val (.ref r)] [(.int 1)])) (fun tq kq => X4.arraylength hx (by rw [e4]; exact q5a.1) (State.isArrayOf_alike hZ.alike q5a.2.1) (g := (mkF m 16 #[.val (.ref o), .val (.ref r)] [(.ref pb)])) rfl rfl (hb hby od17_16) tq (by rw [len_of q5c q5d]; exact kq)) ?_
 refine oaloadN X4 hx hby od17_17 rfl (by rfl) 18 rfl ?_
 refine ogetF X4 hx hZ hown (host := "") (Or.inl (oW hw 73 rfl)) Via.refl e4 F4 rfl hby od17_18 21 rfl fun T6 X6 e6 => ?_
 refine oicmpNo X6 hx hby od17_21 rfl (tlt ((by decide) : (1 : Int32) < (4 : Int32))).2.1 24 rfl ?_
 refine oaloadN X6 hx hby od17_24 rfl (by rfl) 25 rfl ?_
 refine oaloadN X6 hx hby od17_25 rfl (by rfl) 26 rfl ?_
 refine ogetF X6 hx hZ hown (host := "") (Or.inl (oW hw 71 rfl)) Via.refl e6 F2 rfl hby od17_26 29 rfl fun T7 X7 e7 => ?_
 refine oaloadN X7 hx hby od17_29 rfl (by rfl) 30 rfl ?_
 refine ogetF X7 hx hZ hown (host := "") (Or.inl (oW hw 71 rfl)) Via.refl e7 F2 rfl hby od17_30 33 rfl fun T8 X8 e8 => ?_
 obtain ⟨cl9, q9a, q9b, q9c, q9d, q9e, q9f⟩ := id AP
 refine own_st (T8.setTop (mkF m 34 #[.val (.ref o), .val (.ref r)] [(.int 1), (.ref pb), (.ref o)])) (fun tq kq => X8.arraylength hx (by rw [e8]; exact q9a.1) (State.isArrayOf_alike hZ.alike q9a.2.1) (g := (mkF m 33 #[.val (.ref o), .val (.ref r)] [(.ref pb), (.ref pb), (.ref o)])) rfl rfl (hb hby od17_33) tq (by rw [len_of q9c q9d]; exact kq)) ?_
 refine oiconst X8 hx hby od17_34 (2 : Int32) rfl 35 rfl ?_
 refine oimul X8 hx hby od17_35 rfl (2 : Int32) rfl 36 rfl ?_
 refine oaloadN X8 hx hby od17_36 rfl (by rfl) 37 rfl ?_
 refine ogetF X8 hx hZ hown (host := "") (Or.inl (oW hw 73 rfl)) Via.refl e8 F4 rfl hby od17_37 40 rfl fun T10 X10 e10 => ?_
 obtain ⟨v11, T11, L11, X11, q11, st11⟩ := own_callS X10 hx hZ hown (oW hw 135 rfl) (oW hw 136 rfl) (oW hw 137 rfl) (oW hw 138 rfl) (argsL := [(.int 2), (.int 4)]) (own_au19_min l Z a0 hw []  h0 O0 ) 2 (by decide) (by decide) (by decide) (by decide) (by decide) e10 (g := (mkF m 40 #[.val (.ref o), .val (.ref r)] [(.int 4), (.int 2), (.ref pb), (.ref o)])) rfl (by rw [hml]; rfl) [(.ref pb), (.ref o)] (lenOf oP309 rfl) rfl (by show 2 * 0 + _ ≤ _; exact Nat.le_of_eq rfl) (hb hby od17_40)
 obtain ⟨rfl, N11q, e11⟩ := q11
 have N11 := Fr.app (Fr.nil _) N11q
 refine own_st (T11.setTop (mkF m 43 #[.val (.ref o), .val (.ref r)] [(.int 2), (.ref pb), (.ref o)])) st11 ?_
 obtain ⟨v12, T12, L12, X12, q12, st12⟩ := own_callS X11 hx hZ hown (oW hw 139 rfl) (oW hw 140 rfl) (oW hw 141 rfl) (oW hw 142 rfl) (argsL := [(.ref pb), (.int 2)]) (own_au14_copyOf l Z a0 hw [] pb x0 kp h0 O0 AP gp) 1 (by decide) (by decide) (by decide) (by decide) (by decide) e11 (g := (mkF m 43 #[.val (.ref o), .val (.ref r)] [(.int 2), (.ref pb), (.ref o)])) rfl (by rw [hml]; rfl) [(.ref o)] (lenOf oP330 rfl) rfl (by show 2 * 0 + _ ≤ _; exact Nat.le_of_eq rfl) (hb hby od17_43)
 obtain ⟨b12_0, kb12_0, rfl, N12q, K12q, z12_0, s12_0q, f12_0, f12_1⟩ := q12
 have N12 := Fr.app N11 N12q
 have nf12_0_o : o ≠ b12_0 := Nat.ne_of_lt (Nat.lt_of_lt_of_le E0.lt s12_0q)
 have nf12_0_b : b ≠ b12_0 := Nat.ne_of_lt (Nat.lt_of_lt_of_le AT.lt s12_0q)
 have nf12_0_pb : pb ≠ b12_0 := Nat.ne_of_lt (Nat.lt_of_lt_of_le AP.lt s12_0q)
 have nf12_0_r : r ≠ b12_0 := Nat.ne_of_lt (Nat.lt_of_lt_of_le B.lt s12_0q)
 have nf12_0_t : t ≠ b12_0 := Nat.ne_of_lt (Nat.lt_of_lt_of_le B.lt2 s12_0q)
 have s12_0 : h0.size ≤ b12_0 := Nat.le_trans (Keep.refl h0 [o, b, pb, r]).1 s12_0q
 have f13 := (E0.keep K12q)
 have f14 := (F0.keep K12q nin0)
 have f15 := (F1.keep K12q nin0)
 have f16 := (F2.keep K12q nin0)
 have f17 := (F3.keep K12q nin0)
 have f18 := (F4.keep K12q nin0)
 have f19 := (AT.keep K12q nin0)
 have f20 := (AP.keep K12q nin0)
 have f21 := (B.keep K12q nin0 nin0)
 have O12 := O0.keep K12q all0
 have K12 := (Keep.refl h0 [o, b, pb, r]).trans K12q all0
 refine own_st (T12.setTop (mkF m 46 #[.val (.ref o), .val (.ref r)] [(.ref b12_0), (.ref o)])) st12 ?_
 obtain ⟨T22, h22, X22, e22, W22, st22⟩ := putF X12 hx hZ hown (host := "") (Or.inl (oW hw 71 rfl)) Via.refl rfl f16 f13 (Or.inl (oW hw 72 rfl)) (oW hw 62 rfl) (ty := (.array .int)) (by decide) (by rfl) (by rfl) (g := (mkF m 46 #[.val (.ref o), .val (.ref r)] [(.ref b12_0), (.ref o)])) rfl rfl (hb hby od17_46)
 have N22 := Fr.snoc X22 N12 g0
 have O22 := O12.wr W22 g0
 have K22 := K12.wr W22 (Or.inl (List.mem_of_getElem? (i := 0) rfl))
 have f23 := (f13.wr W22)
 have f24 := (f14.other W22 (Or.inr (slot_ne (Or.inl (oW hw 70 rfl)) (Or.inl (oW hw 72 rfl)) (by decide) (t := (.array .int)) (t' := (.array .int)) (by decide) (by decide))))
 have f25 := (f15.other W22 (Or.inr (slot_ne (Or.inl (oW hw 121 rfl)) (Or.inl (oW hw 72 rfl)) (by decide) (t := .int) (t' := (.array .int)) (by decide) (by decide))))
 have f27 := (f17.other W22 (Or.inr (slot_ne (Or.inl (oW hw 81 rfl)) (Or.inl (oW hw 72 rfl)) (by decide) (t := .int) (t' := (.array .int)) (by decide) (by decide))))
 have f28 := (f18.other W22 (Or.inr (slot_ne (Or.inr (oW hw 74 rfl)) (Or.inl (oW hw 72 rfl)) (by decide) (t := .int) (t' := (.array .int)) (by decide) (by decide))))
 have f29 := (f19.other W22 (Ne.symm (Exa.neArv f13 f19 (oW hw 62 rfl))))
 have f30 := (f20.other W22 (Ne.symm (Exa.neArv f13 f20 (oW hw 62 rfl))))
 have f31 := (f21.other W22 v1 v4)
 have f32 := (f12_0.wr W22)
 have f33 := (f12_1.other W22 (Ne.symm nf12_0_o))
 have f34 := (f16.same W22)
 refine own_st (T22.setTop (mkF m 49 #[.val (.ref o), .val (.ref r)] [])) st22 ?_
 refine ogoto X22 hx hby od17_49 56 (by decide) (by decide) ?_
 refine oaloadN X22 hx hby od17_56 rfl (by rfl) 57 rfl ?_
 refine ogetF X22 hx hZ hown (host := "") (Or.inl (oW hw 71 rfl)) Via.refl e22 f34 rfl hby od17_57 60 rfl fun T35 X35 e35 => ?_
 refine oaloadN X35 hx hby od17_60 rfl (by rfl) 61 rfl ?_
 refine odup X35 hx hby od17_61 rfl (by rfl) 62 rfl ?_
 refine ogetF X35 hx hZ hown (host := "") (Or.inl (oW hw 80 rfl)) Via.refl e35 f27 rfl hby od17_62 65 rfl fun T36 X36 e36 => ?_
 refine own_st (T36.setTop (mkF m 66 #[.val (.ref o), .val (.ref r)] [(.int 1), (.ref o), (.int 1), (.ref b12_0)])) (fun tq kq => XS.dupX1 X36.here hx rfl (hb hby od17_65) rfl (by rfl) (by rfl) kq) ?_
 refine oiconst X36 hx hby od17_66 (1 : Int32) rfl 67 rfl ?_
 refine oiadd X36 hx hby od17_67 rfl (2 : Int32) rfl 68 rfl ?_
 obtain ⟨T37, h37, X37, e37, W37, st37⟩ := putF X36 hx hZ hown (host := "") (Or.inl (oW hw 80 rfl)) Via.refl e36 f27 f23 (Or.inl (oW hw 81 rfl)) (oW hw 62 rfl) (ty := .int) (by decide) (by rfl) (by rfl) (g := (mkF m 68 #[.val (.ref o), .val (.ref r)] [(.int 2), (.ref o), (.int 1), (.ref b12_0)])) rfl rfl (hb hby od17_68)
 have N37 := Fr.snoc X37 N22 g0
 have O37 := O22.wr W37 g0
 have K37 := K22.wr W37 (Or.inl (List.mem_of_getElem? (i := 0) rfl))
 have f38 := (f23.wr W37)
 have f39 := (f24.other W37 (Or.inr (slot_ne (Or.inl (oW hw 70 rfl)) (Or.inl (oW hw 81 rfl)) (by decide) (t := (.array .int)) (t' := .int) (by decide) (by decide))))
 have f40 := (f25.other W37 (Or.inr (slot_ne (Or.inl (oW hw 121 rfl)) (Or.inl (oW hw 81 rfl)) (by decide) (t := .int) (t' := .int) (by decide) (by decide))))
 have f41 := (f34.other W37 (Or.inr (slot_ne (Or.inl (oW hw 72 rfl)) (Or.inl (oW hw 81 rfl)) (by decide) (t := (.array .int)) (t' := .int) (by decide) (by decide))))
 have f43 := (f28.other W37 (Or.inr (slot_ne (Or.inr (oW hw 74 rfl)) (Or.inl (oW hw 81 rfl)) (by decide) (t := .int) (t' := .int) (by decide) (by decide))))
 have f44 := (f29.other W37 (Ne.symm (Exa.neArv f23 f29 (oW hw 62 rfl))))
 have f45 := (f30.other W37 (Ne.symm (Exa.neArv f23 f30 (oW hw 62 rfl))))
 have f46 := (f31.other W37 v1 v4)
 have f47 := (f32.wr W37)
 have f48 := (f33.other W37 (Ne.symm nf12_0_o))
 have f49 := (f27.same W37)
 refine own_st (T37.setTop (mkF m 71 #[.val (.ref o), .val (.ref r)] [(.int 1), (.ref b12_0)])) st37 ?_
 refine oaloadN X37 hx hby od17_71 rfl (by rfl) 72 rfl ?_
 obtain ⟨v50, T50, L50, X50, q50, st50⟩ := own_callS X37 hx hZ hown (oW hw 87 rfl) (oW hw 88 rfl) (oW hw 63 rfl) (oW hw 89 rfl) (argsL := [(.ref r)]) (own_heldR l Z a0 hw [] cz r t hv h37 O37 SC hcz f46) 2 (by decide) (by decide) (by decide) (by decide) (by decide) e37 (g := (mkF m 72 #[.val (.ref o), .val (.ref r)] [(.ref r), (.int 1), (.ref b12_0)])) rfl (by rw [hml]; rfl) [(.int 1), (.ref b12_0)] (lenOf oP281 rfl) rfl (by show 2 * 0 + _ ≤ _; exact Nat.le_of_eq rfl) (hb hby od17_72)
 obtain ⟨rfl, N50q, K50q⟩ := q50
 have N50 := Fr.app N37 N50q
 have f51 := (f38.keep K50q)
 have f52 := (f39.keep K50q (ninS (Ne.symm v1) nin0))
 have f53 := (f40.keep K50q (ninS (Ne.symm v1) nin0))
 have f54 := (f41.keep K50q (ninS (Ne.symm v1) nin0))
 have f55 := (f49.keep K50q (ninS (Ne.symm v1) nin0))
 have f56 := (f43.keep K50q (ninS (Ne.symm v1) nin0))
 have f57 := (f44.keep K50q (ninS (Ne.symm v2) nin0))
 have f58 := (f45.keep K50q (ninS (Ne.symm v3) nin0))
 have f60 := (f47.keep K50q)
 have f61 := (f48.keep K50q (ninS (Ne.symm nf12_0_r) nin0))
 have O50 := O37.keep K50q (allS B.2.1 all0)
 have K50 := K37.trans K50q (allS (Or.inl (List.mem_of_getElem? (i := 3) rfl)) all0)
 refine own_st (T50.setTop (mkF m 75 #[.val (.ref o), .val (.ref r)] [(.int (own_hd hv)), (.int 1), (.ref b12_0)])) st50 ?_
 obtain ⟨cl62, q62a, q62b, q62c, q62d, q62e, q62f⟩ := id f61
 obtain ⟨T63, h63, X63, e63, W63, st63⟩ := stI X50 hx hZ rfl q62a (j := (1 : Int32)) (inb_of q62c ⟨by decide, by decide⟩) (g := (mkF m 75 #[.val (.ref o), .val (.ref r)] [(.int (own_hd hv)), (.int 1), (.ref b12_0)])) rfl rfl (hb hby od17_75)
 have N63 := Fr.snoc X63 N50 z12_0
 have O63 := O50.wr W63 z12_0
 have K63 := K50.wr W63 (Or.inr s12_0)
 have f64 := (f51.wr W63)
 have f65 := (f52.other W63 (Or.inl nf12_0_o))
 have f66 := (f53.other W63 (Or.inl nf12_0_o))
 have f67 := (f54.other W63 (Or.inl nf12_0_o))
 have f68 := (f55.other W63 (Or.inl nf12_0_o))
 have f69 := (f56.other W63 (Or.inl nf12_0_o))
 have f70 := (f57.other W63 nf12_0_b)
 have f71 := (f58.other W63 nf12_0_pb)
 have f72 := (f60.wr W63)
 have f74 : Arv Z h63 b12_0 kb12_0 .int (2 : Int32) [(.int x0), (.int (own_hd hv))] (.int 0) := Arv.set q62a q62b q62c q62d q62e q62f rfl W63 1 (by decide) (show 1 < 2 by decide)
 refine own_st (T63.setTop (mkF m 76 #[.val (.ref o), .val (.ref r)] [])) st63 ?_
 exact own_ret X63 hlk (v := none) (fun _ => rfl) e63 (⟨_, rfl, N63, K63, Or.inr s12_0, z12_0, kb, _, _, _, _, _, f64, g0, gb, z12_0, nf12_0_b, f65, f66, f67, f69, f70, H, OwnSz.mono hz (by first | omega | (simp only [List.length_append, List.length_cons, List.length_nil]; omega)), Or.inr ⟨Or.inr (Or.inr rfl), _, _, f68, f74, nx0, own_hd0 _, rfl⟩⟩) (by decide) (by decide) (fun fs hr => X63.returnOut hx hret (hb hby od17_76) hr)
theorem own_au20_min (l : Launch) (Z : State) (a0 : Array Value) (hw : OWS a0 Z) (ws : List Jvm.Cond)  (h0 : Heap) (O0 : Old Z Z.heap.size h0) :
  ownMet l oM24 jdk_29_method_69_code 2 (some .int) ws (oR 0 0 0 0) Z #[(.int 4), (.int 4)] h0 (fun v h L => v = some (.int 4) ∧ Fr Z.heap.size L ∧ h = h0) := by
 refine own_met (Jvm.Free.JP.mathPlain rfl (by decide +kernel)) ?_
 intro p e s m below meth c s₁ hx hby hml hown hnm hret hlk hZ e0 X0
 refine own_cast (show _ = (mkF m 0 #[.val (.int 4), .val (.int 4)] []) by first | (simp [entryFrame, mkF, argsToLocals, Value.category]; done) | rfl) ?_
 refine oiloadN X0 hx hby od28_0 rfl 1 rfl ?_
 refine oiloadN X0 hx hby od28_1 rfl 2 rfl ?_
 refine oicmpNo X0 hx hby od28_2 rfl (flt ((by decide) : ¬ ((4 : Int32) < (4 : Int32)))).2.2.1 5 rfl ?_
 refine oiloadN X0 hx hby od28_5 rfl 6 rfl ?_
 refine ogoto X0 hx hby od28_6 10 (by decide) (by decide) ?_
 exact own_ret X0 hlk (v := some (.int 4)) (fun h => by rw [hret] at h; cases h) e0 (⟨rfl, (Fr.nil _), rfl⟩) (by decide) (by decide) (fun fs hr => retI X0 hx hret (hb hby od28_10) hr)
theorem own_au21_copyOf (l : Launch) (Z : State) (a0 : Array Value) (hw : OWS a0 Z) (ws : List Jvm.Cond) (ad0 : Addr) (iv0 : Int32) (iv1 : Int32) (kc0 : ClassId) (h0 : Heap) (O0 : Old Z Z.heap.size h0) (P0 : Arv Z h0 ad0 kc0 .int (2 : Int32) [(.int iv0), (.int iv1)] (.int 0)) (G_ad0 : Z.heap.size ≤ ad0) :
  ownMet l oM25 jdk_65_method_123_code 3 (some (.array .int)) ws (oR 1 1 4 18) Z #[(.ref ad0), (.int 4)] h0 (fun v h L => ∃ (b2 : Addr) (cA2 : ClassId), v = some (.ref b2) ∧ Fr Z.heap.size L ∧ Keep h0 h [] ∧ Z.heap.size ≤ b2 ∧ h0.size ≤ b2 ∧ oE26 Z h b2 ∧ Arv Z h b2 cA2 .int (4 : Int32) [(.int iv0), (.int iv1), (.int 0), (.int 0)] (.int 0)) := by
 refine own_met (plainFor_of_name oP329) ?_
 intro p e s m below meth c s₁ hx hby hml hown hnm hret hlk hZ e0 X0
 refine own_cast (show _ = (mkF m 0 #[.val (.ref ad0), .val (.int 4), .unset] []) by first | (simp [entryFrame, mkF, argsToLocals, Value.category]; done) | rfl) ?_
 refine oiloadN X0 hx hby od29_0 rfl 1 rfl ?_
 refine oaloadN X0 hx hby od29_1 rfl (by rfl) 2 rfl ?_
 obtain ⟨cl1, q1a, q1b, q1c, q1d, q1e, q1f⟩ := id P0
 let La148 : Array Slot := #[rv ad0, .val (.int 4), .unset]
 refine own_st (s₁.setTop (mkF m 3 La148 [(.int 2), (.int 4)])) (fun tq kq => X0.arraylength hx (by rw [e0]; exact q1a.1) (State.isArrayOf_alike hZ.alike q1a.2.1) (g := (mkF m 2 La148 [(.ref ad0), (.int 4)])) rfl rfl (hb hby od29_2) tq (by rw [len_of q1c q1d]; exact kq)) ?_
 refine oicmpYes X0 hx hby od29_3 rfl (feq ((by decide) : ¬ ((4 : Int32) = (2 : Int32)))).2 14 (by decide) (by decide) ?_
 refine oiloadN X0 hx hby od29_14 rfl 15 rfl ?_
 obtain ⟨T2, h2, cA2, X2, e2, E2, A2, D2, st2⟩ := newPE X0 hx hZ (oW hw 68 rfl) e0 (g := (mkF m 15 La148 [(.int 4)])) rfl (hb hby od29_15) rfl (by decide) (cap := 4) (by decide) (by decide) (by decide) (by decide) (ad := "[I") (by decide)
 obtain ⟨b2, g2⟩ : ∃ z, z = h0.size := ⟨_, rfl⟩
 have z2 : Z.heap.size ≤ b2 := Nat.le_trans O0.2.1 (Nat.le_of_eq g2.symm)
 have nead0_2 : ad0 ≠ b2 := Nat.ne_of_lt (Nat.lt_of_lt_of_le P0.lt (Nat.le_of_eq g2.symm))
 have s2 : h0.size ≤ b2 := Nat.le_trans (Keep.refl h0 []).1 (Nat.le_of_eq g2.symm)
 rw [← g2] at A2 D2 st2
 have f3 := (P0.ext E2)
 have O2 := O0.ext E2
 have K2 := (Keep.refl h0 []).ext E2
 have f4 : Arv Z h2 b2 cA2 .int (4 : Int32) [(.int 0), (.int 0), (.int 0), (.int 0)] (.int 0) := (Arv.new A2 (by decide)).pad (pad_rep [] (.int 0) 4)
 refine own_st (T2.setTop (mkF m 17 La148 [(.ref b2)])) st2 ?_
 let La149 : Array Slot := #[rv ad0, .val (.int 4), rv b2]
 refine oastoreN X2 hx hby od29_17 rfl (by rfl) (L' := La149) rfl 18 rfl ?_
 refine oaloadN X2 hx hby od29_18 rfl (by rfl) 19 rfl ?_
 refine oiconst X2 hx hby od29_19 (0 : Int32) rfl 20 rfl ?_
 refine oaloadN X2 hx hby od29_20 rfl (by rfl) 21 rfl ?_
 refine oiconst X2 hx hby od29_21 (0 : Int32) rfl 22 rfl ?_
 refine oaloadN X2 hx hby od29_22 rfl (by rfl) 23 rfl ?_
 obtain ⟨cl5, q5a, q5b, q5c, q5d, q5e, q5f⟩ := id f3
 refine own_st (T2.setTop (mkF m 24 La149 [(.int 2), (.int 0), (.ref b2), (.int 0), (.ref ad0)])) (fun tq kq => X2.arraylength hx (by rw [e2]; exact q5a.1) (State.isArrayOf_alike hZ.alike q5a.2.1) (g := (mkF m 23 La149 [(.ref ad0), (.int 0), (.ref b2), (.int 0), (.ref ad0)])) rfl rfl (hb hby od29_23) tq (by rw [len_of q5c q5d]; exact kq)) ?_
 refine oiloadN X2 hx hby od29_24 rfl 25 rfl ?_
 obtain ⟨v6, T6, L6, X6, q6, st6⟩ := own_callS X2 hx hZ hown (oW hw 143 rfl) (oW hw 136 rfl) (oW hw 137 rfl) (oW hw 138 rfl) (argsL := [(.int 2), (.int 4)]) (own_au19_min l Z a0 hw []  h2 O2 ) 4 (by decide) (by decide) (by decide) (by decide) (by decide) e2 (g := (mkF m 25 La149 [(.int 4), (.int 2), (.int 0), (.ref b2), (.int 0), (.ref ad0)])) rfl (by rw [hml]; rfl) [(.int 0), (.ref b2), (.int 0), (.ref ad0)] (lenOf oP309 rfl) rfl (by show 2 * 0 + _ ≤ _; exact Nat.le_of_eq rfl) (hb hby od29_25)
 obtain ⟨rfl, N6q, e6⟩ := q6
 have N6 := Fr.app (Fr.nil _) N6q
 refine own_st (T6.setTop (mkF m 28 La149 [(.int 2), (.int 0), (.ref b2), (.int 0), (.ref ad0)])) st6 ?_
 obtain ⟨T7, h7, L7, X7, e7, N7, K7q, f7q, st7⟩ := cpA X6 hx hZ hown (oW hw 144 rfl) (oW hw 147 rfl) (oW hw 145 rfl) (oW hw 146 rfl) e6 f3 f4 (us := [(.int iv0), (.int iv1)]) (Or.inl ⟨rfl, rfl⟩) (by decide) (by decide) (by decide) (by decide) (by decide) (by rfl) (Nat.le_of_ble_eq_true rfl) N6 z2 (g := (mkF m 28 La149 [(.int 2), (.int 0), (.ref b2), (.int 0), (.ref ad0)])) rfl (by rw [hml]; rfl) rfl (hb hby od29_28) (by decide) (W := 0) (by show 2 * 0 + _ ≤ _; exact Nat.le_of_eq rfl) (by decide)
 have f8 : Arv Z h7 b2 cA2 .int (4 : Int32) [(.int iv0), (.int iv1), (.int 0), (.int 0)] (.int 0) := f7q
 have f9 := (f3.keep K7q (ninS nead0_2 nin0))
 have f10 := (D2.keep K7q)
 have O7 := O2.keep K7q (allS z2 all0)
 have K7 := K2.trans K7q (allS (Or.inr s2) all0)
 refine own_st (T7.setTop (mkF m 31 La149 [])) st7 ?_
 refine oaloadN X7 hx hby od29_31 rfl (by rfl) 32 rfl ?_
 exact own_ret X7 hlk (v := some (.ref b2)) (fun h => by rw [hret] at h; cases h) e7 (⟨_, _, rfl, N7, K7, z2, s2, f10, f8⟩) (by decide) (by decide) (fun fs hr => retOut X7 hx hret rfl (Or.inr (Or.inr (Or.inr (Or.inr ⟨rfl, rfl, rfl⟩)))) (hb hby od29_32) hr)
theorem own_add_4_2 (l : Launch) (Z : State) (a0 : Array Value) (hw : OWS a0 Z) (ws : List Jvm.Cond) (cz : Int32) (o b pb : Addr) (kb kp : ClassId) (tb hs : List Int32) (sz x0 x1 : Int32) (r t : Addr) (hv : Int32) (h0 : Heap) (O0 : Old Z Z.heap.size h0) (SC : Sta Z Z.heap "java/lang/String" "COMPACT_STRINGS" "Z" (.int cz)) (hcz : ¬ (cz = (0 : Int32))) (E0 : oE7 Z h0 o) (g0 : Z.heap.size ≤ o) (gb : Z.heap.size ≤ b) (bp : b ≠ pb) (F0 : oF2 Z h0 o (.ref b)) (F1 : oF3 Z h0 o (.int sz)) (F2 : oF4 Z h0 o (.ref pb)) (F3 : oF5 Z h0 o (.int 2)) (F4 : oF6 Z h0 o (.int 4)) (AT : Arv Z h0 b kb .int (16 : Int32) (tb.map Value.int) (.int 0)) (AP : Arv Z h0 pb kp .int (2 : Int32) [(.int x0), (.int x1)] (.int 0)) (H : OwnHold tb hs) (hl : hs.length < 6) (hz : OwnSz sz hs.length) (nx0 : x0 ≠ 0) (nx1 : x1 ≠ 0) (gp : Z.heap.size ≤ pb) (B : OwnStr Z h0 r t hv) (v1 : r ≠ o) (v2 : r ≠ b) (v3 : r ≠ pb) (v4 : t ≠ o) (v5 : t ≠ b) (v6 : t ≠ pb) :
  ownMet l oM23 prog_107_method_3_code 2 none ws (oR 6 2 12 130) Z #[(.ref o), (.ref r)] h0 (fun v h L => ∃ pb' : Addr, v = none ∧ Fr Z.heap.size L ∧ Keep h0 h [o, b, pb, r] ∧ (pb' = pb ∨ h0.size ≤ pb') ∧ Z.heap.size ≤ pb' ∧ OwnRepL Z h o b pb' (((hs ++ [x0]) ++ [x1]) ++ [own_hd hv])) := by
 refine own_met (plainFor_of_name oP59) ?_
 intro p e s m below meth c s₁ hx hby hml hown hnm hret hlk hZ e0 X0
 refine own_cast (show _ = (mkF m 0 #[.val (.ref o), .val (.ref r)] []) by first | (simp [entryFrame, mkF, argsToLocals, Value.category]; done) | rfl) ?_
 refine oaloadN X0 hx hby od17_0 rfl (by rfl) 1 rfl ?_
 refine ogetF X0 hx hZ hown (host := "") (Or.inl (oW hw 80 rfl)) Via.refl e0 F3 rfl hby od17_1 4 rfl fun T1 X1 e1 => ?_
 refine oaloadN X1 hx hby od17_4 rfl (by rfl) 5 rfl ?_
 refine ogetF X1 hx hZ hown (host := "") (Or.inl (oW hw 71 rfl)) Via.refl e1 F2 rfl hby od17_5 8 rfl fun T2 X2 e2 => ?_
 obtain ⟨cl3, q3a, q3b, q3c, q3d, q3e, q3f⟩ := id AP
 refine own_st (T2.setTop (mkF m 9 #[.val (.ref o), .val (.ref r)] [(.int 2), (.int 2)])) (fun tq kq => X2.arraylength hx (by rw [e2]; exact q3a.1) (State.isArrayOf_alike hZ.alike q3a.2.1) (g := (mkF m 8 #[.val (.ref o), .val (.ref r)] [(.ref pb), (.int 2)])) rfl rfl (hb hby od17_8) tq (by rw [len_of q3c q3d]; exact kq)) ?_
 refine oicmpNo X2 hx hby od17_9 rfl (teq ((by decide) : (2 : Int32) = (2 : Int32))).2 12 rfl ?_
 refine oaloadN X2 hx hby od17_12 rfl (by rfl) 13 rfl ?_
 refine ogetF X2 hx hZ hown (host := "") (Or.inl (oW hw 71 rfl)) Via.refl e2 F2 rfl hby od17_13 16 rfl fun T4 X4 e4 => ?_
 obtain ⟨cl5, q5a, q5b, q5c, q5d, q5e, q5f⟩ := id AP
 refine own_st (T4.setTop (mkF m 17 #[.val (.ref o), .val (.ref r)] [(.int 2)])) (fun tq kq => X4.arraylength hx (by rw [e4]; exact q5a.1) (State.isArrayOf_alike hZ.alike q5a.2.1) (g := (mkF m 16 #[.val (.ref o), .val (.ref r)] [(.ref pb)])) rfl rfl (hb hby od17_16) tq (by rw [len_of q5c q5d]; exact kq)) ?_
 refine oaloadN X4 hx hby od17_17 rfl (by rfl) 18 rfl ?_
 refine ogetF X4 hx hZ hown (host := "") (Or.inl (oW hw 73 rfl)) Via.refl e4 F4 rfl hby od17_18 21 rfl fun T6 X6 e6 => ?_
 refine oicmpNo X6 hx hby od17_21 rfl (tlt ((by decide) : (2 : Int32) < (4 : Int32))).2.1 24 rfl ?_
 refine oaloadN X6 hx hby od17_24 rfl (by rfl) 25 rfl ?_
 refine oaloadN X6 hx hby od17_25 rfl (by rfl) 26 rfl ?_
 refine ogetF X6 hx hZ hown (host := "") (Or.inl (oW hw 71 rfl)) Via.refl e6 F2 rfl hby od17_26 29 rfl fun T7 X7 e7 => ?_
 refine oaloadN X7 hx hby od17_29 rfl (by rfl) 30 rfl ?_
 refine ogetF X7 hx hZ hown (host := "") (Or.inl (oW hw 71 rfl)) Via.refl e7 F2 rfl hby od17_30 33 rfl fun T8 X8 e8 => ?_
 obtain ⟨cl9, q9a, q9b, q9c, q9d, q9e, q9f⟩ := id AP
 refine own_st (T8.setTop (mkF m 34 #[.val (.ref o), .val (.ref r)] [(.int 2), (.ref pb), (.ref o)])) (fun tq kq => X8.arraylength hx (by rw [e8]; exact q9a.1) (State.isArrayOf_alike hZ.alike q9a.2.1) (g := (mkF m 33 #[.val (.ref o), .val (.ref r)] [(.ref pb), (.ref pb), (.ref o)])) rfl rfl (hb hby od17_33) tq (by rw [len_of q9c q9d]; exact kq)) ?_
 refine oiconst X8 hx hby od17_34 (2 : Int32) rfl 35 rfl ?_
 refine oimul X8 hx hby od17_35 rfl (4 : Int32) rfl 36 rfl ?_
 refine oaloadN X8 hx hby od17_36 rfl (by rfl) 37 rfl ?_
 refine ogetF X8 hx hZ hown (host := "") (Or.inl (oW hw 73 rfl)) Via.refl e8 F4 rfl hby od17_37 40 rfl fun T10 X10 e10 => ?_
 obtain ⟨v11, T11, L11, X11, q11, st11⟩ := own_callS X10 hx hZ hown (oW hw 135 rfl) (oW hw 136 rfl) (oW hw 137 rfl) (oW hw 138 rfl) (argsL := [(.int 4), (.int 4)]) (own_au20_min l Z a0 hw []  h0 O0 ) 2 (by decide) (by decide) (by decide) (by decide) (by decide) e10 (g := (mkF m 40 #[.val (.ref o), .val (.ref r)] [(.int 4), (.int 4), (.ref pb), (.ref o)])) rfl (by rw [hml]; rfl) [(.ref pb), (.ref o)] (lenOf oP309 rfl) rfl (by show 2 * 0 + _ ≤ _; exact Nat.le_of_eq rfl) (hb hby od17_40)
 obtain ⟨rfl, N11q, e11⟩ := q11
 have N11 := Fr.app (Fr.nil _) N11q
 refine own_st (T11.setTop (mkF m 43 #[.val (.ref o), .val (.ref r)] [(.int 4), (.ref pb), (.ref o)])) st11 ?_
 obtain ⟨v12, T12, L12, X12, q12, st12⟩ := own_callS X11 hx hZ hown (oW hw 139 rfl) (oW hw 140 rfl) (oW hw 141 rfl) (oW hw 142 rfl) (argsL := [(.ref pb), (.int 4)]) (own_au21_copyOf l Z a0 hw [] pb x0 x1 kp h0 O0 AP gp) 1 (by decide) (by decide) (by decide) (by decide) (by decide) e11 (g := (mkF m 43 #[.val (.ref o), .val (.ref r)] [(.int 4), (.ref pb), (.ref o)])) rfl (by rw [hml]; rfl) [(.ref o)] (lenOf oP330 rfl) rfl (by show 2 * 0 + _ ≤ _; exact Nat.le_of_eq rfl) (hb hby od17_43)
 obtain ⟨b12_0, kb12_0, rfl, N12q, K12q, z12_0, s12_0q, f12_0, f12_1⟩ := q12
 have N12 := Fr.app N11 N12q
 have nf12_0_o : o ≠ b12_0 := Nat.ne_of_lt (Nat.lt_of_lt_of_le E0.lt s12_0q)
 have nf12_0_b : b ≠ b12_0 := Nat.ne_of_lt (Nat.lt_of_lt_of_le AT.lt s12_0q)
 have nf12_0_pb : pb ≠ b12_0 := Nat.ne_of_lt (Nat.lt_of_lt_of_le AP.lt s12_0q)
 have nf12_0_r : r ≠ b12_0 := Nat.ne_of_lt (Nat.lt_of_lt_of_le B.lt s12_0q)
 have nf12_0_t : t ≠ b12_0 := Nat.ne_of_lt (Nat.lt_of_lt_of_le B.lt2 s12_0q)
 have s12_0 : h0.size ≤ b12_0 := Nat.le_trans (Keep.refl h0 [o, b, pb, r]).1 s12_0q
 have f13 := (E0.keep K12q)
 have f14 := (F0.keep K12q nin0)
 have f15 := (F1.keep K12q nin0)
 have f16 := (F2.keep K12q nin0)
 have f17 := (F3.keep K12q nin0)
 have f18 := (F4.keep K12q nin0)
 have f19 := (AT.keep K12q nin0)
 have f20 := (AP.keep K12q nin0)
 have f21 := (B.keep K12q nin0 nin0)
 have O12 := O0.keep K12q all0
 have K12 := (Keep.refl h0 [o, b, pb, r]).trans K12q all0
 refine own_st (T12.setTop (mkF m 46 #[.val (.ref o), .val (.ref r)] [(.ref b12_0), (.ref o)])) st12 ?_
 obtain ⟨T22, h22, X22, e22, W22, st22⟩ := putF X12 hx hZ hown (host := "") (Or.inl (oW hw 71 rfl)) Via.refl rfl f16 f13 (Or.inl (oW hw 72 rfl)) (oW hw 62 rfl) (ty := (.array .int)) (by decide) (by rfl) (by rfl) (g := (mkF m 46 #[.val (.ref o), .val (.ref r)] [(.ref b12_0), (.ref o)])) rfl rfl (hb hby od17_46)
 have N22 := Fr.snoc X22 N12 g0
 have O22 := O12.wr W22 g0
 have K22 := K12.wr W22 (Or.inl (List.mem_of_getElem? (i := 0) rfl))
 have f23 := (f13.wr W22)
 have f24 := (f14.other W22 (Or.inr (slot_ne (Or.inl (oW hw 70 rfl)) (Or.inl (oW hw 72 rfl)) (by decide) (t := (.array .int)) (t' := (.array .int)) (by decide) (by decide))))
 have f25 := (f15.other W22 (Or.inr (slot_ne (Or.inl (oW hw 121 rfl)) (Or.inl (oW hw 72 rfl)) (by decide) (t := .int) (t' := (.array .int)) (by decide) (by decide))))
 have f27 := (f17.other W22 (Or.inr (slot_ne (Or.inl (oW hw 81 rfl)) (Or.inl (oW hw 72 rfl)) (by decide) (t := .int) (t' := (.array .int)) (by decide) (by decide))))
 have f28 := (f18.other W22 (Or.inr (slot_ne (Or.inr (oW hw 74 rfl)) (Or.inl (oW hw 72 rfl)) (by decide) (t := .int) (t' := (.array .int)) (by decide) (by decide))))
 have f29 := (f19.other W22 (Ne.symm (Exa.neArv f13 f19 (oW hw 62 rfl))))
 have f30 := (f20.other W22 (Ne.symm (Exa.neArv f13 f20 (oW hw 62 rfl))))
 have f31 := (f21.other W22 v1 v4)
 have f32 := (f12_0.wr W22)
 have f33 := (f12_1.other W22 (Ne.symm nf12_0_o))
 have f34 := (f16.same W22)
 refine own_st (T22.setTop (mkF m 49 #[.val (.ref o), .val (.ref r)] [])) st22 ?_
 refine ogoto X22 hx hby od17_49 56 (by decide) (by decide) ?_
 refine oaloadN X22 hx hby od17_56 rfl (by rfl) 57 rfl ?_
 refine ogetF X22 hx hZ hown (host := "") (Or.inl (oW hw 71 rfl)) Via.refl e22 f34 rfl hby od17_57 60 rfl fun T35 X35 e35 => ?_
 refine oaloadN X35 hx hby od17_60 rfl (by rfl) 61 rfl ?_
 refine odup X35 hx hby od17_61 rfl (by rfl) 62 rfl ?_
 refine ogetF X35 hx hZ hown (host := "") (Or.inl (oW hw 80 rfl)) Via.refl e35 f27 rfl hby od17_62 65 rfl fun T36 X36 e36 => ?_
 refine own_st (T36.setTop (mkF m 66 #[.val (.ref o), .val (.ref r)] [(.int 2), (.ref o), (.int 2), (.ref b12_0)])) (fun tq kq => XS.dupX1 X36.here hx rfl (hb hby od17_65) rfl (by rfl) (by rfl) kq) ?_
 refine oiconst X36 hx hby od17_66 (1 : Int32) rfl 67 rfl ?_
 refine oiadd X36 hx hby od17_67 rfl (3 : Int32) rfl 68 rfl ?_
 obtain ⟨T37, h37, X37, e37, W37, st37⟩ := putF X36 hx hZ hown (host := "") (Or.inl (oW hw 80 rfl)) Via.refl e36 f27 f23 (Or.inl (oW hw 81 rfl)) (oW hw 62 rfl) (ty := .int) (by decide) (by rfl) (by rfl) (g := (mkF m 68 #[.val (.ref o), .val (.ref r)] [(.int 3), (.ref o), (.int 2), (.ref b12_0)])) rfl rfl (hb hby od17_68)
 have N37 := Fr.snoc X37 N22 g0
 have O37 := O22.wr W37 g0
 have K37 := K22.wr W37 (Or.inl (List.mem_of_getElem? (i := 0) rfl))
 have f38 := (f23.wr W37)
 have f39 := (f24.other W37 (Or.inr (slot_ne (Or.inl (oW hw 70 rfl)) (Or.inl (oW hw 81 rfl)) (by decide) (t := (.array .int)) (t' := .int) (by decide) (by decide))))
 have f40 := (f25.other W37 (Or.inr (slot_ne (Or.inl (oW hw 121 rfl)) (Or.inl (oW hw 81 rfl)) (by decide) (t := .int) (t' := .int) (by decide) (by decide))))
 have f41 := (f34.other W37 (Or.inr (slot_ne (Or.inl (oW hw 72 rfl)) (Or.inl (oW hw 81 rfl)) (by decide) (t := (.array .int)) (t' := .int) (by decide) (by decide))))
 have f43 := (f28.other W37 (Or.inr (slot_ne (Or.inr (oW hw 74 rfl)) (Or.inl (oW hw 81 rfl)) (by decide) (t := .int) (t' := .int) (by decide) (by decide))))
 have f44 := (f29.other W37 (Ne.symm (Exa.neArv f23 f29 (oW hw 62 rfl))))
 have f45 := (f30.other W37 (Ne.symm (Exa.neArv f23 f30 (oW hw 62 rfl))))
 have f46 := (f31.other W37 v1 v4)
 have f47 := (f32.wr W37)
 have f48 := (f33.other W37 (Ne.symm nf12_0_o))
 have f49 := (f27.same W37)
 refine own_st (T37.setTop (mkF m 71 #[.val (.ref o), .val (.ref r)] [(.int 2), (.ref b12_0)])) st37 ?_
 refine oaloadN X37 hx hby od17_71 rfl (by rfl) 72 rfl ?_
 obtain ⟨v50, T50, L50, X50, q50, st50⟩ := own_callS X37 hx hZ hown (oW hw 87 rfl) (oW hw 88 rfl) (oW hw 63 rfl) (oW hw 89 rfl) (argsL := [(.ref r)]) (own_heldR l Z a0 hw [] cz r t hv h37 O37 SC hcz f46) 2 (by decide) (by decide) (by decide) (by decide) (by decide) e37 (g := (mkF m 72 #[.val (.ref o), .val (.ref r)] [(.ref r), (.int 2), (.ref b12_0)])) rfl (by rw [hml]; rfl) [(.int 2), (.ref b12_0)] (lenOf oP281 rfl) rfl (by show 2 * 0 + _ ≤ _; exact Nat.le_of_eq rfl) (hb hby od17_72)
 obtain ⟨rfl, N50q, K50q⟩ := q50
 have N50 := Fr.app N37 N50q
 have f51 := (f38.keep K50q)
 have f52 := (f39.keep K50q (ninS (Ne.symm v1) nin0))
 have f53 := (f40.keep K50q (ninS (Ne.symm v1) nin0))
 have f54 := (f41.keep K50q (ninS (Ne.symm v1) nin0))
 have f55 := (f49.keep K50q (ninS (Ne.symm v1) nin0))
 have f56 := (f43.keep K50q (ninS (Ne.symm v1) nin0))
 have f57 := (f44.keep K50q (ninS (Ne.symm v2) nin0))
 have f58 := (f45.keep K50q (ninS (Ne.symm v3) nin0))
 have f60 := (f47.keep K50q)
 have f61 := (f48.keep K50q (ninS (Ne.symm nf12_0_r) nin0))
 have O50 := O37.keep K50q (allS B.2.1 all0)
 have K50 := K37.trans K50q (allS (Or.inl (List.mem_of_getElem? (i := 3) rfl)) all0)
 refine own_st (T50.setTop (mkF m 75 #[.val (.ref o), .val (.ref r)] [(.int (own_hd hv)), (.int 2), (.ref b12_0)])) st50 ?_
 obtain ⟨cl62, q62a, q62b, q62c, q62d, q62e, q62f⟩ := id f61
 obtain ⟨T63, h63, X63, e63, W63, st63⟩ := stI X50 hx hZ rfl q62a (j := (2 : Int32)) (inb_of q62c ⟨by decide, by decide⟩) (g := (mkF m 75 #[.val (.ref o), .val (.ref r)] [(.int (own_hd hv)), (.int 2), (.ref b12_0)])) rfl rfl (hb hby od17_75)
 have N63 := Fr.snoc X63 N50 z12_0
 have O63 := O50.wr W63 z12_0
 have K63 := K50.wr W63 (Or.inr s12_0)
 have f64 := (f51.wr W63)
 have f65 := (f52.other W63 (Or.inl nf12_0_o))
 have f66 := (f53.other W63 (Or.inl nf12_0_o))
 have f67 := (f54.other W63 (Or.inl nf12_0_o))
 have f68 := (f55.other W63 (Or.inl nf12_0_o))
 have f69 := (f56.other W63 (Or.inl nf12_0_o))
 have f70 := (f57.other W63 nf12_0_b)
 have f71 := (f58.other W63 nf12_0_pb)
 have f72 := (f60.wr W63)
 have f74 : Arv Z h63 b12_0 kb12_0 .int (4 : Int32) [(.int x0), (.int x1), (.int (own_hd hv)), (.int 0)] (.int 0) := Arv.set q62a q62b q62c q62d q62e q62f rfl W63 2 (by decide) (show 2 < 4 by decide)
 refine own_st (T63.setTop (mkF m 76 #[.val (.ref o), .val (.ref r)] [])) st63 ?_
 exact own_ret X63 hlk (v := none) (fun _ => rfl) e63 (⟨_, rfl, N63, K63, Or.inr s12_0, z12_0, ⟨kb, _, _, _, _, _, f64, g0, gb, nf12_0_b, f65, f66, f67, f69, f70, H, OwnSz.mono hz (by first | omega | (simp only [List.length_append, List.length_cons, List.length_nil]; omega)), Or.inr (Or.inr (Or.inr (Or.inr (Or.inr ⟨_, _, _, _, f68, f74, nx0, nx1, own_hd0 _, rfl⟩))))⟩, f74.lt⟩) (by decide) (by decide) (fun fs hr => X63.returnOut hx hret (hb hby od17_76) hr)
theorem own_addR0 (l : Launch) (Z : State) (a0 : Array Value) (hw : OWS a0 Z) (ws : List Jvm.Cond) (cz : Int32) (o b pb : Addr) (hs : List Int32) (r t : Addr) (hv : Int32) (h0 : Heap) (O0 : Old Z Z.heap.size h0) (SC : Sta Z Z.heap "java/lang/String" "COMPACT_STRINGS" "Z" (.int cz)) (hcz : ¬ (cz = (0 : Int32))) (R : OwnStage Z h0 o b pb 0 hs) (hl : hs.length < 6) (B : OwnStr Z h0 r t hv) (v1 : r ≠ o) (v2 : r ≠ b) (v3 : r ≠ pb) (v4 : t ≠ o) (v5 : t ≠ b) (v6 : t ≠ pb) :
  ownMet l oM23 prog_107_method_3_code 2 none ws (oR 6 2 12 130) Z #[(.ref o), (.ref r)] h0 (fun v h L => ∃ pb' : Addr, v = none ∧ Fr Z.heap.size L ∧ Keep h0 h [o, b, pb, r] ∧ (pb' = pb ∨ h0.size ≤ pb') ∧ Z.heap.size ≤ pb' ∧ OwnStage Z h o b pb' 1 (hs ++ [own_hd hv])) := by
 obtain ⟨kb, kp, tb, hs0, sz, mp, E0, g0, gb, gp, bp, F0, F1, F2, F4, AT, H, hz, P⟩ := R
 obtain ⟨hm, x0, F3, AP, rfl⟩ := P
 rcases hm with rfl | rfl | rfl | rfl
 · exact own_add_1_0 l Z a0 hw ws cz o b pb kb kp tb hs sz x0 r t hv h0 O0 SC hcz E0 g0 gb bp F0 F1 F2 F3 F4 AT AP H hl hz  gp B v1 v2 v3 v4 v5 v6
 · exact own_add_2_0 l Z a0 hw ws cz o b pb kb kp tb hs sz x0 r t hv h0 O0 SC hcz E0 g0 gb bp F0 F1 F2 F3 F4 AT AP H hl hz  gp B v1 v2 v3 v4 v5 v6
 · exact own_add_3_0 l Z a0 hw ws cz o b pb kb kp tb hs sz x0 r t hv h0 O0 SC hcz E0 g0 gb bp F0 F1 F2 F3 F4 AT AP H hl hz  gp B v1 v2 v3 v4 v5 v6
 · exact own_add_4_0 l Z a0 hw ws cz o b pb kb kp tb hs sz x0 r t hv h0 O0 SC hcz E0 g0 gb bp F0 F1 F2 F3 F4 AT AP H hl hz  gp B v1 v2 v3 v4 v5 v6
theorem own_addR1 (l : Launch) (Z : State) (a0 : Array Value) (hw : OWS a0 Z) (ws : List Jvm.Cond) (cz : Int32) (o b pb : Addr) (hs : List Int32) (r t : Addr) (hv : Int32) (h0 : Heap) (O0 : Old Z Z.heap.size h0) (SC : Sta Z Z.heap "java/lang/String" "COMPACT_STRINGS" "Z" (.int cz)) (hcz : ¬ (cz = (0 : Int32))) (R : OwnStage Z h0 o b pb 1 hs) (hl : hs.length < 6) (B : OwnStr Z h0 r t hv) (v1 : r ≠ o) (v2 : r ≠ b) (v3 : r ≠ pb) (v4 : t ≠ o) (v5 : t ≠ b) (v6 : t ≠ pb) :
  ownMet l oM23 prog_107_method_3_code 2 none ws (oR 6 2 12 130) Z #[(.ref o), (.ref r)] h0 (fun v h L => ∃ pb' : Addr, v = none ∧ Fr Z.heap.size L ∧ Keep h0 h [o, b, pb, r] ∧ (pb' = pb ∨ h0.size ≤ pb') ∧ Z.heap.size ≤ pb' ∧ OwnStage Z h o b pb' 2 (hs ++ [own_hd hv])) := by
 obtain ⟨kb, kp, tb, hs0, sz, mp, E0, g0, gb, gp, bp, F0, F1, F2, F4, AT, H, hz, P⟩ := R
 obtain ⟨hm, x0, F3, AP, nx0, rfl⟩ := P
 rcases hm with rfl | rfl | rfl | rfl
 · exact own_add_1_1 l Z a0 hw ws cz o b pb kb kp tb hs0 sz x0 r t hv h0 O0 SC hcz E0 g0 gb bp F0 F1 F2 F3 F4 AT AP H (by simp only [List.length_append, List.length_cons, List.length_nil] at hl ⊢; omega) hz nx0 gp B v1 v2 v3 v4 v5 v6
 · exact own_add_2_1 l Z a0 hw ws cz o b pb kb kp tb hs0 sz x0 r t hv h0 O0 SC hcz E0 g0 gb bp F0 F1 F2 F3 F4 AT AP H (by simp only [List.length_append, List.length_cons, List.length_nil] at hl ⊢; omega) hz nx0 gp B v1 v2 v3 v4 v5 v6
 · exact own_add_3_1 l Z a0 hw ws cz o b pb kb kp tb hs0 sz x0 r t hv h0 O0 SC hcz E0 g0 gb bp F0 F1 F2 F3 F4 AT AP H (by simp only [List.length_append, List.length_cons, List.length_nil] at hl ⊢; omega) hz nx0 gp B v1 v2 v3 v4 v5 v6
 · exact own_add_4_1 l Z a0 hw ws cz o b pb kb kp tb hs0 sz x0 r t hv h0 O0 SC hcz E0 g0 gb bp F0 F1 F2 F3 F4 AT AP H (by simp only [List.length_append, List.length_cons, List.length_nil] at hl ⊢; omega) hz nx0 gp B v1 v2 v3 v4 v5 v6
theorem own_addR2 (l : Launch) (Z : State) (a0 : Array Value) (hw : OWS a0 Z) (ws : List Jvm.Cond) (cz : Int32) (o b pb : Addr) (hs : List Int32) (r t : Addr) (hv : Int32) (h0 : Heap) (O0 : Old Z Z.heap.size h0) (SC : Sta Z Z.heap "java/lang/String" "COMPACT_STRINGS" "Z" (.int cz)) (hcz : ¬ (cz = (0 : Int32))) (R : OwnStage Z h0 o b pb 2 hs) (hl : hs.length < 6) (B : OwnStr Z h0 r t hv) (v1 : r ≠ o) (v2 : r ≠ b) (v3 : r ≠ pb) (v4 : t ≠ o) (v5 : t ≠ b) (v6 : t ≠ pb) :
  ownMet l oM23 prog_107_method_3_code 2 none ws (oR 6 2 12 130) Z #[(.ref o), (.ref r)] h0 (fun v h L => ∃ pb' : Addr, v = none ∧ Fr Z.heap.size L ∧ Keep h0 h [o, b, pb, r] ∧ (pb' = pb ∨ h0.size ≤ pb') ∧ Z.heap.size ≤ pb' ∧ OwnRepL Z h o b pb' (hs ++ [own_hd hv])) := by
 obtain ⟨kb, kp, tb, hs0, sz, mp, E0, g0, gb, gp, bp, F0, F1, F2, F4, AT, H, hz, P⟩ := R
 rcases P with ⟨rfl, x0, F3, AP, nx0, rfl⟩ | ⟨hm, x0, x1, F3, AP, nx0, nx1, rfl⟩
 · exact own_add_1_2 l Z a0 hw ws cz o b pb kb kp tb hs0 sz x0 r t hv h0 O0 SC hcz E0 g0 gb bp F0 F1 F2 F3 F4 AT AP H (by simp only [List.length_append, List.length_cons, List.length_nil] at hl ⊢; omega) hz nx0 gp B v1 v2 v3 v4 v5 v6
 ·
  rcases hm with rfl | rfl | rfl
  · exact own_add_2_2 l Z a0 hw ws cz o b pb kb kp tb hs0 sz x0 x1 r t hv h0 O0 SC hcz E0 g0 gb bp F0 F1 F2 F3 F4 AT AP H (by simp only [List.length_append, List.length_cons, List.length_nil] at hl ⊢; omega) hz nx0 nx1 gp B v1 v2 v3 v4 v5 v6
  · exact own_add_3_2 l Z a0 hw ws cz o b pb kb kp tb hs0 sz x0 x1 r t hv h0 O0 SC hcz E0 g0 gb bp F0 F1 F2 F3 F4 AT AP H (by simp only [List.length_append, List.length_cons, List.length_nil] at hl ⊢; omega) hz nx0 nx1 gp B v1 v2 v3 v4 v5 v6
  · exact own_add_4_2 l Z a0 hw ws cz o b pb kb kp tb hs0 sz x0 x1 r t hv h0 O0 SC hcz E0 g0 gb bp F0 F1 F2 F3 F4 AT AP H (by simp only [List.length_append, List.length_cons, List.length_nil] at hl ⊢; omega) hz nx0 nx1 gp B v1 v2 v3 v4 v5 v6
theorem od15_0 : decode prog_107_method_2_code 0 = .ok (.aload_n 0, 1) := by decide +kernel
theorem od15_1 : decode prog_107_method_2_code 1 = .ok (.invokespecial 8, 3) := by decide +kernel
theorem od15_4 : decode prog_107_method_2_code 4 = .ok (.aload_n 0, 1) := by decide +kernel
theorem od15_5 : decode prog_107_method_2_code 5 = .ok (.bipush 16, 2) := by decide +kernel
theorem od15_7 : decode prog_107_method_2_code 7 = .ok (.newarray .int, 2) := by decide +kernel
theorem od15_9 : decode prog_107_method_2_code 9 = .ok (.putfield 13, 3) := by decide +kernel
theorem od15_12 : decode prog_107_method_2_code 12 = .ok (.aload_n 0, 1) := by decide +kernel
theorem od15_13 : decode prog_107_method_2_code 13 = .ok (.iconst 1, 1) := by decide +kernel
theorem od15_14 : decode prog_107_method_2_code 14 = .ok (.newarray .int, 2) := by decide +kernel
theorem od15_16 : decode prog_107_method_2_code 16 = .ok (.putfield 17, 3) := by decide +kernel
theorem od15_19 : decode prog_107_method_2_code 19 = .ok (.iload_n 1, 1) := by decide +kernel
theorem od15_20 : decode prog_107_method_2_code 20 = .ok (.iconst 1, 1) := by decide +kernel
theorem od15_21 : decode prog_107_method_2_code 21 = .ok (.if_icmp .ge 17, 3) := by decide +kernel
theorem od15_38 : decode prog_107_method_2_code 38 = .ok (.aload_n 0, 1) := by decide +kernel
theorem od15_39 : decode prog_107_method_2_code 39 = .ok (.iload_n 1, 1) := by decide +kernel
theorem od15_40 : decode prog_107_method_2_code 40 = .ok (.putfield 29, 3) := by decide +kernel
theorem od15_43 : decode prog_107_method_2_code 43 = .ok (.return_, 1) := by decide +kernel
theorem own_shinit (l : Launch) (Z : State) (a0 : Array Value) (hw : OWS a0 Z) (ws : List Jvm.Cond) (o : Addr) (mp : Int32) (h0 : Heap) (O0 : Old Z Z.heap.size h0) (E0 : oE7 Z h0 o) (g0 : Z.heap.size ≤ o) (F0 : oF2 Z h0 o .null) (F1 : oF3 Z h0 o (.int 0)) (F2 : oF4 Z h0 o .null) (F3 : oF5 Z h0 o (.int 0)) (F4 : oF6 Z h0 o (.int 0)) (hm : mp = 1 ∨ mp = 2 ∨ mp = 3 ∨ mp = 4) :
  ownMet l oM27 prog_107_method_2_code 2 none ws (oR 1 2 17 12) Z #[(.ref o), (.int mp)] h0 (fun v h L => ∃ b pb : Addr, v = none ∧ Fr Z.heap.size L ∧ Keep h0 h [o] ∧ h0.size ≤ b ∧ h0.size ≤ pb ∧ OwnStage Z h o b pb 0 []) := by
 refine own_met (plainFor_of_name oP59) ?_
 intro p e s m below meth c s₁ hx hby hml hown hnm hret hlk hZ e0 X0
 refine own_cast (show _ = (mkF m 0 #[.val (.ref o), .val (.int mp)] []) by first | (simp [entryFrame, mkF, argsToLocals, Value.category]; done) | rfl) ?_
 refine oaloadN X0 hx hby od15_0 rfl (by rfl) 1 rfl ?_
 obtain ⟨T1, X1, e1, st1⟩ := initO X0 hx hZ hown (oW hw 67 rfl) (oW hw 23 rfl) (oW hw 24 rfl) e0 (g := (mkF m 1 #[.val (.ref o), .val (.int mp)] [(.ref o)])) rfl (by rw [hml]; rfl) rfl (hb hby od15_1) (by decide) (W := 0) (by show 2 * 0 + _ ≤ _; exact Nat.le_of_eq rfl) (by decide)
 refine own_st (T1.setTop (mkF m 4 #[.val (.ref o), .val (.int mp)] [])) st1 ?_
 refine oaloadN X1 hx hby od15_4 rfl (by rfl) 5 rfl ?_
 refine obipush X1 hx hby od15_5 (16 : Int32) rfl 7 rfl ?_
 obtain ⟨T2, h2, cA2, X2, e2, E2, A2, D2, st2⟩ := newPE X1 hx hZ (oW hw 68 rfl) e1 (g := (mkF m 7 #[.val (.ref o), .val (.int mp)] [(.int 16), (.ref o)])) rfl (hb hby od15_7) rfl (by decide) (cap := 16) (by decide) (by decide) (by decide) (by decide) (ad := "[I") (by decide)
 obtain ⟨b2, g2⟩ : ∃ z, z = h0.size := ⟨_, rfl⟩
 have z2 : Z.heap.size ≤ b2 := Nat.le_trans O0.2.1 (Nat.le_of_eq g2.symm)
 have neo_2 : o ≠ b2 := Nat.ne_of_lt (Nat.lt_of_lt_of_le E0.lt (Nat.le_of_eq g2.symm))
 have s2 : h0.size ≤ b2 := Nat.le_trans (Keep.refl h0 [o]).1 (Nat.le_of_eq g2.symm)
 rw [← g2] at A2 D2 st2
 have f3 := (E0.ext E2)
 have f4 := (F0.ext E2)
 have f5 := (F1.ext E2)
 have f6 := (F2.ext E2)
 have f7 := (F3.ext E2)
 have f8 := (F4.ext E2)
 have O2 := O0.ext E2
 have K2 := (Keep.refl h0 [o]).ext E2
 have f9 : Arv Z h2 b2 cA2 .int (16 : Int32) [(.int 0), (.int 0), (.int 0), (.int 0), (.int 0), (.int 0), (.int 0), (.int 0), (.int 0), (.int 0), (.int 0), (.int 0), (.int 0), (.int 0), (.int 0), (.int 0)] (.int 0) := (Arv.new A2 (by decide)).pad (pad_rep [] (.int 0) 16)
 refine own_st (T2.setTop (mkF m 9 #[.val (.ref o), .val (.int mp)] [(.ref b2), (.ref o)])) st2 ?_
 obtain ⟨T10, h10, X10, e10, W10, st10⟩ := putF X2 hx hZ hown (host := "") (Or.inl (oW hw 69 rfl)) Via.refl e2 f4 f3 (Or.inl (oW hw 70 rfl)) (oW hw 62 rfl) (ty := (.array .int)) (by decide) (by rfl) (by rfl) (g := (mkF m 9 #[.val (.ref o), .val (.int mp)] [(.ref b2), (.ref o)])) rfl rfl (hb hby od15_9)
 have N10 := Fr.snoc X10 (Fr.nil _) g0
 have O10 := O2.wr W10 g0
 have K10 := K2.wr W10 (Or.inl (List.mem_of_getElem? (i := 0) rfl))
 have f11 := (f3.wr W10)
 have f13 := (f5.other W10 (Or.inr (slot_ne (Or.inl (oW hw 121 rfl)) (Or.inl (oW hw 70 rfl)) (by decide) (t := .int) (t' := (.array .int)) (by decide) (by decide))))
 have f14 := (f6.other W10 (Or.inr (slot_ne (Or.inl (oW hw 72 rfl)) (Or.inl (oW hw 70 rfl)) (by decide) (t := (.array .int)) (t' := (.array .int)) (by decide) (by decide))))
 have f15 := (f7.other W10 (Or.inr (slot_ne (Or.inl (oW hw 81 rfl)) (Or.inl (oW hw 70 rfl)) (by decide) (t := .int) (t' := (.array .int)) (by decide) (by decide))))
 have f16 := (f8.other W10 (Or.inr (slot_ne (Or.inr (oW hw 74 rfl)) (Or.inl (oW hw 70 rfl)) (by decide) (t := .int) (t' := (.array .int)) (by decide) (by decide))))
 have f17 := (D2.wr W10)
 have f18 := (f9.other W10 (Ne.symm neo_2))
 have f19 := (f4.same W10)
 refine own_st (T10.setTop (mkF m 12 #[.val (.ref o), .val (.int mp)] [])) st10 ?_
 refine oaloadN X10 hx hby od15_12 rfl (by rfl) 13 rfl ?_
 refine oiconst X10 hx hby od15_13 (1 : Int32) rfl 14 rfl ?_
 obtain ⟨T20, h20, cA20, X20, e20, E20, A20, D20, st20⟩ := newPE X10 hx hZ (oW hw 68 rfl) e10 (g := (mkF m 14 #[.val (.ref o), .val (.int mp)] [(.int 1), (.ref o)])) rfl (hb hby od15_14) rfl (by decide) (cap := 1) (by decide) (by decide) (by decide) (by decide) (ad := "[I") (by decide)
 obtain ⟨b20, g20⟩ : ∃ z, z = h10.size := ⟨_, rfl⟩
 have z20 : Z.heap.size ≤ b20 := Nat.le_trans O10.2.1 (Nat.le_of_eq g20.symm)
 have neo_20 : o ≠ b20 := Nat.ne_of_lt (Nat.lt_of_lt_of_le f11.lt (Nat.le_of_eq g20.symm))
 have neb2_20 : b2 ≠ b20 := Nat.ne_of_lt (Nat.lt_of_lt_of_le f17.lt (Nat.le_of_eq g20.symm))
 have s20 : h0.size ≤ b20 := Nat.le_trans K10.1 (Nat.le_of_eq g20.symm)
 rw [← g20] at A20 D20 st20
 have f21 := (f11.ext E20)
 have f22 := (f19.ext E20)
 have f23 := (f13.ext E20)
 have f24 := (f14.ext E20)
 have f25 := (f15.ext E20)
 have f26 := (f16.ext E20)
 have f27 := (f17.ext E20)
 have f28 := (f18.ext E20)
 have O20 := O10.ext E20
 have K20 := K10.ext E20
 have f29 : Arv Z h20 b20 cA20 .int (1 : Int32) [(.int 0)] (.int 0) := (Arv.new A20 (by decide)).pad (pad_rep [] (.int 0) 1)
 refine own_st (T20.setTop (mkF m 16 #[.val (.ref o), .val (.int mp)] [(.ref b20), (.ref o)])) st20 ?_
 obtain ⟨T30, h30, X30, e30, W30, st30⟩ := putF X20 hx hZ hown (host := "") (Or.inl (oW hw 71 rfl)) Via.refl e20 f24 f21 (Or.inl (oW hw 72 rfl)) (oW hw 62 rfl) (ty := (.array .int)) (by decide) (by rfl) (by rfl) (g := (mkF m 16 #[.val (.ref o), .val (.int mp)] [(.ref b20), (.ref o)])) rfl rfl (hb hby od15_16)
 have N30 := Fr.snoc X30 N10 g0
 have O30 := O20.wr W30 g0
 have K30 := K20.wr W30 (Or.inl (List.mem_of_getElem? (i := 0) rfl))
 have f31 := (f21.wr W30)
 have f32 := (f22.other W30 (Or.inr (slot_ne (Or.inl (oW hw 70 rfl)) (Or.inl (oW hw 72 rfl)) (by decide) (t := (.array .int)) (t' := (.array .int)) (by decide) (by decide))))
 have f33 := (f23.other W30 (Or.inr (slot_ne (Or.inl (oW hw 121 rfl)) (Or.inl (oW hw 72 rfl)) (by decide) (t := .int) (t' := (.array .int)) (by decide) (by decide))))
 have f35 := (f25.other W30 (Or.inr (slot_ne (Or.inl (oW hw 81 rfl)) (Or.inl (oW hw 72 rfl)) (by decide) (t := .int) (t' := (.array .int)) (by decide) (by decide))))
 have f36 := (f26.other W30 (Or.inr (slot_ne (Or.inr (oW hw 74 rfl)) (Or.inl (oW hw 72 rfl)) (by decide) (t := .int) (t' := (.array .int)) (by decide) (by decide))))
 have f37 := (f27.wr W30)
 have f38 := (f28.other W30 (Ne.symm neo_2))
 have f39 := (D20.wr W30)
 have f40 := (f29.other W30 (Ne.symm neo_20))
 have f41 := (f24.same W30)
 refine own_st (T30.setTop (mkF m 19 #[.val (.ref o), .val (.int mp)] [])) st30 ?_
 refine oiloadN X30 hx hby od15_19 rfl 20 rfl ?_
 refine oiconst X30 hx hby od15_20 (1 : Int32) rfl 21 rfl ?_
 refine oicmpYes X30 hx hby od15_21 rfl (flt ((by rcases hm with rfl | rfl | rfl | rfl <;> decide) : ¬ (mp < (1 : Int32)))).2.1 38 (by decide) (by decide) ?_
 refine oaloadN X30 hx hby od15_38 rfl (by rfl) 39 rfl ?_
 refine oiloadN X30 hx hby od15_39 rfl 40 rfl ?_
 obtain ⟨T42, h42, X42, e42, W42, st42⟩ := putF X30 hx hZ hown (host := "") (Or.inl (oW hw 73 rfl)) Via.refl e30 f36 f31 (Or.inr ⟨(oW hw 74 rfl), rfl, hnm⟩) (oW hw 62 rfl) (ty := .int) (by decide) (by rfl) (by rfl) (g := (mkF m 40 #[.val (.ref o), .val (.int mp)] [(.int mp), (.ref o)])) rfl rfl (hb hby od15_40)
 have N42 := Fr.snoc X42 N30 g0
 have O42 := O30.wr W42 g0
 have K42 := K30.wr W42 (Or.inl (List.mem_of_getElem? (i := 0) rfl))
 have f43 := (f31.wr W42)
 have f44 := (f32.other W42 (Or.inr (slot_ne (Or.inl (oW hw 70 rfl)) (Or.inr (oW hw 74 rfl)) (by decide) (t := (.array .int)) (t' := .int) (by decide) (by decide))))
 have f45 := (f33.other W42 (Or.inr (slot_ne (Or.inl (oW hw 121 rfl)) (Or.inr (oW hw 74 rfl)) (by decide) (t := .int) (t' := .int) (by decide) (by decide))))
 have f46 := (f41.other W42 (Or.inr (slot_ne (Or.inl (oW hw 72 rfl)) (Or.inr (oW hw 74 rfl)) (by decide) (t := (.array .int)) (t' := .int) (by decide) (by decide))))
 have f47 := (f35.other W42 (Or.inr (slot_ne (Or.inl (oW hw 81 rfl)) (Or.inr (oW hw 74 rfl)) (by decide) (t := .int) (t' := .int) (by decide) (by decide))))
 have f49 := (f37.wr W42)
 have f50 := (f38.other W42 (Ne.symm neo_2))
 have f51 := (f39.wr W42)
 have f52 := (f40.other W42 (Ne.symm neo_20))
 have f53 := (f36.same W42)
 refine own_st (T42.setTop (mkF m 43 #[.val (.ref o), .val (.int mp)] [])) st42 ?_
 exact own_ret X42 hlk (v := none) (fun _ => rfl) e42 (⟨_, _, rfl, N42, K42, s2, s20, _, _, List.replicate 16 0, [], _, mp, f43, g0, z2, z20, neb2_20, f44, f45, f46, f53, f50, OwnHold.empty, ⟨by decide, by decide⟩, hm, _, f47, f52, rfl⟩) (by decide) (by decide) (fun fs hr => X42.returnOut hx hret (hb hby od15_43) hr)
theorem od3_0 : decode method_5_code 0 = .ok (.iload_n 0, 1) := by decide +kernel
theorem od3_1 : decode method_5_code 1 = .ok (.iconst 3, 1) := by decide +kernel
theorem od3_2 : decode method_5_code 2 = .ok (.iand, 1) := by decide +kernel
theorem od3_3 : decode method_5_code 3 = .ok (.istore_n 1, 1) := by decide +kernel
theorem od3_4 : decode method_5_code 4 = .ok (.iload_n 1, 1) := by decide +kernel
theorem od3_5 : decode method_5_code 5 = .ok (.iconst 3, 1) := by decide +kernel
theorem od3_6 : decode method_5_code 6 = .ok (.if_icmp .ne 7, 3) := by decide +kernel
theorem od3_9 : decode method_5_code 9 = .ok (.iconst 2, 1) := by decide +kernel
theorem od3_10 : decode method_5_code 10 = .ok (.goto 4, 3) := by decide +kernel
theorem od3_14 : decode method_5_code 14 = .ok (.ireturn, 1) := by decide +kernel
theorem od3_13 : decode method_5_code 13 = .ok (.iload_n 1, 1) := by decide +kernel
theorem oP363 : plainName "com/example/rising_block/risingblock/util/StringHashesMeetsPinLaw" = true := by first | (simp [plainName, overriddenIn]; done) | decide +kernel
theorem own_len_ (l : Launch) (Z : State) (a0 : Array Value) (hw : OWS a0 Z) (ws : List Jvm.Cond) (cd : Int32) (h0 : Heap) (O0 : Old Z Z.heap.size h0) :
  ownMet l oM28 method_5_code 2 (some .int) ws (oR 0 0 0 0) Z #[(.int cd)] h0 (fun v h L => v = some (.int (own_len cd)) ∧ Fr Z.heap.size L ∧ h = h0) := by
 refine own_met (plainFor_of_name oP363) ?_
 intro p e s m below meth c s₁ hx hby hml hown hnm hret hlk hZ e0 X0
 refine own_cast (show _ = (mkF m 0 #[.val (.int cd), .unset] []) by first | (simp [entryFrame, mkF, argsToLocals, Value.category]; done) | rfl) ?_
 refine oiloadN X0 hx hby od3_0 rfl 1 rfl ?_
 refine oiconst X0 hx hby od3_1 (3 : Int32) rfl 2 rfl ?_
 refine oiand X0 hx hby od3_2 rfl _ rfl 3 rfl ?_
 let La150 : Array Slot := #[.val (.int cd), .val (.int (cd &&& (3 : Int32)))]
 refine oistoreN X0 hx hby od3_3 rfl (L' := La150) rfl 4 rfl ?_
 refine oiloadN X0 hx hby od3_4 rfl 5 rfl ?_
 refine oiconst X0 hx hby od3_5 (3 : Int32) rfl 6 rfl ?_
 by_cases c6_1 : (cd &&& (3 : Int32)) = (3 : Int32)
 ·
  refine oicmpNo X0 hx hby od3_6 rfl (teq c6_1).2 9 rfl ?_
  refine oiconst X0 hx hby od3_9 (2 : Int32) rfl 10 rfl ?_
  refine ogoto X0 hx hby od3_10 14 (by decide) (by decide) ?_
  exact own_ret X0 hlk (v := some (.int 2)) (fun h => by rw [hret] at h; cases h) e0 (⟨own_lenT c6_1, (Fr.nil _), rfl⟩) (by decide) (by decide) (fun fs hr => retI X0 hx hret (hb hby od3_14) hr)
 ·
  refine oicmpYes X0 hx hby od3_6 rfl (feq c6_1).2 13 (by decide) (by decide) ?_
  refine oiloadN X0 hx hby od3_13 rfl 14 rfl ?_
  exact own_ret X0 hlk (v := some (.int (cd &&& (3 : Int32)))) (fun h => by rw [hret] at h; cases h) e0 (⟨own_lenF c6_1, (Fr.nil _), rfl⟩) (by decide) (by decide) (fun fs hr => retI X0 hx hret (hb hby od3_14) hr)
theorem od14_0 : decode method_7_code 0 = .ok (.iload_n 0, 1) := by decide +kernel
theorem od14_1 : decode method_7_code 1 = .ok (.invokestatic 40, 3) := by decide +kernel
theorem od14_4 : decode method_7_code 4 = .ok (.istore_n 1, 1) := by decide +kernel
theorem od14_5 : decode method_7_code 5 = .ok (.iload_n 0, 1) := by decide +kernel
theorem od14_6 : decode method_7_code 6 = .ok (.iconst 2, 1) := by decide +kernel
theorem od14_7 : decode method_7_code 7 = .ok (.iushr, 1) := by decide +kernel
theorem od14_8 : decode method_7_code 8 = .ok (.sipush 255, 3) := by decide +kernel
theorem od14_11 : decode method_7_code 11 = .ok (.iand, 1) := by decide +kernel
theorem od14_12 : decode method_7_code 12 = .ok (.istore_n 2, 1) := by decide +kernel
theorem od14_13 : decode method_7_code 13 = .ok (.iload_n 0, 1) := by decide +kernel
theorem od14_14 : decode method_7_code 14 = .ok (.bipush 10, 2) := by decide +kernel
theorem od14_16 : decode method_7_code 16 = .ok (.iushr, 1) := by decide +kernel
theorem od14_17 : decode method_7_code 17 = .ok (.sipush 255, 3) := by decide +kernel
theorem od14_20 : decode method_7_code 20 = .ok (.iand, 1) := by decide +kernel
theorem od14_21 : decode method_7_code 21 = .ok (.istore_n 3, 1) := by decide +kernel
theorem od14_22 : decode method_7_code 22 = .ok (.iload_n 1, 1) := by decide +kernel
theorem od14_23 : decode method_7_code 23 = .ok (.ifCond .ne 9, 3) := by decide +kernel
theorem od14_26 : decode method_7_code 26 = .ok (.iconst 0, 1) := by decide +kernel
theorem od14_27 : decode method_7_code 27 = .ok (.istore 4, 2) := by decide +kernel
theorem od14_29 : decode method_7_code 29 = .ok (.goto 22, 3) := by decide +kernel
theorem od14_51 : decode method_7_code 51 = .ok (.iload 4, 2) := by decide +kernel
theorem od14_53 : decode method_7_code 53 = .ok (.ifCond .ne 7, 3) := by decide +kernel
theorem od14_56 : decode method_7_code 56 = .ok (.iconst 1, 1) := by decide +kernel
theorem od14_57 : decode method_7_code 57 = .ok (.goto 5, 3) := by decide +kernel
theorem od14_62 : decode method_7_code 62 = .ok (.ireturn, 1) := by decide +kernel
theorem od14_32 : decode method_7_code 32 = .ok (.iload_n 1, 1) := by decide +kernel
theorem od14_33 : decode method_7_code 33 = .ok (.iconst 1, 1) := by decide +kernel
theorem od14_34 : decode method_7_code 34 = .ok (.if_icmp .ne 9, 3) := by decide +kernel
theorem od14_37 : decode method_7_code 37 = .ok (.iload_n 2, 1) := by decide +kernel
theorem od14_38 : decode method_7_code 38 = .ok (.istore 4, 2) := by decide +kernel
theorem od14_40 : decode method_7_code 40 = .ok (.goto 11, 3) := by decide +kernel
theorem od14_60 : decode method_7_code 60 = .ok (.iload 4, 2) := by decide +kernel
theorem od14_43 : decode method_7_code 43 = .ok (.bipush 31, 2) := by decide +kernel
theorem od14_45 : decode method_7_code 45 = .ok (.iload_n 2, 1) := by decide +kernel
theorem od14_46 : decode method_7_code 46 = .ok (.imul, 1) := by decide +kernel
theorem od14_47 : decode method_7_code 47 = .ok (.iload_n 3, 1) := by decide +kernel
theorem od14_48 : decode method_7_code 48 = .ok (.iadd, 1) := by decide +kernel
theorem od14_49 : decode method_7_code 49 = .ok (.istore 4, 2) := by decide +kernel
theorem own_lheld (l : Launch) (Z : State) (a0 : Array Value) (hw : OWS a0 Z) (ws : List Jvm.Cond) (cd : Int32) (h0 : Heap) (O0 : Old Z Z.heap.size h0) :
  ownMet l oM29 method_7_code 5 (some .int) ws (oR 1 0 0 13) Z #[(.int cd)] h0 (fun v h L => v = some (.int (own_hd (own_hc cd))) ∧ Fr Z.heap.size L ∧ h = h0) := by
 refine own_met (plainFor_of_name oP363) ?_
 intro p e s m below meth c s₁ hx hby hml hown hnm hret hlk hZ e0 X0
 refine own_cast (show _ = (mkF m 0 #[.val (.int cd), .unset, .unset, .unset, .unset] []) by first | (simp [entryFrame, mkF, argsToLocals, Value.category]; done) | rfl) ?_
 refine oiloadN X0 hx hby od14_0 rfl 1 rfl ?_
 let La151 : Array Slot := #[.val (.int cd), .unset, .unset, .unset, .unset]
 obtain ⟨v1, T1, L1, X1, q1, st1⟩ := own_callS X0 hx hZ hown (oW hw 8 rfl) (oW hw 9 rfl) (oW hw 2 rfl) (oW hw 10 rfl) (argsL := [(.int cd)]) (own_len_ l Z a0 hw [] cd h0 O0) 0 (by decide) (by decide) (by decide) (by decide) (by decide) e0 (g := (mkF m 1 La151 [(.int cd)])) rfl (by rw [hml]; rfl) [] (lenOf oP55 rfl) rfl (by show 2 * 0 + _ ≤ _; exact Nat.le_of_eq rfl) (hb hby od14_1)
 obtain ⟨rfl, N1q, e1⟩ := q1
 have N1 := Fr.app (Fr.nil _) N1q
 refine own_st (T1.setTop (mkF m 4 La151 [(.int (own_len cd))])) st1 ?_
 let La152 : Array Slot := #[.val (.int cd), .val (.int (own_len cd)), .unset, .unset, .unset]
 refine oistoreN X1 hx hby od14_4 rfl (L' := La152) rfl 5 rfl ?_
 refine oiloadN X1 hx hby od14_5 rfl 6 rfl ?_
 refine oiconst X1 hx hby od14_6 (2 : Int32) rfl 7 rfl ?_
 refine oiushr X1 hx hby od14_7 rfl _ rfl 8 rfl ?_
 refine osipush X1 hx hby od14_8 (255 : Int32) rfl 11 rfl ?_
 refine oiand X1 hx hby od14_11 rfl _ rfl 12 rfl ?_
 let La153 : Array Slot := #[.val (.int cd), .val (.int (own_len cd)), .val (.int (((cd.toUInt32 >>> ((2 : Int32) &&& 31).toUInt32).toInt32) &&& (255 : Int32))), .unset, .unset]
 refine oistoreN X1 hx hby od14_12 rfl (L' := La153) rfl 13 rfl ?_
 refine oiloadN X1 hx hby od14_13 rfl 14 rfl ?_
 refine obipush X1 hx hby od14_14 (10 : Int32) rfl 16 rfl ?_
 refine oiushr X1 hx hby od14_16 rfl _ rfl 17 rfl ?_
 refine osipush X1 hx hby od14_17 (255 : Int32) rfl 20 rfl ?_
 refine oiand X1 hx hby od14_20 rfl _ rfl 21 rfl ?_
 let La154 : Array Slot := #[.val (.int cd), .val (.int (own_len cd)), .val (.int (((cd.toUInt32 >>> ((2 : Int32) &&& 31).toUInt32).toInt32) &&& (255 : Int32))), .val (.int (((cd.toUInt32 >>> ((10 : Int32) &&& 31).toUInt32).toInt32) &&& (255 : Int32))), .unset]
 refine oistoreN X1 hx hby od14_21 rfl (L' := La154) rfl 22 rfl ?_
 refine oiloadN X1 hx hby od14_22 rfl 23 rfl ?_
 by_cases c23_2 : (own_len cd) = (0 : Int32)
 ·
  refine oifNo X1 hx hby od14_23 rfl ((if0 _ _).trans (teq c23_2).2) 26 rfl ?_
  refine oiconst X1 hx hby od14_26 (0 : Int32) rfl 27 rfl ?_
  let La155 : Array Slot := #[.val (.int cd), .val (.int (own_len cd)), .val (.int (((cd.toUInt32 >>> ((2 : Int32) &&& 31).toUInt32).toInt32) &&& (255 : Int32))), .val (.int (((cd.toUInt32 >>> ((10 : Int32) &&& 31).toUInt32).toInt32) &&& (255 : Int32))), .val (.int 0)]
  refine oistore X1 hx hby od14_27 rfl (L' := La155) rfl 29 rfl ?_
  refine ogoto X1 hx hby od14_29 51 (by decide) (by decide) ?_
  refine oiload X1 hx hby od14_51 rfl 53 rfl ?_
  refine oifNo X1 hx hby od14_53 rfl ((if0 _ _).trans (teq ((by decide) : (0 : Int32) = (0 : Int32))).2) 56 rfl ?_
  refine oiconst X1 hx hby od14_56 (1 : Int32) rfl 57 rfl ?_
  refine ogoto X1 hx hby od14_57 62 (by decide) (by decide) ?_
  exact own_ret X1 hlk (v := some (.int 1)) (fun h => by rw [hret] at h; cases h) e1 (⟨by rw [(own_hc0 c23_2)]; exact own_hdT rfl, N1, rfl⟩) (by decide) (by decide) (fun fs hr => retI X1 hx hret (hb hby od14_62) hr)
 ·
  refine oifYes X1 hx hby od14_23 rfl ((if0 _ _).trans (feq c23_2).2) 32 (by decide) (by decide) ?_
  refine oiloadN X1 hx hby od14_32 rfl 33 rfl ?_
  refine oiconst X1 hx hby od14_33 (1 : Int32) rfl 34 rfl ?_
  by_cases c34_3 : (own_len cd) = (1 : Int32)
  ·
   refine oicmpNo X1 hx hby od14_34 rfl (teq c34_3).2 37 rfl ?_
   refine oiloadN X1 hx hby od14_37 rfl 38 rfl ?_
   let La156 : Array Slot := #[.val (.int cd), .val (.int (own_len cd)), .val (.int (((cd.toUInt32 >>> ((2 : Int32) &&& 31).toUInt32).toInt32) &&& (255 : Int32))), .val (.int (((cd.toUInt32 >>> ((10 : Int32) &&& 31).toUInt32).toInt32) &&& (255 : Int32))), .val (.int (((cd.toUInt32 >>> ((2 : Int32) &&& 31).toUInt32).toInt32) &&& (255 : Int32)))]
   refine oistore X1 hx hby od14_38 rfl (L' := La156) rfl 40 rfl ?_
   refine ogoto X1 hx hby od14_40 51 (by decide) (by decide) ?_
   refine oiload X1 hx hby od14_51 rfl 53 rfl ?_
   by_cases c53_4 : (((cd.toUInt32 >>> ((2 : Int32) &&& 31).toUInt32).toInt32) &&& (255 : Int32)) = (0 : Int32)
   ·
    refine oifNo X1 hx hby od14_53 rfl ((if0 _ _).trans (teq c53_4).2) 56 rfl ?_
    refine oiconst X1 hx hby od14_56 (1 : Int32) rfl 57 rfl ?_
    refine ogoto X1 hx hby od14_57 62 (by decide) (by decide) ?_
    exact own_ret X1 hlk (v := some (.int 1)) (fun h => by rw [hret] at h; cases h) e1 (⟨by rw [(own_hc1 c23_2 c34_3)]; exact own_hdT c53_4, N1, rfl⟩) (by decide) (by decide) (fun fs hr => retI X1 hx hret (hb hby od14_62) hr)
   ·
    refine oifYes X1 hx hby od14_53 rfl ((if0 _ _).trans (feq c53_4).2) 60 (by decide) (by decide) ?_
    refine oiload X1 hx hby od14_60 rfl 62 rfl ?_
    exact own_ret X1 hlk (v := some (.int (((cd.toUInt32 >>> ((2 : Int32) &&& 31).toUInt32).toInt32) &&& (255 : Int32)))) (fun h => by rw [hret] at h; cases h) e1 (⟨by rw [(own_hc1 c23_2 c34_3)]; exact own_hdF c53_4, N1, rfl⟩) (by decide) (by decide) (fun fs hr => retI X1 hx hret (hb hby od14_62) hr)
  ·
   refine oicmpYes X1 hx hby od14_34 rfl (feq c34_3).2 43 (by decide) (by decide) ?_
   refine obipush X1 hx hby od14_43 (31 : Int32) rfl 45 rfl ?_
   refine oiloadN X1 hx hby od14_45 rfl 46 rfl ?_
   refine oimul X1 hx hby od14_46 rfl _ rfl 47 rfl ?_
   refine oiloadN X1 hx hby od14_47 rfl 48 rfl ?_
   refine oiadd X1 hx hby od14_48 rfl _ rfl 49 rfl ?_
   let La157 : Array Slot := #[.val (.int cd), .val (.int (own_len cd)), .val (.int (((cd.toUInt32 >>> ((2 : Int32) &&& 31).toUInt32).toInt32) &&& (255 : Int32))), .val (.int (((cd.toUInt32 >>> ((10 : Int32) &&& 31).toUInt32).toInt32) &&& (255 : Int32))), .val (.int (((31 : Int32) * (((cd.toUInt32 >>> ((2 : Int32) &&& 31).toUInt32).toInt32) &&& (255 : Int32))) + (((cd.toUInt32 >>> ((10 : Int32) &&& 31).toUInt32).toInt32) &&& (255 : Int32))))]
   refine oistore X1 hx hby od14_49 rfl (L' := La157) rfl 51 rfl ?_
   refine oiload X1 hx hby od14_51 rfl 53 rfl ?_
   by_cases c53_5 : (((31 : Int32) * (((cd.toUInt32 >>> ((2 : Int32) &&& 31).toUInt32).toInt32) &&& (255 : Int32))) + (((cd.toUInt32 >>> ((10 : Int32) &&& 31).toUInt32).toInt32) &&& (255 : Int32))) = (0 : Int32)
   ·
    refine oifNo X1 hx hby od14_53 rfl ((if0 _ _).trans (teq c53_5).2) 56 rfl ?_
    refine oiconst X1 hx hby od14_56 (1 : Int32) rfl 57 rfl ?_
    refine ogoto X1 hx hby od14_57 62 (by decide) (by decide) ?_
    exact own_ret X1 hlk (v := some (.int 1)) (fun h => by rw [hret] at h; cases h) e1 (⟨by rw [(own_hc2 c23_2 c34_3)]; exact own_hdT c53_5, N1, rfl⟩) (by decide) (by decide) (fun fs hr => retI X1 hx hret (hb hby od14_62) hr)
   ·
    refine oifYes X1 hx hby od14_53 rfl ((if0 _ _).trans (feq c53_5).2) 60 (by decide) (by decide) ?_
    refine oiload X1 hx hby od14_60 rfl 62 rfl ?_
    exact own_ret X1 hlk (v := some (.int (((31 : Int32) * (((cd.toUInt32 >>> ((2 : Int32) &&& 31).toUInt32).toInt32) &&& (255 : Int32))) + (((cd.toUInt32 >>> ((10 : Int32) &&& 31).toUInt32).toInt32) &&& (255 : Int32))))) (fun h => by rw [hret] at h; cases h) e1 (⟨by rw [(own_hc2 c23_2 c34_3)]; exact own_hdF c53_5, N1, rfl⟩) (by decide) (by decide) (fun fs hr => retI X1 hx hret (hb hby od14_62) hr)
theorem od30_0 : decode method_3_code 0 = .ok (.iload 4, 2) := by decide +kernel
theorem od30_2 : decode method_3_code 2 = .ok (.ifCond .le 8, 3) := by decide +kernel
theorem od30_5 : decode method_3_code 5 = .ok (.iload_n 0, 1) := by decide +kernel
theorem od30_6 : decode method_3_code 6 = .ok (.iload_n 1, 1) := by decide +kernel
theorem od30_7 : decode method_3_code 7 = .ok (.if_icmp .eq 25, 3) := by decide +kernel
theorem od30_32 : decode method_3_code 32 = .ok (.iconst 1, 1) := by decide +kernel
theorem od30_33 : decode method_3_code 33 = .ok (.goto 4, 3) := by decide +kernel
theorem od30_37 : decode method_3_code 37 = .ok (.ireturn, 1) := by decide +kernel
theorem od30_10 : decode method_3_code 10 = .ok (.iload 4, 2) := by decide +kernel
theorem od30_12 : decode method_3_code 12 = .ok (.iconst 1, 1) := by decide +kernel
theorem od30_13 : decode method_3_code 13 = .ok (.if_icmp .le 8, 3) := by decide +kernel
theorem od30_16 : decode method_3_code 16 = .ok (.iload_n 0, 1) := by decide +kernel
theorem od30_17 : decode method_3_code 17 = .ok (.iload_n 2, 1) := by decide +kernel
theorem od30_18 : decode method_3_code 18 = .ok (.if_icmp .eq 14, 3) := by decide +kernel
theorem od30_21 : decode method_3_code 21 = .ok (.iload 4, 2) := by decide +kernel
theorem od30_23 : decode method_3_code 23 = .ok (.iconst 2, 1) := by decide +kernel
theorem od30_24 : decode method_3_code 24 = .ok (.if_icmp .le 12, 3) := by decide +kernel
theorem od30_27 : decode method_3_code 27 = .ok (.iload_n 0, 1) := by decide +kernel
theorem od30_28 : decode method_3_code 28 = .ok (.iload_n 3, 1) := by decide +kernel
theorem od30_29 : decode method_3_code 29 = .ok (.if_icmp .ne 7, 3) := by decide +kernel
theorem od30_36 : decode method_3_code 36 = .ok (.iconst 0, 1) := by decide +kernel
theorem own_lin (l : Launch) (Z : State) (a0 : Array Value) (hw : OWS a0 Z) (ws : List Jvm.Cond) (h h0_ h1_ h2_ n : Int32) (h0 : Heap) (O0 : Old Z Z.heap.size h0) :
  ownMet l oM30 method_3_code 5 (some .boolean) ws (oR 0 0 0 0) Z #[(.int h), (.int h0_), (.int h1_), (.int h2_), (.int n)] h0 (fun v hh L => v = some (.int (if own_in h h0_ h1_ h2_ n then (1 : Int32) else 0)) ∧ Fr Z.heap.size L ∧ hh = h0) := by
 refine own_met (plainFor_of_name oP363) ?_
 intro p e s m below meth c s₁ hx hby hml hown hnm hret hlk hZ e0 X0
 refine own_cast (show _ = (mkF m 0 #[.val (.int h), .val (.int h0_), .val (.int h1_), .val (.int h2_), .val (.int n)] []) by first | (simp [entryFrame, mkF, argsToLocals, Value.category]; done) | rfl) ?_
 refine oiload X0 hx hby od30_0 rfl 2 rfl ?_
 by_cases c2_1 : (0 : Int32) < n
 ·
  refine oifNo X0 hx hby od30_2 rfl ((if0 _ _).trans (tlt c2_1).2.2.2) 5 rfl ?_
  refine oiloadN X0 hx hby od30_5 rfl 6 rfl ?_
  refine oiloadN X0 hx hby od30_6 rfl 7 rfl ?_
  by_cases c7_2 : h = h0_
  ·
   refine oicmpYes X0 hx hby od30_7 rfl (teq c7_2).1 32 (by decide) (by decide) ?_
   refine oiconst X0 hx hby od30_32 (1 : Int32) rfl 33 rfl ?_
   refine ogoto X0 hx hby od30_33 37 (by decide) (by decide) ?_
   exact own_ret X0 hlk (v := some (.int 1)) (fun h => by rw [hret] at h; cases h) e0 (⟨by rw [if_pos (by simp only [own_in]; simp [c2_1, c7_2])], (Fr.nil _), rfl⟩) (by decide) (by decide) (fun fs hr => own_retN X0 hx (t := .boolean) hret (by simp) (hb hby od30_37) rfl hr)
  ·
   refine oicmpNo X0 hx hby od30_7 rfl (feq c7_2).1 10 rfl ?_
   refine oiload X0 hx hby od30_10 rfl 12 rfl ?_
   refine oiconst X0 hx hby od30_12 (1 : Int32) rfl 13 rfl ?_
   by_cases c13_3 : (1 : Int32) < n
   ·
    refine oicmpNo X0 hx hby od30_13 rfl (tlt c13_3).2.2.2 16 rfl ?_
    refine oiloadN X0 hx hby od30_16 rfl 17 rfl ?_
    refine oiloadN X0 hx hby od30_17 rfl 18 rfl ?_
    by_cases c18_4 : h = h1_
    ·
     refine oicmpYes X0 hx hby od30_18 rfl (teq c18_4).1 32 (by decide) (by decide) ?_
     refine oiconst X0 hx hby od30_32 (1 : Int32) rfl 33 rfl ?_
     refine ogoto X0 hx hby od30_33 37 (by decide) (by decide) ?_
     exact own_ret X0 hlk (v := some (.int 1)) (fun h => by rw [hret] at h; cases h) e0 (⟨by rw [if_pos (by simp only [own_in]; simp [c2_1, c7_2, c13_3, c18_4])], (Fr.nil _), rfl⟩) (by decide) (by decide) (fun fs hr => own_retN X0 hx (t := .boolean) hret (by simp) (hb hby od30_37) rfl hr)
    ·
     refine oicmpNo X0 hx hby od30_18 rfl (feq c18_4).1 21 rfl ?_
     refine oiload X0 hx hby od30_21 rfl 23 rfl ?_
     refine oiconst X0 hx hby od30_23 (2 : Int32) rfl 24 rfl ?_
     by_cases c24_5 : (2 : Int32) < n
     ·
      refine oicmpNo X0 hx hby od30_24 rfl (tlt c24_5).2.2.2 27 rfl ?_
      refine oiloadN X0 hx hby od30_27 rfl 28 rfl ?_
      refine oiloadN X0 hx hby od30_28 rfl 29 rfl ?_
      by_cases c29_6 : h = h2_
      ·
       refine oicmpNo X0 hx hby od30_29 rfl (teq c29_6).2 32 rfl ?_
       refine oiconst X0 hx hby od30_32 (1 : Int32) rfl 33 rfl ?_
       refine ogoto X0 hx hby od30_33 37 (by decide) (by decide) ?_
       exact own_ret X0 hlk (v := some (.int 1)) (fun h => by rw [hret] at h; cases h) e0 (⟨by rw [if_pos (by simp only [own_in]; simp [c2_1, c7_2, c13_3, c18_4, c24_5, c29_6])], (Fr.nil _), rfl⟩) (by decide) (by decide) (fun fs hr => own_retN X0 hx (t := .boolean) hret (by simp) (hb hby od30_37) rfl hr)
      ·
       refine oicmpYes X0 hx hby od30_29 rfl (feq c29_6).2 36 (by decide) (by decide) ?_
       refine oiconst X0 hx hby od30_36 (0 : Int32) rfl 37 rfl ?_
       exact own_ret X0 hlk (v := some (.int 0)) (fun h => by rw [hret] at h; cases h) e0 (⟨by rw [if_neg (by simp only [own_in]; simp [c2_1, c7_2, c13_3, c18_4, c24_5, c29_6])], (Fr.nil _), rfl⟩) (by decide) (by decide) (fun fs hr => own_retN X0 hx (t := .boolean) hret (by simp) (hb hby od30_37) rfl hr)
     ·
      refine oicmpYes X0 hx hby od30_24 rfl (flt c24_5).2.2.2 36 (by decide) (by decide) ?_
      refine oiconst X0 hx hby od30_36 (0 : Int32) rfl 37 rfl ?_
      exact own_ret X0 hlk (v := some (.int 0)) (fun h => by rw [hret] at h; cases h) e0 (⟨by rw [if_neg (by simp only [own_in]; simp [c2_1, c7_2, c13_3, c18_4, c24_5])], (Fr.nil _), rfl⟩) (by decide) (by decide) (fun fs hr => own_retN X0 hx (t := .boolean) hret (by simp) (hb hby od30_37) rfl hr)
   ·
    refine oicmpYes X0 hx hby od30_13 rfl (flt c13_3).2.2.2 21 (by decide) (by decide) ?_
    refine oiload X0 hx hby od30_21 rfl 23 rfl ?_
    refine oiconst X0 hx hby od30_23 (2 : Int32) rfl 24 rfl ?_
    by_cases c24_7 : (2 : Int32) < n
    ·
     refine oicmpNo X0 hx hby od30_24 rfl (tlt c24_7).2.2.2 27 rfl ?_
     refine oiloadN X0 hx hby od30_27 rfl 28 rfl ?_
     refine oiloadN X0 hx hby od30_28 rfl 29 rfl ?_
     by_cases c29_8 : h = h2_
     ·
      refine oicmpNo X0 hx hby od30_29 rfl (teq c29_8).2 32 rfl ?_
      refine oiconst X0 hx hby od30_32 (1 : Int32) rfl 33 rfl ?_
      refine ogoto X0 hx hby od30_33 37 (by decide) (by decide) ?_
      exact own_ret X0 hlk (v := some (.int 1)) (fun h => by rw [hret] at h; cases h) e0 (⟨by rw [if_pos (by simp only [own_in]; simp [c2_1, c7_2, c13_3, c24_7, c29_8])], (Fr.nil _), rfl⟩) (by decide) (by decide) (fun fs hr => own_retN X0 hx (t := .boolean) hret (by simp) (hb hby od30_37) rfl hr)
     ·
      refine oicmpYes X0 hx hby od30_29 rfl (feq c29_8).2 36 (by decide) (by decide) ?_
      refine oiconst X0 hx hby od30_36 (0 : Int32) rfl 37 rfl ?_
      exact own_ret X0 hlk (v := some (.int 0)) (fun h => by rw [hret] at h; cases h) e0 (⟨by rw [if_neg (by simp only [own_in]; simp [c2_1, c7_2, c13_3, c24_7, c29_8])], (Fr.nil _), rfl⟩) (by decide) (by decide) (fun fs hr => own_retN X0 hx (t := .boolean) hret (by simp) (hb hby od30_37) rfl hr)
    ·
     refine oicmpYes X0 hx hby od30_24 rfl (flt c24_7).2.2.2 36 (by decide) (by decide) ?_
     refine oiconst X0 hx hby od30_36 (0 : Int32) rfl 37 rfl ?_
     exact own_ret X0 hlk (v := some (.int 0)) (fun h => by rw [hret] at h; cases h) e0 (⟨by rw [if_neg (by simp only [own_in]; simp [c2_1, c7_2, c13_3, c24_7])], (Fr.nil _), rfl⟩) (by decide) (by decide) (fun fs hr => own_retN X0 hx (t := .boolean) hret (by simp) (hb hby od30_37) rfl hr)
 ·
  refine oifYes X0 hx hby od30_2 rfl ((if0 _ _).trans (flt c2_1).2.2.2) 10 (by decide) (by decide) ?_
  refine oiload X0 hx hby od30_10 rfl 12 rfl ?_
  refine oiconst X0 hx hby od30_12 (1 : Int32) rfl 13 rfl ?_
  by_cases c13_9 : (1 : Int32) < n
  ·
   refine oicmpNo X0 hx hby od30_13 rfl (tlt c13_9).2.2.2 16 rfl ?_
   refine oiloadN X0 hx hby od30_16 rfl 17 rfl ?_
   refine oiloadN X0 hx hby od30_17 rfl 18 rfl ?_
   by_cases c18_10 : h = h1_
   ·
    refine oicmpYes X0 hx hby od30_18 rfl (teq c18_10).1 32 (by decide) (by decide) ?_
    refine oiconst X0 hx hby od30_32 (1 : Int32) rfl 33 rfl ?_
    refine ogoto X0 hx hby od30_33 37 (by decide) (by decide) ?_
    exact own_ret X0 hlk (v := some (.int 1)) (fun h => by rw [hret] at h; cases h) e0 (⟨by rw [if_pos (by simp only [own_in]; simp [c2_1, c13_9, c18_10])], (Fr.nil _), rfl⟩) (by decide) (by decide) (fun fs hr => own_retN X0 hx (t := .boolean) hret (by simp) (hb hby od30_37) rfl hr)
   ·
    refine oicmpNo X0 hx hby od30_18 rfl (feq c18_10).1 21 rfl ?_
    refine oiload X0 hx hby od30_21 rfl 23 rfl ?_
    refine oiconst X0 hx hby od30_23 (2 : Int32) rfl 24 rfl ?_
    by_cases c24_11 : (2 : Int32) < n
    ·
     refine oicmpNo X0 hx hby od30_24 rfl (tlt c24_11).2.2.2 27 rfl ?_
     refine oiloadN X0 hx hby od30_27 rfl 28 rfl ?_
     refine oiloadN X0 hx hby od30_28 rfl 29 rfl ?_
     by_cases c29_12 : h = h2_
     ·
      refine oicmpNo X0 hx hby od30_29 rfl (teq c29_12).2 32 rfl ?_
      refine oiconst X0 hx hby od30_32 (1 : Int32) rfl 33 rfl ?_
      refine ogoto X0 hx hby od30_33 37 (by decide) (by decide) ?_
      exact own_ret X0 hlk (v := some (.int 1)) (fun h => by rw [hret] at h; cases h) e0 (⟨by rw [if_pos (by simp only [own_in]; simp [c2_1, c13_9, c18_10, c24_11, c29_12])], (Fr.nil _), rfl⟩) (by decide) (by decide) (fun fs hr => own_retN X0 hx (t := .boolean) hret (by simp) (hb hby od30_37) rfl hr)
     ·
      refine oicmpYes X0 hx hby od30_29 rfl (feq c29_12).2 36 (by decide) (by decide) ?_
      refine oiconst X0 hx hby od30_36 (0 : Int32) rfl 37 rfl ?_
      exact own_ret X0 hlk (v := some (.int 0)) (fun h => by rw [hret] at h; cases h) e0 (⟨by rw [if_neg (by simp only [own_in]; simp [c2_1, c13_9, c18_10, c24_11, c29_12])], (Fr.nil _), rfl⟩) (by decide) (by decide) (fun fs hr => own_retN X0 hx (t := .boolean) hret (by simp) (hb hby od30_37) rfl hr)
    ·
     refine oicmpYes X0 hx hby od30_24 rfl (flt c24_11).2.2.2 36 (by decide) (by decide) ?_
     refine oiconst X0 hx hby od30_36 (0 : Int32) rfl 37 rfl ?_
     exact own_ret X0 hlk (v := some (.int 0)) (fun h => by rw [hret] at h; cases h) e0 (⟨by rw [if_neg (by simp only [own_in]; simp [c2_1, c13_9, c18_10, c24_11])], (Fr.nil _), rfl⟩) (by decide) (by decide) (fun fs hr => own_retN X0 hx (t := .boolean) hret (by simp) (hb hby od30_37) rfl hr)
  ·
   refine oicmpYes X0 hx hby od30_13 rfl (flt c13_9).2.2.2 21 (by decide) (by decide) ?_
   refine oiload X0 hx hby od30_21 rfl 23 rfl ?_
   refine oiconst X0 hx hby od30_23 (2 : Int32) rfl 24 rfl ?_
   by_cases c24_13 : (2 : Int32) < n
   ·
    refine oicmpNo X0 hx hby od30_24 rfl (tlt c24_13).2.2.2 27 rfl ?_
    refine oiloadN X0 hx hby od30_27 rfl 28 rfl ?_
    refine oiloadN X0 hx hby od30_28 rfl 29 rfl ?_
    by_cases c29_14 : h = h2_
    ·
     refine oicmpNo X0 hx hby od30_29 rfl (teq c29_14).2 32 rfl ?_
     refine oiconst X0 hx hby od30_32 (1 : Int32) rfl 33 rfl ?_
     refine ogoto X0 hx hby od30_33 37 (by decide) (by decide) ?_
     exact own_ret X0 hlk (v := some (.int 1)) (fun h => by rw [hret] at h; cases h) e0 (⟨by rw [if_pos (by simp only [own_in]; simp [c2_1, c13_9, c24_13, c29_14])], (Fr.nil _), rfl⟩) (by decide) (by decide) (fun fs hr => own_retN X0 hx (t := .boolean) hret (by simp) (hb hby od30_37) rfl hr)
    ·
     refine oicmpYes X0 hx hby od30_29 rfl (feq c29_14).2 36 (by decide) (by decide) ?_
     refine oiconst X0 hx hby od30_36 (0 : Int32) rfl 37 rfl ?_
     exact own_ret X0 hlk (v := some (.int 0)) (fun h => by rw [hret] at h; cases h) e0 (⟨by rw [if_neg (by simp only [own_in]; simp [c2_1, c13_9, c24_13, c29_14])], (Fr.nil _), rfl⟩) (by decide) (by decide) (fun fs hr => own_retN X0 hx (t := .boolean) hret (by simp) (hb hby od30_37) rfl hr)
   ·
    refine oicmpYes X0 hx hby od30_24 rfl (flt c24_13).2.2.2 36 (by decide) (by decide) ?_
    refine oiconst X0 hx hby od30_36 (0 : Int32) rfl 37 rfl ?_
    exact own_ret X0 hlk (v := some (.int 0)) (fun h => by rw [hret] at h; cases h) e0 (⟨by rw [if_neg (by simp only [own_in]; simp [c2_1, c13_9, c24_13])], (Fr.nil _), rfl⟩) (by decide) (by decide) (fun fs hr => own_retN X0 hx (t := .boolean) hret (by simp) (hb hby od30_37) rfl hr)
theorem od5_0 : decode jdk_42_method_149_code 0 = .ok (.aload_n 0, 1) := by decide +kernel
theorem od5_1 : decode jdk_42_method_149_code 1 = .ok (.invokespecial 1, 3) := by decide +kernel
theorem od5_4 : decode jdk_42_method_149_code 4 = .ok (.iload_n 3, 1) := by decide +kernel
theorem od5_5 : decode jdk_42_method_149_code 5 = .ok (.ifCond .ne 22, 3) := by decide +kernel
theorem od5_8 : decode jdk_42_method_149_code 8 = .ok (.aload_n 0, 1) := by decide +kernel
theorem od5_9 : decode jdk_42_method_149_code 9 = .ok (.ldc 7, 2) := by decide +kernel
theorem od5_11 : decode jdk_42_method_149_code 11 = .ok (.getfield 9, 3) := by decide +kernel
theorem od5_14 : decode jdk_42_method_149_code 14 = .ok (.putfield 9, 3) := by decide +kernel
theorem od5_17 : decode jdk_42_method_149_code 17 = .ok (.aload_n 0, 1) := by decide +kernel
theorem od5_18 : decode jdk_42_method_149_code 18 = .ok (.ldc 7, 2) := by decide +kernel
theorem od5_20 : decode jdk_42_method_149_code 20 = .ok (.getfield 15, 3) := by decide +kernel
theorem od5_23 : decode jdk_42_method_149_code 23 = .ok (.putfield 15, 3) := by decide +kernel
theorem od5_26 : decode jdk_42_method_149_code 26 = .ok (.return_, 1) := by decide +kernel
theorem own_sinit4_0 (l : Launch) (Z : State) (a0 : Array Value) (hw : OWS a0 Z) (ws : List Jvm.Cond) (a t : Addr) (h0 : Heap) (O0 : Old Z Z.heap.size h0) (E0 : oE15 Z h0 a) (FV : oF11 Z h0 a .null) (FC : oF12 Z h0 a (.int 0)) (g0 : Z.heap.size ≤ a) (FM0 : oF13 Z h0 a (.int 0)) (FM1 : oF14 Z h0 a (.int 0)) :
  ownMetW l oM31 jdk_42_method_149_code 6 none ws (oR 1 4 8 12) Z own_EL [a] #[(.ref a), (.ref t), (.int 0), (.int 0), .null] h0 (fun v vm h L => ∃ (b : Addr) (kb : ClassId), v = none ∧ Fr Z.heap.size L ∧ Keep h0 h [a] ∧ oF11 Z h a (.ref b) ∧ oF12 Z h a (.int 0) ∧ Arv Z h b kb .byte (0 : Int32) [] (.int 0) ∧ oF13 Z h a (.int 0) ∧ oF14 Z h a (.int 0)) := by
 have hEL := own_hEL hw
 refine own_metW (plainFor_of_name oP179) ?_
 intro p e s m below meth c s₁ hx hby hml hown hnm hret hlk hZ e0 X0 hS0 R0 hsf
 refine own_cast (show _ = (mkF m 0 #[.val (.ref a), .val (.ref t), .val (.int 0), .val (.int 0), .val .null, .unset] []) by first | (simp [entryFrame, mkF, argsToLocals, Value.category]; done) | rfl) ?_
 refine oaloadN X0 hx hby od5_0 rfl (by rfl) 1 rfl ?_
 let La158 : Array Slot := #[rv a, rv t, .val (.int 0), .val (.int 0), .val .null, .unset]
 obtain ⟨T1, X1, e1, st1⟩ := initO X0 hx hZ hown (oW hw 22 rfl) (oW hw 23 rfl) (oW hw 24 rfl) e0 (g := (mkF m 1 La158 [(.ref a)])) rfl (by rw [hml]; rfl) rfl (hb hby od5_1) (by decide) (W := 0) (by show 2 * 0 + _ ≤ _; exact Nat.le_of_eq rfl) (by decide)
 refine own_st (T1.setTop (mkF m 4 La158 [])) st1 ?_
 refine oiloadN X1 hx hby od5_4 rfl 5 rfl ?_
 refine oifNo X1 hx hby od5_5 rfl ((if0 _ _).trans (teq ((by decide) : (0 : Int32) = (0 : Int32))).2) 8 rfl ?_
 refine oaloadN X1 hx hby od5_8 rfl (by rfl) 9 rfl ?_
 obtain ⟨a2, T2, h2, k2, b2, c2, X2, e2, E2, hS2, hk2, hZ2, hown2, EA2, FC2, FV2, AV2, -, -, C2, -, nn2, st2⟩ := ldcCH X1 hx hZ hown (oW hw 41 rfl) (own_wS hw) e1 hS0 (Nat.zero_le _) hEL (by decide) R0.1 (vs := []) (z := (0 : Int32)) ⟨by decide, by decide⟩ (by decide) (by decide) (g := (mkF m 9 La158 [(.ref a)])) rfl (hb hby od5_9) (n := 0) (by decide) (by decide) (by decide) (by decide)
 have sf2_a := C2.safe E0.lt (hsf _ (List.mem_of_getElem? (i := 0) rfl))
 have nl2_a := nn2 a sf2_a
 have R2 := R0.trans C2
 have f3 := (E0.ext E2)
 have f4 := (FV.ext E2)
 have f5 := (FC.ext E2)
 have f6 := (FM0.ext E2)
 have f7 := (FM1.ext E2)
 have O2 := O0.ext E2
 have K2 := (Keep.refl h0 [a]).ext E2
 refine own_st (T2.setTop (mkF m 11 La158 [(.ref a2), (.ref a)])) st2 ?_
 refine ogetF X2 hx hZ2 hown2 (host := "") (Or.inl (oW hw 39 rfl)) Via.refl e2 FV2 rfl hby od5_11 14 rfl fun T8 X8 e8 => ?_
 obtain ⟨T9, h9, X9, e9, W9, st9⟩ := putF X8 hx hZ2 hown2 (host := "") (Or.inl (oW hw 39 rfl)) Via.refl e8 f4 f3 (Or.inr ⟨(oW hw 40 rfl), rfl, hnm⟩) (oW hw 12 rfl) (ty := (.array .byte)) (by decide) (by rfl) (by rfl) (g := (mkF m 14 La158 [(.ref b2), (.ref a)])) rfl rfl (hb hby od5_14)
 have N9 := Fr.snoc X9 (Fr.nil _) g0
 have O9 := O2.wr W9 g0
 have R9 := R2.trans (CHr.wr W9 sf2_a R2.1)
 have sf9_a := Safe.wr W9 sf2_a R2.1 sf2_a
 have K9 := K2.wr W9 (Or.inl (List.mem_of_getElem? (i := 0) rfl))
 have f10 := (f3.wr W9)
 have f12 := (f5.other W9 (Or.inr (slot_ne (Or.inr (oW hw 38 rfl)) (Or.inr (oW hw 40 rfl)) (by decide) (t := .byte) (t' := (.array .byte)) (by decide) (by decide))))
 have f13 := (f6.other W9 (Or.inr (slot_ne (Or.inl (oW hw 96 rfl)) (Or.inr (oW hw 40 rfl)) (by decide) (t := .int) (t' := (.array .byte)) (by decide) (by decide))))
 have f14 := (f7.other W9 (Or.inr (slot_ne (Or.inl (oW hw 98 rfl)) (Or.inr (oW hw 40 rfl)) (by decide) (t := .boolean) (t' := (.array .byte)) (by decide) (by decide))))
 have f15 := (EA2.wr W9)
 have f16 := (FC2.other W9 (Or.inl (Ne.symm nl2_a.1)))
 have f17 := (FV2.other W9 (Or.inl (Ne.symm nl2_a.1)))
 have f18 := (AV2.other W9 (Ne.symm nl2_a.2))
 have f19 := (f4.same W9)
 refine own_st (T9.setTop (mkF m 17 La158 [])) st9 ?_
 refine oaloadN X9 hx hby od5_17 rfl (by rfl) 18 rfl ?_
 obtain ⟨a20, T20, h20, k20, b20, c20, X20, e20, E20, hS20, hk20, hZ20, hown20, EA20, FC20, FV20, AV20, -, -, C20, -, nn20, st20⟩ := ldcCH X9 hx hZ2 hown2 (oW hw 41 rfl) (own_wS hw) e9 hS2 (Nat.le_trans hk2 (Nat.le_of_eq W9.size.symm)) hEL (by decide) R9.1 (vs := []) (z := (0 : Int32)) ⟨by decide, by decide⟩ (by decide) (by decide) (g := (mkF m 18 La158 [(.ref a)])) rfl (hb hby od5_18) (n := 0) (by decide) (by decide) (by decide) (by decide)
 have sf20_a := C20.safe f10.lt sf9_a
 have nl20_a := nn20 a sf20_a
 have R20 := R9.trans C20
 have f21 := (f10.ext E20)
 have f22 := (f19.ext E20)
 have f23 := (f12.ext E20)
 have f24 := (f13.ext E20)
 have f25 := (f14.ext E20)
 have f26 := (f15.ext E20)
 have f27 := (f16.ext E20)
 have f28 := (f17.ext E20)
 have f29 := (f18.ext E20)
 have O20 := O9.ext E20
 have K20 := K9.ext E20
 refine own_st (T20.setTop (mkF m 20 La158 [(.ref a20), (.ref a)])) st20 ?_
 refine ogetF X20 hx hZ20 hown20 (host := "") (Or.inl (oW hw 37 rfl)) Via.refl e20 FC20 rfl hby od5_20 23 rfl fun T30 X30 e30 => ?_
 obtain ⟨T31, h31, X31, e31, W31, st31⟩ := putF X30 hx hZ20 hown20 (host := "") (Or.inl (oW hw 37 rfl)) Via.refl e30 f23 f21 (Or.inr ⟨(oW hw 38 rfl), rfl, hnm⟩) (oW hw 12 rfl) (ty := .byte) (by decide) (by rfl) (by rfl) (g := (mkF m 23 La158 [(.int 0), (.ref a)])) rfl rfl (hb hby od5_23)
 have N31 := Fr.snoc X31 N9 g0
 have O31 := O20.wr W31 g0
 have R31 := R20.trans (CHr.wr W31 sf20_a R20.1)
 have sf31_a := Safe.wr W31 sf20_a R20.1 sf20_a
 have K31 := K20.wr W31 (Or.inl (List.mem_of_getElem? (i := 0) rfl))
 have f32 := (f21.wr W31)
 have f33 := (f22.other W31 (Or.inr (slot_ne (Or.inr (oW hw 40 rfl)) (Or.inr (oW hw 38 rfl)) (by decide) (t := (.array .byte)) (t' := .byte) (by decide) (by decide))))
 have f35 := (f24.other W31 (Or.inr (slot_ne (Or.inl (oW hw 96 rfl)) (Or.inr (oW hw 38 rfl)) (by decide) (t := .int) (t' := .byte) (by decide) (by decide))))
 have f36 := (f25.other W31 (Or.inr (slot_ne (Or.inl (oW hw 98 rfl)) (Or.inr (oW hw 38 rfl)) (by decide) (t := .boolean) (t' := .byte) (by decide) (by decide))))
 have f37 := (f26.wr W31)
 have f38 := (f27.other W31 (Or.inl (Ne.symm nl2_a.1)))
 have f39 := (f28.other W31 (Or.inl (Ne.symm nl2_a.1)))
 have f40 := (f29.other W31 (Ne.symm nl2_a.2))
 have f41 := (EA20.wr W31)
 have f42 := (FC20.other W31 (Or.inl (Ne.symm nl20_a.1)))
 have f43 := (FV20.other W31 (Or.inl (Ne.symm nl20_a.1)))
 have f44 := (AV20.other W31 (Ne.symm nl20_a.2))
 have f45 := (f23.same W31)
 refine own_st (T31.setTop (mkF m 26 La158 [])) st31 ?_
 exact own_retW X31 hlk hS20 (Nat.le_trans hk20 (Nat.le_of_eq W31.size.symm)) hZ20 hEL R31 (v := none) (fun _ => rfl) e31 (fun vm1 C1 => ⟨_, _, rfl, N31, K31, f33, f45, f40, f35, f36⟩) (by decide) (by decide) (fun fs hr => X31.returnOut hx hret (hb hby od5_26) hr)
theorem od4_0 : decode jdk_42_method_3_code 0 = .ok (.aload_n 0, 1) := by decide +kernel
theorem od4_1 : decode jdk_42_method_3_code 1 = .ok (.aload_n 1, 1) := by decide +kernel
theorem od4_2 : decode jdk_42_method_3_code 2 = .ok (.iconst 0, 1) := by decide +kernel
theorem od4_3 : decode jdk_42_method_3_code 3 = .ok (.aload_n 1, 1) := by decide +kernel
theorem od4_4 : decode jdk_42_method_3_code 4 = .ok (.arraylength, 1) := by decide +kernel
theorem od4_5 : decode jdk_42_method_3_code 5 = .ok (.aconst_null, 1) := by decide +kernel
theorem oP442 : parseMethodDescriptor "([CIILjava/lang/Void;)V" = some ⟨[(.array .char), .int, .int, (.object "java/lang/Void")], none⟩ := by decide +kernel
theorem od4_6 : decode jdk_42_method_3_code 6 = .ok (.invokespecial 27, 3) := by decide +kernel
theorem od4_9 : decode jdk_42_method_3_code 9 = .ok (.return_, 1) := by decide +kernel
theorem own_sinit1_0 (l : Launch) (Z : State) (a0 : Array Value) (hw : OWS a0 Z) (ws : List Jvm.Cond) (a t : Addr) (kt : ClassId) (h0 : Heap) (O0 : Old Z Z.heap.size h0) (E0 : oE15 Z h0 a) (FV : oF11 Z h0 a .null) (FC : oF12 Z h0 a (.int 0)) (g0 : Z.heap.size ≤ a) (FM0 : oF13 Z h0 a (.int 0)) (FM1 : oF14 Z h0 a (.int 0)) (Atx : Arv Z h0 t kt .char (0 : Int32) [] (.int 0)) (ta : t ≠ a) :
  ownMetW l oM32 jdk_42_method_3_code 2 none ws (oR 2 4 8 29) Z own_EL [a] #[(.ref a), (.ref t)] h0 (fun v vm h L => ∃ (b : Addr) (kb : ClassId), v = none ∧ Fr Z.heap.size L ∧ Keep h0 h [a] ∧ oF11 Z h a (.ref b) ∧ oF12 Z h a (.int 0) ∧ Arv Z h b kb .byte (0 : Int32) [] (.int 0) ∧ oF13 Z h a (.int 0) ∧ oF14 Z h a (.int 0)) := by
 have hEL := own_hEL hw
 refine own_metW (plainFor_of_name oP179) ?_
 intro p e s m below meth c s₁ hx hby hml hown hnm hret hlk hZ e0 X0 hS0 R0 hsf
 refine own_cast (show _ = (mkF m 0 #[.val (.ref a), .val (.ref t)] []) by first | (simp [entryFrame, mkF, argsToLocals, Value.category]; done) | rfl) ?_
 refine oaloadN X0 hx hby od4_0 rfl (by rfl) 1 rfl ?_
 refine oaloadN X0 hx hby od4_1 rfl (by rfl) 2 rfl ?_
 refine oiconst X0 hx hby od4_2 (0 : Int32) rfl 3 rfl ?_
 refine oaloadN X0 hx hby od4_3 rfl (by rfl) 4 rfl ?_
 obtain ⟨cl1, q1a, q1b, q1c, q1d, q1e, q1f⟩ := id Atx
 refine own_st (s₁.setTop (mkF m 5 #[.val (.ref a), .val (.ref t)] [(.int 0), (.int 0), (.ref t), (.ref a)])) (fun tq kq => X0.arraylength hx (by rw [e0]; exact q1a.1) (State.isArrayOf_alike hZ.alike q1a.2.1) (g := (mkF m 4 #[.val (.ref a), .val (.ref t)] [(.ref t), (.int 0), (.ref t), (.ref a)])) rfl rfl (hb hby od4_4) tq (by rw [len_of q1c q1d]; exact kq)) ?_
 refine oaconstNull X0 hx hby od4_5 6 rfl ?_
 obtain ⟨v2, T2, L2, X2, hS2, hZ2, hown2, C2, R2, q2, st2⟩ := own_callIW X0 hx hZ hown (y := oM31) rfl (oW hw 18 rfl) (oW hw 19 rfl) (oW hw 13 rfl) (oW hw 21 rfl) (a := a) (argsL := [(.ref t), (.int 0), (.int 0), .null]) (own_sinit4_0 l Z a0 hw [] a t h0 O0 E0 FV FC g0 FM0 FM1) 0 (by decide) (by decide) (by decide) (by decide) (by decide) hS0 (Nat.zero_le _) hEL R0 (allS ⟨E0.lt, (hsf _ (List.mem_of_getElem? (i := 0) rfl))⟩ all0) e0 (g := (mkF m 6 #[.val (.ref a), .val (.ref t)] [.null, (.int 0), (.int 0), (.ref t), (.ref a)])) rfl (by rw [hml]; rfl) [] (lenOf oP442 rfl) rfl (by show 2 * 0 + _ ≤ _; exact Nat.le_of_eq rfl) (hb hby od4_6)
 have sf2_a := C2.safe E0.lt (hsf _ (List.mem_of_getElem? (i := 0) rfl))
 obtain ⟨b2, kb2, rfl, N2q, K2q, fv2, fc2, f2q, fm2_0, fm2_1⟩ := q2
 have N2 := Fr.app (Fr.nil _) N2q
 have f3 := (E0.keep K2q)
 have f8 := (Atx.keep K2q (ninS ta nin0))
 have O2 := O0.keep K2q (allS g0 all0)
 have K2 := (Keep.refl h0 [a]).trans K2q (allS (Or.inl (List.mem_of_getElem? (i := 0) rfl)) all0)
 refine own_st (T2.setTop (mkF m 9 #[.val (.ref a), .val (.ref t)] [])) st2 ?_
 exact own_retW X2 hlk hS2 (Nat.le_refl _) hZ2 hEL R2 (v := none) (fun _ => rfl) rfl (fun vm1 C1 => ⟨_, _, rfl, N2, K2, fv2, fc2, f2q, fm2_0, fm2_1⟩) (by decide) (by decide) (fun fs hr => X2.returnOut hx hret (hb hby od4_9) hr)
theorem od2_0 : decode method_6_code 0 = .ok (.iload_n 0, 1) := by decide +kernel
theorem od2_1 : decode method_6_code 1 = .ok (.invokestatic 40, 3) := by decide +kernel
theorem od2_4 : decode method_6_code 4 = .ok (.istore_n 1, 1) := by decide +kernel
theorem od2_5 : decode method_6_code 5 = .ok (.iload_n 0, 1) := by decide +kernel
theorem od2_6 : decode method_6_code 6 = .ok (.iconst 2, 1) := by decide +kernel
theorem od2_7 : decode method_6_code 7 = .ok (.iushr, 1) := by decide +kernel
theorem od2_8 : decode method_6_code 8 = .ok (.sipush 255, 3) := by decide +kernel
theorem od2_11 : decode method_6_code 11 = .ok (.iand, 1) := by decide +kernel
theorem od2_12 : decode method_6_code 12 = .ok (.i2c, 1) := by decide +kernel
theorem od2_13 : decode method_6_code 13 = .ok (.istore_n 2, 1) := by decide +kernel
theorem od2_14 : decode method_6_code 14 = .ok (.iload_n 0, 1) := by decide +kernel
theorem od2_15 : decode method_6_code 15 = .ok (.bipush 10, 2) := by decide +kernel
theorem od2_17 : decode method_6_code 17 = .ok (.iushr, 1) := by decide +kernel
theorem od2_18 : decode method_6_code 18 = .ok (.sipush 255, 3) := by decide +kernel
theorem od2_21 : decode method_6_code 21 = .ok (.iand, 1) := by decide +kernel
theorem od2_22 : decode method_6_code 22 = .ok (.i2c, 1) := by decide +kernel
theorem od2_23 : decode method_6_code 23 = .ok (.istore_n 3, 1) := by decide +kernel
theorem od2_24 : decode method_6_code 24 = .ok (.iload_n 1, 1) := by decide +kernel
theorem od2_25 : decode method_6_code 25 = .ok (.ifCond .ne 14, 3) := by decide +kernel
theorem od2_28 : decode method_6_code 28 = .ok (.new 43, 3) := by decide +kernel
theorem od2_31 : decode method_6_code 31 = .ok (.dup, 1) := by decide +kernel
theorem od2_32 : decode method_6_code 32 = .ok (.iconst 0, 1) := by decide +kernel
theorem od2_33 : decode method_6_code 33 = .ok (.newarray .char, 2) := by decide +kernel
theorem oP468 : parseMethodDescriptor "([C)V" = some ⟨[(.array .char)], none⟩ := by decide +kernel
theorem od2_35 : decode method_6_code 35 = .ok (.invokespecial 45, 3) := by decide +kernel
theorem od2_38 : decode method_6_code 38 = .ok (.areturn, 1) := by decide +kernel
theorem od2_39 : decode method_6_code 39 = .ok (.iload_n 1, 1) := by decide +kernel
theorem od2_40 : decode method_6_code 40 = .ok (.iconst 1, 1) := by decide +kernel
theorem od2_41 : decode method_6_code 41 = .ok (.if_icmp .ne 8, 3) := by decide +kernel
theorem od2_44 : decode method_6_code 44 = .ok (.iload_n 2, 1) := by decide +kernel
theorem od10_0 : decode jdk_42_method_139_code 0 = .ok (.getstatic 38, 3) := by decide +kernel
theorem od10_3 : decode jdk_42_method_139_code 3 = .ok (.ifCond .eq 23, 3) := by decide +kernel
theorem od10_6 : decode jdk_42_method_139_code 6 = .ok (.iload_n 0, 1) := by decide +kernel
theorem od11_0 : decode jdk_43_method_3_code 0 = .ok (.iload_n 0, 1) := by decide +kernel
theorem od11_1 : decode jdk_43_method_3_code 1 = .ok (.sipush 255, 3) := by decide +kernel
theorem od11_4 : decode jdk_43_method_3_code 4 = .ok (.if_icmp .gt 7, 3) := by decide +kernel
theorem od11_7 : decode jdk_43_method_3_code 7 = .ok (.iconst 1, 1) := by decide +kernel
theorem od11_8 : decode jdk_43_method_3_code 8 = .ok (.goto 4, 3) := by decide +kernel
theorem od11_12 : decode jdk_43_method_3_code 12 = .ok (.ireturn, 1) := by decide +kernel
theorem own_au23_canEncode (l : Launch) (Z : State) (a0 : Array Value) (hw : OWS a0 Z) (ws : List Jvm.Cond) (iv0 : Int32)  (h0 : Heap) (O0 : Old Z Z.heap.size h0) (Riv0a : ¬ (iv0 < (0 : Int32))) (Riv0b : ¬ ((255 : Int32) < iv0)) :
  ownMet l oM33 jdk_43_method_3_code 1 (some .boolean) ws (oR 0 0 0 0) Z #[(.int iv0)] h0 (fun v h L => v = some (.int 1) ∧ Fr Z.heap.size L ∧ h = h0) := by
 refine own_met (plainFor_of_name oP191) ?_
 intro p e s m below meth c s₁ hx hby hml hown hnm hret hlk hZ e0 X0
 refine own_cast (show _ = (mkF m 0 #[.val (.int iv0)] []) by first | (simp [entryFrame, mkF, argsToLocals, Value.category]; done) | rfl) ?_
 refine oiloadN X0 hx hby od11_0 rfl 1 rfl ?_
 refine osipush X0 hx hby od11_1 (255 : Int32) rfl 4 rfl ?_
 refine oicmpNo X0 hx hby od11_4 rfl (flt (Riv0b : ¬ ((255 : Int32) < iv0))).2.2.1 7 rfl ?_
 refine oiconst X0 hx hby od11_7 (1 : Int32) rfl 8 rfl ?_
 refine ogoto X0 hx hby od11_8 12 (by decide) (by decide) ?_
 exact own_ret X0 hlk (v := some (.int 1)) (fun h => by rw [hret] at h; cases h) e0 (⟨rfl, (Fr.nil _), rfl⟩) (by decide) (by decide) (fun fs hr => own_retN X0 hx (t := .boolean) hret (by simp) (hb hby od11_12) rfl hr)
theorem oP484 : parseMethodDescriptor "(C)Z" = some ⟨[.char], some .boolean⟩ := by decide +kernel
theorem od10_7 : decode jdk_42_method_139_code 7 = .ok (.invokestatic 1015, 3) := by decide +kernel
theorem od10_10 : decode jdk_42_method_139_code 10 = .ok (.ifCond .eq 16, 3) := by decide +kernel
theorem od10_13 : decode jdk_42_method_139_code 13 = .ok (.new 10, 3) := by decide +kernel
theorem od10_16 : decode jdk_42_method_139_code 16 = .ok (.dup, 1) := by decide +kernel
theorem od10_17 : decode jdk_42_method_139_code 17 = .ok (.iload_n 0, 1) := by decide +kernel
theorem od12_0 : decode jdk_43_method_46_code 0 = .ok (.iconst 1, 1) := by decide +kernel
theorem od12_1 : decode jdk_43_method_46_code 1 = .ok (.newarray .byte, 2) := by decide +kernel
theorem od12_3 : decode jdk_43_method_46_code 3 = .ok (.dup, 1) := by decide +kernel
theorem od12_4 : decode jdk_43_method_46_code 4 = .ok (.iconst 0, 1) := by decide +kernel
theorem od12_5 : decode jdk_43_method_46_code 5 = .ok (.iload_n 0, 1) := by decide +kernel
theorem od12_6 : decode jdk_43_method_46_code 6 = .ok (.i2b, 1) := by decide +kernel
theorem od12_7 : decode jdk_43_method_46_code 7 = .ok (.bastore, 1) := by decide +kernel
theorem od12_8 : decode jdk_43_method_46_code 8 = .ok (.areturn, 1) := by decide +kernel
theorem own_au24_toBytes (l : Launch) (Z : State) (a0 : Array Value) (hw : OWS a0 Z) (ws : List Jvm.Cond) (iv0 : Int32)  (h0 : Heap) (O0 : Old Z Z.heap.size h0) (Riv0a : ¬ (iv0 < (0 : Int32))) (Riv0b : ¬ ((255 : Int32) < iv0)) :
  ownMet l oM34 jdk_43_method_46_code 1 (some (.array .byte)) ws (oR 0 1 1 0) Z #[(.int iv0)] h0 (fun v h L => ∃ (b1 : Addr) (cA1 : ClassId), v = some (.ref b1) ∧ Fr Z.heap.size L ∧ Keep h0 h [] ∧ Z.heap.size ≤ b1 ∧ h0.size ≤ b1 ∧ oE20 Z h b1 ∧ Arv Z h b1 cA1 .byte (1 : Int32) [(.int (iv0.toInt8.toInt32))] (.int 0)) := by
 refine own_met (plainFor_of_name oP191) ?_
 intro p e s m below meth c s₁ hx hby hml hown hnm hret hlk hZ e0 X0
 refine own_cast (show _ = (mkF m 0 #[.val (.int iv0)] []) by first | (simp [entryFrame, mkF, argsToLocals, Value.category]; done) | rfl) ?_
 refine oiconst X0 hx hby od12_0 (1 : Int32) rfl 1 rfl ?_
 obtain ⟨T1, h1, cA1, X1, e1, E1, A1, D1, st1⟩ := newPE X0 hx hZ (oW hw 30 rfl) e0 (g := (mkF m 1 #[.val (.int iv0)] [(.int 1)])) rfl (hb hby od12_1) rfl (by decide) (cap := 1) (by decide) (by decide) (by decide) (by decide) (ad := "[B") (by decide)
 obtain ⟨b1, g1⟩ : ∃ z, z = h0.size := ⟨_, rfl⟩
 have z1 : Z.heap.size ≤ b1 := Nat.le_trans O0.2.1 (Nat.le_of_eq g1.symm)
 have s1 : h0.size ≤ b1 := Nat.le_trans (Keep.refl h0 []).1 (Nat.le_of_eq g1.symm)
 rw [← g1] at A1 D1 st1
 have O1 := O0.ext E1
 have K1 := (Keep.refl h0 []).ext E1
 have f2 : Arv Z h1 b1 cA1 .byte (1 : Int32) [(.int 0)] (.int 0) := (Arv.new A1 (by decide)).pad (pad_rep [] (.int 0) 1)
 refine own_st (T1.setTop (mkF m 3 #[.val (.int iv0)] [(.ref b1)])) st1 ?_
 refine odup X1 hx hby od12_3 rfl (by rfl) 4 rfl ?_
 refine oiconst X1 hx hby od12_4 (0 : Int32) rfl 5 rfl ?_
 refine oiloadN X1 hx hby od12_5 rfl 6 rfl ?_
 refine oi2b X1 hx hby od12_6 rfl _ rfl 7 rfl ?_
 obtain ⟨cl3, q3a, q3b, q3c, q3d, q3e, q3f⟩ := id f2
 obtain ⟨T3, h3, X3, e3, W3, st3⟩ := stB X1 hx hZ e1 q3a (j := (0 : Int32)) (inb_of q3c ⟨by decide, by decide⟩) (g := (mkF m 7 #[.val (.int iv0)] [(.int (iv0.toInt8.toInt32)), (.int 0), (.ref b1), (.ref b1)])) rfl rfl (hb hby od12_7)
 have N3 := Fr.snoc X3 (Fr.nil _) z1
 have O3 := O1.wr W3 z1
 have K3 := K1.wr W3 (Or.inr s1)
 have f4 := (D1.wr W3)
 have f6 : Arv Z h3 b1 cA1 .byte (1 : Int32) [(.int (iv0.toInt8.toInt32))] (.int 0) := (show nar .byte (iv0.toInt8.toInt32) = (iv0.toInt8.toInt32) from (own_narB _)) ▸ Arv.set q3a q3b q3c q3d q3e q3f (fits_nar_byte _) W3 0 (by decide) (show 0 < 1 by decide)
 refine own_st (T3.setTop (mkF m 8 #[.val (.int iv0)] [(.ref b1)])) st3 ?_
 exact own_ret X3 hlk (v := some (.ref b1)) (fun h => by rw [hret] at h; cases h) e3 (⟨_, _, rfl, N3, K3, z1, s1, f4, f6⟩) (by decide) (by decide) (fun fs hr => retOut X3 hx hret rfl (Or.inr (Or.inr (Or.inr (Or.inr ⟨rfl, rfl, rfl⟩)))) (hb hby od12_8) hr)
theorem oP498 : parseMethodDescriptor "(C)[B" = some ⟨[.char], some (.array .byte)⟩ := by decide +kernel
theorem od10_18 : decode jdk_42_method_139_code 18 = .ok (.invokestatic 1018, 3) := by decide +kernel
theorem od10_21 : decode jdk_42_method_139_code 21 = .ok (.iconst 0, 1) := by decide +kernel
theorem od13_0 : decode jdk_42_method_151_code 0 = .ok (.aload_n 0, 1) := by decide +kernel
theorem od13_1 : decode jdk_42_method_151_code 1 = .ok (.invokespecial 1, 3) := by decide +kernel
theorem od13_4 : decode jdk_42_method_151_code 4 = .ok (.aload_n 0, 1) := by decide +kernel
theorem od13_5 : decode jdk_42_method_151_code 5 = .ok (.aload_n 1, 1) := by decide +kernel
theorem od13_6 : decode jdk_42_method_151_code 6 = .ok (.putfield 9, 3) := by decide +kernel
theorem od13_9 : decode jdk_42_method_151_code 9 = .ok (.aload_n 0, 1) := by decide +kernel
theorem od13_10 : decode jdk_42_method_151_code 10 = .ok (.iload_n 2, 1) := by decide +kernel
theorem od13_11 : decode jdk_42_method_151_code 11 = .ok (.putfield 15, 3) := by decide +kernel
theorem od13_14 : decode jdk_42_method_151_code 14 = .ok (.return_, 1) := by decide +kernel
theorem own_au25_init (l : Launch) (Z : State) (a0 : Array Value) (hw : OWS a0 Z) (ws : List Jvm.Cond) (ad0 ad1 : Addr) (iv0 : Int32) (kc0 : ClassId) (h0 : Heap) (O0 : Old Z Z.heap.size h0) (P0 : oE15 Z h0 ad0) (P1 : oF12 Z h0 ad0 (.int 0)) (P2 : oF11 Z h0 ad0 .null) (P3 : oF13 Z h0 ad0 (.int 0)) (P4 : oF14 Z h0 ad0 (.int 0)) (P5 : oE20 Z h0 ad1) (P6 : Arv Z h0 ad1 kc0 .byte (1 : Int32) [(.int iv0)] (.int 0)) (G_ad0 : Z.heap.size ≤ ad0) (G_ad1 : Z.heap.size ≤ ad1) :
  ownMet l oM35 jdk_42_method_151_code 3 none ws (oR 1 0 0 12) Z #[(.ref ad0), (.ref ad1), (.int 0)] h0 (fun v h L => v = none ∧ Fr Z.heap.size L ∧ Keep h0 h [ad0] ∧ oF12 Z h ad0 (.int 0) ∧ oF11 Z h ad0 (.ref ad1) ∧ oF13 Z h ad0 (.int 0) ∧ oF14 Z h ad0 (.int 0)) := by
 refine own_met (plainFor_of_name oP179) ?_
 intro p e s m below meth c s₁ hx hby hml hown hnm hret hlk hZ e0 X0
 refine own_cast (show _ = (mkF m 0 #[.val (.ref ad0), .val (.ref ad1), .val (.int 0)] []) by first | (simp [entryFrame, mkF, argsToLocals, Value.category]; done) | rfl) ?_
 refine oaloadN X0 hx hby od13_0 rfl (by rfl) 1 rfl ?_
 let La159 : Array Slot := #[rv ad0, rv ad1, .val (.int 0)]
 obtain ⟨T1, X1, e1, st1⟩ := initO X0 hx hZ hown (oW hw 22 rfl) (oW hw 23 rfl) (oW hw 24 rfl) e0 (g := (mkF m 1 La159 [(.ref ad0)])) rfl (by rw [hml]; rfl) rfl (hb hby od13_1) (by decide) (W := 0) (by show 2 * 0 + _ ≤ _; exact Nat.le_of_eq rfl) (by decide)
 refine own_st (T1.setTop (mkF m 4 La159 [])) st1 ?_
 refine oaloadN X1 hx hby od13_4 rfl (by rfl) 5 rfl ?_
 refine oaloadN X1 hx hby od13_5 rfl (by rfl) 6 rfl ?_
 obtain ⟨T2, h2, X2, e2, W2, st2⟩ := putF X1 hx hZ hown (host := "") (Or.inl (oW hw 39 rfl)) Via.refl e1 P2 P0 (Or.inr ⟨(oW hw 40 rfl), rfl, hnm⟩) (oW hw 12 rfl) (ty := (.array .byte)) (by decide) (by rfl) (by rfl) (g := (mkF m 6 La159 [(.ref ad1), (.ref ad0)])) rfl rfl (hb hby od13_6)
 have N2 := Fr.snoc X2 (Fr.nil _) G_ad0
 have O2 := O0.wr W2 G_ad0
 have K2 := (Keep.refl h0 [ad0]).wr W2 (Or.inl (List.mem_of_getElem? (i := 0) rfl))
 have f3 := (P0.wr W2)
 have f4 := (P1.other W2 (Or.inr (slot_ne (Or.inr (oW hw 38 rfl)) (Or.inr (oW hw 40 rfl)) (by decide) (t := .byte) (t' := (.array .byte)) (by decide) (by decide))))
 have f6 := (P3.other W2 (Or.inr (slot_ne (Or.inl (oW hw 96 rfl)) (Or.inr (oW hw 40 rfl)) (by decide) (t := .int) (t' := (.array .byte)) (by decide) (by decide))))
 have f7 := (P4.other W2 (Or.inr (slot_ne (Or.inl (oW hw 98 rfl)) (Or.inr (oW hw 40 rfl)) (by decide) (t := .boolean) (t' := (.array .byte)) (by decide) (by decide))))
 have f8 := (P5.wr W2)
 have f9 := (P6.other W2 (ne_exa P5 P0 (by decide)))
 have f10 := (P2.same W2)
 refine own_st (T2.setTop (mkF m 9 La159 [])) st2 ?_
 refine oaloadN X2 hx hby od13_9 rfl (by rfl) 10 rfl ?_
 refine oiloadN X2 hx hby od13_10 rfl 11 rfl ?_
 obtain ⟨T11, h11, X11, e11, W11, st11⟩ := putF X2 hx hZ hown (host := "") (Or.inl (oW hw 37 rfl)) Via.refl e2 f4 f3 (Or.inr ⟨(oW hw 38 rfl), rfl, hnm⟩) (oW hw 12 rfl) (ty := .byte) (by decide) (by rfl) (by rfl) (g := (mkF m 11 La159 [(.int 0), (.ref ad0)])) rfl rfl (hb hby od13_11)
 have N11 := Fr.snoc X11 N2 G_ad0
 have O11 := O2.wr W11 G_ad0
 have K11 := K2.wr W11 (Or.inl (List.mem_of_getElem? (i := 0) rfl))
 have f12 := (f3.wr W11)
 have f14 := (f10.other W11 (Or.inr (slot_ne (Or.inr (oW hw 40 rfl)) (Or.inr (oW hw 38 rfl)) (by decide) (t := (.array .byte)) (t' := .byte) (by decide) (by decide))))
 have f15 := (f6.other W11 (Or.inr (slot_ne (Or.inl (oW hw 96 rfl)) (Or.inr (oW hw 38 rfl)) (by decide) (t := .int) (t' := .byte) (by decide) (by decide))))
 have f16 := (f7.other W11 (Or.inr (slot_ne (Or.inl (oW hw 98 rfl)) (Or.inr (oW hw 38 rfl)) (by decide) (t := .boolean) (t' := .byte) (by decide) (by decide))))
 have f17 := (f8.wr W11)
 have f18 := (f9.other W11 (ne_exa f8 f3 (by decide)))
 have f19 := (f4.same W11)
 refine own_st (T11.setTop (mkF m 14 La159 [])) st11 ?_
 exact own_ret X11 hlk (v := none) (fun _ => rfl) e11 (⟨rfl, N11, K11, f19, f14, f15, f16⟩) (by decide) (by decide) (fun fs hr => X11.returnOut hx hret (hb hby od13_14) hr)
theorem oP510 : parseMethodDescriptor "([BB)V" = some ⟨[(.array .byte), .byte], none⟩ := by decide +kernel
theorem od10_22 : decode jdk_42_method_139_code 22 = .ok (.invokespecial 209, 3) := by decide +kernel
theorem od10_25 : decode jdk_42_method_139_code 25 = .ok (.areturn, 1) := by decide +kernel
theorem own_au22_valueOf (l : Launch) (Z : State) (a0 : Array Value) (hw : OWS a0 Z) (ws : List Jvm.Cond) (iv0 : Int32) (iv1 : Int32)  (h0 : Heap) (O0 : Old Z Z.heap.size h0) (PS0 : Sta Z Z.heap "java/lang/String" "COMPACT_STRINGS" "Z" (.int iv1)) (Riv0a : ¬ (iv0 < (0 : Int32))) (Riv0b : ¬ ((255 : Int32) < iv0)) (PC0 : ¬ (iv1 = (0 : Int32))) :
  ownMet l oM36 jdk_42_method_139_code 1 (some (.object "java/lang/String")) ws (oR 2 2 5 27) Z #[(.int iv0)] h0 (fun v h L => ∃ (b3 b8_0 : Addr) (kb8_0 : ClassId), v = some (.ref b3) ∧ Fr Z.heap.size L ∧ Keep h0 h [] ∧ Z.heap.size ≤ b3 ∧ h0.size ≤ b3 ∧ Z.heap.size ≤ b8_0 ∧ h0.size ≤ b8_0 ∧ b3 ≠ b8_0 ∧ oE15 Z h b3 ∧ oF12 Z h b3 (.int 0) ∧ oF11 Z h b3 (.ref b8_0) ∧ oF13 Z h b3 (.int 0) ∧ oF14 Z h b3 (.int 0) ∧ oE20 Z h b8_0 ∧ Arv Z h b8_0 kb8_0 .byte (1 : Int32) [(.int (iv0.toInt8.toInt32))] (.int 0)) := by
 refine own_met (plainFor_of_name oP179) ?_
 intro p e s m below meth c s₁ hx hby hml hown hnm hret hlk hZ e0 X0
 refine own_cast (show _ = (mkF m 0 #[.val (.int iv0)] []) by first | (simp [entryFrame, mkF, argsToLocals, Value.category]; done) | rfl) ?_
 obtain ⟨T1, X1, e1, st1⟩ := getS2 X0 hx hZ hown (host := "") (Or.inl (oW hw 25 rfl)) Via.refl e0 (PS0.ext O0.2) (g := (mkF m 0 #[.val (.int iv0)] [])) rfl (hb hby od10_0)
 refine own_st (T1.setTop (mkF m 3 #[.val (.int iv0)] [(.int iv1)])) st1 ?_
 refine oifNo X1 hx hby od10_3 rfl ((if0 _ _).trans (feq (PC0 : ¬ (iv1 = (0 : Int32)))).1) 6 rfl ?_
 refine oiloadN X1 hx hby od10_6 rfl 7 rfl ?_
 obtain ⟨v2, T2, L2, X2, q2, st2⟩ := own_callS X1 hx hZ hown (oW hw 47 rfl) (oW hw 48 rfl) (oW hw 49 rfl) (oW hw 50 rfl) (argsL := [(.int iv0)]) (own_au23_canEncode l Z a0 hw [] iv0 h0 O0 Riv0a Riv0b) 0 (by decide) (by decide) (by decide) (by decide) (by decide) e1 (g := (mkF m 7 #[.val (.int iv0)] [(.int iv0)])) rfl (by rw [hml]; rfl) [] (lenOf oP484 rfl) rfl (by show 2 * 0 + _ ≤ _; exact Nat.le_of_eq rfl) (hb hby od10_7)
 obtain ⟨rfl, N2q, e2⟩ := q2
 have N2 := Fr.app (Fr.nil _) N2q
 refine own_st (T2.setTop (mkF m 10 #[.val (.int iv0)] [(.int 1)])) st2 ?_
 refine oifNo X2 hx hby od10_10 rfl ((if0 _ _).trans (feq ((by decide) : ¬ ((1 : Int32) = (0 : Int32)))).1) 13 rfl ?_
 obtain ⟨T3, h3, X3, e3, E3, A3, D3, -, st3⟩ := newO X2 hx hZ hown (oW hw 51 rfl) (oW hw 12 rfl) (oW hw 13 rfl) e2 (g := (mkF m 13 #[.val (.int iv0)] [])) rfl (hb hby od10_13) (by decide) (by decide)
 obtain ⟨b3, g3⟩ : ∃ z, z = h0.size := ⟨_, rfl⟩
 have z3 : Z.heap.size ≤ b3 := Nat.le_trans O0.2.1 (Nat.le_of_eq g3.symm)
 have s3 : h0.size ≤ b3 := Nat.le_trans (Keep.refl h0 []).1 (Nat.le_of_eq g3.symm)
 rw [← g3] at A3 D3 st3
 have O3 := O0.ext E3
 have K3 := (Keep.refl h0 []).ext E3
 have f4 : oF12 Z h3 b3 (.int 0) := D3 (Or.inr (oW hw 38 rfl)) (ty := .byte) (by decide)
 have f5 : oF11 Z h3 b3 .null := D3 (Or.inr (oW hw 40 rfl)) (ty := (.array .byte)) (by decide)
 have f6 : oF13 Z h3 b3 (.int 0) := D3 (Or.inl (oW hw 96 rfl)) (ty := .int) (by decide)
 have f7 : oF14 Z h3 b3 (.int 0) := D3 (Or.inl (oW hw 98 rfl)) (ty := .boolean) (by decide)
 refine own_st (T3.setTop (mkF m 16 #[.val (.int iv0)] [(.ref b3)])) st3 ?_
 refine odup X3 hx hby od10_16 rfl (by rfl) 17 rfl ?_
 refine oiloadN X3 hx hby od10_17 rfl 18 rfl ?_
 obtain ⟨v8, T8, L8, X8, q8, st8⟩ := own_callS X3 hx hZ hown (oW hw 52 rfl) (oW hw 53 rfl) (oW hw 49 rfl) (oW hw 54 rfl) (argsL := [(.int iv0)]) (own_au24_toBytes l Z a0 hw [] iv0 h3 O3 Riv0a Riv0b) 2 (by decide) (by decide) (by decide) (by decide) (by decide) e3 (g := (mkF m 18 #[.val (.int iv0)] [(.int iv0), (.ref b3), (.ref b3)])) rfl (by rw [hml]; rfl) [(.ref b3), (.ref b3)] (lenOf oP498 rfl) rfl (by show 2 * 0 + _ ≤ _; exact Nat.le_of_eq rfl) (hb hby od10_18)
 obtain ⟨b8_0, kb8_0, rfl, N8q, K8q, z8_0, s8_0q, f8_0, f8_1⟩ := q8
 have N8 := Fr.app N2 N8q
 have nf8_0_b3 : b3 ≠ b8_0 := Nat.ne_of_lt (Nat.lt_of_lt_of_le A3.lt s8_0q)
 have s8_0 : h0.size ≤ b8_0 := Nat.le_trans K3.1 s8_0q
 have f9 := (A3.keep K8q)
 have f10 := (f4.keep K8q nin0)
 have f11 := (f5.keep K8q nin0)
 have f12 := (f6.keep K8q nin0)
 have f13 := (f7.keep K8q nin0)
 have O8 := O3.keep K8q all0
 have K8 := K3.trans K8q all0
 refine own_st (T8.setTop (mkF m 21 #[.val (.int iv0)] [(.ref b8_0), (.ref b3), (.ref b3)])) st8 ?_
 refine oiconst X8 hx hby od10_21 (0 : Int32) rfl 22 rfl ?_
 obtain ⟨v14, T14, L14, X14, q14, st14⟩ := own_callI X8 hx hZ hown (y := oM35) rfl (oW hw 55 rfl) (oW hw 56 rfl) (oW hw 13 rfl) (oW hw 57 rfl) (a := b3) (argsL := [(.ref b8_0), (.int 0)]) (own_au25_init l Z a0 hw [] b3 b8_0 (iv0.toInt8.toInt32) kb8_0 T8.heap O8 f9 f10 f11 f12 f13 f8_0 f8_1 z3 z8_0) 1 (by decide) (by decide) (by decide) (by decide) (by decide) rfl (g := (mkF m 22 #[.val (.int iv0)] [(.int 0), (.ref b8_0), (.ref b3), (.ref b3)])) rfl (by rw [hml]; rfl) [(.ref b3)] (lenOf oP510 rfl) rfl (by show 2 * 0 + _ ≤ _; exact Nat.le_of_eq rfl) (hb hby od10_22)
 obtain ⟨rfl, N14q, K14q, f14_0, f14_1, f14_2, f14_3⟩ := q14
 have N14 := Fr.app N8 N14q
 have f15 := (f9.keep K14q)
 have f20 := (f8_0.keep K14q)
 have f21 := (f8_1.keep K14q (ninS (Ne.symm nf8_0_b3) nin0))
 have O14 := O8.keep K14q (allS z3 all0)
 have K14 := K8.trans K14q (allS (Or.inr s3) all0)
 refine own_st (T14.setTop (mkF m 25 #[.val (.int iv0)] [(.ref b3)])) st14 ?_
 exact own_ret X14 hlk (v := some (.ref b3)) (fun h => by rw [hret] at h; cases h) rfl (⟨_, _, _, rfl, N14, K14, z3, s3, z8_0, s8_0, nf8_0_b3, f15, f14_0, f14_1, f14_2, f14_3, f20, f21⟩) (by decide) (by decide) (fun fs hr => retOut X14 hx hret rfl (Or.inr (Or.inr (Or.inr (Or.inr ⟨rfl, rfl, rfl⟩)))) (hb hby od10_25) hr)
theorem oP513 : parseMethodDescriptor "(C)Ljava/lang/String;" = some ⟨[.char], some (.object "java/lang/String")⟩ := by decide +kernel
theorem od2_45 : decode method_6_code 45 = .ok (.invokestatic 48, 3) := by decide +kernel
theorem od2_48 : decode method_6_code 48 = .ok (.areturn, 1) := by decide +kernel
theorem od2_49 : decode method_6_code 49 = .ok (.new 43, 3) := by decide +kernel
theorem od2_52 : decode method_6_code 52 = .ok (.dup, 1) := by decide +kernel
theorem od2_53 : decode method_6_code 53 = .ok (.iconst 2, 1) := by decide +kernel
theorem od2_54 : decode method_6_code 54 = .ok (.newarray .char, 2) := by decide +kernel
theorem od2_56 : decode method_6_code 56 = .ok (.dup, 1) := by decide +kernel
theorem od2_57 : decode method_6_code 57 = .ok (.iconst 0, 1) := by decide +kernel
theorem od2_58 : decode method_6_code 58 = .ok (.iload_n 2, 1) := by decide +kernel
theorem od2_59 : decode method_6_code 59 = .ok (.castore, 1) := by decide +kernel
theorem od2_60 : decode method_6_code 60 = .ok (.dup, 1) := by decide +kernel
theorem od2_61 : decode method_6_code 61 = .ok (.iconst 1, 1) := by decide +kernel
theorem od2_62 : decode method_6_code 62 = .ok (.iload_n 3, 1) := by decide +kernel
theorem od2_63 : decode method_6_code 63 = .ok (.castore, 1) := by decide +kernel
theorem od5_27 : decode jdk_42_method_149_code 27 = .ok (.getstatic 38, 3) := by decide +kernel
theorem od5_30 : decode jdk_42_method_149_code 30 = .ok (.ifCond .eq 28, 3) := by decide +kernel
theorem od5_33 : decode jdk_42_method_149_code 33 = .ok (.aload_n 1, 1) := by decide +kernel
theorem od5_34 : decode jdk_42_method_149_code 34 = .ok (.iload_n 2, 1) := by decide +kernel
theorem od5_35 : decode jdk_42_method_149_code 35 = .ok (.iload_n 3, 1) := by decide +kernel
theorem od7_0 : decode jdk_52_method_16_code 0 = .ok (.iload_n 2, 1) := by decide +kernel
theorem od7_1 : decode jdk_52_method_16_code 1 = .ok (.newarray .byte, 2) := by decide +kernel
theorem od7_3 : decode jdk_52_method_16_code 3 = .ok (.astore_n 3, 1) := by decide +kernel
theorem od7_4 : decode jdk_52_method_16_code 4 = .ok (.aload_n 0, 1) := by decide +kernel
theorem od7_5 : decode jdk_52_method_16_code 5 = .ok (.iload_n 1, 1) := by decide +kernel
theorem od7_6 : decode jdk_52_method_16_code 6 = .ok (.aload_n 3, 1) := by decide +kernel
theorem od7_7 : decode jdk_52_method_16_code 7 = .ok (.iconst 0, 1) := by decide +kernel
theorem od7_8 : decode jdk_52_method_16_code 8 = .ok (.iload_n 2, 1) := by decide +kernel
theorem od8_0 : decode jdk_52_method_21_code 0 = .ok (.iconst 0, 1) := by decide +kernel
theorem od8_1 : decode jdk_52_method_21_code 1 = .ok (.istore 5, 2) := by decide +kernel
theorem od8_3 : decode jdk_52_method_21_code 3 = .ok (.iload 5, 2) := by decide +kernel
theorem od8_5 : decode jdk_52_method_21_code 5 = .ok (.iload 4, 2) := by decide +kernel
theorem od8_7 : decode jdk_52_method_21_code 7 = .ok (.if_icmp .ge 37, 3) := by decide +kernel
theorem od8_10 : decode jdk_52_method_21_code 10 = .ok (.aload_n 0, 1) := by decide +kernel
theorem od8_11 : decode jdk_52_method_21_code 11 = .ok (.iload_n 1, 1) := by decide +kernel
theorem od8_12 : decode jdk_52_method_21_code 12 = .ok (.caload, 1) := by decide +kernel
theorem od8_13 : decode jdk_52_method_21_code 13 = .ok (.istore 6, 2) := by decide +kernel
theorem od8_15 : decode jdk_52_method_21_code 15 = .ok (.iload 6, 2) := by decide +kernel
theorem od8_17 : decode jdk_52_method_21_code 17 = .ok (.sipush 255, 3) := by decide +kernel
theorem od8_20 : decode jdk_52_method_21_code 20 = .ok (.if_icmp .le 6, 3) := by decide +kernel
theorem od8_26 : decode jdk_52_method_21_code 26 = .ok (.aload_n 2, 1) := by decide +kernel
theorem od8_27 : decode jdk_52_method_21_code 27 = .ok (.iload_n 3, 1) := by decide +kernel
theorem od8_28 : decode jdk_52_method_21_code 28 = .ok (.iload 6, 2) := by decide +kernel
theorem od8_30 : decode jdk_52_method_21_code 30 = .ok (.i2b, 1) := by decide +kernel
theorem od8_31 : decode jdk_52_method_21_code 31 = .ok (.bastore, 1) := by decide +kernel
theorem od8_32 : decode jdk_52_method_21_code 32 = .ok (.iinc 1 1, 3) := by decide +kernel
theorem od8_35 : decode jdk_52_method_21_code 35 = .ok (.iinc 3 1, 3) := by decide +kernel
theorem od8_38 : decode jdk_52_method_21_code 38 = .ok (.iinc 5 1, 3) := by decide +kernel
theorem od8_41 : decode jdk_52_method_21_code 41 = .ok (.goto (-38), 3) := by decide +kernel
theorem od8_44 : decode jdk_52_method_21_code 44 = .ok (.iload 4, 2) := by decide +kernel
theorem od8_46 : decode jdk_52_method_21_code 46 = .ok (.ireturn, 1) := by decide +kernel
theorem oP564 : plainName "java/lang/StringUTF16" = true := by first | (simp [plainName, overriddenIn]; done) | decide +kernel
theorem own_au29_compress (l : Launch) (Z : State) (a0 : Array Value) (hw : OWS a0 Z) (ws : List Jvm.Cond) (ad0 ad1 : Addr) (iv0 : Int32) (iv1 : Int32) (kc0 kc1 : ClassId) (h0 : Heap) (O0 : Old Z Z.heap.size h0) (P0 : oE37 Z h0 ad0) (P1 : Arv Z h0 ad0 kc0 .char (2 : Int32) [(.int iv0), (.int iv1)] (.int 0)) (P2 : oE20 Z h0 ad1) (P3 : Arv Z h0 ad1 kc1 .byte (2 : Int32) [(.int 0), (.int 0)] (.int 0)) (G_ad0 : Z.heap.size ≤ ad0) (G_ad1 : Z.heap.size ≤ ad1) (Riv0a : ¬ (iv0 < (0 : Int32))) (Riv0b : ¬ ((255 : Int32) < iv0)) (Riv1a : ¬ (iv1 < (0 : Int32))) (Riv1b : ¬ ((255 : Int32) < iv1)) :
  ownMet l oM38 jdk_52_method_21_code 7 (some .int) ws (oR 0 0 0 0) Z #[(.ref ad0), (.int 0), (.ref ad1), (.int 0), (.int 2)] h0 (fun v h L => v = some (.int 2) ∧ Fr Z.heap.size L ∧ Keep h0 h [ad1] ∧ Arv Z h ad1 kc1 .byte (2 : Int32) [(.int (iv0.toInt8.toInt32)), (.int (iv1.toInt8.toInt32))] (.int 0)) := by
 refine own_met (plainFor_of_name oP564) ?_
 intro p e s m below meth c s₁ hx hby hml hown hnm hret hlk hZ e0 X0
 refine own_cast (show _ = (mkF m 0 #[.val (.ref ad0), .val (.int 0), .val (.ref ad1), .val (.int 0), .val (.int 2), .unset, .unset] []) by first | (simp [entryFrame, mkF, argsToLocals, Value.category]; done) | rfl) ?_
 refine oiconst X0 hx hby od8_0 (0 : Int32) rfl 1 rfl ?_
 let La160 : Array Slot := #[rv ad0, .val (.int 0), rv ad1, .val (.int 0), .val (.int 2), .val (.int 0), .unset]
 refine oistore X0 hx hby od8_1 rfl (L' := La160) rfl 3 rfl ?_
 refine oiload X0 hx hby od8_3 rfl 5 rfl ?_
 refine oiload X0 hx hby od8_5 rfl 7 rfl ?_
 refine oicmpNo X0 hx hby od8_7 rfl (tlt ((by decide) : (0 : Int32) < (2 : Int32))).2.1 10 rfl ?_
 refine oaloadN X0 hx hby od8_10 rfl (by rfl) 11 rfl ?_
 refine oiloadN X0 hx hby od8_11 rfl 12 rfl ?_
 obtain ⟨cl1, q1a, q1b, q1c, q1d, q1e, q1f⟩ := id P1
 refine own_st (s₁.setTop (mkF m 13 La160 [(.int iv0)])) (fun tq kq => X0.caload hx (j := (0 : Int32)) (v := (.int iv0)) (by rw [e0]; exact q1a.1) (State.isArrayOf_alike hZ.alike q1a.2.1) q1a.2.2 (inb_of q1c ⟨by decide, by decide⟩) (q1e.at (inb_of q1c ⟨by decide, by decide⟩) rfl) (g := (mkF m 12 La160 [(.int 0), (.ref ad0)])) rfl rfl (hb hby od8_12) tq kq) ?_
 let La161 : Array Slot := #[rv ad0, .val (.int 0), rv ad1, .val (.int 0), .val (.int 2), .val (.int 0), .val (.int iv0)]
 refine oistore X0 hx hby od8_13 rfl (L' := La161) rfl 15 rfl ?_
 refine oiload X0 hx hby od8_15 rfl 17 rfl ?_
 refine osipush X0 hx hby od8_17 (255 : Int32) rfl 20 rfl ?_
 refine oicmpYes X0 hx hby od8_20 rfl (flt (Riv0b : ¬ ((255 : Int32) < iv0))).2.2.2 26 (by decide) (by decide) ?_
 refine oaloadN X0 hx hby od8_26 rfl (by rfl) 27 rfl ?_
 refine oiloadN X0 hx hby od8_27 rfl 28 rfl ?_
 refine oiload X0 hx hby od8_28 rfl 30 rfl ?_
 refine oi2b X0 hx hby od8_30 rfl _ rfl 31 rfl ?_
 obtain ⟨cl2, q2a, q2b, q2c, q2d, q2e, q2f⟩ := id P3
 obtain ⟨T2, h2, X2, e2, W2, st2⟩ := stB X0 hx hZ e0 q2a (j := (0 : Int32)) (inb_of q2c ⟨by decide, by decide⟩) (g := (mkF m 31 La161 [(.int (iv0.toInt8.toInt32)), (.int 0), (.ref ad1)])) rfl rfl (hb hby od8_31)
 have N2 := Fr.snoc X2 (Fr.nil _) G_ad1
 have O2 := O0.wr W2 G_ad1
 have K2 := (Keep.refl h0 [ad1]).wr W2 (Or.inl (List.mem_of_getElem? (i := 0) rfl))
 have f3 := (P0.wr W2)
 have f4 := (P1.other W2 (ne_exa P0 P2 (by decide)))
 have f5 := (P2.wr W2)
 have f7 : Arv Z h2 ad1 kc1 .byte (2 : Int32) [(.int (iv0.toInt8.toInt32)), (.int 0)] (.int 0) := (show nar .byte (iv0.toInt8.toInt32) = (iv0.toInt8.toInt32) from (own_narB _)) ▸ Arv.set q2a q2b q2c q2d q2e q2f (fits_nar_byte _) W2 0 (by decide) (show 0 < 2 by decide)
 refine own_st (T2.setTop (mkF m 32 La161 [])) st2 ?_
 let La162 : Array Slot := #[rv ad0, .val (.int 1), rv ad1, .val (.int 0), .val (.int 2), .val (.int 0), .val (.int iv0)]
 refine oiinc X2 hx hby od8_32 rfl (L' := La162) rfl 35 rfl ?_
 let La163 : Array Slot := #[rv ad0, .val (.int 1), rv ad1, .val (.int 1), .val (.int 2), .val (.int 0), .val (.int iv0)]
 refine oiinc X2 hx hby od8_35 rfl (L' := La163) rfl 38 rfl ?_
 let La164 : Array Slot := #[rv ad0, .val (.int 1), rv ad1, .val (.int 1), .val (.int 2), .val (.int 1), .val (.int iv0)]
 refine oiinc X2 hx hby od8_38 rfl (L' := La164) rfl 41 rfl ?_
 refine ogoto X2 hx hby od8_41 3 (by decide) (by decide) ?_
 refine oiload X2 hx hby od8_3 rfl 5 rfl ?_
 refine oiload X2 hx hby od8_5 rfl 7 rfl ?_
 refine oicmpNo X2 hx hby od8_7 rfl (tlt ((by decide) : (1 : Int32) < (2 : Int32))).2.1 10 rfl ?_
 refine oaloadN X2 hx hby od8_10 rfl (by rfl) 11 rfl ?_
 refine oiloadN X2 hx hby od8_11 rfl 12 rfl ?_
 obtain ⟨cl8, q8a, q8b, q8c, q8d, q8e, q8f⟩ := id f4
 refine own_st (T2.setTop (mkF m 13 La164 [(.int iv1)])) (fun tq kq => X2.caload hx (j := (1 : Int32)) (v := (.int iv1)) (by rw [e2]; exact q8a.1) (State.isArrayOf_alike hZ.alike q8a.2.1) q8a.2.2 (inb_of q8c ⟨by decide, by decide⟩) (q8e.at (inb_of q8c ⟨by decide, by decide⟩) rfl) (g := (mkF m 12 La164 [(.int 1), (.ref ad0)])) rfl rfl (hb hby od8_12) tq kq) ?_
 let La165 : Array Slot := #[rv ad0, .val (.int 1), rv ad1, .val (.int 1), .val (.int 2), .val (.int 1), .val (.int iv1)]
 refine oistore X2 hx hby od8_13 rfl (L' := La165) rfl 15 rfl ?_
 refine oiload X2 hx hby od8_15 rfl 17 rfl ?_
 refine osipush X2 hx hby od8_17 (255 : Int32) rfl 20 rfl ?_
 refine oicmpYes X2 hx hby od8_20 rfl (flt (Riv1b : ¬ ((255 : Int32) < iv1))).2.2.2 26 (by decide) (by decide) ?_
 refine oaloadN X2 hx hby od8_26 rfl (by rfl) 27 rfl ?_
 refine oiloadN X2 hx hby od8_27 rfl 28 rfl ?_
 refine oiload X2 hx hby od8_28 rfl 30 rfl ?_
 refine oi2b X2 hx hby od8_30 rfl _ rfl 31 rfl ?_
 obtain ⟨cl9, q9a, q9b, q9c, q9d, q9e, q9f⟩ := id f7
 obtain ⟨T9, h9, X9, e9, W9, st9⟩ := stB X2 hx hZ e2 q9a (j := (1 : Int32)) (inb_of q9c ⟨by decide, by decide⟩) (g := (mkF m 31 La165 [(.int (iv1.toInt8.toInt32)), (.int 1), (.ref ad1)])) rfl rfl (hb hby od8_31)
 have N9 := Fr.snoc X9 N2 G_ad1
 have O9 := O2.wr W9 G_ad1
 have K9 := K2.wr W9 (Or.inl (List.mem_of_getElem? (i := 0) rfl))
 have f10 := (f3.wr W9)
 have f11 := (f4.other W9 (ne_exa f3 f5 (by decide)))
 have f12 := (f5.wr W9)
 have f14 : Arv Z h9 ad1 kc1 .byte (2 : Int32) [(.int (iv0.toInt8.toInt32)), (.int (iv1.toInt8.toInt32))] (.int 0) := (show nar .byte (iv1.toInt8.toInt32) = (iv1.toInt8.toInt32) from (own_narB _)) ▸ Arv.set q9a q9b q9c q9d q9e q9f (fits_nar_byte _) W9 1 (by decide) (show 1 < 2 by decide)
 refine own_st (T9.setTop (mkF m 32 La165 [])) st9 ?_
 let La166 : Array Slot := #[rv ad0, .val (.int 2), rv ad1, .val (.int 1), .val (.int 2), .val (.int 1), .val (.int iv1)]
 refine oiinc X9 hx hby od8_32 rfl (L' := La166) rfl 35 rfl ?_
 let La167 : Array Slot := #[rv ad0, .val (.int 2), rv ad1, .val (.int 2), .val (.int 2), .val (.int 1), .val (.int iv1)]
 refine oiinc X9 hx hby od8_35 rfl (L' := La167) rfl 38 rfl ?_
 let La168 : Array Slot := #[rv ad0, .val (.int 2), rv ad1, .val (.int 2), .val (.int 2), .val (.int 2), .val (.int iv1)]
 refine oiinc X9 hx hby od8_38 rfl (L' := La168) rfl 41 rfl ?_
 refine ogoto X9 hx hby od8_41 3 (by decide) (by decide) ?_
 refine oiload X9 hx hby od8_3 rfl 5 rfl ?_
 refine oiload X9 hx hby od8_5 rfl 7 rfl ?_
 refine oicmpYes X9 hx hby od8_7 rfl (flt ((by decide) : ¬ ((2 : Int32) < (2 : Int32)))).2.1 44 (by decide) (by decide) ?_
 refine oiload X9 hx hby od8_44 rfl 46 rfl ?_
 exact own_ret X9 hlk (v := some (.int 2)) (fun h => by rw [hret] at h; cases h) e9 (⟨rfl, N9, K9, f14⟩) (by decide) (by decide) (fun fs hr => retI X9 hx hret (hb hby od8_46) hr)
theorem oP565 : parseMethodDescriptor "([CI[BII)I" = some ⟨[(.array .char), .int, (.array .byte), .int, .int], some .int⟩ := by decide +kernel
theorem od7_9 : decode jdk_52_method_16_code 9 = .ok (.invokestatic 115, 3) := by decide +kernel
theorem od7_12 : decode jdk_52_method_16_code 12 = .ok (.istore 4, 2) := by decide +kernel
theorem od7_14 : decode jdk_52_method_16_code 14 = .ok (.iload 4, 2) := by decide +kernel
theorem od7_16 : decode jdk_52_method_16_code 16 = .ok (.iload_n 2, 1) := by decide +kernel
theorem od7_17 : decode jdk_52_method_16_code 17 = .ok (.if_icmp .eq 40, 3) := by decide +kernel
theorem od7_57 : decode jdk_52_method_16_code 57 = .ok (.aload_n 3, 1) := by decide +kernel
theorem od7_58 : decode jdk_52_method_16_code 58 = .ok (.areturn, 1) := by decide +kernel
theorem own_au28_compress (l : Launch) (Z : State) (a0 : Array Value) (hw : OWS a0 Z) (ws : List Jvm.Cond) (ad0 : Addr) (iv0 : Int32) (iv1 : Int32) (kc0 : ClassId) (h0 : Heap) (O0 : Old Z Z.heap.size h0) (P0 : oE37 Z h0 ad0) (P1 : Arv Z h0 ad0 kc0 .char (2 : Int32) [(.int iv0), (.int iv1)] (.int 0)) (G_ad0 : Z.heap.size ≤ ad0) (Riv0a : ¬ (iv0 < (0 : Int32))) (Riv0b : ¬ ((255 : Int32) < iv0)) (Riv1a : ¬ (iv1 < (0 : Int32))) (Riv1b : ¬ ((255 : Int32) < iv1)) :
  ownMet l oM39 jdk_52_method_16_code 6 (some (.array .byte)) ws (oR 1 1 2 18) Z #[(.ref ad0), (.int 0), (.int 2)] h0 (fun v h L => ∃ (b1 : Addr) (cA1 : ClassId), v = some (.ref b1) ∧ Fr Z.heap.size L ∧ Keep h0 h [] ∧ Z.heap.size ≤ b1 ∧ h0.size ≤ b1 ∧ oE20 Z h b1 ∧ Arv Z h b1 cA1 .byte (2 : Int32) [(.int (iv0.toInt8.toInt32)), (.int (iv1.toInt8.toInt32))] (.int 0)) := by
 refine own_met (plainFor_of_name oP564) ?_
 intro p e s m below meth c s₁ hx hby hml hown hnm hret hlk hZ e0 X0
 refine own_cast (show _ = (mkF m 0 #[.val (.ref ad0), .val (.int 0), .val (.int 2), .unset, .unset, .unset] []) by first | (simp [entryFrame, mkF, argsToLocals, Value.category]; done) | rfl) ?_
 refine oiloadN X0 hx hby od7_0 rfl 1 rfl ?_
 let La169 : Array Slot := #[rv ad0, .val (.int 0), .val (.int 2), .unset, .unset, .unset]
 obtain ⟨T1, h1, cA1, X1, e1, E1, A1, D1, st1⟩ := newPE X0 hx hZ (oW hw 30 rfl) e0 (g := (mkF m 1 La169 [(.int 2)])) rfl (hb hby od7_1) rfl (by decide) (cap := 2) (by decide) (by decide) (by decide) (by decide) (ad := "[B") (by decide)
 obtain ⟨b1, g1⟩ : ∃ z, z = h0.size := ⟨_, rfl⟩
 have z1 : Z.heap.size ≤ b1 := Nat.le_trans O0.2.1 (Nat.le_of_eq g1.symm)
 have nead0_1 : ad0 ≠ b1 := Nat.ne_of_lt (Nat.lt_of_lt_of_le P0.lt (Nat.le_of_eq g1.symm))
 have s1 : h0.size ≤ b1 := Nat.le_trans (Keep.refl h0 []).1 (Nat.le_of_eq g1.symm)
 rw [← g1] at A1 D1 st1
 have f2 := (P0.ext E1)
 have f3 := (P1.ext E1)
 have O1 := O0.ext E1
 have K1 := (Keep.refl h0 []).ext E1
 have f4 : Arv Z h1 b1 cA1 .byte (2 : Int32) [(.int 0), (.int 0)] (.int 0) := (Arv.new A1 (by decide)).pad (pad_rep [] (.int 0) 2)
 refine own_st (T1.setTop (mkF m 3 La169 [(.ref b1)])) st1 ?_
 let La170 : Array Slot := #[rv ad0, .val (.int 0), .val (.int 2), rv b1, .unset, .unset]
 refine oastoreN X1 hx hby od7_3 rfl (by rfl) (L' := La170) rfl 4 rfl ?_
 refine oaloadN X1 hx hby od7_4 rfl (by rfl) 5 rfl ?_
 refine oiloadN X1 hx hby od7_5 rfl 6 rfl ?_
 refine oaloadN X1 hx hby od7_6 rfl (by rfl) 7 rfl ?_
 refine oiconst X1 hx hby od7_7 (0 : Int32) rfl 8 rfl ?_
 refine oiloadN X1 hx hby od7_8 rfl 9 rfl ?_
 obtain ⟨v5, T5, L5, X5, q5, st5⟩ := own_callS X1 hx hZ hown (oW hw 31 rfl) (oW hw 32 rfl) (oW hw 28 rfl) (oW hw 33 rfl) (argsL := [(.ref ad0), (.int 0), (.ref b1), (.int 0), (.int 2)]) (own_au29_compress l Z a0 hw [] ad0 b1 iv0 iv1 kc0 cA1 h1 O1 f2 f3 D1 f4 G_ad0 z1 Riv0a Riv0b Riv1a Riv1b) 0 (by decide) (by decide) (by decide) (by decide) (by decide) e1 (g := (mkF m 9 La170 [(.int 2), (.int 0), (.ref b1), (.int 0), (.ref ad0)])) rfl (by rw [hml]; rfl) [] (lenOf oP565 rfl) rfl (by show 2 * 0 + _ ≤ _; exact Nat.le_of_eq rfl) (hb hby od7_9)
 obtain ⟨rfl, N5q, K5q, f5_0⟩ := q5
 have N5 := Fr.app (Fr.nil _) N5q
 have f6 := (f2.keep K5q)
 have f7 := (f3.keep K5q (ninS nead0_1 nin0))
 have f8 := (D1.keep K5q)
 have O5 := O1.keep K5q (allS z1 all0)
 have K5 := K1.trans K5q (allS (Or.inr s1) all0)
 refine own_st (T5.setTop (mkF m 12 La170 [(.int 2)])) st5 ?_
 let La171 : Array Slot := #[rv ad0, .val (.int 0), .val (.int 2), rv b1, .val (.int 2), .unset]
 refine oistore X5 hx hby od7_12 rfl (L' := La171) rfl 14 rfl ?_
 refine oiload X5 hx hby od7_14 rfl 16 rfl ?_
 refine oiloadN X5 hx hby od7_16 rfl 17 rfl ?_
 refine oicmpYes X5 hx hby od7_17 rfl (teq ((by decide) : (2 : Int32) = (2 : Int32))).1 57 (by decide) (by decide) ?_
 refine oaloadN X5 hx hby od7_57 rfl (by rfl) 58 rfl ?_
 exact own_ret X5 hlk (v := some (.ref b1)) (fun h => by rw [hret] at h; cases h) rfl (⟨_, _, rfl, N5, K5, z1, s1, f8, f5_0⟩) (by decide) (by decide) (fun fs hr => retOut X5 hx hret rfl (Or.inr (Or.inr (Or.inr (Or.inr ⟨rfl, rfl, rfl⟩)))) (hb hby od7_58) hr)
theorem oP573 : parseMethodDescriptor "([CII)[B" = some ⟨[(.array .char), .int, .int], some (.array .byte)⟩ := by decide +kernel
theorem od5_36 : decode jdk_42_method_149_code 36 = .ok (.invokestatic 177, 3) := by decide +kernel
theorem od5_39 : decode jdk_42_method_149_code 39 = .ok (.astore 5, 2) := by decide +kernel
theorem od5_41 : decode jdk_42_method_149_code 41 = .ok (.aload_n 0, 1) := by decide +kernel
theorem od5_42 : decode jdk_42_method_149_code 42 = .ok (.aload 5, 2) := by decide +kernel
theorem od5_44 : decode jdk_42_method_149_code 44 = .ok (.iload_n 3, 1) := by decide +kernel
theorem od9_0 : decode jdk_52_method_15_code 0 = .ok (.iload_n 1, 1) := by decide +kernel
theorem od9_1 : decode jdk_52_method_15_code 1 = .ok (.aload_n 0, 1) := by decide +kernel
theorem od9_2 : decode jdk_52_method_15_code 2 = .ok (.arraylength, 1) := by decide +kernel
theorem od9_3 : decode jdk_52_method_15_code 3 = .ok (.isub, 1) := by decide +kernel
theorem od9_4 : decode jdk_52_method_15_code 4 = .ok (.bipush 31, 2) := by decide +kernel
theorem od9_6 : decode jdk_52_method_15_code 6 = .ok (.iushr, 1) := by decide +kernel
theorem od9_7 : decode jdk_52_method_15_code 7 = .ok (.i2b, 1) := by decide +kernel
theorem od9_8 : decode jdk_52_method_15_code 8 = .ok (.ireturn, 1) := by decide +kernel
theorem own_au30_coderFromArrayLen (l : Launch) (Z : State) (a0 : Array Value) (hw : OWS a0 Z) (ws : List Jvm.Cond) (ad0 : Addr) (iv0 : Int32) (iv1 : Int32) (kc0 : ClassId) (h0 : Heap) (O0 : Old Z Z.heap.size h0) (P0 : oE20 Z h0 ad0) (P1 : Arv Z h0 ad0 kc0 .byte (2 : Int32) [(.int iv0), (.int iv1)] (.int 0)) (G_ad0 : Z.heap.size ≤ ad0) :
  ownMet l oM40 jdk_52_method_15_code 2 (some .byte) ws (oR 0 0 0 0) Z #[(.ref ad0), (.int 2)] h0 (fun v h L => v = some (.int 0) ∧ Fr Z.heap.size L ∧ h = h0) := by
 refine own_met (plainFor_of_name oP564) ?_
 intro p e s m below meth c s₁ hx hby hml hown hnm hret hlk hZ e0 X0
 refine own_cast (show _ = (mkF m 0 #[.val (.ref ad0), .val (.int 2)] []) by first | (simp [entryFrame, mkF, argsToLocals, Value.category]; done) | rfl) ?_
 refine oiloadN X0 hx hby od9_0 rfl 1 rfl ?_
 refine oaloadN X0 hx hby od9_1 rfl (by rfl) 2 rfl ?_
 obtain ⟨cl1, q1a, q1b, q1c, q1d, q1e, q1f⟩ := id P1
 refine own_st (s₁.setTop (mkF m 3 #[.val (.ref ad0), .val (.int 2)] [(.int 2), (.int 2)])) (fun tq kq => X0.arraylength hx (by rw [e0]; exact q1a.1) (State.isArrayOf_alike hZ.alike q1a.2.1) (g := (mkF m 2 #[.val (.ref ad0), .val (.int 2)] [(.ref ad0), (.int 2)])) rfl rfl (hb hby od9_2) tq (by rw [len_of q1c q1d]; exact kq)) ?_
 refine oisub X0 hx hby od9_3 rfl (0 : Int32) rfl 4 rfl ?_
 refine obipush X0 hx hby od9_4 (31 : Int32) rfl 6 rfl ?_
 refine oiushr X0 hx hby od9_6 rfl (0 : Int32) rfl 7 rfl ?_
 refine oi2b X0 hx hby od9_7 rfl (0 : Int32) rfl 8 rfl ?_
 exact own_ret X0 hlk (v := some (.int 0)) (fun h => by rw [hret] at h; cases h) e0 (⟨rfl, (Fr.nil _), rfl⟩) (by decide) (by decide) (fun fs hr => own_retN X0 hx (t := .byte) hret (by simp) (hb hby od9_8) (by decide) hr)
theorem oP587 : parseMethodDescriptor "([BI)B" = some ⟨[(.array .byte), .int], some .byte⟩ := by decide +kernel
theorem od5_45 : decode jdk_42_method_149_code 45 = .ok (.invokestatic 47, 3) := by decide +kernel
theorem od5_48 : decode jdk_42_method_149_code 48 = .ok (.putfield 15, 3) := by decide +kernel
theorem od5_51 : decode jdk_42_method_149_code 51 = .ok (.aload_n 0, 1) := by decide +kernel
theorem od5_52 : decode jdk_42_method_149_code 52 = .ok (.aload 5, 2) := by decide +kernel
theorem od5_54 : decode jdk_42_method_149_code 54 = .ok (.putfield 9, 3) := by decide +kernel
theorem od5_57 : decode jdk_42_method_149_code 57 = .ok (.return_, 1) := by decide +kernel
theorem own_au27_init (l : Launch) (Z : State) (a0 : Array Value) (hw : OWS a0 Z) (ws : List Jvm.Cond) (ad0 ad1 : Addr) (iv0 : Int32) (iv1 : Int32) (iv2 : Int32) (kc0 : ClassId) (h0 : Heap) (O0 : Old Z Z.heap.size h0) (PS0 : Sta Z Z.heap "java/lang/String" "COMPACT_STRINGS" "Z" (.int iv0)) (P0 : oE15 Z h0 ad0) (P1 : oF12 Z h0 ad0 (.int 0)) (P2 : oF11 Z h0 ad0 .null) (P3 : oF13 Z h0 ad0 (.int 0)) (P4 : oF14 Z h0 ad0 (.int 0)) (P5 : oE37 Z h0 ad1) (P6 : Arv Z h0 ad1 kc0 .char (2 : Int32) [(.int iv1), (.int iv2)] (.int 0)) (G_ad0 : Z.heap.size ≤ ad0) (G_ad1 : Z.heap.size ≤ ad1) (Riv1a : ¬ (iv1 < (0 : Int32))) (Riv1b : ¬ ((255 : Int32) < iv1)) (Riv2a : ¬ (iv2 < (0 : Int32))) (Riv2b : ¬ ((255 : Int32) < iv2)) (PC0 : ¬ (iv0 = (0 : Int32))) :
  ownMet l oM31 jdk_42_method_149_code 6 none ws (oR 2 1 2 35) Z #[(.ref ad0), (.ref ad1), (.int 0), (.int 2), .null] h0 (fun v h L => ∃ (b3_0 : Addr) (kb3_0 : ClassId), v = none ∧ Fr Z.heap.size L ∧ Keep h0 h [ad0] ∧ Z.heap.size ≤ b3_0 ∧ h0.size ≤ b3_0 ∧ oF12 Z h ad0 (.int 0) ∧ oF11 Z h ad0 (.ref b3_0) ∧ oF13 Z h ad0 (.int 0) ∧ oF14 Z h ad0 (.int 0) ∧ oE20 Z h b3_0 ∧ Arv Z h b3_0 kb3_0 .byte (2 : Int32) [(.int (iv1.toInt8.toInt32)), (.int (iv2.toInt8.toInt32))] (.int 0)) := by
 refine own_met (plainFor_of_name oP179) ?_
 intro p e s m below meth c s₁ hx hby hml hown hnm hret hlk hZ e0 X0
 refine own_cast (show _ = (mkF m 0 #[.val (.ref ad0), .val (.ref ad1), .val (.int 0), .val (.int 2), .val .null, .unset] []) by first | (simp [entryFrame, mkF, argsToLocals, Value.category]; done) | rfl) ?_
 refine oaloadN X0 hx hby od5_0 rfl (by rfl) 1 rfl ?_
 let La172 : Array Slot := #[rv ad0, rv ad1, .val (.int 0), .val (.int 2), .val .null, .unset]
 obtain ⟨T1, X1, e1, st1⟩ := initO X0 hx hZ hown (oW hw 22 rfl) (oW hw 23 rfl) (oW hw 24 rfl) e0 (g := (mkF m 1 La172 [(.ref ad0)])) rfl (by rw [hml]; rfl) rfl (hb hby od5_1) (by decide) (W := 0) (by show 2 * 0 + _ ≤ _; exact Nat.le_of_eq rfl) (by decide)
 refine own_st (T1.setTop (mkF m 4 La172 [])) st1 ?_
 refine oiloadN X1 hx hby od5_4 rfl 5 rfl ?_
 refine oifYes X1 hx hby od5_5 rfl ((if0 _ _).trans (feq ((by decide) : ¬ ((2 : Int32) = (0 : Int32)))).2) 27 (by decide) (by decide) ?_
 obtain ⟨T2, X2, e2, st2⟩ := getS2 X1 hx hZ hown (host := "") (Or.inl (oW hw 25 rfl)) Via.refl e1 (PS0.ext O0.2) (g := (mkF m 27 La172 [])) rfl (hb hby od5_27)
 refine own_st (T2.setTop (mkF m 30 La172 [(.int iv0)])) st2 ?_
 refine oifNo X2 hx hby od5_30 rfl ((if0 _ _).trans (feq (PC0 : ¬ (iv0 = (0 : Int32)))).1) 33 rfl ?_
 refine oaloadN X2 hx hby od5_33 rfl (by rfl) 34 rfl ?_
 refine oiloadN X2 hx hby od5_34 rfl 35 rfl ?_
 refine oiloadN X2 hx hby od5_35 rfl 36 rfl ?_
 obtain ⟨v3, T3, L3, X3, q3, st3⟩ := own_callS X2 hx hZ hown (oW hw 26 rfl) (oW hw 27 rfl) (oW hw 28 rfl) (oW hw 29 rfl) (argsL := [(.ref ad1), (.int 0), (.int 2)]) (own_au28_compress l Z a0 hw [] ad1 iv1 iv2 kc0 h0 O0 P5 P6 G_ad1 Riv1a Riv1b Riv2a Riv2b) 0 (by decide) (by decide) (by decide) (by decide) (by decide) e2 (g := (mkF m 36 La172 [(.int 2), (.int 0), (.ref ad1)])) rfl (by rw [hml]; rfl) [] (lenOf oP573 rfl) rfl (by show 2 * 0 + _ ≤ _; exact Nat.le_of_eq rfl) (hb hby od5_36)
 obtain ⟨b3_0, kb3_0, rfl, N3q, K3q, z3_0, s3_0q, f3_0, f3_1⟩ := q3
 have N3 := Fr.app (Fr.nil _) N3q
 have nf3_0_ad0 : ad0 ≠ b3_0 := Nat.ne_of_lt (Nat.lt_of_lt_of_le P0.lt s3_0q)
 have nf3_0_ad1 : ad1 ≠ b3_0 := Nat.ne_of_lt (Nat.lt_of_lt_of_le P5.lt s3_0q)
 have s3_0 : h0.size ≤ b3_0 := Nat.le_trans (Keep.refl h0 [ad0]).1 s3_0q
 have f4 := (P0.keep K3q)
 have f5 := (P1.keep K3q nin0)
 have f6 := (P2.keep K3q nin0)
 have f7 := (P3.keep K3q nin0)
 have f8 := (P4.keep K3q nin0)
 have f9 := (P5.keep K3q)
 have f10 := (P6.keep K3q nin0)
 have O3 := O0.keep K3q all0
 have K3 := (Keep.refl h0 [ad0]).trans K3q all0
 refine own_st (T3.setTop (mkF m 39 La172 [(.ref b3_0)])) st3 ?_
 let La173 : Array Slot := #[rv ad0, rv ad1, .val (.int 0), .val (.int 2), .val .null, rv b3_0]
 refine oastore X3 hx hby od5_39 rfl (by rfl) (L' := La173) rfl 41 rfl ?_
 refine oaloadN X3 hx hby od5_41 rfl (by rfl) 42 rfl ?_
 refine oaload X3 hx hby od5_42 rfl (by rfl) 44 rfl ?_
 refine oiloadN X3 hx hby od5_44 rfl 45 rfl ?_
 obtain ⟨v11, T11, L11, X11, q11, st11⟩ := own_callS X3 hx hZ hown (oW hw 34 rfl) (oW hw 35 rfl) (oW hw 28 rfl) (oW hw 36 rfl) (argsL := [(.ref b3_0), (.int 2)]) (own_au30_coderFromArrayLen l Z a0 hw [] b3_0 (iv1.toInt8.toInt32) (iv2.toInt8.toInt32) kb3_0 T3.heap O3 f3_0 f3_1 z3_0) 1 (by decide) (by decide) (by decide) (by decide) (by decide) rfl (g := (mkF m 45 La173 [(.int 2), (.ref b3_0), (.ref ad0)])) rfl (by rw [hml]; rfl) [(.ref ad0)] (lenOf oP587 rfl) rfl (by show 2 * 0 + _ ≤ _; exact Nat.le_of_eq rfl) (hb hby od5_45)
 obtain ⟨rfl, N11q, e11⟩ := q11
 have N11 := Fr.app N3 N11q
 refine own_st (T11.setTop (mkF m 48 La173 [(.int 0), (.ref ad0)])) st11 ?_
 obtain ⟨T12, h12, X12, e12, W12, st12⟩ := putF X11 hx hZ hown (host := "") (Or.inl (oW hw 37 rfl)) Via.refl e11 f5 f4 (Or.inr ⟨(oW hw 38 rfl), rfl, hnm⟩) (oW hw 12 rfl) (ty := .byte) (by decide) (by rfl) (by rfl) (g := (mkF m 48 La173 [(.int 0), (.ref ad0)])) rfl rfl (hb hby od5_48)
 have N12 := Fr.snoc X12 N11 G_ad0
 have O12 := O3.wr W12 G_ad0
 have K12 := K3.wr W12 (Or.inl (List.mem_of_getElem? (i := 0) rfl))
 have f13 := (f4.wr W12)
 have f15 := (f6.other W12 (Or.inr (slot_ne (Or.inr (oW hw 40 rfl)) (Or.inr (oW hw 38 rfl)) (by decide) (t := (.array .byte)) (t' := .byte) (by decide) (by decide))))
 have f16 := (f7.other W12 (Or.inr (slot_ne (Or.inl (oW hw 96 rfl)) (Or.inr (oW hw 38 rfl)) (by decide) (t := .int) (t' := .byte) (by decide) (by decide))))
 have f17 := (f8.other W12 (Or.inr (slot_ne (Or.inl (oW hw 98 rfl)) (Or.inr (oW hw 38 rfl)) (by decide) (t := .boolean) (t' := .byte) (by decide) (by decide))))
 have f18 := (f9.wr W12)
 have f19 := (f10.other W12 (ne_exa f9 f4 (by decide)))
 have f20 := (f3_0.wr W12)
 have f21 := (f3_1.other W12 (Ne.symm nf3_0_ad0))
 have f22 := (f5.same W12)
 refine own_st (T12.setTop (mkF m 51 La173 [])) st12 ?_
 refine oaloadN X12 hx hby od5_51 rfl (by rfl) 52 rfl ?_
 refine oaload X12 hx hby od5_52 rfl (by rfl) 54 rfl ?_
 obtain ⟨T23, h23, X23, e23, W23, st23⟩ := putF X12 hx hZ hown (host := "") (Or.inl (oW hw 39 rfl)) Via.refl e12 f15 f13 (Or.inr ⟨(oW hw 40 rfl), rfl, hnm⟩) (oW hw 12 rfl) (ty := (.array .byte)) (by decide) (by rfl) (by rfl) (g := (mkF m 54 La173 [(.ref b3_0), (.ref ad0)])) rfl rfl (hb hby od5_54)
 have N23 := Fr.snoc X23 N12 G_ad0
 have O23 := O12.wr W23 G_ad0
 have K23 := K12.wr W23 (Or.inl (List.mem_of_getElem? (i := 0) rfl))
 have f24 := (f13.wr W23)
 have f25 := (f22.other W23 (Or.inr (slot_ne (Or.inr (oW hw 38 rfl)) (Or.inr (oW hw 40 rfl)) (by decide) (t := .byte) (t' := (.array .byte)) (by decide) (by decide))))
 have f27 := (f16.other W23 (Or.inr (slot_ne (Or.inl (oW hw 96 rfl)) (Or.inr (oW hw 40 rfl)) (by decide) (t := .int) (t' := (.array .byte)) (by decide) (by decide))))
 have f28 := (f17.other W23 (Or.inr (slot_ne (Or.inl (oW hw 98 rfl)) (Or.inr (oW hw 40 rfl)) (by decide) (t := .boolean) (t' := (.array .byte)) (by decide) (by decide))))
 have f29 := (f18.wr W23)
 have f30 := (f19.other W23 (ne_exa f18 f13 (by decide)))
 have f31 := (f20.wr W23)
 have f32 := (f21.other W23 (Ne.symm nf3_0_ad0))
 have f33 := (f15.same W23)
 refine own_st (T23.setTop (mkF m 57 La173 [])) st23 ?_
 exact own_ret X23 hlk (v := none) (fun _ => rfl) e23 (⟨_, _, rfl, N23, K23, z3_0, s3_0, f25, f33, f27, f28, f31, f32⟩) (by decide) (by decide) (fun fs hr => X23.returnOut hx hret (hb hby od5_57) hr)
theorem own_au26_init (l : Launch) (Z : State) (a0 : Array Value) (hw : OWS a0 Z) (ws : List Jvm.Cond) (ad0 ad1 : Addr) (iv0 : Int32) (iv1 : Int32) (iv2 : Int32) (kc0 : ClassId) (h0 : Heap) (O0 : Old Z Z.heap.size h0) (PS0 : Sta Z Z.heap "java/lang/String" "COMPACT_STRINGS" "Z" (.int iv0)) (P0 : oE15 Z h0 ad0) (P1 : oF12 Z h0 ad0 (.int 0)) (P2 : oF11 Z h0 ad0 .null) (P3 : oF13 Z h0 ad0 (.int 0)) (P4 : oF14 Z h0 ad0 (.int 0)) (P5 : oE37 Z h0 ad1) (P6 : Arv Z h0 ad1 kc0 .char (2 : Int32) [(.int iv1), (.int iv2)] (.int 0)) (G_ad0 : Z.heap.size ≤ ad0) (G_ad1 : Z.heap.size ≤ ad1) (Riv1a : ¬ (iv1 < (0 : Int32))) (Riv1b : ¬ ((255 : Int32) < iv1)) (Riv2a : ¬ (iv2 < (0 : Int32))) (Riv2b : ¬ ((255 : Int32) < iv2)) (PC0 : ¬ (iv0 = (0 : Int32))) :
  ownMet l oM32 jdk_42_method_3_code 2 none ws (oR 3 1 2 52) Z #[(.ref ad0), (.ref ad1)] h0 (fun v h L => ∃ (b2_0 : Addr) (kb2_0 : ClassId), v = none ∧ Fr Z.heap.size L ∧ Keep h0 h [ad0] ∧ Z.heap.size ≤ b2_0 ∧ h0.size ≤ b2_0 ∧ oF12 Z h ad0 (.int 0) ∧ oF11 Z h ad0 (.ref b2_0) ∧ oF13 Z h ad0 (.int 0) ∧ oF14 Z h ad0 (.int 0) ∧ oE20 Z h b2_0 ∧ Arv Z h b2_0 kb2_0 .byte (2 : Int32) [(.int (iv1.toInt8.toInt32)), (.int (iv2.toInt8.toInt32))] (.int 0)) := by
 refine own_met (plainFor_of_name oP179) ?_
 intro p e s m below meth c s₁ hx hby hml hown hnm hret hlk hZ e0 X0
 refine own_cast (show _ = (mkF m 0 #[.val (.ref ad0), .val (.ref ad1)] []) by first | (simp [entryFrame, mkF, argsToLocals, Value.category]; done) | rfl) ?_
 refine oaloadN X0 hx hby od4_0 rfl (by rfl) 1 rfl ?_
 refine oaloadN X0 hx hby od4_1 rfl (by rfl) 2 rfl ?_
 refine oiconst X0 hx hby od4_2 (0 : Int32) rfl 3 rfl ?_
 refine oaloadN X0 hx hby od4_3 rfl (by rfl) 4 rfl ?_
 obtain ⟨cl1, q1a, q1b, q1c, q1d, q1e, q1f⟩ := id P6
 refine own_st (s₁.setTop (mkF m 5 #[.val (.ref ad0), .val (.ref ad1)] [(.int 2), (.int 0), (.ref ad1), (.ref ad0)])) (fun tq kq => X0.arraylength hx (by rw [e0]; exact q1a.1) (State.isArrayOf_alike hZ.alike q1a.2.1) (g := (mkF m 4 #[.val (.ref ad0), .val (.ref ad1)] [(.ref ad1), (.int 0), (.ref ad1), (.ref ad0)])) rfl rfl (hb hby od4_4) tq (by rw [len_of q1c q1d]; exact kq)) ?_
 refine oaconstNull X0 hx hby od4_5 6 rfl ?_
 obtain ⟨v2, T2, L2, X2, q2, st2⟩ := own_callI X0 hx hZ hown (y := oM31) rfl (oW hw 18 rfl) (oW hw 19 rfl) (oW hw 13 rfl) (oW hw 21 rfl) (a := ad0) (argsL := [(.ref ad1), (.int 0), (.int 2), .null]) (own_au27_init l Z a0 hw [] ad0 ad1 iv0 iv1 iv2 kc0 h0 O0 PS0 P0 P1 P2 P3 P4 P5 P6 G_ad0 G_ad1 Riv1a Riv1b Riv2a Riv2b (PC0 : ¬ (iv0 = (0 : Int32)))) 0 (by decide) (by decide) (by decide) (by decide) (by decide) e0 (g := (mkF m 6 #[.val (.ref ad0), .val (.ref ad1)] [.null, (.int 2), (.int 0), (.ref ad1), (.ref ad0)])) rfl (by rw [hml]; rfl) [] (lenOf oP442 rfl) rfl (by show 2 * 0 + _ ≤ _; exact Nat.le_of_eq rfl) (hb hby od4_6)
 obtain ⟨b2_0, kb2_0, rfl, N2q, K2q, z2_0, s2_0q, f2_0, f2_1, f2_2, f2_3, f2_4, f2_5⟩ := q2
 have N2 := Fr.app (Fr.nil _) N2q
 have nf2_0_ad0 : ad0 ≠ b2_0 := Nat.ne_of_lt (Nat.lt_of_lt_of_le P0.lt s2_0q)
 have nf2_0_ad1 : ad1 ≠ b2_0 := Nat.ne_of_lt (Nat.lt_of_lt_of_le P5.lt s2_0q)
 have s2_0 : h0.size ≤ b2_0 := Nat.le_trans (Keep.refl h0 [ad0]).1 s2_0q
 have f3 := (P0.keep K2q)
 have f8 := (P5.keep K2q)
 have f9 := (P6.keep K2q (ninS (ne_exa P5 P0 (by decide)) nin0))
 have O2 := O0.keep K2q (allS G_ad0 all0)
 have K2 := (Keep.refl h0 [ad0]).trans K2q (allS (Or.inl (List.mem_of_getElem? (i := 0) rfl)) all0)
 refine own_st (T2.setTop (mkF m 9 #[.val (.ref ad0), .val (.ref ad1)] [])) st2 ?_
 exact own_ret X2 hlk (v := none) (fun _ => rfl) rfl (⟨_, _, rfl, N2, K2, z2_0, s2_0, f2_0, f2_1, f2_2, f2_3, f2_4, f2_5⟩) (by decide) (by decide) (fun fs hr => X2.returnOut hx hret (hb hby od4_9) hr)
theorem od2_64 : decode method_6_code 64 = .ok (.invokespecial 45, 3) := by decide +kernel
theorem od2_67 : decode method_6_code 67 = .ok (.areturn, 1) := by decide +kernel
theorem own_str (l : Launch) (Z : State) (a0 : Array Value) (hw : OWS a0 Z) (ws : List Jvm.Cond) (cz : Int32) (cd : Int32) (h0 : Heap) (O0 : Old Z Z.heap.size h0) (SC : Sta Z Z.heap "java/lang/String" "COMPACT_STRINGS" "Z" (.int cz)) (hcz : ¬ (cz = (0 : Int32))) :
  ownMetW l oM41 method_6_code 4 (some (.object "java/lang/String")) ws (oR 4 6 12 66) Z own_EL [] #[(.int cd)] h0 (fun v vm h L => ∃ r t : Addr, v = some (.ref r) ∧ Fr Z.heap.size L ∧ Keep h0 h [] ∧ h0.size ≤ r ∧ Safe Z own_EL vm h r ∧ OwnStr Z h r t (own_hc cd)) := by
 have hEL := own_hEL hw
 refine own_metW (plainFor_of_name oP363) ?_
 intro p e s m below meth c s₁ hx hby hml hown hnm hret hlk hZ e0 X0 hS0 R0 hsf
 refine own_cast (show _ = (mkF m 0 #[.val (.int cd), .unset, .unset, .unset] []) by first | (simp [entryFrame, mkF, argsToLocals, Value.category]; done) | rfl) ?_
 refine oiloadN X0 hx hby od2_0 rfl 1 rfl ?_
 obtain ⟨v1, T1, L1, X1, q1, st1⟩ := own_callS X0 hx hZ hown (oW hw 8 rfl) (oW hw 9 rfl) (oW hw 2 rfl) (oW hw 10 rfl) (argsL := [(.int cd)]) (own_len_ l Z a0 hw [] cd h0 O0) 0 (by decide) (by decide) (by decide) (by decide) (by decide) e0 (g := (mkF m 1 #[.val (.int cd), .unset, .unset, .unset] [(.int cd)])) rfl (by rw [hml]; rfl) [] (lenOf oP55 rfl) rfl (by show 2 * 0 + _ ≤ _; exact Nat.le_of_eq rfl) (hb hby od2_1)
 obtain ⟨rfl, N1q, e1⟩ := q1
 have N1 := Fr.app (Fr.nil _) N1q
 refine own_st (T1.setTop (mkF m 4 #[.val (.int cd), .unset, .unset, .unset] [(.int (own_len cd))])) st1 ?_
 let La174 : Array Slot := #[.val (.int cd), .val (.int (own_len cd)), .unset, .unset]
 refine oistoreN X1 hx hby od2_4 rfl (L' := La174) rfl 5 rfl ?_
 refine oiloadN X1 hx hby od2_5 rfl 6 rfl ?_
 refine oiconst X1 hx hby od2_6 (2 : Int32) rfl 7 rfl ?_
 refine oiushr X1 hx hby od2_7 rfl _ rfl 8 rfl ?_
 refine osipush X1 hx hby od2_8 (255 : Int32) rfl 11 rfl ?_
 refine oiand X1 hx hby od2_11 rfl _ rfl 12 rfl ?_
 refine own_st (T1.setTop (mkF m 13 La174 [(.int (((cd.toUInt32 >>> ((2 : Int32) &&& 31).toUInt32).toInt32) &&& (255 : Int32)))])) (fun tq kq => XS.i2c X1.here hx rfl (hb hby od2_12) rfl (by rw [i2c_mask]; exact kq)) ?_
 let La175 : Array Slot := #[.val (.int cd), .val (.int (own_len cd)), .val (.int (((cd.toUInt32 >>> ((2 : Int32) &&& 31).toUInt32).toInt32) &&& (255 : Int32))), .unset]
 refine oistoreN X1 hx hby od2_13 rfl (L' := La175) rfl 14 rfl ?_
 refine oiloadN X1 hx hby od2_14 rfl 15 rfl ?_
 refine obipush X1 hx hby od2_15 (10 : Int32) rfl 17 rfl ?_
 refine oiushr X1 hx hby od2_17 rfl _ rfl 18 rfl ?_
 refine osipush X1 hx hby od2_18 (255 : Int32) rfl 21 rfl ?_
 refine oiand X1 hx hby od2_21 rfl _ rfl 22 rfl ?_
 refine own_st (T1.setTop (mkF m 23 La175 [(.int (((cd.toUInt32 >>> ((10 : Int32) &&& 31).toUInt32).toInt32) &&& (255 : Int32)))])) (fun tq kq => XS.i2c X1.here hx rfl (hb hby od2_22) rfl (by rw [i2c_mask]; exact kq)) ?_
 let La176 : Array Slot := #[.val (.int cd), .val (.int (own_len cd)), .val (.int (((cd.toUInt32 >>> ((2 : Int32) &&& 31).toUInt32).toInt32) &&& (255 : Int32))), .val (.int (((cd.toUInt32 >>> ((10 : Int32) &&& 31).toUInt32).toInt32) &&& (255 : Int32)))]
 refine oistoreN X1 hx hby od2_23 rfl (L' := La176) rfl 24 rfl ?_
 refine oiloadN X1 hx hby od2_24 rfl 25 rfl ?_
 by_cases c25_2 : (own_len cd) = (0 : Int32)
 ·
  refine oifNo X1 hx hby od2_25 rfl ((if0 _ _).trans (teq c25_2).2) 28 rfl ?_
  obtain ⟨T3, h3, X3, e3, E3, A3, D3, -, st3⟩ := newO X1 hx hZ hown (oW hw 11 rfl) (oW hw 12 rfl) (oW hw 13 rfl) e1 (g := (mkF m 28 La176 [])) rfl (hb hby od2_28) (by decide) (by decide)
  obtain ⟨b3, g3⟩ : ∃ z, z = h0.size := ⟨_, rfl⟩
  have z3 : Z.heap.size ≤ b3 := Nat.le_trans O0.2.1 (Nat.le_of_eq g3.symm)
  have s3 : h0.size ≤ b3 := Nat.le_trans (Keep.refl h0 []).1 (Nat.le_of_eq g3.symm)
  rw [← g3] at A3 D3 st3
  have R3 := R0.trans (CHr.ext E3 R0.1)
  have sf3_b3 := Safe.ext E3 R0.1 (Safe.new (Nat.le_of_eq g3.symm))
  have O3 := O0.ext E3
  have K3 := (Keep.refl h0 []).ext E3
  have f4 : oF12 Z h3 b3 (.int 0) := D3 (Or.inr (oW hw 38 rfl)) (ty := .byte) (by decide)
  have f5 : oF11 Z h3 b3 .null := D3 (Or.inr (oW hw 40 rfl)) (ty := (.array .byte)) (by decide)
  have f6 : oF13 Z h3 b3 (.int 0) := D3 (Or.inl (oW hw 96 rfl)) (ty := .int) (by decide)
  have f7 : oF14 Z h3 b3 (.int 0) := D3 (Or.inl (oW hw 98 rfl)) (ty := .boolean) (by decide)
  refine own_st (T3.setTop (mkF m 31 La176 [(.ref b3)])) st3 ?_
  refine odup X3 hx hby od2_31 rfl (by rfl) 32 rfl ?_
  refine oiconst X3 hx hby od2_32 (0 : Int32) rfl 33 rfl ?_
  obtain ⟨T8, h8, cA8, X8, e8, E8, A8, D8, st8⟩ := newPE X3 hx hZ (oW hw 14 rfl) e3 (g := (mkF m 33 La176 [(.int 0), (.ref b3), (.ref b3)])) rfl (hb hby od2_33) rfl (by decide) (cap := 0) (by decide) (by decide) (by decide) (by decide) (ad := "[C") (by decide)
  obtain ⟨b8, g8⟩ : ∃ z, z = h3.size := ⟨_, rfl⟩
  have z8 : Z.heap.size ≤ b8 := Nat.le_trans O3.2.1 (Nat.le_of_eq g8.symm)
  have neb3_8 : b3 ≠ b8 := Nat.ne_of_lt (Nat.lt_of_lt_of_le A3.lt (Nat.le_of_eq g8.symm))
  have s8 : h0.size ≤ b8 := Nat.le_trans K3.1 (Nat.le_of_eq g8.symm)
  rw [← g8] at A8 D8 st8
  have f9 := (A3.ext E8)
  have f10 := (f4.ext E8)
  have f11 := (f5.ext E8)
  have f12 := (f6.ext E8)
  have f13 := (f7.ext E8)
  have R8 := R3.trans (CHr.ext E8 R3.1)
  have sf8_b3 := Safe.ext E8 R3.1 sf3_b3
  have sf8_b8 := Safe.ext E8 R3.1 (Safe.new (Nat.le_of_eq g8.symm))
  have O8 := O3.ext E8
  have K8 := K3.ext E8
  have f14 : Arv Z h8 b8 cA8 .char (0 : Int32) [] (.int 0) := (Arv.new A8 (by decide)).pad (pad_rep [] (.int 0) 0)
  refine own_st (T8.setTop (mkF m 35 La176 [(.ref b8), (.ref b3), (.ref b3)])) st8 ?_
  obtain ⟨v15, T15, L15, X15, hS15, hZ15, hown15, C15, R15, q15, st15⟩ := own_callIW X8 hx hZ hown (y := oM32) rfl (oW hw 15 rfl) (oW hw 16 rfl) (oW hw 13 rfl) (oW hw 17 rfl) (a := b3) (argsL := [(.ref b8)]) (own_sinit1_0 l Z a0 hw [] b3 b8 cA8 h8 O8 f9 f11 f10 z3 f12 f13 f14 (Ne.symm neb3_8)) 1 (by decide) (by decide) (by decide) (by decide) (by decide) hS0 (Nat.le_trans (Nat.le_trans (Nat.zero_le _) E3.1) E8.1) hEL R8 (allS ⟨f9.lt, sf8_b3⟩ all0) e8 (g := (mkF m 35 La176 [(.ref b8), (.ref b3), (.ref b3)])) rfl (by rw [hml]; rfl) [(.ref b3)] (lenOf oP468 rfl) rfl (by show 2 * 0 + _ ≤ _; exact Nat.le_of_eq rfl) (hb hby od2_35)
  have sf15_b3 := C15.safe f9.lt sf8_b3
  have sf15_b8 := C15.safe D8.lt sf8_b8
  obtain ⟨b15, kb15, rfl, N15q, K15q, fv15, fc15, f15q, fm15_0, fm15_1⟩ := q15
  have N15 := Fr.app N1 N15q
  have f16 := (f9.keep K15q)
  have f21 := (D8.keep K15q)
  have f22 := (f14.keep K15q (ninS (Ne.symm neb3_8) nin0))
  have O15 := O8.keep K15q (allS z3 all0)
  have K15 := K8.trans K15q (allS (Or.inr s3) all0)
  refine own_st (T15.setTop (mkF m 38 La176 [(.ref b3)])) st15 ?_
  exact own_retW X15 hlk hS15 (Nat.le_refl _) hZ15 hEL R15 (v := some (.ref b3)) (fun h => by rw [hret] at h; cases h) rfl (fun vm1 C1 => ⟨_, _, rfl, N15, K15, s3, C1.safe f16.lt sf15_b3, f16, z3, fv15, fc15, fm15_0, fm15_1, (Ne.symm (Exa.neArv f16 f15q (oW hw 12 rfl))), _, Or.inl ⟨f15q, own_hc0 c25_2⟩⟩) (by decide) (by decide) (fun fs hr => retOut X15 hx hret rfl (Or.inr (Or.inr (Or.inr (Or.inr ⟨rfl, rfl, rfl⟩)))) (hb hby od2_38) hr)
 ·
  refine oifYes X1 hx hby od2_25 rfl ((if0 _ _).trans (feq c25_2).2) 39 (by decide) (by decide) ?_
  refine oiloadN X1 hx hby od2_39 rfl 40 rfl ?_
  refine oiconst X1 hx hby od2_40 (1 : Int32) rfl 41 rfl ?_
  by_cases c41_23 : (own_len cd) = (1 : Int32)
  ·
   refine oicmpNo X1 hx hby od2_41 rfl (teq c41_23).2 44 rfl ?_
   refine oiloadN X1 hx hby od2_44 rfl 45 rfl ?_
   obtain ⟨v24, T24, L24, X24, q24, st24⟩ := own_callS X1 hx hZ hown (oW hw 44 rfl) (oW hw 45 rfl) (oW hw 13 rfl) (oW hw 46 rfl) (argsL := [(.int (((cd.toUInt32 >>> ((2 : Int32) &&& 31).toUInt32).toInt32) &&& (255 : Int32)))]) (own_au22_valueOf l Z a0 hw [] (((cd.toUInt32 >>> ((2 : Int32) &&& 31).toUInt32).toInt32) &&& (255 : Int32)) cz h0 O0 SC (own_m0 _) (own_m1 _) (hcz : ¬ (cz = (0 : Int32)))) 0 (by decide) (by decide) (by decide) (by decide) (by decide) e1 (g := (mkF m 45 La176 [(.int (((cd.toUInt32 >>> ((2 : Int32) &&& 31).toUInt32).toInt32) &&& (255 : Int32)))])) rfl (by rw [hml]; rfl) [] (lenOf oP513 rfl) rfl (by show 2 * 0 + _ ≤ _; exact Nat.le_of_eq rfl) (hb hby od2_45)
   obtain ⟨b24_0, b24_1, kb24_0, rfl, N24q, K24q, z24_0, s24_0q, z24_1, s24_1q, u24_0, f24_0, f24_1, f24_2, f24_3, f24_4, f24_5, f24_6⟩ := q24
   have N24 := Fr.app N1 N24q
   have s24_0 : h0.size ≤ b24_0 := Nat.le_trans (Keep.refl h0 []).1 s24_0q
   have s24_1 : h0.size ≤ b24_1 := Nat.le_trans (Keep.refl h0 []).1 s24_1q
   have O24 := O0.keep K24q all0
   have R24 := R0.trans (CHr.keep K24q all0 R0.1)
   have sf24_b24_0 := Safe.keep K24q all0 R0.1 (Safe.new s24_0q)
   have sf24_b24_1 := Safe.keep K24q all0 R0.1 (Safe.new s24_1q)
   have K24 := (Keep.refl h0 []).trans K24q all0
   refine own_st (T24.setTop (mkF m 48 La176 [(.ref b24_0)])) st24 ?_
   exact own_retW X24 hlk hS0 (Nat.le_trans (Nat.zero_le _) K24q.1) hZ hEL R24 (v := some (.ref b24_0)) (fun h => by rw [hret] at h; cases h) rfl (fun vm1 C1 => ⟨_, _, rfl, N24, K24, s24_0, C1.safe f24_0.lt sf24_b24_0, f24_0, z24_0, f24_2, f24_1, f24_3, f24_4, (Ne.symm u24_0), _, Or.inr (Or.inl ⟨_, f24_6, own_b1 c25_2 c41_23⟩)⟩) (by decide) (by decide) (fun fs hr => retOut X24 hx hret rfl (Or.inr (Or.inr (Or.inr (Or.inr ⟨rfl, rfl, rfl⟩)))) (hb hby od2_48) hr)
  ·
   refine oicmpYes X1 hx hby od2_41 rfl (feq c41_23).2 49 (by decide) (by decide) ?_
   obtain ⟨T25, h25, X25, e25, E25, A25, D25, -, st25⟩ := newO X1 hx hZ hown (oW hw 11 rfl) (oW hw 12 rfl) (oW hw 13 rfl) e1 (g := (mkF m 49 La176 [])) rfl (hb hby od2_49) (by decide) (by decide)
   obtain ⟨b25, g25⟩ : ∃ z, z = h0.size := ⟨_, rfl⟩
   have z25 : Z.heap.size ≤ b25 := Nat.le_trans O0.2.1 (Nat.le_of_eq g25.symm)
   have s25 : h0.size ≤ b25 := Nat.le_trans (Keep.refl h0 []).1 (Nat.le_of_eq g25.symm)
   rw [← g25] at A25 D25 st25
   have R25 := R0.trans (CHr.ext E25 R0.1)
   have sf25_b25 := Safe.ext E25 R0.1 (Safe.new (Nat.le_of_eq g25.symm))
   have O25 := O0.ext E25
   have K25 := (Keep.refl h0 []).ext E25
   have f26 : oF12 Z h25 b25 (.int 0) := D25 (Or.inr (oW hw 38 rfl)) (ty := .byte) (by decide)
   have f27 : oF11 Z h25 b25 .null := D25 (Or.inr (oW hw 40 rfl)) (ty := (.array .byte)) (by decide)
   have f28 : oF13 Z h25 b25 (.int 0) := D25 (Or.inl (oW hw 96 rfl)) (ty := .int) (by decide)
   have f29 : oF14 Z h25 b25 (.int 0) := D25 (Or.inl (oW hw 98 rfl)) (ty := .boolean) (by decide)
   refine own_st (T25.setTop (mkF m 52 La176 [(.ref b25)])) st25 ?_
   refine odup X25 hx hby od2_52 rfl (by rfl) 53 rfl ?_
   refine oiconst X25 hx hby od2_53 (2 : Int32) rfl 54 rfl ?_
   obtain ⟨T30, h30, cA30, X30, e30, E30, A30, D30, st30⟩ := newPE X25 hx hZ (oW hw 14 rfl) e25 (g := (mkF m 54 La176 [(.int 2), (.ref b25), (.ref b25)])) rfl (hb hby od2_54) rfl (by decide) (cap := 2) (by decide) (by decide) (by decide) (by decide) (ad := "[C") (by decide)
   obtain ⟨b30, g30⟩ : ∃ z, z = h25.size := ⟨_, rfl⟩
   have z30 : Z.heap.size ≤ b30 := Nat.le_trans O25.2.1 (Nat.le_of_eq g30.symm)
   have neb25_30 : b25 ≠ b30 := Nat.ne_of_lt (Nat.lt_of_lt_of_le A25.lt (Nat.le_of_eq g30.symm))
   have s30 : h0.size ≤ b30 := Nat.le_trans K25.1 (Nat.le_of_eq g30.symm)
   rw [← g30] at A30 D30 st30
   have f31 := (A25.ext E30)
   have f32 := (f26.ext E30)
   have f33 := (f27.ext E30)
   have f34 := (f28.ext E30)
   have f35 := (f29.ext E30)
   have R30 := R25.trans (CHr.ext E30 R25.1)
   have sf30_b25 := Safe.ext E30 R25.1 sf25_b25
   have sf30_b30 := Safe.ext E30 R25.1 (Safe.new (Nat.le_of_eq g30.symm))
   have O30 := O25.ext E30
   have K30 := K25.ext E30
   have f36 : Arv Z h30 b30 cA30 .char (2 : Int32) [(.int 0), (.int 0)] (.int 0) := (Arv.new A30 (by decide)).pad (pad_rep [] (.int 0) 2)
   refine own_st (T30.setTop (mkF m 56 La176 [(.ref b30), (.ref b25), (.ref b25)])) st30 ?_
   refine odup X30 hx hby od2_56 rfl (by rfl) 57 rfl ?_
   refine oiconst X30 hx hby od2_57 (0 : Int32) rfl 58 rfl ?_
   refine oiloadN X30 hx hby od2_58 rfl 59 rfl ?_
   obtain ⟨cl37, q37a, q37b, q37c, q37d, q37e, q37f⟩ := id f36
   obtain ⟨T37, h37, X37, e37, W37, st37⟩ := stC X30 hx hZ e30 q37a (j := (0 : Int32)) (inb_of q37c ⟨by decide, by decide⟩) (g := (mkF m 59 La176 [(.int (((cd.toUInt32 >>> ((2 : Int32) &&& 31).toUInt32).toInt32) &&& (255 : Int32))), (.int 0), (.ref b30), (.ref b30), (.ref b25), (.ref b25)])) rfl rfl (hb hby od2_59)
   have N37 := Fr.snoc X37 N1 z30
   have O37 := O30.wr W37 z30
   have R37 := R30.trans (CHr.wr W37 sf30_b30 R30.1)
   have sf37_b25 := Safe.wr W37 sf30_b30 R30.1 sf30_b25
   have sf37_b30 := Safe.wr W37 sf30_b30 R30.1 sf30_b30
   have K37 := K30.wr W37 (Or.inr s30)
   have f38 := (f31.wr W37)
   have f39 := (f32.other W37 (Or.inl neb25_30))
   have f40 := (f33.other W37 (Or.inl neb25_30))
   have f41 := (f34.other W37 (Or.inl neb25_30))
   have f42 := (f35.other W37 (Or.inl neb25_30))
   have f43 := (D30.wr W37)
   have f45 : Arv Z h37 b30 cA30 .char (2 : Int32) [(.int (((cd.toUInt32 >>> ((2 : Int32) &&& 31).toUInt32).toInt32) &&& (255 : Int32))), (.int 0)] (.int 0) := (show nar .char (((cd.toUInt32 >>> ((2 : Int32) &&& 31).toUInt32).toInt32) &&& (255 : Int32)) = (((cd.toUInt32 >>> ((2 : Int32) &&& 31).toUInt32).toInt32) &&& (255 : Int32)) from (i2c_mask _)) ▸ Arv.set q37a q37b q37c q37d q37e q37f (fits_nar_char _) W37 0 (by decide) (show 0 < 2 by decide)
   refine own_st (T37.setTop (mkF m 60 La176 [(.ref b30), (.ref b25), (.ref b25)])) st37 ?_
   refine odup X37 hx hby od2_60 rfl (by rfl) 61 rfl ?_
   refine oiconst X37 hx hby od2_61 (1 : Int32) rfl 62 rfl ?_
   refine oiloadN X37 hx hby od2_62 rfl 63 rfl ?_
   obtain ⟨cl46, q46a, q46b, q46c, q46d, q46e, q46f⟩ := id f45
   obtain ⟨T46, h46, X46, e46, W46, st46⟩ := stC X37 hx hZ e37 q46a (j := (1 : Int32)) (inb_of q46c ⟨by decide, by decide⟩) (g := (mkF m 63 La176 [(.int (((cd.toUInt32 >>> ((10 : Int32) &&& 31).toUInt32).toInt32) &&& (255 : Int32))), (.int 1), (.ref b30), (.ref b30), (.ref b25), (.ref b25)])) rfl rfl (hb hby od2_63)
   have N46 := Fr.snoc X46 N37 z30
   have O46 := O37.wr W46 z30
   have R46 := R37.trans (CHr.wr W46 sf37_b30 R37.1)
   have sf46_b25 := Safe.wr W46 sf37_b30 R37.1 sf37_b25
   have sf46_b30 := Safe.wr W46 sf37_b30 R37.1 sf37_b30
   have K46 := K37.wr W46 (Or.inr s30)
   have f47 := (f38.wr W46)
   have f48 := (f39.other W46 (Or.inl neb25_30))
   have f49 := (f40.other W46 (Or.inl neb25_30))
   have f50 := (f41.other W46 (Or.inl neb25_30))
   have f51 := (f42.other W46 (Or.inl neb25_30))
   have f52 := (f43.wr W46)
   have f54 : Arv Z h46 b30 cA30 .char (2 : Int32) [(.int (((cd.toUInt32 >>> ((2 : Int32) &&& 31).toUInt32).toInt32) &&& (255 : Int32))), (.int (((cd.toUInt32 >>> ((10 : Int32) &&& 31).toUInt32).toInt32) &&& (255 : Int32)))] (.int 0) := (show nar .char (((cd.toUInt32 >>> ((10 : Int32) &&& 31).toUInt32).toInt32) &&& (255 : Int32)) = (((cd.toUInt32 >>> ((10 : Int32) &&& 31).toUInt32).toInt32) &&& (255 : Int32)) from (i2c_mask _)) ▸ Arv.set q46a q46b q46c q46d q46e q46f (fits_nar_char _) W46 1 (by decide) (show 1 < 2 by decide)
   refine own_st (T46.setTop (mkF m 64 La176 [(.ref b30), (.ref b25), (.ref b25)])) st46 ?_
   obtain ⟨v55, T55, L55, X55, q55, st55⟩ := own_callI X46 hx hZ hown (y := oM32) rfl (oW hw 15 rfl) (oW hw 16 rfl) (oW hw 13 rfl) (oW hw 17 rfl) (a := b25) (argsL := [(.ref b30)]) (own_au26_init l Z a0 hw [] b25 b30 cz (((cd.toUInt32 >>> ((2 : Int32) &&& 31).toUInt32).toInt32) &&& (255 : Int32)) (((cd.toUInt32 >>> ((10 : Int32) &&& 31).toUInt32).toInt32) &&& (255 : Int32)) cA30 h46 O46 SC f47 f48 f49 f50 f51 f52 f54 z25 z30 (own_m0 _) (own_m1 _) (own_m0 _) (own_m1 _) (hcz : ¬ (cz = (0 : Int32)))) 1 (by decide) (by decide) (by decide) (by decide) (by decide) e46 (g := (mkF m 64 La176 [(.ref b30), (.ref b25), (.ref b25)])) rfl (by rw [hml]; rfl) [(.ref b25)] (lenOf oP468 rfl) rfl (by show 2 * 0 + _ ≤ _; exact Nat.le_of_eq rfl) (hb hby od2_64)
   obtain ⟨b55_0, kb55_0, rfl, N55q, K55q, z55_0, s55_0q, f55_0, f55_1, f55_2, f55_3, f55_4, f55_5⟩ := q55
   have N55 := Fr.app N46 N55q
   have nf55_0_b25 : b25 ≠ b55_0 := Nat.ne_of_lt (Nat.lt_of_lt_of_le f47.lt s55_0q)
   have nf55_0_b30 : b30 ≠ b55_0 := Nat.ne_of_lt (Nat.lt_of_lt_of_le f52.lt s55_0q)
   have s55_0 : h0.size ≤ b55_0 := Nat.le_trans K46.1 s55_0q
   have f56 := (f47.keep K55q)
   have f61 := (f52.keep K55q)
   have f62 := (f54.keep K55q (ninS (Ne.symm neb25_30) nin0))
   have O55 := O46.keep K55q (allS z25 all0)
   have R55 := R46.trans (CHr.keep K55q (allS sf46_b25 all0) R46.1)
   have sf55_b25 := Safe.keep K55q (allS sf46_b25 all0) R46.1 sf46_b25
   have sf55_b30 := Safe.keep K55q (allS sf46_b25 all0) R46.1 sf46_b30
   have sf55_b55_0 := Safe.keep K55q (allS sf46_b25 all0) R46.1 (Safe.new s55_0q)
   have K55 := K46.trans K55q (allS (Or.inr s25) all0)
   refine own_st (T55.setTop (mkF m 67 La176 [(.ref b25)])) st55 ?_
   exact own_retW X55 hlk hS0 (Nat.le_trans (Nat.le_trans (Nat.le_trans (Nat.le_trans (Nat.le_trans (Nat.zero_le _) E25.1) E30.1) (Nat.le_of_eq W37.size.symm)) (Nat.le_of_eq W46.size.symm)) K55q.1) hZ hEL R55 (v := some (.ref b25)) (fun h => by rw [hret] at h; cases h) rfl (fun vm1 C1 => ⟨_, _, rfl, N55, K55, s25, C1.safe f56.lt sf55_b25, f56, z25, f55_1, f55_0, f55_2, f55_3, (Ne.symm nf55_0_b25), _, Or.inr (Or.inr ⟨_, _, f55_5, f55_4, own_b2 c25_2 c41_23⟩)⟩) (by decide) (by decide) (fun fs hr => retOut X55 hx hret rfl (Or.inr (Or.inr (Or.inr (Or.inr ⟨rfl, rfl, rfl⟩)))) (hb hby od2_67) hr)
theorem od1_0 : decode method_4_code 0 = .ok (.lload_n 0, 1) := by decide +kernel
theorem od1_1 : decode method_4_code 1 = .ok (.bipush 18, 2) := by decide +kernel
theorem od1_3 : decode method_4_code 3 = .ok (.iload_n 2, 1) := by decide +kernel
theorem od1_4 : decode method_4_code 4 = .ok (.imul, 1) := by decide +kernel
theorem od1_5 : decode method_4_code 5 = .ok (.lushr, 1) := by decide +kernel
theorem od1_6 : decode method_4_code 6 = .ok (.ldc2_w 38, 3) := by decide +kernel
theorem od1_9 : decode method_4_code 9 = .ok (.land, 1) := by decide +kernel
theorem od1_10 : decode method_4_code 10 = .ok (.l2i, 1) := by decide +kernel
theorem od1_11 : decode method_4_code 11 = .ok (.ireturn, 1) := by decide +kernel
theorem own_code0 (l : Launch) (Z : State) (a0 : Array Value) (hw : OWS a0 Z) (ws : List Jvm.Cond) (x8 : Int64) (h0 : Heap) (O0 : Old Z Z.heap.size h0) :
  ownMet l oM42 method_4_code 3 (some .int) ws (oR 0 0 0 0) Z #[(.long x8), (.int 0)] h0 (fun v h L => ∃ z : Int32, v = some (.int z) ∧ Fr Z.heap.size L ∧ h = h0) := by
 refine own_met (plainFor_of_name oP363) ?_
 intro p e s m below meth c s₁ hx hby hml hown hnm hret hlk hZ e0 X0
 refine own_cast (show _ = (mkF m 0 #[.val (.long x8), .second, .val (.int 0)] []) by first | (simp [entryFrame, mkF, argsToLocals, Value.category]; done) | rfl) ?_
 refine olloadN X0 hx hby od1_0 rfl 1 rfl ?_
 refine obipush X0 hx hby od1_1 (18 : Int32) rfl 3 rfl ?_
 refine oiloadN X0 hx hby od1_3 rfl 4 rfl ?_
 refine oimul X0 hx hby od1_4 rfl (0 : Int32) rfl 5 rfl ?_
 let La177 : Array Slot := #[.val (.long x8), .second, .val (.int 0)]
 refine own_st (s₁.setTop (mkF m 6 La177 [(.long ((x8.toUInt64 >>> ((0 : Int32) &&& 0x3f).toInt64.toUInt64).toInt64))])) (fun tq kq => XS.lushr X0.here hx rfl (hb hby od1_5) rfl kq) ?_
 refine own_st (s₁.setTop (mkF m 9 La177 [(.long (262143 : Int64)), (.long ((x8.toUInt64 >>> ((0 : Int32) &&& 0x3f).toInt64.toUInt64).toInt64))])) (X0.ldc2Long hx hown (mvT hZ (oW hw 4 rfl)) (g := (mkF m 6 La177 [(.long ((x8.toUInt64 >>> ((0 : Int32) &&& 0x3f).toInt64.toUInt64).toInt64))])) rfl (hb hby od1_6)) ?_
 refine own_st (s₁.setTop (mkF m 10 La177 [(.long (((x8.toUInt64 >>> ((0 : Int32) &&& 0x3f).toInt64.toUInt64).toInt64) &&& (262143 : Int64)))])) (fun tq kq => XS.land X0.here hx rfl (hb hby od1_9) rfl kq) ?_
 refine own_st (s₁.setTop (mkF m 11 La177 [(.int ((((x8.toUInt64 >>> ((0 : Int32) &&& 0x3f).toInt64.toUInt64).toInt64) &&& (262143 : Int64)).toInt32))])) (fun tq kq => XS.l2i X0.here hx rfl (hb hby od1_10) rfl kq) ?_
 exact own_ret X0 hlk (v := some (.int ((((x8.toUInt64 >>> ((0 : Int32) &&& 0x3f).toInt64.toUInt64).toInt64) &&& (262143 : Int64)).toInt32))) (fun h => by rw [hret] at h; cases h) e0 (⟨_, rfl, (Fr.nil _), rfl⟩) (by decide) (by decide) (fun fs hr => retI X0 hx hret (hb hby od1_11) hr)
theorem own_code1 (l : Launch) (Z : State) (a0 : Array Value) (hw : OWS a0 Z) (ws : List Jvm.Cond) (x8 : Int64) (h0 : Heap) (O0 : Old Z Z.heap.size h0) :
  ownMet l oM42 method_4_code 3 (some .int) ws (oR 0 0 0 0) Z #[(.long x8), (.int 1)] h0 (fun v h L => ∃ z : Int32, v = some (.int z) ∧ Fr Z.heap.size L ∧ h = h0) := by
 refine own_met (plainFor_of_name oP363) ?_
 intro p e s m below meth c s₁ hx hby hml hown hnm hret hlk hZ e0 X0
 refine own_cast (show _ = (mkF m 0 #[.val (.long x8), .second, .val (.int 1)] []) by first | (simp [entryFrame, mkF, argsToLocals, Value.category]; done) | rfl) ?_
 refine olloadN X0 hx hby od1_0 rfl 1 rfl ?_
 refine obipush X0 hx hby od1_1 (18 : Int32) rfl 3 rfl ?_
 refine oiloadN X0 hx hby od1_3 rfl 4 rfl ?_
 refine oimul X0 hx hby od1_4 rfl (18 : Int32) rfl 5 rfl ?_
 let La178 : Array Slot := #[.val (.long x8), .second, .val (.int 1)]
 refine own_st (s₁.setTop (mkF m 6 La178 [(.long ((x8.toUInt64 >>> ((18 : Int32) &&& 0x3f).toInt64.toUInt64).toInt64))])) (fun tq kq => XS.lushr X0.here hx rfl (hb hby od1_5) rfl kq) ?_
 refine own_st (s₁.setTop (mkF m 9 La178 [(.long (262143 : Int64)), (.long ((x8.toUInt64 >>> ((18 : Int32) &&& 0x3f).toInt64.toUInt64).toInt64))])) (X0.ldc2Long hx hown (mvT hZ (oW hw 4 rfl)) (g := (mkF m 6 La178 [(.long ((x8.toUInt64 >>> ((18 : Int32) &&& 0x3f).toInt64.toUInt64).toInt64))])) rfl (hb hby od1_6)) ?_
 refine own_st (s₁.setTop (mkF m 10 La178 [(.long (((x8.toUInt64 >>> ((18 : Int32) &&& 0x3f).toInt64.toUInt64).toInt64) &&& (262143 : Int64)))])) (fun tq kq => XS.land X0.here hx rfl (hb hby od1_9) rfl kq) ?_
 refine own_st (s₁.setTop (mkF m 11 La178 [(.int ((((x8.toUInt64 >>> ((18 : Int32) &&& 0x3f).toInt64.toUInt64).toInt64) &&& (262143 : Int64)).toInt32))])) (fun tq kq => XS.l2i X0.here hx rfl (hb hby od1_10) rfl kq) ?_
 exact own_ret X0 hlk (v := some (.int ((((x8.toUInt64 >>> ((18 : Int32) &&& 0x3f).toInt64.toUInt64).toInt64) &&& (262143 : Int64)).toInt32))) (fun h => by rw [hret] at h; cases h) e0 (⟨_, rfl, (Fr.nil _), rfl⟩) (by decide) (by decide) (fun fs hr => retI X0 hx hret (hb hby od1_11) hr)
theorem own_code2 (l : Launch) (Z : State) (a0 : Array Value) (hw : OWS a0 Z) (ws : List Jvm.Cond) (x8 : Int64) (h0 : Heap) (O0 : Old Z Z.heap.size h0) :
  ownMet l oM42 method_4_code 3 (some .int) ws (oR 0 0 0 0) Z #[(.long x8), (.int 2)] h0 (fun v h L => ∃ z : Int32, v = some (.int z) ∧ Fr Z.heap.size L ∧ h = h0) := by
 refine own_met (plainFor_of_name oP363) ?_
 intro p e s m below meth c s₁ hx hby hml hown hnm hret hlk hZ e0 X0
 refine own_cast (show _ = (mkF m 0 #[.val (.long x8), .second, .val (.int 2)] []) by first | (simp [entryFrame, mkF, argsToLocals, Value.category]; done) | rfl) ?_
 refine olloadN X0 hx hby od1_0 rfl 1 rfl ?_
 refine obipush X0 hx hby od1_1 (18 : Int32) rfl 3 rfl ?_
 refine oiloadN X0 hx hby od1_3 rfl 4 rfl ?_
 refine oimul X0 hx hby od1_4 rfl (36 : Int32) rfl 5 rfl ?_
 let La179 : Array Slot := #[.val (.long x8), .second, .val (.int 2)]
 refine own_st (s₁.setTop (mkF m 6 La179 [(.long ((x8.toUInt64 >>> ((36 : Int32) &&& 0x3f).toInt64.toUInt64).toInt64))])) (fun tq kq => XS.lushr X0.here hx rfl (hb hby od1_5) rfl kq) ?_
 refine own_st (s₁.setTop (mkF m 9 La179 [(.long (262143 : Int64)), (.long ((x8.toUInt64 >>> ((36 : Int32) &&& 0x3f).toInt64.toUInt64).toInt64))])) (X0.ldc2Long hx hown (mvT hZ (oW hw 4 rfl)) (g := (mkF m 6 La179 [(.long ((x8.toUInt64 >>> ((36 : Int32) &&& 0x3f).toInt64.toUInt64).toInt64))])) rfl (hb hby od1_6)) ?_
 refine own_st (s₁.setTop (mkF m 10 La179 [(.long (((x8.toUInt64 >>> ((36 : Int32) &&& 0x3f).toInt64.toUInt64).toInt64) &&& (262143 : Int64)))])) (fun tq kq => XS.land X0.here hx rfl (hb hby od1_9) rfl kq) ?_
 refine own_st (s₁.setTop (mkF m 11 La179 [(.int ((((x8.toUInt64 >>> ((36 : Int32) &&& 0x3f).toInt64.toUInt64).toInt64) &&& (262143 : Int64)).toInt32))])) (fun tq kq => XS.l2i X0.here hx rfl (hb hby od1_10) rfl kq) ?_
 exact own_ret X0 hlk (v := some (.int ((((x8.toUInt64 >>> ((36 : Int32) &&& 0x3f).toInt64.toUInt64).toInt64) &&& (262143 : Int64)).toInt32))) (fun h => by rw [hret] at h; cases h) e0 (⟨_, rfl, (Fr.nil _), rfl⟩) (by decide) (by decide) (fun fs hr => retI X0 hx hret (hb hby od1_11) hr)
theorem oP605 : parseMethodDescriptor "(Lcom/example/rising_block/risingblock/util/StringHashes;)Z" = some ⟨[(.object "com/example/rising_block/risingblock/util/StringHashes")], some .boolean⟩ := by decide +kernel
theorem own_lawD (l : Launch) (Z : State) (a0 : Array Value) (hw : OWS a0 Z) (cz : Int32) (SC : Sta Z Z.heap "java/lang/String" "COMPACT_STRINGS" "Z" (.int cz)) (hcz : ¬ (cz = (0 : Int32))) (p : Program) (e : Env) (s : State) (m : MethodId) (below : List Frame) (meth : Method) (c : Code) (T : State) (locs : List Loc) (vm0 : Vm) (k0 : Nat) (h0 h : Heap) (args : Array Value) (w0 w1 w2 w3 w4 w5 w6 w7 w8 w9 w10 w11 w12 w13 w14 w15 w16 w17 w18 w19 w20 w21 w22 w23 w24 w25 w26 w27 w29 : Slot)
  (hx : p.tables.exec = Jvm.exec) (hby : c.code = code) (hml : c.maxLocals = maxLocals) (hret : meth.sig.returnType = ret) (hlk : meth.locks = false) (hEL : EW Z a0 own_EL) (hZ : Z.Warmed39 vm0) (hown : vm0.findClass "com/example/rising_block/risingblock/util/StringHashesMeetsPinLaw" = some m.cls) (e0 : T.heap = h) (X0 : Stand p l e room_1 (s.setVm vm0) m args below meth c T locs 62 1300) (hS0 : s.Since vm0 k0) (hk0 : k0 ≤ h.size) (R0 : CHr Z own_EL s.vm h0 vm0 h) (N0 : Fr Z.heap.size locs) (O0 : Old Z Z.heap.size h)
  (nA nB ha0 ha1 ha2 hb0 hb1 hb2 : Int32) (o b pb o2 b2 p2 : Addr) (ex : Int32) (RA : OwnRep Z h o b pb (own_lst nA ha0 ha1 ha2)) (RB : OwnRep Z h o2 b2 p2 (own_lst nB hb0 hb1 hb2)) (na : ∀ y ∈ (own_lst nA ha0 ha1 ha2), y ≠ 0) (nb : ∀ y ∈ (own_lst nB hb0 hb1 hb2), y ≠ 0) (hne : ∀ x ∈ [o, b, pb], ∀ y ∈ [o2, b2, p2], x ≠ y) (hsf : ∀ x ∈ [o, b, o2, b2], Safe Z own_EL vm0 h x) (hex : ex = (if own_meet (own_lst nA ha0 ha1 ha2) (own_lst nB hb0 hb1 hb2) = true then (1 : Int32) else 0)) :
  ownGo p e below (ownQW s Z own_EL h0 (fun v vm h L => v = some (.int 1) ∧ Fr Z.heap.size L) room_1.cells room_1.slots) (T.setTop (mkF m 377 #[w0, w1, w2, w3, w4, w5, w6, w7, w8, w9, w10, w11, w12, w13, w14, w15, w16, w17, w18, w19, w20, w21, w22, w23, w24, w25, w26, w27, .val (.ref o), w29, .val (.ref o2), .val (.int ex), .unset, .unset] [])) := by
 refine oaload X0 hx hby at_377 rfl (by rfl) 379 rfl ?_
 refine oaload X0 hx hby at_379 rfl (by rfl) 381 rfl ?_
 let La180 : Array Slot := #[w0, w1, w2, w3, w4, w5, w6, w7, w8, w9, w10, w11, w12, w13, w14, w15, w16, w17, w18, w19, w20, w21, w22, w23, w24, w25, w26, w27, rv o, w29, rv o2, .val (.int ex), .unset, .unset]
 obtain ⟨v1, T1, L1, X1, q1, st1⟩ := own_callV X0 hx hZ hown (y := oM10) (z := oM10) (oW hw 75 rfl) (oW hw 76 rfl) (notFace_of_selects (args := a0) (oW hw 78 rfl)) (oW hw 78 rfl) (oW hw 77 rfl) (oW hw 63 rfl) (oW hw 79 rfl) RA.exa (b := o) (argsL := [(.ref o2)]) (own_meetsR l Z a0 hw [] o b pb o2 b2 p2 (own_lst nA ha0 ha1 ha2) (own_lst nB hb0 hb1 hb2) h O0 RA RB own_lstlen own_lstlen na (hne _ (List.mem_of_getElem? (i := 0) rfl) _ (List.mem_of_getElem? (i := 0) rfl)) (hne _ (List.mem_of_getElem? (i := 0) rfl) _ (List.mem_of_getElem? (i := 1) rfl)) (hne _ (List.mem_of_getElem? (i := 1) rfl) _ (List.mem_of_getElem? (i := 0) rfl)) (hne _ (List.mem_of_getElem? (i := 1) rfl) _ (List.mem_of_getElem? (i := 1) rfl)) (hne _ (List.mem_of_getElem? (i := 0) rfl) _ (List.mem_of_getElem? (i := 2) rfl)) (hne _ (List.mem_of_getElem? (i := 1) rfl) _ (List.mem_of_getElem? (i := 2) rfl))) 0 (by decide) (by decide) (by decide) (by decide) (by decide) e0 (g := (mkF m 381 La180 [(.ref o2), (.ref o)])) rfl (by rw [hml]; rfl) [] (lenOf oP605 rfl) rfl (by show 2 * 0 + _ ≤ _; exact Nat.le_of_eq rfl) (hb hby at_381)
 obtain ⟨rfl, N1q, K1q, R1q, R1p⟩ := q1
 have N1 := Fr.app N0 N1q
 have f2 := (RA.exa.keep K1q)
 have f4 := (RB.exa.keep K1q)
 have O1 := O0.keep K1q (allS RA.ge1 (allS RA.ge2 (allS RB.ge1 (allS RB.ge2 all0))))
 have R1 := R0.trans (CHr.keep K1q (allS (hsf _ (List.mem_of_getElem? (i := 0) rfl)) (allS (hsf _ (List.mem_of_getElem? (i := 1) rfl)) (allS (hsf _ (List.mem_of_getElem? (i := 2) rfl)) (allS (hsf _ (List.mem_of_getElem? (i := 3) rfl)) all0)))) R0.1)
 have sf1_o := Safe.keep K1q (allS (hsf _ (List.mem_of_getElem? (i := 0) rfl)) (allS (hsf _ (List.mem_of_getElem? (i := 1) rfl)) (allS (hsf _ (List.mem_of_getElem? (i := 2) rfl)) (allS (hsf _ (List.mem_of_getElem? (i := 3) rfl)) all0)))) R0.1 (hsf _ (List.mem_of_getElem? (i := 0) rfl))
 have sf1_b := Safe.keep K1q (allS (hsf _ (List.mem_of_getElem? (i := 0) rfl)) (allS (hsf _ (List.mem_of_getElem? (i := 1) rfl)) (allS (hsf _ (List.mem_of_getElem? (i := 2) rfl)) (allS (hsf _ (List.mem_of_getElem? (i := 3) rfl)) all0)))) R0.1 (hsf _ (List.mem_of_getElem? (i := 1) rfl))
 have sf1_o2 := Safe.keep K1q (allS (hsf _ (List.mem_of_getElem? (i := 0) rfl)) (allS (hsf _ (List.mem_of_getElem? (i := 1) rfl)) (allS (hsf _ (List.mem_of_getElem? (i := 2) rfl)) (allS (hsf _ (List.mem_of_getElem? (i := 3) rfl)) all0)))) R0.1 (hsf _ (List.mem_of_getElem? (i := 2) rfl))
 have sf1_b2 := Safe.keep K1q (allS (hsf _ (List.mem_of_getElem? (i := 0) rfl)) (allS (hsf _ (List.mem_of_getElem? (i := 1) rfl)) (allS (hsf _ (List.mem_of_getElem? (i := 2) rfl)) (allS (hsf _ (List.mem_of_getElem? (i := 3) rfl)) all0)))) R0.1 (hsf _ (List.mem_of_getElem? (i := 3) rfl))
 refine own_st (T1.setTop (mkF m 384 La180 [(.int (if own_meet (own_lst nA ha0 ha1 ha2) (own_lst nB hb0 hb1 hb2) = true then (1 : Int32) else 0))])) st1 ?_
 let La181 : Array Slot := #[w0, w1, w2, w3, w4, w5, w6, w7, w8, w9, w10, w11, w12, w13, w14, w15, w16, w17, w18, w19, w20, w21, w22, w23, w24, w25, w26, w27, rv o, w29, rv o2, .val (.int ex), .val (.int (if own_meet (own_lst nA ha0 ha1 ha2) (own_lst nB hb0 hb1 hb2) = true then (1 : Int32) else 0)), .unset]
 refine oistore X1 hx hby at_384 rfl (L' := La181) rfl 386 rfl ?_
 refine oaload X1 hx hby at_386 rfl (by rfl) 388 rfl ?_
 refine oaload X1 hx hby at_388 rfl (by rfl) 390 rfl ?_
 obtain ⟨v6, T6, L6, X6, q6, st6⟩ := own_callV X1 hx hZ hown (y := oM10) (z := oM10) (oW hw 75 rfl) (oW hw 76 rfl) (notFace_of_selects (args := a0) (oW hw 78 rfl)) (oW hw 78 rfl) (oW hw 77 rfl) (oW hw 63 rfl) (oW hw 79 rfl) f4 (b := o2) (argsL := [(.ref o)]) (own_meetsR l Z a0 hw [] o2 b2 p2 o b pb (own_lst nB hb0 hb1 hb2) (own_lst nA ha0 ha1 ha2) T1.heap O1 R1p R1q own_lstlen own_lstlen nb (Ne.symm (hne _ (List.mem_of_getElem? (i := 0) rfl) _ (List.mem_of_getElem? (i := 0) rfl))) (Ne.symm (hne _ (List.mem_of_getElem? (i := 1) rfl) _ (List.mem_of_getElem? (i := 0) rfl))) (Ne.symm (hne _ (List.mem_of_getElem? (i := 0) rfl) _ (List.mem_of_getElem? (i := 1) rfl))) (Ne.symm (hne _ (List.mem_of_getElem? (i := 1) rfl) _ (List.mem_of_getElem? (i := 1) rfl))) (Ne.symm (hne _ (List.mem_of_getElem? (i := 2) rfl) _ (List.mem_of_getElem? (i := 0) rfl))) (Ne.symm (hne _ (List.mem_of_getElem? (i := 2) rfl) _ (List.mem_of_getElem? (i := 1) rfl)))) 0 (by decide) (by decide) (by decide) (by decide) (by decide) rfl (g := (mkF m 390 La181 [(.ref o), (.ref o2)])) rfl (by rw [hml]; rfl) [] (lenOf oP605 rfl) rfl (by show 2 * 0 + _ ≤ _; exact Nat.le_of_eq rfl) (hb hby at_390)
 obtain ⟨rfl, N6q, K6q, R6q, R6p⟩ := q6
 have N6 := Fr.app N1 N6q
 have f7 := (f2.keep K6q)
 have f8 := (f4.keep K6q)
 have O6 := O1.keep K6q (allS RB.ge1 (allS RB.ge2 (allS RA.ge1 (allS RA.ge2 all0))))
 have R6 := R1.trans (CHr.keep K6q (allS sf1_o2 (allS sf1_b2 (allS sf1_o (allS sf1_b all0)))) R1.1)
 have sf6_o := Safe.keep K6q (allS sf1_o2 (allS sf1_b2 (allS sf1_o (allS sf1_b all0)))) R1.1 sf1_o
 have sf6_b := Safe.keep K6q (allS sf1_o2 (allS sf1_b2 (allS sf1_o (allS sf1_b all0)))) R1.1 sf1_b
 have sf6_o2 := Safe.keep K6q (allS sf1_o2 (allS sf1_b2 (allS sf1_o (allS sf1_b all0)))) R1.1 sf1_o2
 have sf6_b2 := Safe.keep K6q (allS sf1_o2 (allS sf1_b2 (allS sf1_o (allS sf1_b all0)))) R1.1 sf1_b2
 refine own_st (T6.setTop (mkF m 393 La181 [(.int (if own_meet (own_lst nB hb0 hb1 hb2) (own_lst nA ha0 ha1 ha2) = true then (1 : Int32) else 0))])) st6 ?_
 let La182 : Array Slot := #[w0, w1, w2, w3, w4, w5, w6, w7, w8, w9, w10, w11, w12, w13, w14, w15, w16, w17, w18, w19, w20, w21, w22, w23, w24, w25, w26, w27, rv o, w29, rv o2, .val (.int ex), .val (.int (if own_meet (own_lst nA ha0 ha1 ha2) (own_lst nB hb0 hb1 hb2) = true then (1 : Int32) else 0)), .val (.int (if own_meet (own_lst nB hb0 hb1 hb2) (own_lst nA ha0 ha1 ha2) = true then (1 : Int32) else 0))]
 refine oistore X6 hx hby at_393 rfl (L' := La182) rfl 395 rfl ?_
 refine oiload X6 hx hby at_395 rfl 397 rfl ?_
 refine oiload X6 hx hby at_397 rfl 399 rfl ?_
 refine oicmpNo X6 hx hby at_399 rfl (teq (hex.symm : (if own_meet (own_lst nA ha0 ha1 ha2) (own_lst nB hb0 hb1 hb2) = true then (1 : Int32) else 0) = ex)).2 402 rfl ?_
 refine oiload X6 hx hby at_402 rfl 404 rfl ?_
 refine oiload X6 hx hby at_404 rfl 406 rfl ?_
 refine oicmpNo X6 hx hby at_406 rfl (teq ((own_mc hex) : (if own_meet (own_lst nB hb0 hb1 hb2) (own_lst nA ha0 ha1 ha2) = true then (1 : Int32) else 0) = ex)).2 409 rfl ?_
 refine oiconst X6 hx hby at_409 (1 : Int32) rfl 410 rfl ?_
 refine ogoto X6 hx hby at_410 414 (by decide) (by decide) ?_
 exact own_retW X6 hlk hS0 (Nat.le_trans (Nat.le_trans hk0 K1q.1) K6q.1) hZ hEL R6 (v := some (.int 1)) (fun h => by rw [hret] at h; cases h) rfl (fun vm1 C1 => ⟨rfl, N6⟩) (by decide) (by decide) (fun fs hr => own_retN X6 hx (t := .boolean) hret (by simp) (hb hby at_414) rfl hr)
theorem own_lawS (l : Launch) (Z : State) (a0 : Array Value) (hw : OWS a0 Z) (cz : Int32) (SC : Sta Z Z.heap "java/lang/String" "COMPACT_STRINGS" "Z" (.int cz)) (hcz : ¬ (cz = (0 : Int32))) (p : Program) (e : Env) (s : State) (m : MethodId) (below : List Frame) (meth : Method) (c : Code) (T : State) (locs : List Loc) (vm0 : Vm) (k0 : Nat) (h0 h : Heap) (args : Array Value) (w0 w1 w2 w3 w4 w5 w6 w7 w8 w9 w10 w11 w12 w13 w14 w15 w16 w17 w18 w19 w20 w21 w22 w23 w24 w25 w26 w27 w29 : Slot)
  (hx : p.tables.exec = Jvm.exec) (hby : c.code = code) (hml : c.maxLocals = maxLocals) (hret : meth.sig.returnType = ret) (hlk : meth.locks = false) (hEL : EW Z a0 own_EL) (hZ : Z.Warmed39 vm0) (hown : vm0.findClass "com/example/rising_block/risingblock/util/StringHashesMeetsPinLaw" = some m.cls) (e0 : T.heap = h) (X0 : Stand p l e room_1 (s.setVm vm0) m args below meth c T locs 62 1300) (hS0 : s.Since vm0 k0) (hk0 : k0 ≤ h.size) (R0 : CHr Z own_EL s.vm h0 vm0 h) (N0 : Fr Z.heap.size locs) (O0 : Old Z Z.heap.size h)
  (nA ha0 ha1 ha2 : Int32) (o b pb : Addr) (ex : Int32) (RA : OwnRep Z h o b pb (own_lst nA ha0 ha1 ha2)) (na : ∀ y ∈ (own_lst nA ha0 ha1 ha2), y ≠ 0) (hsf : ∀ x ∈ [o, b], Safe Z own_EL vm0 h x) (hex : ex = (if own_meet (own_lst nA ha0 ha1 ha2) (own_lst nA ha0 ha1 ha2) = true then (1 : Int32) else 0)) :
  ownGo p e below (ownQW s Z own_EL h0 (fun v vm h L => v = some (.int 1) ∧ Fr Z.heap.size L) room_1.cells room_1.slots) (T.setTop (mkF m 377 #[w0, w1, w2, w3, w4, w5, w6, w7, w8, w9, w10, w11, w12, w13, w14, w15, w16, w17, w18, w19, w20, w21, w22, w23, w24, w25, w26, w27, .val (.ref o), w29, .val (.ref o), .val (.int ex), .unset, .unset] [])) := by
 refine oaload X0 hx hby at_377 rfl (by rfl) 379 rfl ?_
 refine oaload X0 hx hby at_379 rfl (by rfl) 381 rfl ?_
 let La183 : Array Slot := #[w0, w1, w2, w3, w4, w5, w6, w7, w8, w9, w10, w11, w12, w13, w14, w15, w16, w17, w18, w19, w20, w21, w22, w23, w24, w25, w26, w27, rv o, w29, rv o, .val (.int ex), .unset, .unset]
 obtain ⟨v1, T1, L1, X1, q1, st1⟩ := own_callV X0 hx hZ hown (y := oM10) (z := oM10) (oW hw 75 rfl) (oW hw 76 rfl) (notFace_of_selects (args := a0) (oW hw 78 rfl)) (oW hw 78 rfl) (oW hw 77 rfl) (oW hw 63 rfl) (oW hw 79 rfl) RA.exa (b := o) (argsL := [(.ref o)]) (own_meetsSR l Z a0 hw [] o b pb (own_lst nA ha0 ha1 ha2) h O0 RA own_lstlen na) 0 (by decide) (by decide) (by decide) (by decide) (by decide) e0 (g := (mkF m 381 La183 [(.ref o), (.ref o)])) rfl (by rw [hml]; rfl) [] (lenOf oP605 rfl) rfl (by show 2 * 0 + _ ≤ _; exact Nat.le_of_eq rfl) (hb hby at_381)
 obtain ⟨rfl, N1q, K1q, R1q⟩ := q1
 have N1 := Fr.app N0 N1q
 have f2 := (RA.exa.keep K1q)
 have O1 := O0.keep K1q (allS RA.ge1 (allS RA.ge2 all0))
 have R1 := R0.trans (CHr.keep K1q (allS (hsf _ (List.mem_of_getElem? (i := 0) rfl)) (allS (hsf _ (List.mem_of_getElem? (i := 1) rfl)) all0)) R0.1)
 have sf1_o := Safe.keep K1q (allS (hsf _ (List.mem_of_getElem? (i := 0) rfl)) (allS (hsf _ (List.mem_of_getElem? (i := 1) rfl)) all0)) R0.1 (hsf _ (List.mem_of_getElem? (i := 0) rfl))
 have sf1_b := Safe.keep K1q (allS (hsf _ (List.mem_of_getElem? (i := 0) rfl)) (allS (hsf _ (List.mem_of_getElem? (i := 1) rfl)) all0)) R0.1 (hsf _ (List.mem_of_getElem? (i := 1) rfl))
 refine own_st (T1.setTop (mkF m 384 La183 [(.int (if own_meet (own_lst nA ha0 ha1 ha2) (own_lst nA ha0 ha1 ha2) = true then (1 : Int32) else 0))])) st1 ?_
 let La184 : Array Slot := #[w0, w1, w2, w3, w4, w5, w6, w7, w8, w9, w10, w11, w12, w13, w14, w15, w16, w17, w18, w19, w20, w21, w22, w23, w24, w25, w26, w27, rv o, w29, rv o, .val (.int ex), .val (.int (if own_meet (own_lst nA ha0 ha1 ha2) (own_lst nA ha0 ha1 ha2) = true then (1 : Int32) else 0)), .unset]
 refine oistore X1 hx hby at_384 rfl (L' := La184) rfl 386 rfl ?_
 refine oaload X1 hx hby at_386 rfl (by rfl) 388 rfl ?_
 refine oaload X1 hx hby at_388 rfl (by rfl) 390 rfl ?_
 obtain ⟨v4, T4, L4, X4, q4, st4⟩ := own_callV X1 hx hZ hown (y := oM10) (z := oM10) (oW hw 75 rfl) (oW hw 76 rfl) (notFace_of_selects (args := a0) (oW hw 78 rfl)) (oW hw 78 rfl) (oW hw 77 rfl) (oW hw 63 rfl) (oW hw 79 rfl) f2 (b := o) (argsL := [(.ref o)]) (own_meetsSR l Z a0 hw [] o b pb (own_lst nA ha0 ha1 ha2) T1.heap O1 R1q own_lstlen na) 0 (by decide) (by decide) (by decide) (by decide) (by decide) rfl (g := (mkF m 390 La184 [(.ref o), (.ref o)])) rfl (by rw [hml]; rfl) [] (lenOf oP605 rfl) rfl (by show 2 * 0 + _ ≤ _; exact Nat.le_of_eq rfl) (hb hby at_390)
 obtain ⟨rfl, N4q, K4q, R4q⟩ := q4
 have N4 := Fr.app N1 N4q
 have f5 := (f2.keep K4q)
 have O4 := O1.keep K4q (allS RA.ge1 (allS RA.ge2 all0))
 have R4 := R1.trans (CHr.keep K4q (allS sf1_o (allS sf1_b all0)) R1.1)
 have sf4_o := Safe.keep K4q (allS sf1_o (allS sf1_b all0)) R1.1 sf1_o
 have sf4_b := Safe.keep K4q (allS sf1_o (allS sf1_b all0)) R1.1 sf1_b
 refine own_st (T4.setTop (mkF m 393 La184 [(.int (if own_meet (own_lst nA ha0 ha1 ha2) (own_lst nA ha0 ha1 ha2) = true then (1 : Int32) else 0))])) st4 ?_
 let La185 : Array Slot := #[w0, w1, w2, w3, w4, w5, w6, w7, w8, w9, w10, w11, w12, w13, w14, w15, w16, w17, w18, w19, w20, w21, w22, w23, w24, w25, w26, w27, rv o, w29, rv o, .val (.int ex), .val (.int (if own_meet (own_lst nA ha0 ha1 ha2) (own_lst nA ha0 ha1 ha2) = true then (1 : Int32) else 0)), .val (.int (if own_meet (own_lst nA ha0 ha1 ha2) (own_lst nA ha0 ha1 ha2) = true then (1 : Int32) else 0))]
 refine oistore X4 hx hby at_393 rfl (L' := La185) rfl 395 rfl ?_
 refine oiload X4 hx hby at_395 rfl 397 rfl ?_
 refine oiload X4 hx hby at_397 rfl 399 rfl ?_
 refine oicmpNo X4 hx hby at_399 rfl (teq (hex.symm : (if own_meet (own_lst nA ha0 ha1 ha2) (own_lst nA ha0 ha1 ha2) = true then (1 : Int32) else 0) = ex)).2 402 rfl ?_
 refine oiload X4 hx hby at_402 rfl 404 rfl ?_
 refine oiload X4 hx hby at_404 rfl 406 rfl ?_
 refine oicmpNo X4 hx hby at_406 rfl (teq (hex.symm : (if own_meet (own_lst nA ha0 ha1 ha2) (own_lst nA ha0 ha1 ha2) = true then (1 : Int32) else 0) = ex)).2 409 rfl ?_
 refine oiconst X4 hx hby at_409 (1 : Int32) rfl 410 rfl ?_
 refine ogoto X4 hx hby at_410 414 (by decide) (by decide) ?_
 exact own_retW X4 hlk hS0 (Nat.le_trans (Nat.le_trans hk0 K1q.1) K4q.1) hZ hEL R4 (v := some (.int 1)) (fun h => by rw [hret] at h; cases h) rfl (fun vm1 C1 => ⟨rfl, N4⟩) (by decide) (by decide) (fun fs hr => own_retN X4 hx (t := .boolean) hret (by simp) (hb hby at_414) rfl hr)
theorem oP606 : parseMethodDescriptor "(IIIII)Z" = some ⟨[.int, .int, .int, .int, .int], some .boolean⟩ := by decide +kernel
theorem own_lawC (l : Launch) (Z : State) (a0 : Array Value) (hw : OWS a0 Z) (cz : Int32) (SC : Sta Z Z.heap "java/lang/String" "COMPACT_STRINGS" "Z" (.int cz)) (hcz : ¬ (cz = (0 : Int32))) (p : Program) (e : Env) (s : State) (m : MethodId) (below : List Frame) (meth : Method) (c : Code) (T : State) (locs : List Loc) (vm0 : Vm) (k0 : Nat) (h0 h : Heap) (args : Array Value) (w0 w1 w2 w3 w4 w7 w8 w10 w11 w12 w13 w14 w15 w16 w17 w18 w19 w20 w21 : Slot)
  (hx : p.tables.exec = Jvm.exec) (hby : c.code = code) (hml : c.maxLocals = maxLocals) (hret : meth.sig.returnType = ret) (hlk : meth.locks = false) (hEL : EW Z a0 own_EL) (hZ : Z.Warmed39 vm0) (hown : vm0.findClass "com/example/rising_block/risingblock/util/StringHashesMeetsPinLaw" = some m.cls) (e0 : T.heap = h) (X0 : Stand p l e room_1 (s.setVm vm0) m args below meth c T locs 62 1300) (hS0 : s.Since vm0 k0) (hk0 : k0 ≤ h.size) (R0 : CHr Z own_EL s.vm h0 vm0 h) (N0 : Fr Z.heap.size locs) (O0 : Old Z Z.heap.size h)
  (nA nB sf ha0 ha1 ha2 hb0 hb1 hb2 : Int32) (o b pb o2 b2 p2 : Addr) (RA : OwnRep Z h o b pb (own_lst nA ha0 ha1 ha2)) (RB : OwnRep Z h o2 b2 p2 (own_lst nB hb0 hb1 hb2)) (na : ∀ y ∈ (own_lst nA ha0 ha1 ha2), y ≠ 0) (nb : ∀ y ∈ (own_lst nB hb0 hb1 hb2), y ≠ 0) (hne : ∀ x ∈ [o, b, pb], ∀ y ∈ [o2, b2, p2], x ≠ y) (hsf : ∀ x ∈ [o, b, o2, b2], Safe Z own_EL vm0 h x) :
  ownGo p e below (ownQW s Z own_EL h0 (fun v vm h L => v = some (.int 1) ∧ Fr Z.heap.size L) room_1.cells room_1.slots) (T.setTop (mkF m 271 #[w0, w1, w2, w3, w4, .val (.int nA), .val (.int nB), w7, w8, .val (.int sf), w10, w11, w12, w13, w14, w15, w16, w17, w18, w19, w20, w21, .val (.int ha0), .val (.int ha1), .val (.int ha2), .val (.int hb0), .val (.int hb1), .val (.int hb2), .val (.ref o), .val (.ref o2), .unset, .unset, .unset, .unset] [])) := by
 refine oiload X0 hx hby at_271 rfl 273 rfl ?_
 by_cases c273_1 : sf = (0 : Int32)
 ·
  refine oifYes X0 hx hby at_273 rfl ((if0 _ _).trans (teq c273_1).1) 281 (by decide) (by decide) ?_
  refine oaload X0 hx hby at_281 rfl (by rfl) 283 rfl ?_
  let La186 : Array Slot := #[w0, w1, w2, w3, w4, .val (.int nA), .val (.int nB), w7, w8, .val (.int sf), w10, w11, w12, w13, w14, w15, w16, w17, w18, w19, w20, w21, .val (.int ha0), .val (.int ha1), .val (.int ha2), .val (.int hb0), .val (.int hb1), .val (.int hb2), rv o, rv o2, rv o2, .unset, .unset, .unset]
  refine oastore X0 hx hby at_283 rfl (by rfl) (L' := La186) rfl 285 rfl ?_
  refine oiload X0 hx hby at_285 rfl 287 rfl ?_
  refine oifYes X0 hx hby at_287 rfl ((if0 _ _).trans (teq c273_1).1) 305 (by decide) (by decide) ?_
  refine oiload X0 hx hby at_305 rfl 307 rfl ?_
  by_cases c307_2 : (0 : Int32) < nA
  ·
   refine oifNo X0 hx hby at_307 rfl ((if0 _ _).trans (tlt c307_2).2.2.2) 310 rfl ?_
   refine oiload X0 hx hby at_310 rfl 312 rfl ?_
   refine oiload X0 hx hby at_312 rfl 314 rfl ?_
   refine oiload X0 hx hby at_314 rfl 316 rfl ?_
   refine oiload X0 hx hby at_316 rfl 318 rfl ?_
   refine oiload X0 hx hby at_318 rfl 320 rfl ?_
   obtain ⟨v3, T3, L3, X3, q3, st3⟩ := own_callS X0 hx hZ hown (oW hw 148 rfl) (oW hw 149 rfl) (oW hw 2 rfl) (oW hw 150 rfl) (argsL := [(.int ha0), (.int hb0), (.int hb1), (.int hb2), (.int nB)]) (own_lin l Z a0 hw [] ha0 hb0 hb1 hb2 nB h O0) 0 (by decide) (by decide) (by decide) (by decide) (by decide) e0 (g := (mkF m 320 La186 [(.int nB), (.int hb2), (.int hb1), (.int hb0), (.int ha0)])) rfl (by rw [hml]; rfl) [] (lenOf oP606 rfl) rfl (by show 2 * 0 + _ ≤ _; exact Nat.le_of_eq rfl) (hb hby at_320)
   obtain ⟨rfl, N3q, e3⟩ := q3
   have N3 := Fr.app N0 N3q
   refine own_st (T3.setTop (mkF m 323 La186 [(.int (if own_in ha0 hb0 hb1 hb2 nB then (1 : Int32) else 0))])) st3 ?_
   by_cases c323_4 : (if own_in ha0 hb0 hb1 hb2 nB then (1 : Int32) else 0) = (0 : Int32)
   ·
    refine oifNo X3 hx hby at_323 rfl ((if0 _ _).trans (teq c323_4).2) 326 rfl ?_
    refine oiload X3 hx hby at_326 rfl 328 rfl ?_
    refine oiconst X3 hx hby at_328 (1 : Int32) rfl 329 rfl ?_
    by_cases c329_5 : (1 : Int32) < nA
    ·
     refine oicmpNo X3 hx hby at_329 rfl (tlt c329_5).2.2.2 332 rfl ?_
     refine oiload X3 hx hby at_332 rfl 334 rfl ?_
     refine oiload X3 hx hby at_334 rfl 336 rfl ?_
     refine oiload X3 hx hby at_336 rfl 338 rfl ?_
     refine oiload X3 hx hby at_338 rfl 340 rfl ?_
     refine oiload X3 hx hby at_340 rfl 342 rfl ?_
     obtain ⟨v6, T6, L6, X6, q6, st6⟩ := own_callS X3 hx hZ hown (oW hw 148 rfl) (oW hw 149 rfl) (oW hw 2 rfl) (oW hw 150 rfl) (argsL := [(.int ha1), (.int hb0), (.int hb1), (.int hb2), (.int nB)]) (own_lin l Z a0 hw [] ha1 hb0 hb1 hb2 nB h O0) 0 (by decide) (by decide) (by decide) (by decide) (by decide) e3 (g := (mkF m 342 La186 [(.int nB), (.int hb2), (.int hb1), (.int hb0), (.int ha1)])) rfl (by rw [hml]; rfl) [] (lenOf oP606 rfl) rfl (by show 2 * 0 + _ ≤ _; exact Nat.le_of_eq rfl) (hb hby at_342)
     obtain ⟨rfl, N6q, e6⟩ := q6
     have N6 := Fr.app N3 N6q
     refine own_st (T6.setTop (mkF m 345 La186 [(.int (if own_in ha1 hb0 hb1 hb2 nB then (1 : Int32) else 0))])) st6 ?_
     by_cases c345_7 : (if own_in ha1 hb0 hb1 hb2 nB then (1 : Int32) else 0) = (0 : Int32)
     ·
      refine oifNo X6 hx hby at_345 rfl ((if0 _ _).trans (teq c345_7).2) 348 rfl ?_
      refine oiload X6 hx hby at_348 rfl 350 rfl ?_
      refine oiconst X6 hx hby at_350 (2 : Int32) rfl 351 rfl ?_
      by_cases c351_8 : (2 : Int32) < nA
      ·
       refine oicmpNo X6 hx hby at_351 rfl (tlt c351_8).2.2.2 354 rfl ?_
       refine oiload X6 hx hby at_354 rfl 356 rfl ?_
       refine oiload X6 hx hby at_356 rfl 358 rfl ?_
       refine oiload X6 hx hby at_358 rfl 360 rfl ?_
       refine oiload X6 hx hby at_360 rfl 362 rfl ?_
       refine oiload X6 hx hby at_362 rfl 364 rfl ?_
       obtain ⟨v9, T9, L9, X9, q9, st9⟩ := own_callS X6 hx hZ hown (oW hw 148 rfl) (oW hw 149 rfl) (oW hw 2 rfl) (oW hw 150 rfl) (argsL := [(.int ha2), (.int hb0), (.int hb1), (.int hb2), (.int nB)]) (own_lin l Z a0 hw [] ha2 hb0 hb1 hb2 nB h O0) 0 (by decide) (by decide) (by decide) (by decide) (by decide) e6 (g := (mkF m 364 La186 [(.int nB), (.int hb2), (.int hb1), (.int hb0), (.int ha2)])) rfl (by rw [hml]; rfl) [] (lenOf oP606 rfl) rfl (by show 2 * 0 + _ ≤ _; exact Nat.le_of_eq rfl) (hb hby at_364)
       obtain ⟨rfl, N9q, e9⟩ := q9
       have N9 := Fr.app N6 N9q
       refine own_st (T9.setTop (mkF m 367 La186 [(.int (if own_in ha2 hb0 hb1 hb2 nB then (1 : Int32) else 0))])) st9 ?_
       by_cases c367_10 : (if own_in ha2 hb0 hb1 hb2 nB then (1 : Int32) else 0) = (0 : Int32)
       ·
        refine oifYes X9 hx hby at_367 rfl ((if0 _ _).trans (teq c367_10).1) 374 (by decide) (by decide) ?_
        refine oiconst X9 hx hby at_374 (0 : Int32) rfl 375 rfl ?_
        let La187 : Array Slot := #[w0, w1, w2, w3, w4, .val (.int nA), .val (.int nB), w7, w8, .val (.int sf), w10, w11, w12, w13, w14, w15, w16, w17, w18, w19, w20, w21, .val (.int ha0), .val (.int ha1), .val (.int ha2), .val (.int hb0), .val (.int hb1), .val (.int hb2), rv o, rv o2, rv o2, .val (.int 0), .unset, .unset]
        refine oistore X9 hx hby at_375 rfl (L' := La187) rfl 377 rfl ?_
        exact own_lawD l Z a0 hw cz SC hcz p e s m below meth c _ _ _ _ _ _ _ _ _ _ _ _ _ _ _ _ _ _ _ _ _ _ _ _ _ _ _ _ _ _ _ _ _ _ _ _ hx hby hml hret hlk hEL hZ hown e9 (own_sm X9 (by decide) (by decide)) hS0 hk0 R0 N9 O0 nA nB ha0 ha1 ha2 hb0 hb1 hb2 o b pb o2 b2 p2 (0 : Int32) RA RB na nb hne (allS (hsf _ (List.mem_of_getElem? (i := 0) rfl)) (allS (hsf _ (List.mem_of_getElem? (i := 1) rfl)) (allS (hsf _ (List.mem_of_getElem? (i := 2) rfl)) (allS (hsf _ (List.mem_of_getElem? (i := 3) rfl)) all0)))) (own_ifn (own_meetF (own_nl (fun cq mq => own_if0 c323_4 (own_inl.mpr mq)) (fun cq mq => own_if0 c345_7 (own_inl.mpr mq)) (fun cq mq => own_if0 c367_10 (own_inl.mpr mq))))).symm
       ·
        refine oifNo X9 hx hby at_367 rfl ((if0 _ _).trans (feq c367_10).1) 370 rfl ?_
        refine oiconst X9 hx hby at_370 (1 : Int32) rfl 371 rfl ?_
        refine ogoto X9 hx hby at_371 375 (by decide) (by decide) ?_
        let La188 : Array Slot := #[w0, w1, w2, w3, w4, .val (.int nA), .val (.int nB), w7, w8, .val (.int sf), w10, w11, w12, w13, w14, w15, w16, w17, w18, w19, w20, w21, .val (.int ha0), .val (.int ha1), .val (.int ha2), .val (.int hb0), .val (.int hb1), .val (.int hb2), rv o, rv o2, rv o2, .val (.int 1), .unset, .unset]
        refine oistore X9 hx hby at_375 rfl (L' := La188) rfl 377 rfl ?_
        exact own_lawD l Z a0 hw cz SC hcz p e s m below meth c _ _ _ _ _ _ _ _ _ _ _ _ _ _ _ _ _ _ _ _ _ _ _ _ _ _ _ _ _ _ _ _ _ _ _ _ hx hby hml hret hlk hEL hZ hown e9 (own_sm X9 (by decide) (by decide)) hS0 hk0 R0 N9 O0 nA nB ha0 ha1 ha2 hb0 hb1 hb2 o b pb o2 b2 p2 (1 : Int32) RA RB na nb hne (allS (hsf _ (List.mem_of_getElem? (i := 0) rfl)) (allS (hsf _ (List.mem_of_getElem? (i := 1) rfl)) (allS (hsf _ (List.mem_of_getElem? (i := 2) rfl)) (allS (hsf _ (List.mem_of_getElem? (i := 3) rfl)) all0)))) (own_ify (own_meetT (own_lstm2 c351_8) (own_inl.mp (own_if1 c367_10)))).symm
      ·
       refine oicmpYes X6 hx hby at_351 rfl (flt c351_8).2.2.2 374 (by decide) (by decide) ?_
       refine oiconst X6 hx hby at_374 (0 : Int32) rfl 375 rfl ?_
       let La189 : Array Slot := #[w0, w1, w2, w3, w4, .val (.int nA), .val (.int nB), w7, w8, .val (.int sf), w10, w11, w12, w13, w14, w15, w16, w17, w18, w19, w20, w21, .val (.int ha0), .val (.int ha1), .val (.int ha2), .val (.int hb0), .val (.int hb1), .val (.int hb2), rv o, rv o2, rv o2, .val (.int 0), .unset, .unset]
       refine oistore X6 hx hby at_375 rfl (L' := La189) rfl 377 rfl ?_
       exact own_lawD l Z a0 hw cz SC hcz p e s m below meth c _ _ _ _ _ _ _ _ _ _ _ _ _ _ _ _ _ _ _ _ _ _ _ _ _ _ _ _ _ _ _ _ _ _ _ _ hx hby hml hret hlk hEL hZ hown e6 (own_sm X6 (by decide) (by decide)) hS0 hk0 R0 N6 O0 nA nB ha0 ha1 ha2 hb0 hb1 hb2 o b pb o2 b2 p2 (0 : Int32) RA RB na nb hne (allS (hsf _ (List.mem_of_getElem? (i := 0) rfl)) (allS (hsf _ (List.mem_of_getElem? (i := 1) rfl)) (allS (hsf _ (List.mem_of_getElem? (i := 2) rfl)) (allS (hsf _ (List.mem_of_getElem? (i := 3) rfl)) all0)))) (own_ifn (own_meetF (own_nl (fun cq mq => own_if0 c323_4 (own_inl.mpr mq)) (fun cq mq => own_if0 c345_7 (own_inl.mpr mq)) (fun cq => absurd cq c351_8)))).symm
     ·
      refine oifYes X6 hx hby at_345 rfl ((if0 _ _).trans (feq c345_7).2) 370 (by decide) (by decide) ?_
      refine oiconst X6 hx hby at_370 (1 : Int32) rfl 371 rfl ?_
      refine ogoto X6 hx hby at_371 375 (by decide) (by decide) ?_
      let La190 : Array Slot := #[w0, w1, w2, w3, w4, .val (.int nA), .val (.int nB), w7, w8, .val (.int sf), w10, w11, w12, w13, w14, w15, w16, w17, w18, w19, w20, w21, .val (.int ha0), .val (.int ha1), .val (.int ha2), .val (.int hb0), .val (.int hb1), .val (.int hb2), rv o, rv o2, rv o2, .val (.int 1), .unset, .unset]
      refine oistore X6 hx hby at_375 rfl (L' := La190) rfl 377 rfl ?_
      exact own_lawD l Z a0 hw cz SC hcz p e s m below meth c _ _ _ _ _ _ _ _ _ _ _ _ _ _ _ _ _ _ _ _ _ _ _ _ _ _ _ _ _ _ _ _ _ _ _ _ hx hby hml hret hlk hEL hZ hown e6 (own_sm X6 (by decide) (by decide)) hS0 hk0 R0 N6 O0 nA nB ha0 ha1 ha2 hb0 hb1 hb2 o b pb o2 b2 p2 (1 : Int32) RA RB na nb hne (allS (hsf _ (List.mem_of_getElem? (i := 0) rfl)) (allS (hsf _ (List.mem_of_getElem? (i := 1) rfl)) (allS (hsf _ (List.mem_of_getElem? (i := 2) rfl)) (allS (hsf _ (List.mem_of_getElem? (i := 3) rfl)) all0)))) (own_ify (own_meetT (own_lstm1 c329_5) (own_inl.mp (own_if1 c345_7)))).symm
    ·
     refine oicmpYes X3 hx hby at_329 rfl (flt c329_5).2.2.2 348 (by decide) (by decide) ?_
     refine oiload X3 hx hby at_348 rfl 350 rfl ?_
     refine oiconst X3 hx hby at_350 (2 : Int32) rfl 351 rfl ?_
     refine oicmpYes X3 hx hby at_351 rfl (flt ((own_lt2 c329_5) : ¬ ((2 : Int32) < nA))).2.2.2 374 (by decide) (by decide) ?_
     refine oiconst X3 hx hby at_374 (0 : Int32) rfl 375 rfl ?_
     let La191 : Array Slot := #[w0, w1, w2, w3, w4, .val (.int nA), .val (.int nB), w7, w8, .val (.int sf), w10, w11, w12, w13, w14, w15, w16, w17, w18, w19, w20, w21, .val (.int ha0), .val (.int ha1), .val (.int ha2), .val (.int hb0), .val (.int hb1), .val (.int hb2), rv o, rv o2, rv o2, .val (.int 0), .unset, .unset]
     refine oistore X3 hx hby at_375 rfl (L' := La191) rfl 377 rfl ?_
     exact own_lawD l Z a0 hw cz SC hcz p e s m below meth c _ _ _ _ _ _ _ _ _ _ _ _ _ _ _ _ _ _ _ _ _ _ _ _ _ _ _ _ _ _ _ _ _ _ _ _ hx hby hml hret hlk hEL hZ hown e3 (own_sm X3 (by decide) (by decide)) hS0 hk0 R0 N3 O0 nA nB ha0 ha1 ha2 hb0 hb1 hb2 o b pb o2 b2 p2 (0 : Int32) RA RB na nb hne (allS (hsf _ (List.mem_of_getElem? (i := 0) rfl)) (allS (hsf _ (List.mem_of_getElem? (i := 1) rfl)) (allS (hsf _ (List.mem_of_getElem? (i := 2) rfl)) (allS (hsf _ (List.mem_of_getElem? (i := 3) rfl)) all0)))) (own_ifn (own_meetF (own_nl (fun cq mq => own_if0 c323_4 (own_inl.mpr mq)) (fun cq => absurd cq c329_5) (fun cq => absurd cq (own_lt2 c329_5))))).symm
   ·
    refine oifYes X3 hx hby at_323 rfl ((if0 _ _).trans (feq c323_4).2) 370 (by decide) (by decide) ?_
    refine oiconst X3 hx hby at_370 (1 : Int32) rfl 371 rfl ?_
    refine ogoto X3 hx hby at_371 375 (by decide) (by decide) ?_
    let La192 : Array Slot := #[w0, w1, w2, w3, w4, .val (.int nA), .val (.int nB), w7, w8, .val (.int sf), w10, w11, w12, w13, w14, w15, w16, w17, w18, w19, w20, w21, .val (.int ha0), .val (.int ha1), .val (.int ha2), .val (.int hb0), .val (.int hb1), .val (.int hb2), rv o, rv o2, rv o2, .val (.int 1), .unset, .unset]
    refine oistore X3 hx hby at_375 rfl (L' := La192) rfl 377 rfl ?_
    exact own_lawD l Z a0 hw cz SC hcz p e s m below meth c _ _ _ _ _ _ _ _ _ _ _ _ _ _ _ _ _ _ _ _ _ _ _ _ _ _ _ _ _ _ _ _ _ _ _ _ hx hby hml hret hlk hEL hZ hown e3 (own_sm X3 (by decide) (by decide)) hS0 hk0 R0 N3 O0 nA nB ha0 ha1 ha2 hb0 hb1 hb2 o b pb o2 b2 p2 (1 : Int32) RA RB na nb hne (allS (hsf _ (List.mem_of_getElem? (i := 0) rfl)) (allS (hsf _ (List.mem_of_getElem? (i := 1) rfl)) (allS (hsf _ (List.mem_of_getElem? (i := 2) rfl)) (allS (hsf _ (List.mem_of_getElem? (i := 3) rfl)) all0)))) (own_ify (own_meetT (own_lstm0 c307_2) (own_inl.mp (own_if1 c323_4)))).symm
  ·
   refine oifYes X0 hx hby at_307 rfl ((if0 _ _).trans (flt c307_2).2.2.2) 326 (by decide) (by decide) ?_
   refine oiload X0 hx hby at_326 rfl 328 rfl ?_
   refine oiconst X0 hx hby at_328 (1 : Int32) rfl 329 rfl ?_
   refine oicmpYes X0 hx hby at_329 rfl (flt ((own_lt1 c307_2) : ¬ ((1 : Int32) < nA))).2.2.2 348 (by decide) (by decide) ?_
   refine oiload X0 hx hby at_348 rfl 350 rfl ?_
   refine oiconst X0 hx hby at_350 (2 : Int32) rfl 351 rfl ?_
   refine oicmpYes X0 hx hby at_351 rfl (flt ((own_lt2 (own_lt1 c307_2)) : ¬ ((2 : Int32) < nA))).2.2.2 374 (by decide) (by decide) ?_
   refine oiconst X0 hx hby at_374 (0 : Int32) rfl 375 rfl ?_
   let La193 : Array Slot := #[w0, w1, w2, w3, w4, .val (.int nA), .val (.int nB), w7, w8, .val (.int sf), w10, w11, w12, w13, w14, w15, w16, w17, w18, w19, w20, w21, .val (.int ha0), .val (.int ha1), .val (.int ha2), .val (.int hb0), .val (.int hb1), .val (.int hb2), rv o, rv o2, rv o2, .val (.int 0), .unset, .unset]
   refine oistore X0 hx hby at_375 rfl (L' := La193) rfl 377 rfl ?_
   exact own_lawD l Z a0 hw cz SC hcz p e s m below meth c _ _ _ _ _ _ _ _ _ _ _ _ _ _ _ _ _ _ _ _ _ _ _ _ _ _ _ _ _ _ _ _ _ _ _ _ hx hby hml hret hlk hEL hZ hown e0 (own_sm X0 (by decide) (by decide)) hS0 hk0 R0 N0 O0 nA nB ha0 ha1 ha2 hb0 hb1 hb2 o b pb o2 b2 p2 (0 : Int32) RA RB na nb hne (allS (hsf _ (List.mem_of_getElem? (i := 0) rfl)) (allS (hsf _ (List.mem_of_getElem? (i := 1) rfl)) (allS (hsf _ (List.mem_of_getElem? (i := 2) rfl)) (allS (hsf _ (List.mem_of_getElem? (i := 3) rfl)) all0)))) (own_ifn (own_meetF (own_nl (fun cq => absurd cq c307_2) (fun cq => absurd cq (own_lt1 c307_2)) (fun cq => absurd cq (own_lt2 (own_lt1 c307_2)))))).symm
 ·
  refine oifNo X0 hx hby at_273 rfl ((if0 _ _).trans (feq c273_1).1) 276 rfl ?_
  refine oaload X0 hx hby at_276 rfl (by rfl) 278 rfl ?_
  refine ogoto X0 hx hby at_278 283 (by decide) (by decide) ?_
  let La194 : Array Slot := #[w0, w1, w2, w3, w4, .val (.int nA), .val (.int nB), w7, w8, .val (.int sf), w10, w11, w12, w13, w14, w15, w16, w17, w18, w19, w20, w21, .val (.int ha0), .val (.int ha1), .val (.int ha2), .val (.int hb0), .val (.int hb1), .val (.int hb2), rv o, rv o2, rv o, .unset, .unset, .unset]
  refine oastore X0 hx hby at_283 rfl (by rfl) (L' := La194) rfl 285 rfl ?_
  refine oiload X0 hx hby at_285 rfl 287 rfl ?_
  refine oifNo X0 hx hby at_287 rfl ((if0 _ _).trans (feq c273_1).1) 290 rfl ?_
  refine oiload X0 hx hby at_290 rfl 292 rfl ?_
  by_cases c292_11 : (0 : Int32) < nA
  ·
   refine oifNo X0 hx hby at_292 rfl ((if0 _ _).trans (tlt c292_11).2.2.2) 295 rfl ?_
   refine oiconst X0 hx hby at_295 (1 : Int32) rfl 296 rfl ?_
   refine ogoto X0 hx hby at_296 300 (by decide) (by decide) ?_
   let La195 : Array Slot := #[w0, w1, w2, w3, w4, .val (.int nA), .val (.int nB), w7, w8, .val (.int sf), w10, w11, w12, w13, w14, w15, w16, w17, w18, w19, w20, w21, .val (.int ha0), .val (.int ha1), .val (.int ha2), .val (.int hb0), .val (.int hb1), .val (.int hb2), rv o, rv o2, rv o, .val (.int 1), .unset, .unset]
   refine oistore X0 hx hby at_300 rfl (L' := La195) rfl 302 rfl ?_
   refine ogoto X0 hx hby at_302 377 (by decide) (by decide) ?_
   exact own_lawS l Z a0 hw cz SC hcz p e s m below meth c _ _ _ _ _ _ _ _ _ _ _ _ _ _ _ _ _ _ _ _ _ _ _ _ _ _ _ _ _ _ _ _ _ _ _ _ hx hby hml hret hlk hEL hZ hown e0 (own_sm X0 (by decide) (by decide)) hS0 hk0 R0 N0 O0 nA ha0 ha1 ha2 o b pb (1 : Int32) RA na (allS (hsf _ (List.mem_of_getElem? (i := 0) rfl)) (allS (hsf _ (List.mem_of_getElem? (i := 1) rfl)) all0)) (own_ify (own_meetT (own_lstm0 c292_11) (own_lstm0 c292_11))).symm
  ·
   refine oifYes X0 hx hby at_292 rfl ((if0 _ _).trans (flt c292_11).2.2.2) 299 (by decide) (by decide) ?_
   refine oiconst X0 hx hby at_299 (0 : Int32) rfl 300 rfl ?_
   let La196 : Array Slot := #[w0, w1, w2, w3, w4, .val (.int nA), .val (.int nB), w7, w8, .val (.int sf), w10, w11, w12, w13, w14, w15, w16, w17, w18, w19, w20, w21, .val (.int ha0), .val (.int ha1), .val (.int ha2), .val (.int hb0), .val (.int hb1), .val (.int hb2), rv o, rv o2, rv o, .val (.int 0), .unset, .unset]
   refine oistore X0 hx hby at_300 rfl (L' := La196) rfl 302 rfl ?_
   refine ogoto X0 hx hby at_302 377 (by decide) (by decide) ?_
   exact own_lawS l Z a0 hw cz SC hcz p e s m below meth c _ _ _ _ _ _ _ _ _ _ _ _ _ _ _ _ _ _ _ _ _ _ _ _ _ _ _ _ _ _ _ _ _ _ _ _ hx hby hml hret hlk hEL hZ hown e0 (own_sm X0 (by decide) (by decide)) hS0 hk0 R0 N0 O0 nA ha0 ha1 ha2 o b pb (0 : Int32) RA na (allS (hsf _ (List.mem_of_getElem? (i := 0) rfl)) (allS (hsf _ (List.mem_of_getElem? (i := 1) rfl)) all0)) (own_ifn (own_meetF (own_nl (fun cq => absurd cq c292_11) (fun cq => absurd cq (own_lt1 c292_11)) (fun cq => absurd cq (own_lt2 (own_lt1 c292_11)))))).symm
theorem oP607 : parseMethodDescriptor "(Ljava/lang/String;)V" = some ⟨[(.object "java/lang/String")], none⟩ := by decide +kernel
theorem own_lawB (l : Launch) (Z : State) (a0 : Array Value) (hw : OWS a0 Z) (cz : Int32) (SC : Sta Z Z.heap "java/lang/String" "COMPACT_STRINGS" "Z" (.int cz)) (hcz : ¬ (cz = (0 : Int32))) (p : Program) (e : Env) (s : State) (m : MethodId) (below : List Frame) (meth : Method) (c : Code) (T : State) (locs : List Loc) (vm0 : Vm) (k0 : Nat) (h0 h : Heap) (args : Array Value) (w0 w1 w2 w3 w4 w7 w8 w10 w11 w12 w13 w14 w15 w16 w17 w18 : Slot)
  (hx : p.tables.exec = Jvm.exec) (hby : c.code = code) (hml : c.maxLocals = maxLocals) (hret : meth.sig.returnType = ret) (hlk : meth.locks = false) (hEL : EW Z a0 own_EL) (hZ : Z.Warmed39 vm0) (hown : vm0.findClass "com/example/rising_block/risingblock/util/StringHashesMeetsPinLaw" = some m.cls) (e0 : T.heap = h) (X0 : Stand p l e room_1 (s.setVm vm0) m args below meth c T locs 56 1264) (hS0 : s.Since vm0 k0) (hk0 : k0 ≤ h.size) (R0 : CHr Z own_EL s.vm h0 vm0 h) (N0 : Fr Z.heap.size locs) (O0 : Old Z Z.heap.size h)
  (nA nB sf ha0 ha1 ha2 hv0 hv1 hv2 : Int32) (o b pb o2 b2 p2 r0 r1 r2 t0 t1 t2 : Addr) (RA : OwnRepL Z h o b pb (own_lst nA ha0 ha1 ha2)) (RB : OwnStage Z h o2 b2 p2 0 []) (B0 : OwnStr Z h r0 t0 hv0) (B1 : OwnStr Z h r1 t1 hv1) (B2 : OwnStr Z h r2 t2 hv2) (na : ∀ y ∈ (own_lst nA ha0 ha1 ha2), y ≠ 0) (hne : ∀ x ∈ [o, b, pb], ∀ y ∈ [o2, b2, p2, r0, r1, r2], x ≠ y) (hn2 : ∀ x ∈ [r0, r1, r2, t0, t1, t2], ∀ y ∈ [o2, b2, p2], x ≠ y) (r01 : r0 ≠ r1) (r02 : r0 ≠ r2) (r12 : r1 ≠ r2) (hsf : ∀ x ∈ [o, b, o2, b2, p2, r0, r1, r2], Safe Z own_EL vm0 h x) :
  ownGo p e below (ownQW s Z own_EL h0 (fun v vm h L => v = some (.int 1) ∧ Fr Z.heap.size L) room_1.cells room_1.slots) (T.setTop (mkF m 233 #[w0, w1, w2, w3, w4, .val (.int nA), .val (.int nB), w7, w8, .val (.int sf), w10, w11, w12, w13, w14, w15, w16, w17, w18, .val (.ref r0), .val (.ref r1), .val (.ref r2), .val (.int ha0), .val (.int ha1), .val (.int ha2), .val (.int (own_hd hv0)), .val (.int (own_hd hv1)), .val (.int (own_hd hv2)), .val (.ref o), .val (.ref o2), .unset, .unset, .unset, .unset] [])) := by
 have tr01 := OwnStr.nes (a0 := a0) B0 B1 (oW hw 12 rfl)
 have tr02 := OwnStr.nes (a0 := a0) B0 B2 (oW hw 12 rfl)
 have tr10 := OwnStr.nes (a0 := a0) B1 B0 (oW hw 12 rfl)
 have tr12 := OwnStr.nes (a0 := a0) B1 B2 (oW hw 12 rfl)
 have tr20 := OwnStr.nes (a0 := a0) B2 B0 (oW hw 12 rfl)
 have tr21 := OwnStr.nes (a0 := a0) B2 B1 (oW hw 12 rfl)
 refine oiload X0 hx hby at_233 rfl 235 rfl ?_
 by_cases c235_1 : (0 : Int32) < nB
 ·
  refine oifNo X0 hx hby at_235 rfl ((if0 _ _).trans (tlt c235_1).2.2.2) 238 rfl ?_
  refine oaload X0 hx hby at_238 rfl (by rfl) 240 rfl ?_
  refine oaload X0 hx hby at_240 rfl (by rfl) 242 rfl ?_
  let La197 : Array Slot := #[w0, w1, w2, w3, w4, .val (.int nA), .val (.int nB), w7, w8, .val (.int sf), w10, w11, w12, w13, w14, w15, w16, w17, w18, rv r0, rv r1, rv r2, .val (.int ha0), .val (.int ha1), .val (.int ha2), .val (.int (own_hd hv0)), .val (.int (own_hd hv1)), .val (.int (own_hd hv2)), rv o, rv o2, .unset, .unset, .unset, .unset]
  obtain ⟨v2, T2, L2, X2, q2, st2⟩ := own_callV X0 hx hZ hown (y := oM23) (z := oM23) (oW hw 82 rfl) (oW hw 83 rfl) (notFace_of_selects (args := a0) (oW hw 85 rfl)) (oW hw 85 rfl) (oW hw 84 rfl) (oW hw 63 rfl) (oW hw 86 rfl) RB.rep.exa (b := o2) (argsL := [(.ref r0)]) (own_addR0 l Z a0 hw [] cz o2 b2 p2 [] r0 t0 hv0 h O0 SC hcz RB (by simp) B0 (hn2 _ (List.mem_of_getElem? (i := 0) rfl) _ (List.mem_of_getElem? (i := 0) rfl)) (hn2 _ (List.mem_of_getElem? (i := 0) rfl) _ (List.mem_of_getElem? (i := 1) rfl)) (hn2 _ (List.mem_of_getElem? (i := 0) rfl) _ (List.mem_of_getElem? (i := 2) rfl)) (hn2 _ (List.mem_of_getElem? (i := 3) rfl) _ (List.mem_of_getElem? (i := 0) rfl)) (hn2 _ (List.mem_of_getElem? (i := 3) rfl) _ (List.mem_of_getElem? (i := 1) rfl)) (hn2 _ (List.mem_of_getElem? (i := 3) rfl) _ (List.mem_of_getElem? (i := 2) rfl))) 0 (by decide) (by decide) (by decide) (by decide) (by decide) e0 (g := (mkF m 242 La197 [(.ref r0), (.ref o2)])) rfl (by rw [hml]; rfl) [] (lenOf oP607 rfl) rfl (by show 2 * 0 + _ ≤ _; exact Nat.le_of_eq rfl) (hb hby at_242)
  obtain ⟨pe2, rfl, N2q, K2q, s2q, z2, R2q⟩ := q2
  have N2 := Fr.app N0 N2q
  have np2_o := own_nep s2q (hne _ (List.mem_of_getElem? (i := 0) rfl) _ (List.mem_of_getElem? (i := 2) rfl)) RA.lt
  have np2_b := own_nep s2q (hne _ (List.mem_of_getElem? (i := 1) rfl) _ (List.mem_of_getElem? (i := 2) rfl)) RA.lt2
  have np2_pb := own_nep s2q (hne _ (List.mem_of_getElem? (i := 2) rfl) _ (List.mem_of_getElem? (i := 2) rfl)) RA.lt3
  have np2_r1 := own_nep s2q (hn2 _ (List.mem_of_getElem? (i := 1) rfl) _ (List.mem_of_getElem? (i := 2) rfl)) B1.lt
  have np2_t1 := own_nep s2q (hn2 _ (List.mem_of_getElem? (i := 4) rfl) _ (List.mem_of_getElem? (i := 2) rfl)) B1.lt2
  have np2_r2 := own_nep s2q (hn2 _ (List.mem_of_getElem? (i := 2) rfl) _ (List.mem_of_getElem? (i := 2) rfl)) B2.lt
  have np2_t2 := own_nep s2q (hn2 _ (List.mem_of_getElem? (i := 5) rfl) _ (List.mem_of_getElem? (i := 2) rfl)) B2.lt2
  have sp2 := own_sfp s2q (hsf _ (List.mem_of_getElem? (i := 4) rfl))
  have f3 := (RA.1.exa.keep K2q)
  have f4 := (RB.rep.exa.keep K2q)
  have f5 := (RA.keep K2q (ninS (hne _ (List.mem_of_getElem? (i := 0) rfl) _ (List.mem_of_getElem? (i := 0) rfl)) (ninS (hne _ (List.mem_of_getElem? (i := 0) rfl) _ (List.mem_of_getElem? (i := 1) rfl)) (ninS (hne _ (List.mem_of_getElem? (i := 0) rfl) _ (List.mem_of_getElem? (i := 2) rfl)) (ninS (hne _ (List.mem_of_getElem? (i := 0) rfl) _ (List.mem_of_getElem? (i := 3) rfl)) nin0)))) (ninS (hne _ (List.mem_of_getElem? (i := 1) rfl) _ (List.mem_of_getElem? (i := 0) rfl)) (ninS (hne _ (List.mem_of_getElem? (i := 1) rfl) _ (List.mem_of_getElem? (i := 1) rfl)) (ninS (hne _ (List.mem_of_getElem? (i := 1) rfl) _ (List.mem_of_getElem? (i := 2) rfl)) (ninS (hne _ (List.mem_of_getElem? (i := 1) rfl) _ (List.mem_of_getElem? (i := 3) rfl)) nin0)))) (ninS (hne _ (List.mem_of_getElem? (i := 2) rfl) _ (List.mem_of_getElem? (i := 0) rfl)) (ninS (hne _ (List.mem_of_getElem? (i := 2) rfl) _ (List.mem_of_getElem? (i := 1) rfl)) (ninS (hne _ (List.mem_of_getElem? (i := 2) rfl) _ (List.mem_of_getElem? (i := 2) rfl)) (ninS (hne _ (List.mem_of_getElem? (i := 2) rfl) _ (List.mem_of_getElem? (i := 3) rfl)) nin0)))))
  have f8 := (B1.keep K2q (ninS (hn2 _ (List.mem_of_getElem? (i := 1) rfl) _ (List.mem_of_getElem? (i := 0) rfl)) (ninS (hn2 _ (List.mem_of_getElem? (i := 1) rfl) _ (List.mem_of_getElem? (i := 1) rfl)) (ninS (hn2 _ (List.mem_of_getElem? (i := 1) rfl) _ (List.mem_of_getElem? (i := 2) rfl)) (ninS (Ne.symm r01) nin0)))) (ninS (hn2 _ (List.mem_of_getElem? (i := 4) rfl) _ (List.mem_of_getElem? (i := 0) rfl)) (ninS (hn2 _ (List.mem_of_getElem? (i := 4) rfl) _ (List.mem_of_getElem? (i := 1) rfl)) (ninS (hn2 _ (List.mem_of_getElem? (i := 4) rfl) _ (List.mem_of_getElem? (i := 2) rfl)) (ninS tr10 nin0)))))
  have f9 := (B2.keep K2q (ninS (hn2 _ (List.mem_of_getElem? (i := 2) rfl) _ (List.mem_of_getElem? (i := 0) rfl)) (ninS (hn2 _ (List.mem_of_getElem? (i := 2) rfl) _ (List.mem_of_getElem? (i := 1) rfl)) (ninS (hn2 _ (List.mem_of_getElem? (i := 2) rfl) _ (List.mem_of_getElem? (i := 2) rfl)) (ninS (Ne.symm r02) nin0)))) (ninS (hn2 _ (List.mem_of_getElem? (i := 5) rfl) _ (List.mem_of_getElem? (i := 0) rfl)) (ninS (hn2 _ (List.mem_of_getElem? (i := 5) rfl) _ (List.mem_of_getElem? (i := 1) rfl)) (ninS (hn2 _ (List.mem_of_getElem? (i := 5) rfl) _ (List.mem_of_getElem? (i := 2) rfl)) (ninS tr20 nin0)))))
  have O2 := O0.keep K2q (allS RB.rep.ge1 (allS RB.rep.ge2 (allS RB.ge3 (allS B0.2.1 all0))))
  have R2 := R0.trans (CHr.keep K2q (allS (hsf _ (List.mem_of_getElem? (i := 2) rfl)) (allS (hsf _ (List.mem_of_getElem? (i := 3) rfl)) (allS (hsf _ (List.mem_of_getElem? (i := 4) rfl)) (allS (hsf _ (List.mem_of_getElem? (i := 5) rfl)) all0)))) R0.1)
  have sf2_o := Safe.keep K2q (allS (hsf _ (List.mem_of_getElem? (i := 2) rfl)) (allS (hsf _ (List.mem_of_getElem? (i := 3) rfl)) (allS (hsf _ (List.mem_of_getElem? (i := 4) rfl)) (allS (hsf _ (List.mem_of_getElem? (i := 5) rfl)) all0)))) R0.1 (hsf _ (List.mem_of_getElem? (i := 0) rfl))
  have sf2_b := Safe.keep K2q (allS (hsf _ (List.mem_of_getElem? (i := 2) rfl)) (allS (hsf _ (List.mem_of_getElem? (i := 3) rfl)) (allS (hsf _ (List.mem_of_getElem? (i := 4) rfl)) (allS (hsf _ (List.mem_of_getElem? (i := 5) rfl)) all0)))) R0.1 (hsf _ (List.mem_of_getElem? (i := 1) rfl))
  have sf2_o2 := Safe.keep K2q (allS (hsf _ (List.mem_of_getElem? (i := 2) rfl)) (allS (hsf _ (List.mem_of_getElem? (i := 3) rfl)) (allS (hsf _ (List.mem_of_getElem? (i := 4) rfl)) (allS (hsf _ (List.mem_of_getElem? (i := 5) rfl)) all0)))) R0.1 (hsf _ (List.mem_of_getElem? (i := 2) rfl))
  have sf2_b2 := Safe.keep K2q (allS (hsf _ (List.mem_of_getElem? (i := 2) rfl)) (allS (hsf _ (List.mem_of_getElem? (i := 3) rfl)) (allS (hsf _ (List.mem_of_getElem? (i := 4) rfl)) (allS (hsf _ (List.mem_of_getElem? (i := 5) rfl)) all0)))) R0.1 (hsf _ (List.mem_of_getElem? (i := 3) rfl))
  have sf2_p2 := Safe.keep K2q (allS (hsf _ (List.mem_of_getElem? (i := 2) rfl)) (allS (hsf _ (List.mem_of_getElem? (i := 3) rfl)) (allS (hsf _ (List.mem_of_getElem? (i := 4) rfl)) (allS (hsf _ (List.mem_of_getElem? (i := 5) rfl)) all0)))) R0.1 (hsf _ (List.mem_of_getElem? (i := 4) rfl))
  have sf2_r0 := Safe.keep K2q (allS (hsf _ (List.mem_of_getElem? (i := 2) rfl)) (allS (hsf _ (List.mem_of_getElem? (i := 3) rfl)) (allS (hsf _ (List.mem_of_getElem? (i := 4) rfl)) (allS (hsf _ (List.mem_of_getElem? (i := 5) rfl)) all0)))) R0.1 (hsf _ (List.mem_of_getElem? (i := 5) rfl))
  have sf2_r1 := Safe.keep K2q (allS (hsf _ (List.mem_of_getElem? (i := 2) rfl)) (allS (hsf _ (List.mem_of_getElem? (i := 3) rfl)) (allS (hsf _ (List.mem_of_getElem? (i := 4) rfl)) (allS (hsf _ (List.mem_of_getElem? (i := 5) rfl)) all0)))) R0.1 (hsf _ (List.mem_of_getElem? (i := 6) rfl))
  have sf2_r2 := Safe.keep K2q (allS (hsf _ (List.mem_of_getElem? (i := 2) rfl)) (allS (hsf _ (List.mem_of_getElem? (i := 3) rfl)) (allS (hsf _ (List.mem_of_getElem? (i := 4) rfl)) (allS (hsf _ (List.mem_of_getElem? (i := 5) rfl)) all0)))) R0.1 (hsf _ (List.mem_of_getElem? (i := 7) rfl))
  have sf2_pe2 := Safe.keep K2q (allS (hsf _ (List.mem_of_getElem? (i := 2) rfl)) (allS (hsf _ (List.mem_of_getElem? (i := 3) rfl)) (allS (hsf _ (List.mem_of_getElem? (i := 4) rfl)) (allS (hsf _ (List.mem_of_getElem? (i := 5) rfl)) all0)))) R0.1 sp2
  refine own_st (T2.setTop (mkF m 245 La197 [])) st2 ?_
  refine oiload X2 hx hby at_245 rfl 247 rfl ?_
  refine oiconst X2 hx hby at_247 (1 : Int32) rfl 248 rfl ?_
  by_cases c248_10 : (1 : Int32) < nB
  ·
   refine oicmpNo X2 hx hby at_248 rfl (tlt c248_10).2.2.2 251 rfl ?_
   refine oaload X2 hx hby at_251 rfl (by rfl) 253 rfl ?_
   refine oaload X2 hx hby at_253 rfl (by rfl) 255 rfl ?_
   obtain ⟨v11, T11, L11, X11, q11, st11⟩ := own_callV X2 hx hZ hown (y := oM23) (z := oM23) (oW hw 82 rfl) (oW hw 83 rfl) (notFace_of_selects (args := a0) (oW hw 85 rfl)) (oW hw 85 rfl) (oW hw 84 rfl) (oW hw 63 rfl) (oW hw 86 rfl) f4 (b := o2) (argsL := [(.ref r1)]) (own_addR1 l Z a0 hw [] cz o2 b2 pe2 ([] ++ [(own_hd hv0)]) r1 t1 hv1 T2.heap O2 SC hcz R2q (by simp) f8 (hn2 _ (List.mem_of_getElem? (i := 1) rfl) _ (List.mem_of_getElem? (i := 0) rfl)) (hn2 _ (List.mem_of_getElem? (i := 1) rfl) _ (List.mem_of_getElem? (i := 1) rfl)) np2_r1 (hn2 _ (List.mem_of_getElem? (i := 4) rfl) _ (List.mem_of_getElem? (i := 0) rfl)) (hn2 _ (List.mem_of_getElem? (i := 4) rfl) _ (List.mem_of_getElem? (i := 1) rfl)) np2_t1) 0 (by decide) (by decide) (by decide) (by decide) (by decide) rfl (g := (mkF m 255 La197 [(.ref r1), (.ref o2)])) rfl (by rw [hml]; rfl) [] (lenOf oP607 rfl) rfl (by show 2 * 0 + _ ≤ _; exact Nat.le_of_eq rfl) (hb hby at_255)
   obtain ⟨pe11, rfl, N11q, K11q, s11q, z11, R11q⟩ := q11
   have N11 := Fr.app N2 N11q
   have np11_o := own_nep s11q np2_o f5.lt
   have np11_b := own_nep s11q np2_b f5.lt2
   have np11_pb := own_nep s11q np2_pb f5.lt3
   have np11_r2 := own_nep s11q np2_r2 f9.lt
   have np11_t2 := own_nep s11q np2_t2 f9.lt2
   have sp11 := own_sfp s11q sf2_pe2
   have f12 := (f3.keep K11q)
   have f13 := (f4.keep K11q)
   have f14 := (f5.keep K11q (ninS (hne _ (List.mem_of_getElem? (i := 0) rfl) _ (List.mem_of_getElem? (i := 0) rfl)) (ninS (hne _ (List.mem_of_getElem? (i := 0) rfl) _ (List.mem_of_getElem? (i := 1) rfl)) (ninS np2_o (ninS (hne _ (List.mem_of_getElem? (i := 0) rfl) _ (List.mem_of_getElem? (i := 4) rfl)) nin0)))) (ninS (hne _ (List.mem_of_getElem? (i := 1) rfl) _ (List.mem_of_getElem? (i := 0) rfl)) (ninS (hne _ (List.mem_of_getElem? (i := 1) rfl) _ (List.mem_of_getElem? (i := 1) rfl)) (ninS np2_b (ninS (hne _ (List.mem_of_getElem? (i := 1) rfl) _ (List.mem_of_getElem? (i := 4) rfl)) nin0)))) (ninS (hne _ (List.mem_of_getElem? (i := 2) rfl) _ (List.mem_of_getElem? (i := 0) rfl)) (ninS (hne _ (List.mem_of_getElem? (i := 2) rfl) _ (List.mem_of_getElem? (i := 1) rfl)) (ninS np2_pb (ninS (hne _ (List.mem_of_getElem? (i := 2) rfl) _ (List.mem_of_getElem? (i := 4) rfl)) nin0)))))
   have f16 := (f9.keep K11q (ninS (hn2 _ (List.mem_of_getElem? (i := 2) rfl) _ (List.mem_of_getElem? (i := 0) rfl)) (ninS (hn2 _ (List.mem_of_getElem? (i := 2) rfl) _ (List.mem_of_getElem? (i := 1) rfl)) (ninS np2_r2 (ninS (Ne.symm r12) nin0)))) (ninS (hn2 _ (List.mem_of_getElem? (i := 5) rfl) _ (List.mem_of_getElem? (i := 0) rfl)) (ninS (hn2 _ (List.mem_of_getElem? (i := 5) rfl) _ (List.mem_of_getElem? (i := 1) rfl)) (ninS np2_t2 (ninS tr21 nin0)))))
   have O11 := O2.keep K11q (allS RB.rep.ge1 (allS RB.rep.ge2 (allS z2 (allS B1.2.1 all0))))
   have R11 := R2.trans (CHr.keep K11q (allS sf2_o2 (allS sf2_b2 (allS sf2_pe2 (allS sf2_r1 all0)))) R2.1)
   have sf11_o := Safe.keep K11q (allS sf2_o2 (allS sf2_b2 (allS sf2_pe2 (allS sf2_r1 all0)))) R2.1 sf2_o
   have sf11_b := Safe.keep K11q (allS sf2_o2 (allS sf2_b2 (allS sf2_pe2 (allS sf2_r1 all0)))) R2.1 sf2_b
   have sf11_o2 := Safe.keep K11q (allS sf2_o2 (allS sf2_b2 (allS sf2_pe2 (allS sf2_r1 all0)))) R2.1 sf2_o2
   have sf11_b2 := Safe.keep K11q (allS sf2_o2 (allS sf2_b2 (allS sf2_pe2 (allS sf2_r1 all0)))) R2.1 sf2_b2
   have sf11_r1 := Safe.keep K11q (allS sf2_o2 (allS sf2_b2 (allS sf2_pe2 (allS sf2_r1 all0)))) R2.1 sf2_r1
   have sf11_r2 := Safe.keep K11q (allS sf2_o2 (allS sf2_b2 (allS sf2_pe2 (allS sf2_r1 all0)))) R2.1 sf2_r2
   have sf11_pe2 := Safe.keep K11q (allS sf2_o2 (allS sf2_b2 (allS sf2_pe2 (allS sf2_r1 all0)))) R2.1 sf2_pe2
   have sf11_pe11 := Safe.keep K11q (allS sf2_o2 (allS sf2_b2 (allS sf2_pe2 (allS sf2_r1 all0)))) R2.1 sp11
   refine own_st (T11.setTop (mkF m 258 La197 [])) st11 ?_
   refine oiload X11 hx hby at_258 rfl 260 rfl ?_
   refine oiconst X11 hx hby at_260 (2 : Int32) rfl 261 rfl ?_
   by_cases c261_18 : (2 : Int32) < nB
   ·
    refine oicmpNo X11 hx hby at_261 rfl (tlt c261_18).2.2.2 264 rfl ?_
    refine oaload X11 hx hby at_264 rfl (by rfl) 266 rfl ?_
    refine oaload X11 hx hby at_266 rfl (by rfl) 268 rfl ?_
    obtain ⟨v19, T19, L19, X19, q19, st19⟩ := own_callV X11 hx hZ hown (y := oM23) (z := oM23) (oW hw 82 rfl) (oW hw 83 rfl) (notFace_of_selects (args := a0) (oW hw 85 rfl)) (oW hw 85 rfl) (oW hw 84 rfl) (oW hw 63 rfl) (oW hw 86 rfl) f13 (b := o2) (argsL := [(.ref r2)]) (own_addR2 l Z a0 hw [] cz o2 b2 pe11 (([] ++ [(own_hd hv0)]) ++ [(own_hd hv1)]) r2 t2 hv2 T11.heap O11 SC hcz R11q (by simp) f16 (hn2 _ (List.mem_of_getElem? (i := 2) rfl) _ (List.mem_of_getElem? (i := 0) rfl)) (hn2 _ (List.mem_of_getElem? (i := 2) rfl) _ (List.mem_of_getElem? (i := 1) rfl)) np11_r2 (hn2 _ (List.mem_of_getElem? (i := 5) rfl) _ (List.mem_of_getElem? (i := 0) rfl)) (hn2 _ (List.mem_of_getElem? (i := 5) rfl) _ (List.mem_of_getElem? (i := 1) rfl)) np11_t2) 0 (by decide) (by decide) (by decide) (by decide) (by decide) rfl (g := (mkF m 268 La197 [(.ref r2), (.ref o2)])) rfl (by rw [hml]; rfl) [] (lenOf oP607 rfl) rfl (by show 2 * 0 + _ ≤ _; exact Nat.le_of_eq rfl) (hb hby at_268)
    obtain ⟨pe19, rfl, N19q, K19q, s19q, z19, R19q⟩ := q19
    have N19 := Fr.app N11 N19q
    have np19_o := own_nep s19q np11_o f14.lt
    have np19_b := own_nep s19q np11_b f14.lt2
    have np19_pb := own_nep s19q np11_pb f14.lt3
    have sp19 := own_sfp s19q sf11_pe11
    have f20 := (f12.keep K19q)
    have f21 := (f13.keep K19q)
    have f22 := (f14.keep K19q (ninS (hne _ (List.mem_of_getElem? (i := 0) rfl) _ (List.mem_of_getElem? (i := 0) rfl)) (ninS (hne _ (List.mem_of_getElem? (i := 0) rfl) _ (List.mem_of_getElem? (i := 1) rfl)) (ninS np11_o (ninS (hne _ (List.mem_of_getElem? (i := 0) rfl) _ (List.mem_of_getElem? (i := 5) rfl)) nin0)))) (ninS (hne _ (List.mem_of_getElem? (i := 1) rfl) _ (List.mem_of_getElem? (i := 0) rfl)) (ninS (hne _ (List.mem_of_getElem? (i := 1) rfl) _ (List.mem_of_getElem? (i := 1) rfl)) (ninS np11_b (ninS (hne _ (List.mem_of_getElem? (i := 1) rfl) _ (List.mem_of_getElem? (i := 5) rfl)) nin0)))) (ninS (hne _ (List.mem_of_getElem? (i := 2) rfl) _ (List.mem_of_getElem? (i := 0) rfl)) (ninS (hne _ (List.mem_of_getElem? (i := 2) rfl) _ (List.mem_of_getElem? (i := 1) rfl)) (ninS np11_pb (ninS (hne _ (List.mem_of_getElem? (i := 2) rfl) _ (List.mem_of_getElem? (i := 5) rfl)) nin0)))))
    have O19 := O11.keep K19q (allS RB.rep.ge1 (allS RB.rep.ge2 (allS z11 (allS B2.2.1 all0))))
    have R19 := R11.trans (CHr.keep K19q (allS sf11_o2 (allS sf11_b2 (allS sf11_pe11 (allS sf11_r2 all0)))) R11.1)
    have sf19_o := Safe.keep K19q (allS sf11_o2 (allS sf11_b2 (allS sf11_pe11 (allS sf11_r2 all0)))) R11.1 sf11_o
    have sf19_b := Safe.keep K19q (allS sf11_o2 (allS sf11_b2 (allS sf11_pe11 (allS sf11_r2 all0)))) R11.1 sf11_b
    have sf19_o2 := Safe.keep K19q (allS sf11_o2 (allS sf11_b2 (allS sf11_pe11 (allS sf11_r2 all0)))) R11.1 sf11_o2
    have sf19_b2 := Safe.keep K19q (allS sf11_o2 (allS sf11_b2 (allS sf11_pe11 (allS sf11_r2 all0)))) R11.1 sf11_b2
    have sf19_r2 := Safe.keep K19q (allS sf11_o2 (allS sf11_b2 (allS sf11_pe11 (allS sf11_r2 all0)))) R11.1 sf11_r2
    have sf19_pe11 := Safe.keep K19q (allS sf11_o2 (allS sf11_b2 (allS sf11_pe11 (allS sf11_r2 all0)))) R11.1 sf11_pe11
    have sf19_pe19 := Safe.keep K19q (allS sf11_o2 (allS sf11_b2 (allS sf11_pe11 (allS sf11_r2 all0)))) R11.1 sp19
    refine own_st (T19.setTop (mkF m 271 La197 [])) st19 ?_
    exact own_lawC l Z a0 hw cz SC hcz p e s m below meth c _ _ _ _ _ _ _ _ _ _ _ _ _ _ _ _ _ _ _ _ _ _ _ _ _ _ hx hby hml hret hlk hEL hZ hown rfl (own_sm X19 (by decide) (by decide)) hS0 (Nat.le_trans (Nat.le_trans (Nat.le_trans hk0 K2q.1) K11q.1) K19q.1) R19 N19 O19 nA nB sf ha0 ha1 ha2 (own_hd hv0) (own_hd hv1) (own_hd hv2) o b pb o2 b2 pe19 f22.1 (R19q.toL (own_lst3 c235_1 c248_10 c261_18)).1 na (own_lstna (own_hd0 _) (own_hd0 _) (own_hd0 _)) (allS (allS (hne _ (List.mem_of_getElem? (i := 0) rfl) _ (List.mem_of_getElem? (i := 0) rfl)) (allS (hne _ (List.mem_of_getElem? (i := 0) rfl) _ (List.mem_of_getElem? (i := 1) rfl)) (allS np19_o all0))) (allS (allS (hne _ (List.mem_of_getElem? (i := 1) rfl) _ (List.mem_of_getElem? (i := 0) rfl)) (allS (hne _ (List.mem_of_getElem? (i := 1) rfl) _ (List.mem_of_getElem? (i := 1) rfl)) (allS np19_b all0))) (allS (allS (hne _ (List.mem_of_getElem? (i := 2) rfl) _ (List.mem_of_getElem? (i := 0) rfl)) (allS (hne _ (List.mem_of_getElem? (i := 2) rfl) _ (List.mem_of_getElem? (i := 1) rfl)) (allS np19_pb all0))) all0))) (allS sf19_o (allS sf19_b (allS sf19_o2 (allS sf19_b2 all0))))
   ·
    refine oicmpYes X11 hx hby at_261 rfl (flt c261_18).2.2.2 271 (by decide) (by decide) ?_
    exact own_lawC l Z a0 hw cz SC hcz p e s m below meth c _ _ _ _ _ _ _ _ _ _ _ _ _ _ _ _ _ _ _ _ _ _ _ _ _ _ hx hby hml hret hlk hEL hZ hown rfl (own_sm X11 (by decide) (by decide)) hS0 (Nat.le_trans (Nat.le_trans hk0 K2q.1) K11q.1) R11 N11 O11 nA nB sf ha0 ha1 ha2 (own_hd hv0) (own_hd hv1) (own_hd hv2) o b pb o2 b2 pe11 f14.1 (R11q.toL (own_lst2 c235_1 c248_10 c261_18)).1 na (own_lstna (own_hd0 _) (own_hd0 _) (own_hd0 _)) (allS (allS (hne _ (List.mem_of_getElem? (i := 0) rfl) _ (List.mem_of_getElem? (i := 0) rfl)) (allS (hne _ (List.mem_of_getElem? (i := 0) rfl) _ (List.mem_of_getElem? (i := 1) rfl)) (allS np11_o all0))) (allS (allS (hne _ (List.mem_of_getElem? (i := 1) rfl) _ (List.mem_of_getElem? (i := 0) rfl)) (allS (hne _ (List.mem_of_getElem? (i := 1) rfl) _ (List.mem_of_getElem? (i := 1) rfl)) (allS np11_b all0))) (allS (allS (hne _ (List.mem_of_getElem? (i := 2) rfl) _ (List.mem_of_getElem? (i := 0) rfl)) (allS (hne _ (List.mem_of_getElem? (i := 2) rfl) _ (List.mem_of_getElem? (i := 1) rfl)) (allS np11_pb all0))) all0))) (allS sf11_o (allS sf11_b (allS sf11_o2 (allS sf11_b2 all0))))
  ·
   refine oicmpYes X2 hx hby at_248 rfl (flt c248_10).2.2.2 258 (by decide) (by decide) ?_
   refine oiload X2 hx hby at_258 rfl 260 rfl ?_
   refine oiconst X2 hx hby at_260 (2 : Int32) rfl 261 rfl ?_
   refine oicmpYes X2 hx hby at_261 rfl (flt ((own_lt2 c248_10) : ¬ ((2 : Int32) < nB))).2.2.2 271 (by decide) (by decide) ?_
   exact own_lawC l Z a0 hw cz SC hcz p e s m below meth c _ _ _ _ _ _ _ _ _ _ _ _ _ _ _ _ _ _ _ _ _ _ _ _ _ _ hx hby hml hret hlk hEL hZ hown rfl (own_sm X2 (by decide) (by decide)) hS0 (Nat.le_trans hk0 K2q.1) R2 N2 O2 nA nB sf ha0 ha1 ha2 (own_hd hv0) (own_hd hv1) (own_hd hv2) o b pb o2 b2 pe2 f5.1 (R2q.toL (own_lst1 c235_1 c248_10 (own_lt2 c248_10))).1 na (own_lstna (own_hd0 _) (own_hd0 _) (own_hd0 _)) (allS (allS (hne _ (List.mem_of_getElem? (i := 0) rfl) _ (List.mem_of_getElem? (i := 0) rfl)) (allS (hne _ (List.mem_of_getElem? (i := 0) rfl) _ (List.mem_of_getElem? (i := 1) rfl)) (allS np2_o all0))) (allS (allS (hne _ (List.mem_of_getElem? (i := 1) rfl) _ (List.mem_of_getElem? (i := 0) rfl)) (allS (hne _ (List.mem_of_getElem? (i := 1) rfl) _ (List.mem_of_getElem? (i := 1) rfl)) (allS np2_b all0))) (allS (allS (hne _ (List.mem_of_getElem? (i := 2) rfl) _ (List.mem_of_getElem? (i := 0) rfl)) (allS (hne _ (List.mem_of_getElem? (i := 2) rfl) _ (List.mem_of_getElem? (i := 1) rfl)) (allS np2_pb all0))) all0))) (allS sf2_o (allS sf2_b (allS sf2_o2 (allS sf2_b2 all0))))
 ·
  refine oifYes X0 hx hby at_235 rfl ((if0 _ _).trans (flt c235_1).2.2.2) 245 (by decide) (by decide) ?_
  refine oiload X0 hx hby at_245 rfl 247 rfl ?_
  refine oiconst X0 hx hby at_247 (1 : Int32) rfl 248 rfl ?_
  refine oicmpYes X0 hx hby at_248 rfl (flt ((own_lt1 c235_1) : ¬ ((1 : Int32) < nB))).2.2.2 258 (by decide) (by decide) ?_
  refine oiload X0 hx hby at_258 rfl 260 rfl ?_
  refine oiconst X0 hx hby at_260 (2 : Int32) rfl 261 rfl ?_
  refine oicmpYes X0 hx hby at_261 rfl (flt ((own_lt2 (own_lt1 c235_1)) : ¬ ((2 : Int32) < nB))).2.2.2 271 (by decide) (by decide) ?_
  exact own_lawC l Z a0 hw cz SC hcz p e s m below meth c _ _ _ _ _ _ _ _ _ _ _ _ _ _ _ _ _ _ _ _ _ _ _ _ _ _ hx hby hml hret hlk hEL hZ hown e0 (own_sm X0 (by decide) (by decide)) hS0 hk0 R0 N0 O0 nA nB sf ha0 ha1 ha2 (own_hd hv0) (own_hd hv1) (own_hd hv2) o b pb o2 b2 p2 RA.1 (RB.toL (own_lst0 c235_1 (own_lt1 c235_1) (own_lt2 (own_lt1 c235_1)))).1 na (own_lstna (own_hd0 _) (own_hd0 _) (own_hd0 _)) (allS (allS (hne _ (List.mem_of_getElem? (i := 0) rfl) _ (List.mem_of_getElem? (i := 0) rfl)) (allS (hne _ (List.mem_of_getElem? (i := 0) rfl) _ (List.mem_of_getElem? (i := 1) rfl)) (allS (hne _ (List.mem_of_getElem? (i := 0) rfl) _ (List.mem_of_getElem? (i := 2) rfl)) all0))) (allS (allS (hne _ (List.mem_of_getElem? (i := 1) rfl) _ (List.mem_of_getElem? (i := 0) rfl)) (allS (hne _ (List.mem_of_getElem? (i := 1) rfl) _ (List.mem_of_getElem? (i := 1) rfl)) (allS (hne _ (List.mem_of_getElem? (i := 1) rfl) _ (List.mem_of_getElem? (i := 2) rfl)) all0))) (allS (allS (hne _ (List.mem_of_getElem? (i := 2) rfl) _ (List.mem_of_getElem? (i := 0) rfl)) (allS (hne _ (List.mem_of_getElem? (i := 2) rfl) _ (List.mem_of_getElem? (i := 1) rfl)) (allS (hne _ (List.mem_of_getElem? (i := 2) rfl) _ (List.mem_of_getElem? (i := 2) rfl)) all0))) all0))) (allS (hsf _ (List.mem_of_getElem? (i := 0) rfl)) (allS (hsf _ (List.mem_of_getElem? (i := 1) rfl)) (allS (hsf _ (List.mem_of_getElem? (i := 2) rfl)) (allS (hsf _ (List.mem_of_getElem? (i := 3) rfl)) all0))))
theorem oP608 : parseMethodDescriptor "(JI)I" = some ⟨[.long, .int], some .int⟩ := by decide +kernel
theorem oP609 : parseMethodDescriptor "(I)Ljava/lang/String;" = some ⟨[.int], some (.object "java/lang/String")⟩ := by decide +kernel
theorem oP610 : parseMethodDescriptor "(I)V" = some ⟨[.int], none⟩ := by decide +kernel
theorem own_lawA (l : Launch) (Z : State) (a0 : Array Value) (hw : OWS a0 Z) (cz : Int32) (SC : Sta Z Z.heap "java/lang/String" "COMPACT_STRINGS" "Z" (.int cz)) (hcz : ¬ (cz = (0 : Int32))) (p : Program) (e : Env) (s : State) (m : MethodId) (below : List Frame) (meth : Method) (c : Code) (T : State) (locs : List Loc) (vm0 : Vm) (k0 : Nat) (h0 h : Heap) (args : Array Value) (w0 : Slot)
  (hx : p.tables.exec = Jvm.exec) (hby : c.code = code) (hml : c.maxLocals = maxLocals) (hret : meth.sig.returnType = ret) (hlk : meth.locks = false) (hEL : EW Z a0 own_EL) (hZ : Z.Warmed39 vm0) (hown : vm0.findClass "com/example/rising_block/risingblock/util/StringHashesMeetsPinLaw" = some m.cls) (e0 : T.heap = h) (X0 : Stand p l e room_1 (s.setVm vm0) m args below meth c T locs 0 0) (hS0 : s.Since vm0 k0) (hk0 : k0 ≤ h.size) (R0 : CHr Z own_EL s.vm h0 vm0 h) (N0 : Fr Z.heap.size locs) (O0 : Old Z Z.heap.size h)
  (i1 i2 : Int64) (nA nB mpA mpB sf : Int32) (hmA : mpA = 1 ∨ mpA = 2 ∨ mpA = 3 ∨ mpA = 4) (hmB : mpB = 1 ∨ mpB = 2 ∨ mpB = 3 ∨ mpB = 4) :
  ownGo p e below (ownQW s Z own_EL h0 (fun v vm h L => v = some (.int 1) ∧ Fr Z.heap.size L) room_1.cells room_1.slots) (T.setTop (mkF m 47 #[w0, .val (.long i1), .second, .val (.long i2), .second, .val (.int nA), .val (.int nB), .val (.int mpA), .val (.int mpB), .val (.int sf), .unset, .unset, .unset, .unset, .unset, .unset, .unset, .unset, .unset, .unset, .unset, .unset, .unset, .unset, .unset, .unset, .unset, .unset, .unset, .unset, .unset, .unset, .unset, .unset] [])) := by
 refine olloadN X0 hx hby at_47 rfl 48 rfl ?_
 refine oiconst X0 hx hby at_48 (0 : Int32) rfl 49 rfl ?_
 let La198 : Array Slot := #[w0, .val (.long i1), .second, .val (.long i2), .second, .val (.int nA), .val (.int nB), .val (.int mpA), .val (.int mpB), .val (.int sf), .unset, .unset, .unset, .unset, .unset, .unset, .unset, .unset, .unset, .unset, .unset, .unset, .unset, .unset, .unset, .unset, .unset, .unset, .unset, .unset, .unset, .unset, .unset, .unset]
 obtain ⟨v1, T1, L1, X1, q1, st1⟩ := own_callS X0 hx hZ hown (oW hw 0 rfl) (oW hw 1 rfl) (oW hw 2 rfl) (oW hw 3 rfl) (argsL := [(.long i1), (.int 0)]) (own_code0 l Z a0 hw [] i1 h O0) 0 (by decide) (by decide) (by decide) (by decide) (by decide) e0 (g := (mkF m 49 La198 [(.int 0), (.long i1)])) rfl (by rw [hml]; rfl) [] (lenOf oP608 rfl) rfl (by show 2 * 0 + _ ≤ _; exact Nat.le_of_eq rfl) (hb hby at_49)
 obtain ⟨cd1, rfl, N1q, e1⟩ := q1
 have N1 := Fr.app N0 N1q
 refine own_st (T1.setTop (mkF m 52 La198 [(.int cd1)])) st1 ?_
 let La199 : Array Slot := #[w0, .val (.long i1), .second, .val (.long i2), .second, .val (.int nA), .val (.int nB), .val (.int mpA), .val (.int mpB), .val (.int sf), .val (.int cd1), .unset, .unset, .unset, .unset, .unset, .unset, .unset, .unset, .unset, .unset, .unset, .unset, .unset, .unset, .unset, .unset, .unset, .unset, .unset, .unset, .unset, .unset, .unset]
 refine oistore X1 hx hby at_52 rfl (L' := La199) rfl 54 rfl ?_
 refine olloadN X1 hx hby at_54 rfl 55 rfl ?_
 refine oiconst X1 hx hby at_55 (1 : Int32) rfl 56 rfl ?_
 obtain ⟨v2, T2, L2, X2, q2, st2⟩ := own_callS X1 hx hZ hown (oW hw 0 rfl) (oW hw 1 rfl) (oW hw 2 rfl) (oW hw 3 rfl) (argsL := [(.long i1), (.int 1)]) (own_code1 l Z a0 hw [] i1 h O0) 0 (by decide) (by decide) (by decide) (by decide) (by decide) e1 (g := (mkF m 56 La199 [(.int 1), (.long i1)])) rfl (by rw [hml]; rfl) [] (lenOf oP608 rfl) rfl (by show 2 * 0 + _ ≤ _; exact Nat.le_of_eq rfl) (hb hby at_56)
 obtain ⟨cd2, rfl, N2q, e2⟩ := q2
 have N2 := Fr.app N1 N2q
 refine own_st (T2.setTop (mkF m 59 La199 [(.int cd2)])) st2 ?_
 let La200 : Array Slot := #[w0, .val (.long i1), .second, .val (.long i2), .second, .val (.int nA), .val (.int nB), .val (.int mpA), .val (.int mpB), .val (.int sf), .val (.int cd1), .val (.int cd2), .unset, .unset, .unset, .unset, .unset, .unset, .unset, .unset, .unset, .unset, .unset, .unset, .unset, .unset, .unset, .unset, .unset, .unset, .unset, .unset, .unset, .unset]
 refine oistore X2 hx hby at_59 rfl (L' := La200) rfl 61 rfl ?_
 refine olloadN X2 hx hby at_61 rfl 62 rfl ?_
 refine oiconst X2 hx hby at_62 (2 : Int32) rfl 63 rfl ?_
 obtain ⟨v3, T3, L3, X3, q3, st3⟩ := own_callS X2 hx hZ hown (oW hw 0 rfl) (oW hw 1 rfl) (oW hw 2 rfl) (oW hw 3 rfl) (argsL := [(.long i1), (.int 2)]) (own_code2 l Z a0 hw [] i1 h O0) 0 (by decide) (by decide) (by decide) (by decide) (by decide) e2 (g := (mkF m 63 La200 [(.int 2), (.long i1)])) rfl (by rw [hml]; rfl) [] (lenOf oP608 rfl) rfl (by show 2 * 0 + _ ≤ _; exact Nat.le_of_eq rfl) (hb hby at_63)
 obtain ⟨cd3, rfl, N3q, e3⟩ := q3
 have N3 := Fr.app N2 N3q
 refine own_st (T3.setTop (mkF m 66 La200 [(.int cd3)])) st3 ?_
 let La201 : Array Slot := #[w0, .val (.long i1), .second, .val (.long i2), .second, .val (.int nA), .val (.int nB), .val (.int mpA), .val (.int mpB), .val (.int sf), .val (.int cd1), .val (.int cd2), .val (.int cd3), .unset, .unset, .unset, .unset, .unset, .unset, .unset, .unset, .unset, .unset, .unset, .unset, .unset, .unset, .unset, .unset, .unset, .unset, .unset, .unset, .unset]
 refine oistore X3 hx hby at_66 rfl (L' := La201) rfl 68 rfl ?_
 refine olloadN X3 hx hby at_68 rfl 69 rfl ?_
 refine oiconst X3 hx hby at_69 (0 : Int32) rfl 70 rfl ?_
 obtain ⟨v4, T4, L4, X4, q4, st4⟩ := own_callS X3 hx hZ hown (oW hw 0 rfl) (oW hw 1 rfl) (oW hw 2 rfl) (oW hw 3 rfl) (argsL := [(.long i2), (.int 0)]) (own_code0 l Z a0 hw [] i2 h O0) 0 (by decide) (by decide) (by decide) (by decide) (by decide) e3 (g := (mkF m 70 La201 [(.int 0), (.long i2)])) rfl (by rw [hml]; rfl) [] (lenOf oP608 rfl) rfl (by show 2 * 0 + _ ≤ _; exact Nat.le_of_eq rfl) (hb hby at_70)
 obtain ⟨cd4, rfl, N4q, e4⟩ := q4
 have N4 := Fr.app N3 N4q
 refine own_st (T4.setTop (mkF m 73 La201 [(.int cd4)])) st4 ?_
 let La202 : Array Slot := #[w0, .val (.long i1), .second, .val (.long i2), .second, .val (.int nA), .val (.int nB), .val (.int mpA), .val (.int mpB), .val (.int sf), .val (.int cd1), .val (.int cd2), .val (.int cd3), .val (.int cd4), .unset, .unset, .unset, .unset, .unset, .unset, .unset, .unset, .unset, .unset, .unset, .unset, .unset, .unset, .unset, .unset, .unset, .unset, .unset, .unset]
 refine oistore X4 hx hby at_73 rfl (L' := La202) rfl 75 rfl ?_
 refine olloadN X4 hx hby at_75 rfl 76 rfl ?_
 refine oiconst X4 hx hby at_76 (1 : Int32) rfl 77 rfl ?_
 obtain ⟨v5, T5, L5, X5, q5, st5⟩ := own_callS X4 hx hZ hown (oW hw 0 rfl) (oW hw 1 rfl) (oW hw 2 rfl) (oW hw 3 rfl) (argsL := [(.long i2), (.int 1)]) (own_code1 l Z a0 hw [] i2 h O0) 0 (by decide) (by decide) (by decide) (by decide) (by decide) e4 (g := (mkF m 77 La202 [(.int 1), (.long i2)])) rfl (by rw [hml]; rfl) [] (lenOf oP608 rfl) rfl (by show 2 * 0 + _ ≤ _; exact Nat.le_of_eq rfl) (hb hby at_77)
 obtain ⟨cd5, rfl, N5q, e5⟩ := q5
 have N5 := Fr.app N4 N5q
 refine own_st (T5.setTop (mkF m 80 La202 [(.int cd5)])) st5 ?_
 let La203 : Array Slot := #[w0, .val (.long i1), .second, .val (.long i2), .second, .val (.int nA), .val (.int nB), .val (.int mpA), .val (.int mpB), .val (.int sf), .val (.int cd1), .val (.int cd2), .val (.int cd3), .val (.int cd4), .val (.int cd5), .unset, .unset, .unset, .unset, .unset, .unset, .unset, .unset, .unset, .unset, .unset, .unset, .unset, .unset, .unset, .unset, .unset, .unset, .unset]
 refine oistore X5 hx hby at_80 rfl (L' := La203) rfl 82 rfl ?_
 refine olloadN X5 hx hby at_82 rfl 83 rfl ?_
 refine oiconst X5 hx hby at_83 (2 : Int32) rfl 84 rfl ?_
 obtain ⟨v6, T6, L6, X6, q6, st6⟩ := own_callS X5 hx hZ hown (oW hw 0 rfl) (oW hw 1 rfl) (oW hw 2 rfl) (oW hw 3 rfl) (argsL := [(.long i2), (.int 2)]) (own_code2 l Z a0 hw [] i2 h O0) 0 (by decide) (by decide) (by decide) (by decide) (by decide) e5 (g := (mkF m 84 La203 [(.int 2), (.long i2)])) rfl (by rw [hml]; rfl) [] (lenOf oP608 rfl) rfl (by show 2 * 0 + _ ≤ _; exact Nat.le_of_eq rfl) (hb hby at_84)
 obtain ⟨cd6, rfl, N6q, e6⟩ := q6
 have N6 := Fr.app N5 N6q
 refine own_st (T6.setTop (mkF m 87 La203 [(.int cd6)])) st6 ?_
 let La204 : Array Slot := #[w0, .val (.long i1), .second, .val (.long i2), .second, .val (.int nA), .val (.int nB), .val (.int mpA), .val (.int mpB), .val (.int sf), .val (.int cd1), .val (.int cd2), .val (.int cd3), .val (.int cd4), .val (.int cd5), .val (.int cd6), .unset, .unset, .unset, .unset, .unset, .unset, .unset, .unset, .unset, .unset, .unset, .unset, .unset, .unset, .unset, .unset, .unset, .unset]
 refine oistore X6 hx hby at_87 rfl (L' := La204) rfl 89 rfl ?_
 refine oiload X6 hx hby at_89 rfl 91 rfl ?_
 obtain ⟨v7, T7, L7, X7, hS7, hZ7, hown7, C7, R7, q7, st7⟩ := own_callSW X6 hx hZ hown (oW hw 5 rfl) (oW hw 6 rfl) (oW hw 2 rfl) (oW hw 7 rfl) (argsL := [(.int cd1)]) (own_str l Z a0 hw [] cz cd1 h O0 SC hcz) 0 (by decide) (by decide) (by decide) (by decide) (by decide) hS0 hk0 hEL R0 all0 e6 (g := (mkF m 91 La204 [(.int cd1)])) rfl (by rw [hml]; rfl) [] (lenOf oP609 rfl) rfl (by show 2 * 0 + _ ≤ _; exact Nat.le_of_eq rfl) (hb hby at_91)
 obtain ⟨r7, t7, rfl, N7q, K7q, s7q, sf7_n, B7⟩ := q7
 have N7 := Fr.app N6 N7q
 have O7 := O0.keep K7q all0
 refine own_st (T7.setTop (mkF m 94 La204 [(.ref r7)])) st7 ?_
 let La205 : Array Slot := #[w0, .val (.long i1), .second, .val (.long i2), .second, .val (.int nA), .val (.int nB), .val (.int mpA), .val (.int mpB), .val (.int sf), .val (.int cd1), .val (.int cd2), .val (.int cd3), .val (.int cd4), .val (.int cd5), .val (.int cd6), rv r7, .unset, .unset, .unset, .unset, .unset, .unset, .unset, .unset, .unset, .unset, .unset, .unset, .unset, .unset, .unset, .unset, .unset]
 refine oastore X7 hx hby at_94 rfl (by rfl) (L' := La205) rfl 96 rfl ?_
 refine oiload X7 hx hby at_96 rfl 98 rfl ?_
 obtain ⟨v8, T8, L8, X8, hS8, hZ8, hown8, C8, R8, q8, st8⟩ := own_callSW X7 hx hZ7 hown7 (oW hw 5 rfl) (oW hw 6 rfl) (oW hw 2 rfl) (oW hw 7 rfl) (argsL := [(.int cd2)]) (own_str l Z a0 hw [] cz cd2 T7.heap O7 SC hcz) 0 (by decide) (by decide) (by decide) (by decide) (by decide) hS7 (Nat.le_refl _) hEL R7 all0 rfl (g := (mkF m 98 La205 [(.int cd2)])) rfl (by rw [hml]; rfl) [] (lenOf oP609 rfl) rfl (by show 2 * 0 + _ ≤ _; exact Nat.le_of_eq rfl) (hb hby at_98)
 have sf8_r7 := C8.safe B7.lt sf7_n
 obtain ⟨r8, t8, rfl, N8q, K8q, s8q, sf8_n, B8⟩ := q8
 have N8 := Fr.app N7 N8q
 have nf8_r7 : r7 ≠ r8 := Nat.ne_of_lt (Nat.lt_of_lt_of_le B7.lt s8q)
 have nf8_t7 : t7 ≠ r8 := Nat.ne_of_lt (Nat.lt_of_lt_of_le B7.lt2 s8q)
 have f9 := (B7.keep K8q nin0 nin0)
 have O8 := O7.keep K8q all0
 have nt8_r7 := (OwnStr.nes (a0 := a0) B8 f9 (oW hw 12 rfl))
 refine own_st (T8.setTop (mkF m 101 La205 [(.ref r8)])) st8 ?_
 let La206 : Array Slot := #[w0, .val (.long i1), .second, .val (.long i2), .second, .val (.int nA), .val (.int nB), .val (.int mpA), .val (.int mpB), .val (.int sf), .val (.int cd1), .val (.int cd2), .val (.int cd3), .val (.int cd4), .val (.int cd5), .val (.int cd6), rv r7, rv r8, .unset, .unset, .unset, .unset, .unset, .unset, .unset, .unset, .unset, .unset, .unset, .unset, .unset, .unset, .unset, .unset]
 refine oastore X8 hx hby at_101 rfl (by rfl) (L' := La206) rfl 103 rfl ?_
 refine oiload X8 hx hby at_103 rfl 105 rfl ?_
 obtain ⟨v10, T10, L10, X10, hS10, hZ10, hown10, C10, R10, q10, st10⟩ := own_callSW X8 hx hZ8 hown8 (oW hw 5 rfl) (oW hw 6 rfl) (oW hw 2 rfl) (oW hw 7 rfl) (argsL := [(.int cd3)]) (own_str l Z a0 hw [] cz cd3 T8.heap O8 SC hcz) 0 (by decide) (by decide) (by decide) (by decide) (by decide) hS8 (Nat.le_refl _) hEL R8 all0 rfl (g := (mkF m 105 La206 [(.int cd3)])) rfl (by rw [hml]; rfl) [] (lenOf oP609 rfl) rfl (by show 2 * 0 + _ ≤ _; exact Nat.le_of_eq rfl) (hb hby at_105)
 have sf10_r7 := C10.safe f9.lt sf8_r7
 have sf10_r8 := C10.safe B8.lt sf8_n
 obtain ⟨r10, t10, rfl, N10q, K10q, s10q, sf10_n, B10⟩ := q10
 have N10 := Fr.app N8 N10q
 have nf10_r7 : r7 ≠ r10 := Nat.ne_of_lt (Nat.lt_of_lt_of_le f9.lt s10q)
 have nf10_t7 : t7 ≠ r10 := Nat.ne_of_lt (Nat.lt_of_lt_of_le f9.lt2 s10q)
 have nf10_r8 : r8 ≠ r10 := Nat.ne_of_lt (Nat.lt_of_lt_of_le B8.lt s10q)
 have nf10_t8 : t8 ≠ r10 := Nat.ne_of_lt (Nat.lt_of_lt_of_le B8.lt2 s10q)
 have f11 := (f9.keep K10q nin0 nin0)
 have f12 := (B8.keep K10q nin0 nin0)
 have O10 := O8.keep K10q all0
 have nt10_r7 := (OwnStr.nes (a0 := a0) B10 f11 (oW hw 12 rfl))
 have nt10_r8 := (OwnStr.nes (a0 := a0) B10 f12 (oW hw 12 rfl))
 refine own_st (T10.setTop (mkF m 108 La206 [(.ref r10)])) st10 ?_
 let La207 : Array Slot := #[w0, .val (.long i1), .second, .val (.long i2), .second, .val (.int nA), .val (.int nB), .val (.int mpA), .val (.int mpB), .val (.int sf), .val (.int cd1), .val (.int cd2), .val (.int cd3), .val (.int cd4), .val (.int cd5), .val (.int cd6), rv r7, rv r8, rv r10, .unset, .unset, .unset, .unset, .unset, .unset, .unset, .unset, .unset, .unset, .unset, .unset, .unset, .unset, .unset]
 refine oastore X10 hx hby at_108 rfl (by rfl) (L' := La207) rfl 110 rfl ?_
 refine oiload X10 hx hby at_110 rfl 112 rfl ?_
 obtain ⟨v13, T13, L13, X13, hS13, hZ13, hown13, C13, R13, q13, st13⟩ := own_callSW X10 hx hZ10 hown10 (oW hw 5 rfl) (oW hw 6 rfl) (oW hw 2 rfl) (oW hw 7 rfl) (argsL := [(.int cd4)]) (own_str l Z a0 hw [] cz cd4 T10.heap O10 SC hcz) 0 (by decide) (by decide) (by decide) (by decide) (by decide) hS10 (Nat.le_refl _) hEL R10 all0 rfl (g := (mkF m 112 La207 [(.int cd4)])) rfl (by rw [hml]; rfl) [] (lenOf oP609 rfl) rfl (by show 2 * 0 + _ ≤ _; exact Nat.le_of_eq rfl) (hb hby at_112)
 have sf13_r7 := C13.safe f11.lt sf10_r7
 have sf13_r8 := C13.safe f12.lt sf10_r8
 have sf13_r10 := C13.safe B10.lt sf10_n
 obtain ⟨r13, t13, rfl, N13q, K13q, s13q, sf13_n, B13⟩ := q13
 have N13 := Fr.app N10 N13q
 have nf13_r7 : r7 ≠ r13 := Nat.ne_of_lt (Nat.lt_of_lt_of_le f11.lt s13q)
 have nf13_t7 : t7 ≠ r13 := Nat.ne_of_lt (Nat.lt_of_lt_of_le f11.lt2 s13q)
 have nf13_r8 : r8 ≠ r13 := Nat.ne_of_lt (Nat.lt_of_lt_of_le f12.lt s13q)
 have nf13_t8 : t8 ≠ r13 := Nat.ne_of_lt (Nat.lt_of_lt_of_le f12.lt2 s13q)
 have nf13_r10 : r10 ≠ r13 := Nat.ne_of_lt (Nat.lt_of_lt_of_le B10.lt s13q)
 have nf13_t10 : t10 ≠ r13 := Nat.ne_of_lt (Nat.lt_of_lt_of_le B10.lt2 s13q)
 have f14 := (f11.keep K13q nin0 nin0)
 have f15 := (f12.keep K13q nin0 nin0)
 have f16 := (B10.keep K13q nin0 nin0)
 have O13 := O10.keep K13q all0
 have nt13_r7 := (OwnStr.nes (a0 := a0) B13 f14 (oW hw 12 rfl))
 have nt13_r8 := (OwnStr.nes (a0 := a0) B13 f15 (oW hw 12 rfl))
 have nt13_r10 := (OwnStr.nes (a0 := a0) B13 f16 (oW hw 12 rfl))
 refine own_st (T13.setTop (mkF m 115 La207 [(.ref r13)])) st13 ?_
 let La208 : Array Slot := #[w0, .val (.long i1), .second, .val (.long i2), .second, .val (.int nA), .val (.int nB), .val (.int mpA), .val (.int mpB), .val (.int sf), .val (.int cd1), .val (.int cd2), .val (.int cd3), .val (.int cd4), .val (.int cd5), .val (.int cd6), rv r7, rv r8, rv r10, rv r13, .unset, .unset, .unset, .unset, .unset, .unset, .unset, .unset, .unset, .unset, .unset, .unset, .unset, .unset]
 refine oastore X13 hx hby at_115 rfl (by rfl) (L' := La208) rfl 117 rfl ?_
 refine oiload X13 hx hby at_117 rfl 119 rfl ?_
 obtain ⟨v17, T17, L17, X17, hS17, hZ17, hown17, C17, R17, q17, st17⟩ := own_callSW X13 hx hZ13 hown13 (oW hw 5 rfl) (oW hw 6 rfl) (oW hw 2 rfl) (oW hw 7 rfl) (argsL := [(.int cd5)]) (own_str l Z a0 hw [] cz cd5 T13.heap O13 SC hcz) 0 (by decide) (by decide) (by decide) (by decide) (by decide) hS13 (Nat.le_refl _) hEL R13 all0 rfl (g := (mkF m 119 La208 [(.int cd5)])) rfl (by rw [hml]; rfl) [] (lenOf oP609 rfl) rfl (by show 2 * 0 + _ ≤ _; exact Nat.le_of_eq rfl) (hb hby at_119)
 have sf17_r7 := C17.safe f14.lt sf13_r7
 have sf17_r8 := C17.safe f15.lt sf13_r8
 have sf17_r10 := C17.safe f16.lt sf13_r10
 have sf17_r13 := C17.safe B13.lt sf13_n
 obtain ⟨r17, t17, rfl, N17q, K17q, s17q, sf17_n, B17⟩ := q17
 have N17 := Fr.app N13 N17q
 have nf17_r7 : r7 ≠ r17 := Nat.ne_of_lt (Nat.lt_of_lt_of_le f14.lt s17q)
 have nf17_t7 : t7 ≠ r17 := Nat.ne_of_lt (Nat.lt_of_lt_of_le f14.lt2 s17q)
 have nf17_r8 : r8 ≠ r17 := Nat.ne_of_lt (Nat.lt_of_lt_of_le f15.lt s17q)
 have nf17_t8 : t8 ≠ r17 := Nat.ne_of_lt (Nat.lt_of_lt_of_le f15.lt2 s17q)
 have nf17_r10 : r10 ≠ r17 := Nat.ne_of_lt (Nat.lt_of_lt_of_le f16.lt s17q)
 have nf17_t10 : t10 ≠ r17 := Nat.ne_of_lt (Nat.lt_of_lt_of_le f16.lt2 s17q)
 have nf17_r13 : r13 ≠ r17 := Nat.ne_of_lt (Nat.lt_of_lt_of_le B13.lt s17q)
 have nf17_t13 : t13 ≠ r17 := Nat.ne_of_lt (Nat.lt_of_lt_of_le B13.lt2 s17q)
 have f18 := (f14.keep K17q nin0 nin0)
 have f19 := (f15.keep K17q nin0 nin0)
 have f20 := (f16.keep K17q nin0 nin0)
 have f21 := (B13.keep K17q nin0 nin0)
 have O17 := O13.keep K17q all0
 have nt17_r7 := (OwnStr.nes (a0 := a0) B17 f18 (oW hw 12 rfl))
 have nt17_r8 := (OwnStr.nes (a0 := a0) B17 f19 (oW hw 12 rfl))
 have nt17_r10 := (OwnStr.nes (a0 := a0) B17 f20 (oW hw 12 rfl))
 have nt17_r13 := (OwnStr.nes (a0 := a0) B17 f21 (oW hw 12 rfl))
 refine own_st (T17.setTop (mkF m 122 La208 [(.ref r17)])) st17 ?_
 let La209 : Array Slot := #[w0, .val (.long i1), .second, .val (.long i2), .second, .val (.int nA), .val (.int nB), .val (.int mpA), .val (.int mpB), .val (.int sf), .val (.int cd1), .val (.int cd2), .val (.int cd3), .val (.int cd4), .val (.int cd5), .val (.int cd6), rv r7, rv r8, rv r10, rv r13, rv r17, .unset, .unset, .unset, .unset, .unset, .unset, .unset, .unset, .unset, .unset, .unset, .unset, .unset]
 refine oastore X17 hx hby at_122 rfl (by rfl) (L' := La209) rfl 124 rfl ?_
 refine oiload X17 hx hby at_124 rfl 126 rfl ?_
 obtain ⟨v22, T22, L22, X22, hS22, hZ22, hown22, C22, R22, q22, st22⟩ := own_callSW X17 hx hZ17 hown17 (oW hw 5 rfl) (oW hw 6 rfl) (oW hw 2 rfl) (oW hw 7 rfl) (argsL := [(.int cd6)]) (own_str l Z a0 hw [] cz cd6 T17.heap O17 SC hcz) 0 (by decide) (by decide) (by decide) (by decide) (by decide) hS17 (Nat.le_refl _) hEL R17 all0 rfl (g := (mkF m 126 La209 [(.int cd6)])) rfl (by rw [hml]; rfl) [] (lenOf oP609 rfl) rfl (by show 2 * 0 + _ ≤ _; exact Nat.le_of_eq rfl) (hb hby at_126)
 have sf22_r7 := C22.safe f18.lt sf17_r7
 have sf22_r8 := C22.safe f19.lt sf17_r8
 have sf22_r10 := C22.safe f20.lt sf17_r10
 have sf22_r13 := C22.safe f21.lt sf17_r13
 have sf22_r17 := C22.safe B17.lt sf17_n
 obtain ⟨r22, t22, rfl, N22q, K22q, s22q, sf22_n, B22⟩ := q22
 have N22 := Fr.app N17 N22q
 have nf22_r7 : r7 ≠ r22 := Nat.ne_of_lt (Nat.lt_of_lt_of_le f18.lt s22q)
 have nf22_t7 : t7 ≠ r22 := Nat.ne_of_lt (Nat.lt_of_lt_of_le f18.lt2 s22q)
 have nf22_r8 : r8 ≠ r22 := Nat.ne_of_lt (Nat.lt_of_lt_of_le f19.lt s22q)
 have nf22_t8 : t8 ≠ r22 := Nat.ne_of_lt (Nat.lt_of_lt_of_le f19.lt2 s22q)
 have nf22_r10 : r10 ≠ r22 := Nat.ne_of_lt (Nat.lt_of_lt_of_le f20.lt s22q)
 have nf22_t10 : t10 ≠ r22 := Nat.ne_of_lt (Nat.lt_of_lt_of_le f20.lt2 s22q)
 have nf22_r13 : r13 ≠ r22 := Nat.ne_of_lt (Nat.lt_of_lt_of_le f21.lt s22q)
 have nf22_t13 : t13 ≠ r22 := Nat.ne_of_lt (Nat.lt_of_lt_of_le f21.lt2 s22q)
 have nf22_r17 : r17 ≠ r22 := Nat.ne_of_lt (Nat.lt_of_lt_of_le B17.lt s22q)
 have nf22_t17 : t17 ≠ r22 := Nat.ne_of_lt (Nat.lt_of_lt_of_le B17.lt2 s22q)
 have f23 := (f18.keep K22q nin0 nin0)
 have f24 := (f19.keep K22q nin0 nin0)
 have f25 := (f20.keep K22q nin0 nin0)
 have f26 := (f21.keep K22q nin0 nin0)
 have f27 := (B17.keep K22q nin0 nin0)
 have O22 := O17.keep K22q all0
 have nt22_r7 := (OwnStr.nes (a0 := a0) B22 f23 (oW hw 12 rfl))
 have nt22_r8 := (OwnStr.nes (a0 := a0) B22 f24 (oW hw 12 rfl))
 have nt22_r10 := (OwnStr.nes (a0 := a0) B22 f25 (oW hw 12 rfl))
 have nt22_r13 := (OwnStr.nes (a0 := a0) B22 f26 (oW hw 12 rfl))
 have nt22_r17 := (OwnStr.nes (a0 := a0) B22 f27 (oW hw 12 rfl))
 refine own_st (T22.setTop (mkF m 129 La209 [(.ref r22)])) st22 ?_
 let La210 : Array Slot := #[w0, .val (.long i1), .second, .val (.long i2), .second, .val (.int nA), .val (.int nB), .val (.int mpA), .val (.int mpB), .val (.int sf), .val (.int cd1), .val (.int cd2), .val (.int cd3), .val (.int cd4), .val (.int cd5), .val (.int cd6), rv r7, rv r8, rv r10, rv r13, rv r17, rv r22, .unset, .unset, .unset, .unset, .unset, .unset, .unset, .unset, .unset, .unset, .unset, .unset]
 refine oastore X22 hx hby at_129 rfl (by rfl) (L' := La210) rfl 131 rfl ?_
 refine oiload X22 hx hby at_131 rfl 133 rfl ?_
 obtain ⟨v28, T28, L28, X28, q28, st28⟩ := own_callS X22 hx hZ22 hown22 (oW hw 58 rfl) (oW hw 59 rfl) (oW hw 2 rfl) (oW hw 60 rfl) (argsL := [(.int cd1)]) (own_lheld l Z a0 hw [] cd1 T22.heap O22) 0 (by decide) (by decide) (by decide) (by decide) (by decide) rfl (g := (mkF m 133 La210 [(.int cd1)])) rfl (by rw [hml]; rfl) [] (lenOf oP55 rfl) rfl (by show 2 * 0 + _ ≤ _; exact Nat.le_of_eq rfl) (hb hby at_133)
 obtain ⟨rfl, N28q, e28⟩ := q28
 have N28 := Fr.app N22 N28q
 refine own_st (T28.setTop (mkF m 136 La210 [(.int (own_hd (own_hc cd1)))])) st28 ?_
 let La211 : Array Slot := #[w0, .val (.long i1), .second, .val (.long i2), .second, .val (.int nA), .val (.int nB), .val (.int mpA), .val (.int mpB), .val (.int sf), .val (.int cd1), .val (.int cd2), .val (.int cd3), .val (.int cd4), .val (.int cd5), .val (.int cd6), rv r7, rv r8, rv r10, rv r13, rv r17, rv r22, .val (.int (own_hd (own_hc cd1))), .unset, .unset, .unset, .unset, .unset, .unset, .unset, .unset, .unset, .unset, .unset]
 refine oistore X28 hx hby at_136 rfl (L' := La211) rfl 138 rfl ?_
 refine oiload X28 hx hby at_138 rfl 140 rfl ?_
 obtain ⟨v29, T29, L29, X29, q29, st29⟩ := own_callS X28 hx hZ22 hown22 (oW hw 58 rfl) (oW hw 59 rfl) (oW hw 2 rfl) (oW hw 60 rfl) (argsL := [(.int cd2)]) (own_lheld l Z a0 hw [] cd2 T22.heap O22) 0 (by decide) (by decide) (by decide) (by decide) (by decide) e28 (g := (mkF m 140 La211 [(.int cd2)])) rfl (by rw [hml]; rfl) [] (lenOf oP55 rfl) rfl (by show 2 * 0 + _ ≤ _; exact Nat.le_of_eq rfl) (hb hby at_140)
 obtain ⟨rfl, N29q, e29⟩ := q29
 have N29 := Fr.app N28 N29q
 refine own_st (T29.setTop (mkF m 143 La211 [(.int (own_hd (own_hc cd2)))])) st29 ?_
 let La212 : Array Slot := #[w0, .val (.long i1), .second, .val (.long i2), .second, .val (.int nA), .val (.int nB), .val (.int mpA), .val (.int mpB), .val (.int sf), .val (.int cd1), .val (.int cd2), .val (.int cd3), .val (.int cd4), .val (.int cd5), .val (.int cd6), rv r7, rv r8, rv r10, rv r13, rv r17, rv r22, .val (.int (own_hd (own_hc cd1))), .val (.int (own_hd (own_hc cd2))), .unset, .unset, .unset, .unset, .unset, .unset, .unset, .unset, .unset, .unset]
 refine oistore X29 hx hby at_143 rfl (L' := La212) rfl 145 rfl ?_
 refine oiload X29 hx hby at_145 rfl 147 rfl ?_
 obtain ⟨v30, T30, L30, X30, q30, st30⟩ := own_callS X29 hx hZ22 hown22 (oW hw 58 rfl) (oW hw 59 rfl) (oW hw 2 rfl) (oW hw 60 rfl) (argsL := [(.int cd3)]) (own_lheld l Z a0 hw [] cd3 T22.heap O22) 0 (by decide) (by decide) (by decide) (by decide) (by decide) e29 (g := (mkF m 147 La212 [(.int cd3)])) rfl (by rw [hml]; rfl) [] (lenOf oP55 rfl) rfl (by show 2 * 0 + _ ≤ _; exact Nat.le_of_eq rfl) (hb hby at_147)
 obtain ⟨rfl, N30q, e30⟩ := q30
 have N30 := Fr.app N29 N30q
 refine own_st (T30.setTop (mkF m 150 La212 [(.int (own_hd (own_hc cd3)))])) st30 ?_
 let La213 : Array Slot := #[w0, .val (.long i1), .second, .val (.long i2), .second, .val (.int nA), .val (.int nB), .val (.int mpA), .val (.int mpB), .val (.int sf), .val (.int cd1), .val (.int cd2), .val (.int cd3), .val (.int cd4), .val (.int cd5), .val (.int cd6), rv r7, rv r8, rv r10, rv r13, rv r17, rv r22, .val (.int (own_hd (own_hc cd1))), .val (.int (own_hd (own_hc cd2))), .val (.int (own_hd (own_hc cd3))), .unset, .unset, .unset, .unset, .unset, .unset, .unset, .unset, .unset]
 refine oistore X30 hx hby at_150 rfl (L' := La213) rfl 152 rfl ?_
 refine oiload X30 hx hby at_152 rfl 154 rfl ?_
 obtain ⟨v31, T31, L31, X31, q31, st31⟩ := own_callS X30 hx hZ22 hown22 (oW hw 58 rfl) (oW hw 59 rfl) (oW hw 2 rfl) (oW hw 60 rfl) (argsL := [(.int cd4)]) (own_lheld l Z a0 hw [] cd4 T22.heap O22) 0 (by decide) (by decide) (by decide) (by decide) (by decide) e30 (g := (mkF m 154 La213 [(.int cd4)])) rfl (by rw [hml]; rfl) [] (lenOf oP55 rfl) rfl (by show 2 * 0 + _ ≤ _; exact Nat.le_of_eq rfl) (hb hby at_154)
 obtain ⟨rfl, N31q, e31⟩ := q31
 have N31 := Fr.app N30 N31q
 refine own_st (T31.setTop (mkF m 157 La213 [(.int (own_hd (own_hc cd4)))])) st31 ?_
 let La214 : Array Slot := #[w0, .val (.long i1), .second, .val (.long i2), .second, .val (.int nA), .val (.int nB), .val (.int mpA), .val (.int mpB), .val (.int sf), .val (.int cd1), .val (.int cd2), .val (.int cd3), .val (.int cd4), .val (.int cd5), .val (.int cd6), rv r7, rv r8, rv r10, rv r13, rv r17, rv r22, .val (.int (own_hd (own_hc cd1))), .val (.int (own_hd (own_hc cd2))), .val (.int (own_hd (own_hc cd3))), .val (.int (own_hd (own_hc cd4))), .unset, .unset, .unset, .unset, .unset, .unset, .unset, .unset]
 refine oistore X31 hx hby at_157 rfl (L' := La214) rfl 159 rfl ?_
 refine oiload X31 hx hby at_159 rfl 161 rfl ?_
 obtain ⟨v32, T32, L32, X32, q32, st32⟩ := own_callS X31 hx hZ22 hown22 (oW hw 58 rfl) (oW hw 59 rfl) (oW hw 2 rfl) (oW hw 60 rfl) (argsL := [(.int cd5)]) (own_lheld l Z a0 hw [] cd5 T22.heap O22) 0 (by decide) (by decide) (by decide) (by decide) (by decide) e31 (g := (mkF m 161 La214 [(.int cd5)])) rfl (by rw [hml]; rfl) [] (lenOf oP55 rfl) rfl (by show 2 * 0 + _ ≤ _; exact Nat.le_of_eq rfl) (hb hby at_161)
 obtain ⟨rfl, N32q, e32⟩ := q32
 have N32 := Fr.app N31 N32q
 refine own_st (T32.setTop (mkF m 164 La214 [(.int (own_hd (own_hc cd5)))])) st32 ?_
 let La215 : Array Slot := #[w0, .val (.long i1), .second, .val (.long i2), .second, .val (.int nA), .val (.int nB), .val (.int mpA), .val (.int mpB), .val (.int sf), .val (.int cd1), .val (.int cd2), .val (.int cd3), .val (.int cd4), .val (.int cd5), .val (.int cd6), rv r7, rv r8, rv r10, rv r13, rv r17, rv r22, .val (.int (own_hd (own_hc cd1))), .val (.int (own_hd (own_hc cd2))), .val (.int (own_hd (own_hc cd3))), .val (.int (own_hd (own_hc cd4))), .val (.int (own_hd (own_hc cd5))), .unset, .unset, .unset, .unset, .unset, .unset, .unset]
 refine oistore X32 hx hby at_164 rfl (L' := La215) rfl 166 rfl ?_
 refine oiload X32 hx hby at_166 rfl 168 rfl ?_
 obtain ⟨v33, T33, L33, X33, q33, st33⟩ := own_callS X32 hx hZ22 hown22 (oW hw 58 rfl) (oW hw 59 rfl) (oW hw 2 rfl) (oW hw 60 rfl) (argsL := [(.int cd6)]) (own_lheld l Z a0 hw [] cd6 T22.heap O22) 0 (by decide) (by decide) (by decide) (by decide) (by decide) e32 (g := (mkF m 168 La215 [(.int cd6)])) rfl (by rw [hml]; rfl) [] (lenOf oP55 rfl) rfl (by show 2 * 0 + _ ≤ _; exact Nat.le_of_eq rfl) (hb hby at_168)
 obtain ⟨rfl, N33q, e33⟩ := q33
 have N33 := Fr.app N32 N33q
 refine own_st (T33.setTop (mkF m 171 La215 [(.int (own_hd (own_hc cd6)))])) st33 ?_
 let La216 : Array Slot := #[w0, .val (.long i1), .second, .val (.long i2), .second, .val (.int nA), .val (.int nB), .val (.int mpA), .val (.int mpB), .val (.int sf), .val (.int cd1), .val (.int cd2), .val (.int cd3), .val (.int cd4), .val (.int cd5), .val (.int cd6), rv r7, rv r8, rv r10, rv r13, rv r17, rv r22, .val (.int (own_hd (own_hc cd1))), .val (.int (own_hd (own_hc cd2))), .val (.int (own_hd (own_hc cd3))), .val (.int (own_hd (own_hc cd4))), .val (.int (own_hd (own_hc cd5))), .val (.int (own_hd (own_hc cd6))), .unset, .unset, .unset, .unset, .unset, .unset]
 refine oistore X33 hx hby at_171 rfl (L' := La216) rfl 173 rfl ?_
 obtain ⟨T34, h34, X34, e34, E34, A34, D34, -, st34⟩ := newO X33 hx hZ22 hown22 (oW hw 61 rfl) (oW hw 62 rfl) (oW hw 63 rfl) e33 (g := (mkF m 173 La216 [])) rfl (hb hby at_173) (by decide) (by decide)
 obtain ⟨b34, g34⟩ : ∃ z, z = T22.heap.size := ⟨_, rfl⟩
 have z34 : Z.heap.size ≤ b34 := Nat.le_trans O22.2.1 (Nat.le_of_eq g34.symm)
 have ner7_34 : r7 ≠ b34 := Nat.ne_of_lt (Nat.lt_of_lt_of_le f23.lt (Nat.le_of_eq g34.symm))
 have net7_34 : t7 ≠ b34 := Nat.ne_of_lt (Nat.lt_of_lt_of_le f23.lt2 (Nat.le_of_eq g34.symm))
 have ner8_34 : r8 ≠ b34 := Nat.ne_of_lt (Nat.lt_of_lt_of_le f24.lt (Nat.le_of_eq g34.symm))
 have net8_34 : t8 ≠ b34 := Nat.ne_of_lt (Nat.lt_of_lt_of_le f24.lt2 (Nat.le_of_eq g34.symm))
 have ner10_34 : r10 ≠ b34 := Nat.ne_of_lt (Nat.lt_of_lt_of_le f25.lt (Nat.le_of_eq g34.symm))
 have net10_34 : t10 ≠ b34 := Nat.ne_of_lt (Nat.lt_of_lt_of_le f25.lt2 (Nat.le_of_eq g34.symm))
 have ner13_34 : r13 ≠ b34 := Nat.ne_of_lt (Nat.lt_of_lt_of_le f26.lt (Nat.le_of_eq g34.symm))
 have net13_34 : t13 ≠ b34 := Nat.ne_of_lt (Nat.lt_of_lt_of_le f26.lt2 (Nat.le_of_eq g34.symm))
 have ner17_34 : r17 ≠ b34 := Nat.ne_of_lt (Nat.lt_of_lt_of_le f27.lt (Nat.le_of_eq g34.symm))
 have net17_34 : t17 ≠ b34 := Nat.ne_of_lt (Nat.lt_of_lt_of_le f27.lt2 (Nat.le_of_eq g34.symm))
 have ner22_34 : r22 ≠ b34 := Nat.ne_of_lt (Nat.lt_of_lt_of_le B22.lt (Nat.le_of_eq g34.symm))
 have net22_34 : t22 ≠ b34 := Nat.ne_of_lt (Nat.lt_of_lt_of_le B22.lt2 (Nat.le_of_eq g34.symm))
 rw [← g34] at A34 D34 st34
 have f35 := (f23.ext E34)
 have f36 := (f24.ext E34)
 have f37 := (f25.ext E34)
 have f38 := (f26.ext E34)
 have f39 := (f27.ext E34)
 have f40 := (B22.ext E34)
 have R34 := R22.trans (CHr.ext E34 R22.1)
 have sf34_r7 := Safe.ext E34 R22.1 sf22_r7
 have sf34_r8 := Safe.ext E34 R22.1 sf22_r8
 have sf34_r10 := Safe.ext E34 R22.1 sf22_r10
 have sf34_r13 := Safe.ext E34 R22.1 sf22_r13
 have sf34_r17 := Safe.ext E34 R22.1 sf22_r17
 have sf34_r22 := Safe.ext E34 R22.1 sf22_n
 have sf34_b34 := Safe.ext E34 R22.1 (Safe.new (Nat.le_of_eq g34.symm))
 have O34 := O22.ext E34
 have f41 : oF2 Z h34 b34 .null := D34 (Or.inl (oW hw 70 rfl)) (ty := (.array .int)) (by decide)
 have f42 : oF4 Z h34 b34 .null := D34 (Or.inl (oW hw 72 rfl)) (ty := (.array .int)) (by decide)
 have f43 : oF6 Z h34 b34 (.int 0) := D34 (Or.inr (oW hw 74 rfl)) (ty := .int) (by decide)
 have f44 : oF5 Z h34 b34 (.int 0) := D34 (Or.inl (oW hw 81 rfl)) (ty := .int) (by decide)
 have f45 : oF3 Z h34 b34 (.int 0) := D34 (Or.inl (oW hw 121 rfl)) (ty := .int) (by decide)
 refine own_st (T34.setTop (mkF m 176 La216 [(.ref b34)])) st34 ?_
 refine odup X34 hx hby at_176 rfl (by rfl) 177 rfl ?_
 refine oiload X34 hx hby at_177 rfl 179 rfl ?_
 obtain ⟨v46, T46, L46, X46, q46, st46⟩ := own_callI X34 hx hZ22 hown22 (y := oM27) rfl (oW hw 64 rfl) (oW hw 65 rfl) (oW hw 63 rfl) (oW hw 66 rfl) (a := b34) (argsL := [(.int mpA)]) (own_shinit l Z a0 hw [] b34 mpA h34 O34 A34 z34 f41 f45 f42 f44 f43 hmA) 1 (by decide) (by decide) (by decide) (by decide) (by decide) e34 (g := (mkF m 179 La216 [(.int mpA), (.ref b34), (.ref b34)])) rfl (by rw [hml]; rfl) [(.ref b34)] (lenOf oP610 rfl) rfl (by show 2 * 0 + _ ≤ _; exact Nat.le_of_eq rfl) (hb hby at_179)
 obtain ⟨sl46, pe46, rfl, N46q, K46q, s46q, s46p, R46q⟩ := q46
 have N46 := Fr.app N33 N46q
 have nf46_r7 : r7 ≠ sl46 := Nat.ne_of_lt (Nat.lt_of_lt_of_le f35.lt s46q)
 have nf46_t7 : t7 ≠ sl46 := Nat.ne_of_lt (Nat.lt_of_lt_of_le f35.lt2 s46q)
 have nf46_r8 : r8 ≠ sl46 := Nat.ne_of_lt (Nat.lt_of_lt_of_le f36.lt s46q)
 have nf46_t8 : t8 ≠ sl46 := Nat.ne_of_lt (Nat.lt_of_lt_of_le f36.lt2 s46q)
 have nf46_r10 : r10 ≠ sl46 := Nat.ne_of_lt (Nat.lt_of_lt_of_le f37.lt s46q)
 have nf46_t10 : t10 ≠ sl46 := Nat.ne_of_lt (Nat.lt_of_lt_of_le f37.lt2 s46q)
 have nf46_r13 : r13 ≠ sl46 := Nat.ne_of_lt (Nat.lt_of_lt_of_le f38.lt s46q)
 have nf46_t13 : t13 ≠ sl46 := Nat.ne_of_lt (Nat.lt_of_lt_of_le f38.lt2 s46q)
 have nf46_r17 : r17 ≠ sl46 := Nat.ne_of_lt (Nat.lt_of_lt_of_le f39.lt s46q)
 have nf46_t17 : t17 ≠ sl46 := Nat.ne_of_lt (Nat.lt_of_lt_of_le f39.lt2 s46q)
 have nf46_r22 : r22 ≠ sl46 := Nat.ne_of_lt (Nat.lt_of_lt_of_le f40.lt s46q)
 have nf46_t22 : t22 ≠ sl46 := Nat.ne_of_lt (Nat.lt_of_lt_of_le f40.lt2 s46q)
 have nf46_b34 : b34 ≠ sl46 := Nat.ne_of_lt (Nat.lt_of_lt_of_le A34.lt s46q)
 have nf46p_r7 : r7 ≠ pe46 := Nat.ne_of_lt (Nat.lt_of_lt_of_le f35.lt s46p)
 have nf46p_t7 : t7 ≠ pe46 := Nat.ne_of_lt (Nat.lt_of_lt_of_le f35.lt2 s46p)
 have nf46p_r8 : r8 ≠ pe46 := Nat.ne_of_lt (Nat.lt_of_lt_of_le f36.lt s46p)
 have nf46p_t8 : t8 ≠ pe46 := Nat.ne_of_lt (Nat.lt_of_lt_of_le f36.lt2 s46p)
 have nf46p_r10 : r10 ≠ pe46 := Nat.ne_of_lt (Nat.lt_of_lt_of_le f37.lt s46p)
 have nf46p_t10 : t10 ≠ pe46 := Nat.ne_of_lt (Nat.lt_of_lt_of_le f37.lt2 s46p)
 have nf46p_r13 : r13 ≠ pe46 := Nat.ne_of_lt (Nat.lt_of_lt_of_le f38.lt s46p)
 have nf46p_t13 : t13 ≠ pe46 := Nat.ne_of_lt (Nat.lt_of_lt_of_le f38.lt2 s46p)
 have nf46p_r17 : r17 ≠ pe46 := Nat.ne_of_lt (Nat.lt_of_lt_of_le f39.lt s46p)
 have nf46p_t17 : t17 ≠ pe46 := Nat.ne_of_lt (Nat.lt_of_lt_of_le f39.lt2 s46p)
 have nf46p_r22 : r22 ≠ pe46 := Nat.ne_of_lt (Nat.lt_of_lt_of_le f40.lt s46p)
 have nf46p_t22 : t22 ≠ pe46 := Nat.ne_of_lt (Nat.lt_of_lt_of_le f40.lt2 s46p)
 have nf46p_b34 : b34 ≠ pe46 := Nat.ne_of_lt (Nat.lt_of_lt_of_le A34.lt s46p)
 have z46 : Z.heap.size ≤ sl46 := Nat.le_trans O34.2.1 s46q
 have z46p : Z.heap.size ≤ pe46 := Nat.le_trans O34.2.1 s46p
 have f47 := (f35.keep K46q (ninS ner7_34 nin0) (ninS net7_34 nin0))
 have f48 := (f36.keep K46q (ninS ner8_34 nin0) (ninS net8_34 nin0))
 have f49 := (f37.keep K46q (ninS ner10_34 nin0) (ninS net10_34 nin0))
 have f50 := (f38.keep K46q (ninS ner13_34 nin0) (ninS net13_34 nin0))
 have f51 := (f39.keep K46q (ninS ner17_34 nin0) (ninS net17_34 nin0))
 have f52 := (f40.keep K46q (ninS ner22_34 nin0) (ninS net22_34 nin0))
 have f53 := (A34.keep K46q)
 have O46 := O34.keep K46q (allS z34 all0)
 have R46 := R34.trans (CHr.keep K46q (allS sf34_b34 all0) R34.1)
 have sf46_r7 := Safe.keep K46q (allS sf34_b34 all0) R34.1 sf34_r7
 have sf46_r8 := Safe.keep K46q (allS sf34_b34 all0) R34.1 sf34_r8
 have sf46_r10 := Safe.keep K46q (allS sf34_b34 all0) R34.1 sf34_r10
 have sf46_r13 := Safe.keep K46q (allS sf34_b34 all0) R34.1 sf34_r13
 have sf46_r17 := Safe.keep K46q (allS sf34_b34 all0) R34.1 sf34_r17
 have sf46_r22 := Safe.keep K46q (allS sf34_b34 all0) R34.1 sf34_r22
 have sf46_b34 := Safe.keep K46q (allS sf34_b34 all0) R34.1 sf34_b34
 have sf46_sl46 := Safe.keep K46q (allS sf34_b34 all0) R34.1 (Safe.new s46q)
 have sf46_pe46 := Safe.keep K46q (allS sf34_b34 all0) R34.1 (Safe.new s46p)
 refine own_st (T46.setTop (mkF m 182 La216 [(.ref b34)])) st46 ?_
 let La217 : Array Slot := #[w0, .val (.long i1), .second, .val (.long i2), .second, .val (.int nA), .val (.int nB), .val (.int mpA), .val (.int mpB), .val (.int sf), .val (.int cd1), .val (.int cd2), .val (.int cd3), .val (.int cd4), .val (.int cd5), .val (.int cd6), rv r7, rv r8, rv r10, rv r13, rv r17, rv r22, .val (.int (own_hd (own_hc cd1))), .val (.int (own_hd (own_hc cd2))), .val (.int (own_hd (own_hc cd3))), .val (.int (own_hd (own_hc cd4))), .val (.int (own_hd (own_hc cd5))), .val (.int (own_hd (own_hc cd6))), rv b34, .unset, .unset, .unset, .unset, .unset]
 refine oastore X46 hx hby at_182 rfl (by rfl) (L' := La217) rfl 184 rfl ?_
 obtain ⟨T59, h59, X59, e59, E59, A59, D59, -, st59⟩ := newO X46 hx hZ22 hown22 (oW hw 61 rfl) (oW hw 62 rfl) (oW hw 63 rfl) rfl (g := (mkF m 184 La217 [])) rfl (hb hby at_184) (by decide) (by decide)
 obtain ⟨b59, g59⟩ : ∃ z, z = T46.heap.size := ⟨_, rfl⟩
 have z59 : Z.heap.size ≤ b59 := Nat.le_trans O46.2.1 (Nat.le_of_eq g59.symm)
 have ner7_59 : r7 ≠ b59 := Nat.ne_of_lt (Nat.lt_of_lt_of_le f47.lt (Nat.le_of_eq g59.symm))
 have net7_59 : t7 ≠ b59 := Nat.ne_of_lt (Nat.lt_of_lt_of_le f47.lt2 (Nat.le_of_eq g59.symm))
 have ner8_59 : r8 ≠ b59 := Nat.ne_of_lt (Nat.lt_of_lt_of_le f48.lt (Nat.le_of_eq g59.symm))
 have net8_59 : t8 ≠ b59 := Nat.ne_of_lt (Nat.lt_of_lt_of_le f48.lt2 (Nat.le_of_eq g59.symm))
 have ner10_59 : r10 ≠ b59 := Nat.ne_of_lt (Nat.lt_of_lt_of_le f49.lt (Nat.le_of_eq g59.symm))
 have net10_59 : t10 ≠ b59 := Nat.ne_of_lt (Nat.lt_of_lt_of_le f49.lt2 (Nat.le_of_eq g59.symm))
 have ner13_59 : r13 ≠ b59 := Nat.ne_of_lt (Nat.lt_of_lt_of_le f50.lt (Nat.le_of_eq g59.symm))
 have net13_59 : t13 ≠ b59 := Nat.ne_of_lt (Nat.lt_of_lt_of_le f50.lt2 (Nat.le_of_eq g59.symm))
 have ner17_59 : r17 ≠ b59 := Nat.ne_of_lt (Nat.lt_of_lt_of_le f51.lt (Nat.le_of_eq g59.symm))
 have net17_59 : t17 ≠ b59 := Nat.ne_of_lt (Nat.lt_of_lt_of_le f51.lt2 (Nat.le_of_eq g59.symm))
 have ner22_59 : r22 ≠ b59 := Nat.ne_of_lt (Nat.lt_of_lt_of_le f52.lt (Nat.le_of_eq g59.symm))
 have net22_59 : t22 ≠ b59 := Nat.ne_of_lt (Nat.lt_of_lt_of_le f52.lt2 (Nat.le_of_eq g59.symm))
 have neb34_59 : b34 ≠ b59 := Nat.ne_of_lt (Nat.lt_of_lt_of_le f53.lt (Nat.le_of_eq g59.symm))
 have nesl46_59 : sl46 ≠ b59 := Nat.ne_of_lt (Nat.lt_of_lt_of_le R46q.lt2 (Nat.le_of_eq g59.symm))
 have nepe46_59 : pe46 ≠ b59 := Nat.ne_of_lt (Nat.lt_of_lt_of_le R46q.lt3 (Nat.le_of_eq g59.symm))
 rw [← g59] at A59 D59 st59
 have f60 := (f47.ext E59)
 have f61 := (f48.ext E59)
 have f62 := (f49.ext E59)
 have f63 := (f50.ext E59)
 have f64 := (f51.ext E59)
 have f65 := (f52.ext E59)
 have f66 := (f53.ext E59)
 have f67 := (R46q.ext E59)
 have R59 := R46.trans (CHr.ext E59 R46.1)
 have sf59_r7 := Safe.ext E59 R46.1 sf46_r7
 have sf59_r8 := Safe.ext E59 R46.1 sf46_r8
 have sf59_r10 := Safe.ext E59 R46.1 sf46_r10
 have sf59_r13 := Safe.ext E59 R46.1 sf46_r13
 have sf59_r17 := Safe.ext E59 R46.1 sf46_r17
 have sf59_r22 := Safe.ext E59 R46.1 sf46_r22
 have sf59_b34 := Safe.ext E59 R46.1 sf46_b34
 have sf59_sl46 := Safe.ext E59 R46.1 sf46_sl46
 have sf59_pe46 := Safe.ext E59 R46.1 sf46_pe46
 have sf59_b59 := Safe.ext E59 R46.1 (Safe.new (Nat.le_of_eq g59.symm))
 have O59 := O46.ext E59
 have f68 : oF2 Z h59 b59 .null := D59 (Or.inl (oW hw 70 rfl)) (ty := (.array .int)) (by decide)
 have f69 : oF4 Z h59 b59 .null := D59 (Or.inl (oW hw 72 rfl)) (ty := (.array .int)) (by decide)
 have f70 : oF6 Z h59 b59 (.int 0) := D59 (Or.inr (oW hw 74 rfl)) (ty := .int) (by decide)
 have f71 : oF5 Z h59 b59 (.int 0) := D59 (Or.inl (oW hw 81 rfl)) (ty := .int) (by decide)
 have f72 : oF3 Z h59 b59 (.int 0) := D59 (Or.inl (oW hw 121 rfl)) (ty := .int) (by decide)
 refine own_st (T59.setTop (mkF m 187 La217 [(.ref b59)])) st59 ?_
 refine odup X59 hx hby at_187 rfl (by rfl) 188 rfl ?_
 refine oiload X59 hx hby at_188 rfl 190 rfl ?_
 obtain ⟨v73, T73, L73, X73, q73, st73⟩ := own_callI X59 hx hZ22 hown22 (y := oM27) rfl (oW hw 64 rfl) (oW hw 65 rfl) (oW hw 63 rfl) (oW hw 66 rfl) (a := b59) (argsL := [(.int mpB)]) (own_shinit l Z a0 hw [] b59 mpB h59 O59 A59 z59 f68 f72 f69 f71 f70 hmB) 1 (by decide) (by decide) (by decide) (by decide) (by decide) e59 (g := (mkF m 190 La217 [(.int mpB), (.ref b59), (.ref b59)])) rfl (by rw [hml]; rfl) [(.ref b59)] (lenOf oP610 rfl) rfl (by show 2 * 0 + _ ≤ _; exact Nat.le_of_eq rfl) (hb hby at_190)
 obtain ⟨sl73, pe73, rfl, N73q, K73q, s73q, s73p, R73q⟩ := q73
 have N73 := Fr.app N46 N73q
 have nf73_r7 : r7 ≠ sl73 := Nat.ne_of_lt (Nat.lt_of_lt_of_le f60.lt s73q)
 have nf73_t7 : t7 ≠ sl73 := Nat.ne_of_lt (Nat.lt_of_lt_of_le f60.lt2 s73q)
 have nf73_r8 : r8 ≠ sl73 := Nat.ne_of_lt (Nat.lt_of_lt_of_le f61.lt s73q)
 have nf73_t8 : t8 ≠ sl73 := Nat.ne_of_lt (Nat.lt_of_lt_of_le f61.lt2 s73q)
 have nf73_r10 : r10 ≠ sl73 := Nat.ne_of_lt (Nat.lt_of_lt_of_le f62.lt s73q)
 have nf73_t10 : t10 ≠ sl73 := Nat.ne_of_lt (Nat.lt_of_lt_of_le f62.lt2 s73q)
 have nf73_r13 : r13 ≠ sl73 := Nat.ne_of_lt (Nat.lt_of_lt_of_le f63.lt s73q)
 have nf73_t13 : t13 ≠ sl73 := Nat.ne_of_lt (Nat.lt_of_lt_of_le f63.lt2 s73q)
 have nf73_r17 : r17 ≠ sl73 := Nat.ne_of_lt (Nat.lt_of_lt_of_le f64.lt s73q)
 have nf73_t17 : t17 ≠ sl73 := Nat.ne_of_lt (Nat.lt_of_lt_of_le f64.lt2 s73q)
 have nf73_r22 : r22 ≠ sl73 := Nat.ne_of_lt (Nat.lt_of_lt_of_le f65.lt s73q)
 have nf73_t22 : t22 ≠ sl73 := Nat.ne_of_lt (Nat.lt_of_lt_of_le f65.lt2 s73q)
 have nf73_b34 : b34 ≠ sl73 := Nat.ne_of_lt (Nat.lt_of_lt_of_le f66.lt s73q)
 have nf73_sl46 : sl46 ≠ sl73 := Nat.ne_of_lt (Nat.lt_of_lt_of_le f67.lt2 s73q)
 have nf73_pe46 : pe46 ≠ sl73 := Nat.ne_of_lt (Nat.lt_of_lt_of_le f67.lt3 s73q)
 have nf73_b59 : b59 ≠ sl73 := Nat.ne_of_lt (Nat.lt_of_lt_of_le A59.lt s73q)
 have nf73p_r7 : r7 ≠ pe73 := Nat.ne_of_lt (Nat.lt_of_lt_of_le f60.lt s73p)
 have nf73p_t7 : t7 ≠ pe73 := Nat.ne_of_lt (Nat.lt_of_lt_of_le f60.lt2 s73p)
 have nf73p_r8 : r8 ≠ pe73 := Nat.ne_of_lt (Nat.lt_of_lt_of_le f61.lt s73p)
 have nf73p_t8 : t8 ≠ pe73 := Nat.ne_of_lt (Nat.lt_of_lt_of_le f61.lt2 s73p)
 have nf73p_r10 : r10 ≠ pe73 := Nat.ne_of_lt (Nat.lt_of_lt_of_le f62.lt s73p)
 have nf73p_t10 : t10 ≠ pe73 := Nat.ne_of_lt (Nat.lt_of_lt_of_le f62.lt2 s73p)
 have nf73p_r13 : r13 ≠ pe73 := Nat.ne_of_lt (Nat.lt_of_lt_of_le f63.lt s73p)
 have nf73p_t13 : t13 ≠ pe73 := Nat.ne_of_lt (Nat.lt_of_lt_of_le f63.lt2 s73p)
 have nf73p_r17 : r17 ≠ pe73 := Nat.ne_of_lt (Nat.lt_of_lt_of_le f64.lt s73p)
 have nf73p_t17 : t17 ≠ pe73 := Nat.ne_of_lt (Nat.lt_of_lt_of_le f64.lt2 s73p)
 have nf73p_r22 : r22 ≠ pe73 := Nat.ne_of_lt (Nat.lt_of_lt_of_le f65.lt s73p)
 have nf73p_t22 : t22 ≠ pe73 := Nat.ne_of_lt (Nat.lt_of_lt_of_le f65.lt2 s73p)
 have nf73p_b34 : b34 ≠ pe73 := Nat.ne_of_lt (Nat.lt_of_lt_of_le f66.lt s73p)
 have nf73p_sl46 : sl46 ≠ pe73 := Nat.ne_of_lt (Nat.lt_of_lt_of_le f67.lt2 s73p)
 have nf73p_pe46 : pe46 ≠ pe73 := Nat.ne_of_lt (Nat.lt_of_lt_of_le f67.lt3 s73p)
 have nf73p_b59 : b59 ≠ pe73 := Nat.ne_of_lt (Nat.lt_of_lt_of_le A59.lt s73p)
 have z73 : Z.heap.size ≤ sl73 := Nat.le_trans O59.2.1 s73q
 have z73p : Z.heap.size ≤ pe73 := Nat.le_trans O59.2.1 s73p
 have f74 := (f60.keep K73q (ninS ner7_59 nin0) (ninS net7_59 nin0))
 have f75 := (f61.keep K73q (ninS ner8_59 nin0) (ninS net8_59 nin0))
 have f76 := (f62.keep K73q (ninS ner10_59 nin0) (ninS net10_59 nin0))
 have f77 := (f63.keep K73q (ninS ner13_59 nin0) (ninS net13_59 nin0))
 have f78 := (f64.keep K73q (ninS ner17_59 nin0) (ninS net17_59 nin0))
 have f79 := (f65.keep K73q (ninS ner22_59 nin0) (ninS net22_59 nin0))
 have f80 := (f66.keep K73q)
 have f81 := (f67.keep K73q (ninS neb34_59 nin0) (ninS nesl46_59 nin0) (ninS nepe46_59 nin0))
 have f82 := (A59.keep K73q)
 have O73 := O59.keep K73q (allS z59 all0)
 have R73 := R59.trans (CHr.keep K73q (allS sf59_b59 all0) R59.1)
 have sf73_r7 := Safe.keep K73q (allS sf59_b59 all0) R59.1 sf59_r7
 have sf73_r8 := Safe.keep K73q (allS sf59_b59 all0) R59.1 sf59_r8
 have sf73_r10 := Safe.keep K73q (allS sf59_b59 all0) R59.1 sf59_r10
 have sf73_r13 := Safe.keep K73q (allS sf59_b59 all0) R59.1 sf59_r13
 have sf73_r17 := Safe.keep K73q (allS sf59_b59 all0) R59.1 sf59_r17
 have sf73_r22 := Safe.keep K73q (allS sf59_b59 all0) R59.1 sf59_r22
 have sf73_b34 := Safe.keep K73q (allS sf59_b59 all0) R59.1 sf59_b34
 have sf73_sl46 := Safe.keep K73q (allS sf59_b59 all0) R59.1 sf59_sl46
 have sf73_pe46 := Safe.keep K73q (allS sf59_b59 all0) R59.1 sf59_pe46
 have sf73_b59 := Safe.keep K73q (allS sf59_b59 all0) R59.1 sf59_b59
 have sf73_sl73 := Safe.keep K73q (allS sf59_b59 all0) R59.1 (Safe.new s73q)
 have sf73_pe73 := Safe.keep K73q (allS sf59_b59 all0) R59.1 (Safe.new s73p)
 refine own_st (T73.setTop (mkF m 193 La217 [(.ref b59)])) st73 ?_
 let La218 : Array Slot := #[w0, .val (.long i1), .second, .val (.long i2), .second, .val (.int nA), .val (.int nB), .val (.int mpA), .val (.int mpB), .val (.int sf), .val (.int cd1), .val (.int cd2), .val (.int cd3), .val (.int cd4), .val (.int cd5), .val (.int cd6), rv r7, rv r8, rv r10, rv r13, rv r17, rv r22, .val (.int (own_hd (own_hc cd1))), .val (.int (own_hd (own_hc cd2))), .val (.int (own_hd (own_hc cd3))), .val (.int (own_hd (own_hc cd4))), .val (.int (own_hd (own_hc cd5))), .val (.int (own_hd (own_hc cd6))), rv b34, rv b59, .unset, .unset, .unset, .unset]
 refine oastore X73 hx hby at_193 rfl (by rfl) (L' := La218) rfl 195 rfl ?_
 refine oiload X73 hx hby at_195 rfl 197 rfl ?_
 by_cases c197_88 : (0 : Int32) < nA
 ·
  refine oifNo X73 hx hby at_197 rfl ((if0 _ _).trans (tlt c197_88).2.2.2) 200 rfl ?_
  refine oaload X73 hx hby at_200 rfl (by rfl) 202 rfl ?_
  refine oaload X73 hx hby at_202 rfl (by rfl) 204 rfl ?_
  obtain ⟨v89, T89, L89, X89, q89, st89⟩ := own_callV X73 hx hZ22 hown22 (y := oM23) (z := oM23) (oW hw 82 rfl) (oW hw 83 rfl) (notFace_of_selects (args := a0) (oW hw 85 rfl)) (oW hw 85 rfl) (oW hw 84 rfl) (oW hw 63 rfl) (oW hw 86 rfl) f80 (b := b34) (argsL := [(.ref r7)]) (own_addR0 l Z a0 hw [] cz b34 sl46 pe46 [] r7 t7 (own_hc cd1) T73.heap O73 SC hcz f81 (by simp) f74 ner7_34 nf46_r7 nf46p_r7 net7_34 nf46_t7 nf46p_t7) 0 (by decide) (by decide) (by decide) (by decide) (by decide) rfl (g := (mkF m 204 La218 [(.ref r7), (.ref b34)])) rfl (by rw [hml]; rfl) [] (lenOf oP607 rfl) rfl (by show 2 * 0 + _ ≤ _; exact Nat.le_of_eq rfl) (hb hby at_204)
  obtain ⟨pe89, rfl, N89q, K89q, s89q, z89, R89q⟩ := q89
  have N89 := Fr.app N73 N89q
  have np89_r8 := own_nep s89q nf46p_r8 f75.lt
  have np89_t8 := own_nep s89q nf46p_t8 f75.lt2
  have np89_r10 := own_nep s89q nf46p_r10 f76.lt
  have np89_t10 := own_nep s89q nf46p_t10 f76.lt2
  have np89_r13 := own_nep s89q nf46p_r13 f77.lt
  have np89_t13 := own_nep s89q nf46p_t13 f77.lt2
  have np89_r17 := own_nep s89q nf46p_r17 f78.lt
  have np89_t17 := own_nep s89q nf46p_t17 f78.lt2
  have np89_r22 := own_nep s89q nf46p_r22 f79.lt
  have np89_t22 := own_nep s89q nf46p_t22 f79.lt2
  have np89_b59 := own_nep s89q (Ne.symm nepe46_59) R73q.lt
  have np89_sl73 := own_nep s89q (Ne.symm nf73_pe46) R73q.lt2
  have np89_pe73 := own_nep s89q (Ne.symm nf73p_pe46) R73q.lt3
  have sp89 := own_sfp s89q sf73_pe46
  have f91 := (f75.keep K89q (ninS ner8_34 (ninS nf46_r8 (ninS nf46p_r8 (ninS (Ne.symm nf8_r7) nin0)))) (ninS net8_34 (ninS nf46_t8 (ninS nf46p_t8 (ninS nt8_r7 nin0)))))
  have f92 := (f76.keep K89q (ninS ner10_34 (ninS nf46_r10 (ninS nf46p_r10 (ninS (Ne.symm nf10_r7) nin0)))) (ninS net10_34 (ninS nf46_t10 (ninS nf46p_t10 (ninS nt10_r7 nin0)))))
  have f93 := (f77.keep K89q (ninS ner13_34 (ninS nf46_r13 (ninS nf46p_r13 (ninS (Ne.symm nf13_r7) nin0)))) (ninS net13_34 (ninS nf46_t13 (ninS nf46p_t13 (ninS nt13_r7 nin0)))))
  have f94 := (f78.keep K89q (ninS ner17_34 (ninS nf46_r17 (ninS nf46p_r17 (ninS (Ne.symm nf17_r7) nin0)))) (ninS net17_34 (ninS nf46_t17 (ninS nf46p_t17 (ninS nt17_r7 nin0)))))
  have f95 := (f79.keep K89q (ninS ner22_34 (ninS nf46_r22 (ninS nf46p_r22 (ninS (Ne.symm nf22_r7) nin0)))) (ninS net22_34 (ninS nf46_t22 (ninS nf46p_t22 (ninS nt22_r7 nin0)))))
  have f96 := (f80.keep K89q)
  have f98 := (f82.keep K89q)
  have f99 := (R73q.keep K89q (ninS (Ne.symm neb34_59) (ninS (Ne.symm nesl46_59) (ninS (Ne.symm nepe46_59) (ninS (Ne.symm ner7_59) nin0)))) (ninS (Ne.symm nf73_b34) (ninS (Ne.symm nf73_sl46) (ninS (Ne.symm nf73_pe46) (ninS (Ne.symm nf73_r7) nin0)))) (ninS (Ne.symm nf73p_b34) (ninS (Ne.symm nf73p_sl46) (ninS (Ne.symm nf73p_pe46) (ninS (Ne.symm nf73p_r7) nin0)))))
  have O89 := O73.keep K89q (allS z34 (allS z46 (allS z46p (allS B7.2.1 all0))))
  have R89 := R73.trans (CHr.keep K89q (allS sf73_b34 (allS sf73_sl46 (allS sf73_pe46 (allS sf73_r7 all0)))) R73.1)
  have sf89_r7 := Safe.keep K89q (allS sf73_b34 (allS sf73_sl46 (allS sf73_pe46 (allS sf73_r7 all0)))) R73.1 sf73_r7
  have sf89_r8 := Safe.keep K89q (allS sf73_b34 (allS sf73_sl46 (allS sf73_pe46 (allS sf73_r7 all0)))) R73.1 sf73_r8
  have sf89_r10 := Safe.keep K89q (allS sf73_b34 (allS sf73_sl46 (allS sf73_pe46 (allS sf73_r7 all0)))) R73.1 sf73_r10
  have sf89_r13 := Safe.keep K89q (allS sf73_b34 (allS sf73_sl46 (allS sf73_pe46 (allS sf73_r7 all0)))) R73.1 sf73_r13
  have sf89_r17 := Safe.keep K89q (allS sf73_b34 (allS sf73_sl46 (allS sf73_pe46 (allS sf73_r7 all0)))) R73.1 sf73_r17
  have sf89_r22 := Safe.keep K89q (allS sf73_b34 (allS sf73_sl46 (allS sf73_pe46 (allS sf73_r7 all0)))) R73.1 sf73_r22
  have sf89_b34 := Safe.keep K89q (allS sf73_b34 (allS sf73_sl46 (allS sf73_pe46 (allS sf73_r7 all0)))) R73.1 sf73_b34
  have sf89_sl46 := Safe.keep K89q (allS sf73_b34 (allS sf73_sl46 (allS sf73_pe46 (allS sf73_r7 all0)))) R73.1 sf73_sl46
  have sf89_pe46 := Safe.keep K89q (allS sf73_b34 (allS sf73_sl46 (allS sf73_pe46 (allS sf73_r7 all0)))) R73.1 sf73_pe46
  have sf89_b59 := Safe.keep K89q (allS sf73_b34 (allS sf73_sl46 (allS sf73_pe46 (allS sf73_r7 all0)))) R73.1 sf73_b59
  have sf89_sl73 := Safe.keep K89q (allS sf73_b34 (allS sf73_sl46 (allS sf73_pe46 (allS sf73_r7 all0)))) R73.1 sf73_sl73
  have sf89_pe73 := Safe.keep K89q (allS sf73_b34 (allS sf73_sl46 (allS sf73_pe46 (allS sf73_r7 all0)))) R73.1 sf73_pe73
  have sf89_pe89 := Safe.keep K89q (allS sf73_b34 (allS sf73_sl46 (allS sf73_pe46 (allS sf73_r7 all0)))) R73.1 sp89
  refine own_st (T89.setTop (mkF m 207 La218 [])) st89 ?_
  refine oiload X89 hx hby at_207 rfl 209 rfl ?_
  refine oiconst X89 hx hby at_209 (1 : Int32) rfl 210 rfl ?_
  by_cases c210_100 : (1 : Int32) < nA
  ·
   refine oicmpNo X89 hx hby at_210 rfl (tlt c210_100).2.2.2 213 rfl ?_
   refine oaload X89 hx hby at_213 rfl (by rfl) 215 rfl ?_
   refine oaload X89 hx hby at_215 rfl (by rfl) 217 rfl ?_
   obtain ⟨v101, T101, L101, X101, q101, st101⟩ := own_callV X89 hx hZ22 hown22 (y := oM23) (z := oM23) (oW hw 82 rfl) (oW hw 83 rfl) (notFace_of_selects (args := a0) (oW hw 85 rfl)) (oW hw 85 rfl) (oW hw 84 rfl) (oW hw 63 rfl) (oW hw 86 rfl) f96 (b := b34) (argsL := [(.ref r8)]) (own_addR1 l Z a0 hw [] cz b34 sl46 pe89 ([] ++ [(own_hd (own_hc cd1))]) r8 t8 (own_hc cd2) T89.heap O89 SC hcz R89q (by simp) f91 ner8_34 nf46_r8 np89_r8 net8_34 nf46_t8 np89_t8) 0 (by decide) (by decide) (by decide) (by decide) (by decide) rfl (g := (mkF m 217 La218 [(.ref r8), (.ref b34)])) rfl (by rw [hml]; rfl) [] (lenOf oP607 rfl) rfl (by show 2 * 0 + _ ≤ _; exact Nat.le_of_eq rfl) (hb hby at_217)
   obtain ⟨pe101, rfl, N101q, K101q, s101q, z101, R101q⟩ := q101
   have N101 := Fr.app N89 N101q
   have np101_r10 := own_nep s101q np89_r10 f92.lt
   have np101_t10 := own_nep s101q np89_t10 f92.lt2
   have np101_r13 := own_nep s101q np89_r13 f93.lt
   have np101_t13 := own_nep s101q np89_t13 f93.lt2
   have np101_r17 := own_nep s101q np89_r17 f94.lt
   have np101_t17 := own_nep s101q np89_t17 f94.lt2
   have np101_r22 := own_nep s101q np89_r22 f95.lt
   have np101_t22 := own_nep s101q np89_t22 f95.lt2
   have np101_b59 := own_nep s101q np89_b59 f99.lt
   have np101_sl73 := own_nep s101q np89_sl73 f99.lt2
   have np101_pe73 := own_nep s101q np89_pe73 f99.lt3
   have sp101 := own_sfp s101q sf89_pe89
   have f103 := (f92.keep K101q (ninS ner10_34 (ninS nf46_r10 (ninS np89_r10 (ninS (Ne.symm nf10_r8) nin0)))) (ninS net10_34 (ninS nf46_t10 (ninS np89_t10 (ninS nt10_r8 nin0)))))
   have f104 := (f93.keep K101q (ninS ner13_34 (ninS nf46_r13 (ninS np89_r13 (ninS (Ne.symm nf13_r8) nin0)))) (ninS net13_34 (ninS nf46_t13 (ninS np89_t13 (ninS nt13_r8 nin0)))))
   have f105 := (f94.keep K101q (ninS ner17_34 (ninS nf46_r17 (ninS np89_r17 (ninS (Ne.symm nf17_r8) nin0)))) (ninS net17_34 (ninS nf46_t17 (ninS np89_t17 (ninS nt17_r8 nin0)))))
   have f106 := (f95.keep K101q (ninS ner22_34 (ninS nf46_r22 (ninS np89_r22 (ninS (Ne.symm nf22_r8) nin0)))) (ninS net22_34 (ninS nf46_t22 (ninS np89_t22 (ninS nt22_r8 nin0)))))
   have f107 := (f96.keep K101q)
   have f108 := (f98.keep K101q)
   have f109 := (f99.keep K101q (ninS (Ne.symm neb34_59) (ninS (Ne.symm nesl46_59) (ninS np89_b59 (ninS (Ne.symm ner8_59) nin0)))) (ninS (Ne.symm nf73_b34) (ninS (Ne.symm nf73_sl46) (ninS np89_sl73 (ninS (Ne.symm nf73_r8) nin0)))) (ninS (Ne.symm nf73p_b34) (ninS (Ne.symm nf73p_sl46) (ninS np89_pe73 (ninS (Ne.symm nf73p_r8) nin0)))))
   have O101 := O89.keep K101q (allS z34 (allS z46 (allS z89 (allS B8.2.1 all0))))
   have R101 := R89.trans (CHr.keep K101q (allS sf89_b34 (allS sf89_sl46 (allS sf89_pe89 (allS sf89_r8 all0)))) R89.1)
   have sf101_r8 := Safe.keep K101q (allS sf89_b34 (allS sf89_sl46 (allS sf89_pe89 (allS sf89_r8 all0)))) R89.1 sf89_r8
   have sf101_r10 := Safe.keep K101q (allS sf89_b34 (allS sf89_sl46 (allS sf89_pe89 (allS sf89_r8 all0)))) R89.1 sf89_r10
   have sf101_r13 := Safe.keep K101q (allS sf89_b34 (allS sf89_sl46 (allS sf89_pe89 (allS sf89_r8 all0)))) R89.1 sf89_r13
   have sf101_r17 := Safe.keep K101q (allS sf89_b34 (allS sf89_sl46 (allS sf89_pe89 (allS sf89_r8 all0)))) R89.1 sf89_r17
   have sf101_r22 := Safe.keep K101q (allS sf89_b34 (allS sf89_sl46 (allS sf89_pe89 (allS sf89_r8 all0)))) R89.1 sf89_r22
   have sf101_b34 := Safe.keep K101q (allS sf89_b34 (allS sf89_sl46 (allS sf89_pe89 (allS sf89_r8 all0)))) R89.1 sf89_b34
   have sf101_sl46 := Safe.keep K101q (allS sf89_b34 (allS sf89_sl46 (allS sf89_pe89 (allS sf89_r8 all0)))) R89.1 sf89_sl46
   have sf101_b59 := Safe.keep K101q (allS sf89_b34 (allS sf89_sl46 (allS sf89_pe89 (allS sf89_r8 all0)))) R89.1 sf89_b59
   have sf101_sl73 := Safe.keep K101q (allS sf89_b34 (allS sf89_sl46 (allS sf89_pe89 (allS sf89_r8 all0)))) R89.1 sf89_sl73
   have sf101_pe73 := Safe.keep K101q (allS sf89_b34 (allS sf89_sl46 (allS sf89_pe89 (allS sf89_r8 all0)))) R89.1 sf89_pe73
   have sf101_pe89 := Safe.keep K101q (allS sf89_b34 (allS sf89_sl46 (allS sf89_pe89 (allS sf89_r8 all0)))) R89.1 sf89_pe89
   have sf101_pe101 := Safe.keep K101q (allS sf89_b34 (allS sf89_sl46 (allS sf89_pe89 (allS sf89_r8 all0)))) R89.1 sp101
   refine own_st (T101.setTop (mkF m 220 La218 [])) st101 ?_
   refine oiload X101 hx hby at_220 rfl 222 rfl ?_
   refine oiconst X101 hx hby at_222 (2 : Int32) rfl 223 rfl ?_
   by_cases c223_111 : (2 : Int32) < nA
   ·
    refine oicmpNo X101 hx hby at_223 rfl (tlt c223_111).2.2.2 226 rfl ?_
    refine oaload X101 hx hby at_226 rfl (by rfl) 228 rfl ?_
    refine oaload X101 hx hby at_228 rfl (by rfl) 230 rfl ?_
    obtain ⟨v112, T112, L112, X112, q112, st112⟩ := own_callV X101 hx hZ22 hown22 (y := oM23) (z := oM23) (oW hw 82 rfl) (oW hw 83 rfl) (notFace_of_selects (args := a0) (oW hw 85 rfl)) (oW hw 85 rfl) (oW hw 84 rfl) (oW hw 63 rfl) (oW hw 86 rfl) f107 (b := b34) (argsL := [(.ref r10)]) (own_addR2 l Z a0 hw [] cz b34 sl46 pe101 (([] ++ [(own_hd (own_hc cd1))]) ++ [(own_hd (own_hc cd2))]) r10 t10 (own_hc cd3) T101.heap O101 SC hcz R101q (by simp) f103 ner10_34 nf46_r10 np101_r10 net10_34 nf46_t10 np101_t10) 0 (by decide) (by decide) (by decide) (by decide) (by decide) rfl (g := (mkF m 230 La218 [(.ref r10), (.ref b34)])) rfl (by rw [hml]; rfl) [] (lenOf oP607 rfl) rfl (by show 2 * 0 + _ ≤ _; exact Nat.le_of_eq rfl) (hb hby at_230)
    obtain ⟨pe112, rfl, N112q, K112q, s112q, z112, R112q⟩ := q112
    have N112 := Fr.app N101 N112q
    have np112_r13 := own_nep s112q np101_r13 f104.lt
    have np112_t13 := own_nep s112q np101_t13 f104.lt2
    have np112_r17 := own_nep s112q np101_r17 f105.lt
    have np112_t17 := own_nep s112q np101_t17 f105.lt2
    have np112_r22 := own_nep s112q np101_r22 f106.lt
    have np112_t22 := own_nep s112q np101_t22 f106.lt2
    have np112_b59 := own_nep s112q np101_b59 f109.lt
    have np112_sl73 := own_nep s112q np101_sl73 f109.lt2
    have np112_pe73 := own_nep s112q np101_pe73 f109.lt3
    have sp112 := own_sfp s112q sf101_pe101
    have f114 := (f104.keep K112q (ninS ner13_34 (ninS nf46_r13 (ninS np101_r13 (ninS (Ne.symm nf13_r10) nin0)))) (ninS net13_34 (ninS nf46_t13 (ninS np101_t13 (ninS nt13_r10 nin0)))))
    have f115 := (f105.keep K112q (ninS ner17_34 (ninS nf46_r17 (ninS np101_r17 (ninS (Ne.symm nf17_r10) nin0)))) (ninS net17_34 (ninS nf46_t17 (ninS np101_t17 (ninS nt17_r10 nin0)))))
    have f116 := (f106.keep K112q (ninS ner22_34 (ninS nf46_r22 (ninS np101_r22 (ninS (Ne.symm nf22_r10) nin0)))) (ninS net22_34 (ninS nf46_t22 (ninS np101_t22 (ninS nt22_r10 nin0)))))
    have f117 := (f107.keep K112q)
    have f118 := (f108.keep K112q)
    have f119 := (f109.keep K112q (ninS (Ne.symm neb34_59) (ninS (Ne.symm nesl46_59) (ninS np101_b59 (ninS (Ne.symm ner10_59) nin0)))) (ninS (Ne.symm nf73_b34) (ninS (Ne.symm nf73_sl46) (ninS np101_sl73 (ninS (Ne.symm nf73_r10) nin0)))) (ninS (Ne.symm nf73p_b34) (ninS (Ne.symm nf73p_sl46) (ninS np101_pe73 (ninS (Ne.symm nf73p_r10) nin0)))))
    have O112 := O101.keep K112q (allS z34 (allS z46 (allS z101 (allS B10.2.1 all0))))
    have R112 := R101.trans (CHr.keep K112q (allS sf101_b34 (allS sf101_sl46 (allS sf101_pe101 (allS sf101_r10 all0)))) R101.1)
    have sf112_r10 := Safe.keep K112q (allS sf101_b34 (allS sf101_sl46 (allS sf101_pe101 (allS sf101_r10 all0)))) R101.1 sf101_r10
    have sf112_r13 := Safe.keep K112q (allS sf101_b34 (allS sf101_sl46 (allS sf101_pe101 (allS sf101_r10 all0)))) R101.1 sf101_r13
    have sf112_r17 := Safe.keep K112q (allS sf101_b34 (allS sf101_sl46 (allS sf101_pe101 (allS sf101_r10 all0)))) R101.1 sf101_r17
    have sf112_r22 := Safe.keep K112q (allS sf101_b34 (allS sf101_sl46 (allS sf101_pe101 (allS sf101_r10 all0)))) R101.1 sf101_r22
    have sf112_b34 := Safe.keep K112q (allS sf101_b34 (allS sf101_sl46 (allS sf101_pe101 (allS sf101_r10 all0)))) R101.1 sf101_b34
    have sf112_sl46 := Safe.keep K112q (allS sf101_b34 (allS sf101_sl46 (allS sf101_pe101 (allS sf101_r10 all0)))) R101.1 sf101_sl46
    have sf112_b59 := Safe.keep K112q (allS sf101_b34 (allS sf101_sl46 (allS sf101_pe101 (allS sf101_r10 all0)))) R101.1 sf101_b59
    have sf112_sl73 := Safe.keep K112q (allS sf101_b34 (allS sf101_sl46 (allS sf101_pe101 (allS sf101_r10 all0)))) R101.1 sf101_sl73
    have sf112_pe73 := Safe.keep K112q (allS sf101_b34 (allS sf101_sl46 (allS sf101_pe101 (allS sf101_r10 all0)))) R101.1 sf101_pe73
    have sf112_pe101 := Safe.keep K112q (allS sf101_b34 (allS sf101_sl46 (allS sf101_pe101 (allS sf101_r10 all0)))) R101.1 sf101_pe101
    have sf112_pe112 := Safe.keep K112q (allS sf101_b34 (allS sf101_sl46 (allS sf101_pe101 (allS sf101_r10 all0)))) R101.1 sp112
    refine own_st (T112.setTop (mkF m 233 La218 [])) st112 ?_
    exact own_lawB l Z a0 hw cz SC hcz p e s m below meth c _ _ _ _ _ _ _ _ _ _ _ _ _ _ _ _ _ _ _ _ _ _ _ hx hby hml hret hlk hEL hZ22 hown22 rfl (own_sm X112 (by decide) (by decide)) hS22 (Nat.le_trans (Nat.le_trans (Nat.le_trans (Nat.le_trans (Nat.le_trans (Nat.le_trans (Nat.le_trans (Nat.le_refl _) E34.1) K46q.1) E59.1) K73q.1) K89q.1) K101q.1) K112q.1) R112 N112 O112 nA nB sf (own_hd (own_hc cd1)) (own_hd (own_hc cd2)) (own_hd (own_hc cd3)) (own_hc cd4) (own_hc cd5) (own_hc cd6) b34 sl46 pe112 b59 sl73 pe73 r13 r17 r22 t13 t17 t22 (R112q.toL (own_lst3 c197_88 c210_100 c223_111)) f119 f114 f115 f116 (own_lstna (own_hd0 _) (own_hd0 _) (own_hd0 _)) (allS (allS neb34_59 (allS nf73_b34 (allS nf73p_b34 (allS (Ne.symm ner13_34) (allS (Ne.symm ner17_34) (allS (Ne.symm ner22_34) all0)))))) (allS (allS nesl46_59 (allS nf73_sl46 (allS nf73p_sl46 (allS (Ne.symm nf46_r13) (allS (Ne.symm nf46_r17) (allS (Ne.symm nf46_r22) all0)))))) (allS (allS (Ne.symm np112_b59) (allS (Ne.symm np112_sl73) (allS (Ne.symm np112_pe73) (allS (Ne.symm np112_r13) (allS (Ne.symm np112_r17) (allS (Ne.symm np112_r22) all0)))))) all0))) (allS (allS ner13_59 (allS nf73_r13 (allS nf73p_r13 all0))) (allS (allS ner17_59 (allS nf73_r17 (allS nf73p_r17 all0))) (allS (allS ner22_59 (allS nf73_r22 (allS nf73p_r22 all0))) (allS (allS net13_59 (allS nf73_t13 (allS nf73p_t13 all0))) (allS (allS net17_59 (allS nf73_t17 (allS nf73p_t17 all0))) (allS (allS net22_59 (allS nf73_t22 (allS nf73p_t22 all0))) all0)))))) nf17_r13 nf22_r13 nf22_r17 (allS sf112_b34 (allS sf112_sl46 (allS sf112_b59 (allS sf112_sl73 (allS sf112_pe73 (allS sf112_r13 (allS sf112_r17 (allS sf112_r22 all0))))))))
   ·
    refine oicmpYes X101 hx hby at_223 rfl (flt c223_111).2.2.2 233 (by decide) (by decide) ?_
    exact own_lawB l Z a0 hw cz SC hcz p e s m below meth c _ _ _ _ _ _ _ _ _ _ _ _ _ _ _ _ _ _ _ _ _ _ _ hx hby hml hret hlk hEL hZ22 hown22 rfl (own_sm X101 (by decide) (by decide)) hS22 (Nat.le_trans (Nat.le_trans (Nat.le_trans (Nat.le_trans (Nat.le_trans (Nat.le_trans (Nat.le_refl _) E34.1) K46q.1) E59.1) K73q.1) K89q.1) K101q.1) R101 N101 O101 nA nB sf (own_hd (own_hc cd1)) (own_hd (own_hc cd2)) (own_hd (own_hc cd3)) (own_hc cd4) (own_hc cd5) (own_hc cd6) b34 sl46 pe101 b59 sl73 pe73 r13 r17 r22 t13 t17 t22 (R101q.toL (own_lst2 c197_88 c210_100 c223_111)) f109 f104 f105 f106 (own_lstna (own_hd0 _) (own_hd0 _) (own_hd0 _)) (allS (allS neb34_59 (allS nf73_b34 (allS nf73p_b34 (allS (Ne.symm ner13_34) (allS (Ne.symm ner17_34) (allS (Ne.symm ner22_34) all0)))))) (allS (allS nesl46_59 (allS nf73_sl46 (allS nf73p_sl46 (allS (Ne.symm nf46_r13) (allS (Ne.symm nf46_r17) (allS (Ne.symm nf46_r22) all0)))))) (allS (allS (Ne.symm np101_b59) (allS (Ne.symm np101_sl73) (allS (Ne.symm np101_pe73) (allS (Ne.symm np101_r13) (allS (Ne.symm np101_r17) (allS (Ne.symm np101_r22) all0)))))) all0))) (allS (allS ner13_59 (allS nf73_r13 (allS nf73p_r13 all0))) (allS (allS ner17_59 (allS nf73_r17 (allS nf73p_r17 all0))) (allS (allS ner22_59 (allS nf73_r22 (allS nf73p_r22 all0))) (allS (allS net13_59 (allS nf73_t13 (allS nf73p_t13 all0))) (allS (allS net17_59 (allS nf73_t17 (allS nf73p_t17 all0))) (allS (allS net22_59 (allS nf73_t22 (allS nf73p_t22 all0))) all0)))))) nf17_r13 nf22_r13 nf22_r17 (allS sf101_b34 (allS sf101_sl46 (allS sf101_b59 (allS sf101_sl73 (allS sf101_pe73 (allS sf101_r13 (allS sf101_r17 (allS sf101_r22 all0))))))))
  ·
   refine oicmpYes X89 hx hby at_210 rfl (flt c210_100).2.2.2 220 (by decide) (by decide) ?_
   refine oiload X89 hx hby at_220 rfl 222 rfl ?_
   refine oiconst X89 hx hby at_222 (2 : Int32) rfl 223 rfl ?_
   refine oicmpYes X89 hx hby at_223 rfl (flt ((own_lt2 c210_100) : ¬ ((2 : Int32) < nA))).2.2.2 233 (by decide) (by decide) ?_
   exact own_lawB l Z a0 hw cz SC hcz p e s m below meth c _ _ _ _ _ _ _ _ _ _ _ _ _ _ _ _ _ _ _ _ _ _ _ hx hby hml hret hlk hEL hZ22 hown22 rfl (own_sm X89 (by decide) (by decide)) hS22 (Nat.le_trans (Nat.le_trans (Nat.le_trans (Nat.le_trans (Nat.le_trans (Nat.le_refl _) E34.1) K46q.1) E59.1) K73q.1) K89q.1) R89 N89 O89 nA nB sf (own_hd (own_hc cd1)) (own_hd (own_hc cd2)) (own_hd (own_hc cd3)) (own_hc cd4) (own_hc cd5) (own_hc cd6) b34 sl46 pe89 b59 sl73 pe73 r13 r17 r22 t13 t17 t22 (R89q.toL (own_lst1 c197_88 c210_100 (own_lt2 c210_100))) f99 f93 f94 f95 (own_lstna (own_hd0 _) (own_hd0 _) (own_hd0 _)) (allS (allS neb34_59 (allS nf73_b34 (allS nf73p_b34 (allS (Ne.symm ner13_34) (allS (Ne.symm ner17_34) (allS (Ne.symm ner22_34) all0)))))) (allS (allS nesl46_59 (allS nf73_sl46 (allS nf73p_sl46 (allS (Ne.symm nf46_r13) (allS (Ne.symm nf46_r17) (allS (Ne.symm nf46_r22) all0)))))) (allS (allS (Ne.symm np89_b59) (allS (Ne.symm np89_sl73) (allS (Ne.symm np89_pe73) (allS (Ne.symm np89_r13) (allS (Ne.symm np89_r17) (allS (Ne.symm np89_r22) all0)))))) all0))) (allS (allS ner13_59 (allS nf73_r13 (allS nf73p_r13 all0))) (allS (allS ner17_59 (allS nf73_r17 (allS nf73p_r17 all0))) (allS (allS ner22_59 (allS nf73_r22 (allS nf73p_r22 all0))) (allS (allS net13_59 (allS nf73_t13 (allS nf73p_t13 all0))) (allS (allS net17_59 (allS nf73_t17 (allS nf73p_t17 all0))) (allS (allS net22_59 (allS nf73_t22 (allS nf73p_t22 all0))) all0)))))) nf17_r13 nf22_r13 nf22_r17 (allS sf89_b34 (allS sf89_sl46 (allS sf89_b59 (allS sf89_sl73 (allS sf89_pe73 (allS sf89_r13 (allS sf89_r17 (allS sf89_r22 all0))))))))
 ·
  refine oifYes X73 hx hby at_197 rfl ((if0 _ _).trans (flt c197_88).2.2.2) 207 (by decide) (by decide) ?_
  refine oiload X73 hx hby at_207 rfl 209 rfl ?_
  refine oiconst X73 hx hby at_209 (1 : Int32) rfl 210 rfl ?_
  refine oicmpYes X73 hx hby at_210 rfl (flt ((own_lt1 c197_88) : ¬ ((1 : Int32) < nA))).2.2.2 220 (by decide) (by decide) ?_
  refine oiload X73 hx hby at_220 rfl 222 rfl ?_
  refine oiconst X73 hx hby at_222 (2 : Int32) rfl 223 rfl ?_
  refine oicmpYes X73 hx hby at_223 rfl (flt ((own_lt2 (own_lt1 c197_88)) : ¬ ((2 : Int32) < nA))).2.2.2 233 (by decide) (by decide) ?_
  exact own_lawB l Z a0 hw cz SC hcz p e s m below meth c _ _ _ _ _ _ _ _ _ _ _ _ _ _ _ _ _ _ _ _ _ _ _ hx hby hml hret hlk hEL hZ22 hown22 rfl (own_sm X73 (by decide) (by decide)) hS22 (Nat.le_trans (Nat.le_trans (Nat.le_trans (Nat.le_trans (Nat.le_refl _) E34.1) K46q.1) E59.1) K73q.1) R73 N73 O73 nA nB sf (own_hd (own_hc cd1)) (own_hd (own_hc cd2)) (own_hd (own_hc cd3)) (own_hc cd4) (own_hc cd5) (own_hc cd6) b34 sl46 pe46 b59 sl73 pe73 r13 r17 r22 t13 t17 t22 (f81.toL (own_lst0 c197_88 (own_lt1 c197_88) (own_lt2 (own_lt1 c197_88)))) R73q f77 f78 f79 (own_lstna (own_hd0 _) (own_hd0 _) (own_hd0 _)) (allS (allS neb34_59 (allS nf73_b34 (allS nf73p_b34 (allS (Ne.symm ner13_34) (allS (Ne.symm ner17_34) (allS (Ne.symm ner22_34) all0)))))) (allS (allS nesl46_59 (allS nf73_sl46 (allS nf73p_sl46 (allS (Ne.symm nf46_r13) (allS (Ne.symm nf46_r17) (allS (Ne.symm nf46_r22) all0)))))) (allS (allS nepe46_59 (allS nf73_pe46 (allS nf73p_pe46 (allS (Ne.symm nf46p_r13) (allS (Ne.symm nf46p_r17) (allS (Ne.symm nf46p_r22) all0)))))) all0))) (allS (allS ner13_59 (allS nf73_r13 (allS nf73p_r13 all0))) (allS (allS ner17_59 (allS nf73_r17 (allS nf73p_r17 all0))) (allS (allS ner22_59 (allS nf73_r22 (allS nf73p_r22 all0))) (allS (allS net13_59 (allS nf73_t13 (allS nf73p_t13 all0))) (allS (allS net17_59 (allS nf73_t17 (allS nf73p_t17 all0))) (allS (allS net22_59 (allS nf73_t22 (allS nf73p_t22 all0))) all0)))))) nf17_r13 nf22_r13 nf22_r17 (allS sf73_b34 (allS sf73_sl46 (allS sf73_b59 (allS sf73_sl73 (allS sf73_pe73 (allS sf73_r13 (allS sf73_r17 (allS sf73_r22 all0))))))))
theorem own_law (l : Launch) (Z : State) (a0 : Array Value) (hw : OWS a0 Z) (ws : List Jvm.Cond) (cz : Int32) (i0 : Int32) (i1 i2 : Int64) (h0 : Heap) (O0 : Old Z Z.heap.size h0) (SC : Sta Z Z.heap "java/lang/String" "COMPACT_STRINGS" "Z" (.int cz)) (hcz : ¬ (cz = (0 : Int32))) :
  ownMetW l x code maxLocals ret ws room_1 Z own_EL [] #[(.int i0), (.long i1), (.long i2)] h0 (fun v vm h L => v = some (.int 1) ∧ Fr Z.heap.size L) := by
 have hEL := own_hEL hw
 refine own_metW (plainFor_of_name oP363) ?_
 intro p e s m below meth c s₁ hx hby hml hown hnm hret hlk hZ e0 X0 hS0 R0 hsf
 refine own_cast (show _ = (mkF m 0 #[.val (.int i0), .val (.long i1), .second, .val (.long i2), .second, .unset, .unset, .unset, .unset, .unset, .unset, .unset, .unset, .unset, .unset, .unset, .unset, .unset, .unset, .unset, .unset, .unset, .unset, .unset, .unset, .unset, .unset, .unset, .unset, .unset, .unset, .unset, .unset, .unset] []) by first | (simp [entryFrame, mkF, argsToLocals, Value.category, maxLocals]; done) | rfl) ?_
 refine oiloadN X0 hx hby at_0 rfl 1 rfl ?_
 refine oiconst X0 hx hby at_1 (3 : Int32) rfl 2 rfl ?_
 refine oiand X0 hx hby at_2 rfl _ rfl 3 rfl ?_
 let La219 : Array Slot := #[.val (.int i0), .val (.long i1), .second, .val (.long i2), .second, .val (.int (i0 &&& (3 : Int32))), .unset, .unset, .unset, .unset, .unset, .unset, .unset, .unset, .unset, .unset, .unset, .unset, .unset, .unset, .unset, .unset, .unset, .unset, .unset, .unset, .unset, .unset, .unset, .unset, .unset, .unset, .unset, .unset]
 refine oistore X0 hx hby at_3 rfl (L' := La219) rfl 5 rfl ?_
 refine oiloadN X0 hx hby at_5 rfl 6 rfl ?_
 refine oiconst X0 hx hby at_6 (2 : Int32) rfl 7 rfl ?_
 refine oiushr X0 hx hby at_7 rfl _ rfl 8 rfl ?_
 refine oiconst X0 hx hby at_8 (3 : Int32) rfl 9 rfl ?_
 refine oiand X0 hx hby at_9 rfl _ rfl 10 rfl ?_
 let La220 : Array Slot := #[.val (.int i0), .val (.long i1), .second, .val (.long i2), .second, .val (.int (i0 &&& (3 : Int32))), .val (.int (((i0.toUInt32 >>> ((2 : Int32) &&& 31).toUInt32).toInt32) &&& (3 : Int32))), .unset, .unset, .unset, .unset, .unset, .unset, .unset, .unset, .unset, .unset, .unset, .unset, .unset, .unset, .unset, .unset, .unset, .unset, .unset, .unset, .unset, .unset, .unset, .unset, .unset, .unset, .unset]
 refine oistore X0 hx hby at_10 rfl (L' := La220) rfl 12 rfl ?_
 refine oiloadN X0 hx hby at_12 rfl 13 rfl ?_
 refine oiconst X0 hx hby at_13 (4 : Int32) rfl 14 rfl ?_
 refine oiushr X0 hx hby at_14 rfl _ rfl 15 rfl ?_
 refine oiconst X0 hx hby at_15 (3 : Int32) rfl 16 rfl ?_
 refine oiand X0 hx hby at_16 rfl _ rfl 17 rfl ?_
 refine oiconst X0 hx hby at_17 (1 : Int32) rfl 18 rfl ?_
 refine oiadd X0 hx hby at_18 rfl _ rfl 19 rfl ?_
 let La221 : Array Slot := #[.val (.int i0), .val (.long i1), .second, .val (.long i2), .second, .val (.int (i0 &&& (3 : Int32))), .val (.int (((i0.toUInt32 >>> ((2 : Int32) &&& 31).toUInt32).toInt32) &&& (3 : Int32))), .val (.int ((((i0.toUInt32 >>> ((4 : Int32) &&& 31).toUInt32).toInt32) &&& (3 : Int32)) + (1 : Int32))), .unset, .unset, .unset, .unset, .unset, .unset, .unset, .unset, .unset, .unset, .unset, .unset, .unset, .unset, .unset, .unset, .unset, .unset, .unset, .unset, .unset, .unset, .unset, .unset, .unset, .unset]
 refine oistore X0 hx hby at_19 rfl (L' := La221) rfl 21 rfl ?_
 refine oiloadN X0 hx hby at_21 rfl 22 rfl ?_
 refine obipush X0 hx hby at_22 (6 : Int32) rfl 24 rfl ?_
 refine oiushr X0 hx hby at_24 rfl _ rfl 25 rfl ?_
 refine oiconst X0 hx hby at_25 (3 : Int32) rfl 26 rfl ?_
 refine oiand X0 hx hby at_26 rfl _ rfl 27 rfl ?_
 refine oiconst X0 hx hby at_27 (1 : Int32) rfl 28 rfl ?_
 refine oiadd X0 hx hby at_28 rfl _ rfl 29 rfl ?_
 let La222 : Array Slot := #[.val (.int i0), .val (.long i1), .second, .val (.long i2), .second, .val (.int (i0 &&& (3 : Int32))), .val (.int (((i0.toUInt32 >>> ((2 : Int32) &&& 31).toUInt32).toInt32) &&& (3 : Int32))), .val (.int ((((i0.toUInt32 >>> ((4 : Int32) &&& 31).toUInt32).toInt32) &&& (3 : Int32)) + (1 : Int32))), .val (.int ((((i0.toUInt32 >>> ((6 : Int32) &&& 31).toUInt32).toInt32) &&& (3 : Int32)) + (1 : Int32))), .unset, .unset, .unset, .unset, .unset, .unset, .unset, .unset, .unset, .unset, .unset, .unset, .unset, .unset, .unset, .unset, .unset, .unset, .unset, .unset, .unset, .unset, .unset, .unset, .unset]
 refine oistore X0 hx hby at_29 rfl (L' := La222) rfl 31 rfl ?_
 refine oiloadN X0 hx hby at_31 rfl 32 rfl ?_
 refine obipush X0 hx hby at_32 (8 : Int32) rfl 34 rfl ?_
 refine oiushr X0 hx hby at_34 rfl _ rfl 35 rfl ?_
 refine oiconst X0 hx hby at_35 (1 : Int32) rfl 36 rfl ?_
 refine oiand X0 hx hby at_36 rfl _ rfl 37 rfl ?_
 by_cases c37_1 : (((i0.toUInt32 >>> ((8 : Int32) &&& 31).toUInt32).toInt32) &&& (1 : Int32)) = (0 : Int32)
 ·
  refine oifYes X0 hx hby at_37 rfl ((if0 _ _).trans (teq c37_1).1) 44 (by decide) (by decide) ?_
  refine oiconst X0 hx hby at_44 (0 : Int32) rfl 45 rfl ?_
  let La223 : Array Slot := #[.val (.int i0), .val (.long i1), .second, .val (.long i2), .second, .val (.int (i0 &&& (3 : Int32))), .val (.int (((i0.toUInt32 >>> ((2 : Int32) &&& 31).toUInt32).toInt32) &&& (3 : Int32))), .val (.int ((((i0.toUInt32 >>> ((4 : Int32) &&& 31).toUInt32).toInt32) &&& (3 : Int32)) + (1 : Int32))), .val (.int ((((i0.toUInt32 >>> ((6 : Int32) &&& 31).toUInt32).toInt32) &&& (3 : Int32)) + (1 : Int32))), .val (.int 0), .unset, .unset, .unset, .unset, .unset, .unset, .unset, .unset, .unset, .unset, .unset, .unset, .unset, .unset, .unset, .unset, .unset, .unset, .unset, .unset, .unset, .unset, .unset, .unset]
  refine oistore X0 hx hby at_45 rfl (L' := La223) rfl 47 rfl ?_
  exact own_lawA l Z a0 hw cz SC hcz p e s m below meth c _ _ _ _ _ _ _ _ hx hby hml hret hlk hEL hZ hown e0 (own_sm X0 (by decide) (by decide)) hS0 (Nat.zero_le _) R0 (Fr.nil _) O0 i1 i2 (i0 &&& (3 : Int32)) (((i0.toUInt32 >>> ((2 : Int32) &&& 31).toUInt32).toInt32) &&& (3 : Int32)) ((((i0.toUInt32 >>> ((4 : Int32) &&& 31).toUInt32).toInt32) &&& (3 : Int32)) + (1 : Int32)) ((((i0.toUInt32 >>> ((6 : Int32) &&& 31).toUInt32).toInt32) &&& (3 : Int32)) + (1 : Int32)) (0 : Int32) (own_mp _) (own_mp _)
 ·
  refine oifNo X0 hx hby at_37 rfl ((if0 _ _).trans (feq c37_1).1) 40 rfl ?_
  refine oiconst X0 hx hby at_40 (1 : Int32) rfl 41 rfl ?_
  refine ogoto X0 hx hby at_41 45 (by decide) (by decide) ?_
  let La224 : Array Slot := #[.val (.int i0), .val (.long i1), .second, .val (.long i2), .second, .val (.int (i0 &&& (3 : Int32))), .val (.int (((i0.toUInt32 >>> ((2 : Int32) &&& 31).toUInt32).toInt32) &&& (3 : Int32))), .val (.int ((((i0.toUInt32 >>> ((4 : Int32) &&& 31).toUInt32).toInt32) &&& (3 : Int32)) + (1 : Int32))), .val (.int ((((i0.toUInt32 >>> ((6 : Int32) &&& 31).toUInt32).toInt32) &&& (3 : Int32)) + (1 : Int32))), .val (.int 1), .unset, .unset, .unset, .unset, .unset, .unset, .unset, .unset, .unset, .unset, .unset, .unset, .unset, .unset, .unset, .unset, .unset, .unset, .unset, .unset, .unset, .unset, .unset, .unset]
  refine oistore X0 hx hby at_45 rfl (L' := La224) rfl 47 rfl ?_
  exact own_lawA l Z a0 hw cz SC hcz p e s m below meth c _ _ _ _ _ _ _ _ hx hby hml hret hlk hEL hZ hown e0 (own_sm X0 (by decide) (by decide)) hS0 (Nat.zero_le _) R0 (Fr.nil _) O0 i1 i2 (i0 &&& (3 : Int32)) (((i0.toUInt32 >>> ((2 : Int32) &&& 31).toUInt32).toInt32) &&& (3 : Int32)) ((((i0.toUInt32 >>> ((4 : Int32) &&& 31).toUInt32).toInt32) &&& (3 : Int32)) + (1 : Int32)) ((((i0.toUInt32 >>> ((6 : Int32) &&& 31).toUInt32).toInt32) &&& (3 : Int32)) + (1 : Int32)) (1 : Int32) (own_mp _) (own_mp _)
theorem comes_1 {Post : Tables → Env → Array Value → State → Outcome → State → Prop} (hpost : ∀ tb e args s v u, (limb_1_1.after args s (.returned v) u = true ∧ limb_1_2.after args s (.returned v) u = true ∧ True) → ReturnedEndW s (.returned v) u (Jvm.fieldLocs frame_1_writes args s ++ Jvm.arrayLocs frame_1_arrays args s ++ Jvm.staticLocs frame_1_statics s) 64 1344 → Post tb e args s (.returned v) u) :
  ArmFor flags0 classFile x code maxLocals ret World_1 tables_1 room_1 Calls_1 rest_1 Pre_1 Post := by
 intro l hfl _ _ p e ha hc hk s m args below hf hA hF happ hP
 obtain ⟨hcalls, hrest, hpre⟩ := hP
 obtain ⟨-, -, -, hnamed, -, -, -, hat⟩ := (Spec.applies_iff hf).mp happ
 obtain ⟨hg, hn⟩ := and_e (Cond.before_iff.mp (show (Jvm.Cond.and given_1 narrow_1).before args s = true from hpre))
 obtain ⟨g1, g2⟩ := and_e hg
 obtain ⟨g3, g4⟩ := and_e g2
 obtain ⟨g5, g6⟩ := and_e g4
 obtain ⟨w0, w1, w2, rfl⟩ : ∃ w0 w1 w2 : Value, args = #[w0, w1, w2] := by
  have hs : args.size = 3 := by simpa [Cond.value, given_1] using g1
  obtain ⟨L⟩ := args
  match L, hs with
  | [w0, w1, w2], _ => exact ⟨w0, w1, w2, rfl⟩
 have hw := fun d (hd : d ∈ tables_1) => atoms_spec (ws := Jvm.Cond.code x code maxLocals ret :: tables_1) hat d (List.mem_cons_of_mem _ hd)
 have hfit : Fit s := fun {y c} hc i hi => by
  obtain ⟨ha, rfl⟩ := Array.getElem?_eq_some_iff.mp hc
  have q := List.all_eq_true.mp ((Array.all_eq_true_iff_forall_mem.mp hF) _ (Array.getElem_mem ha)) i (List.mem_range.mpr hi)
  simpa [Array.getElem?_eq_getElem hi] using q
 obtain ⟨hsets, hown0⟩ := atoms_of _ (rest_1_c_eq ▸ (show rest_1_c.before _ s = true from hrest))
 have hr0 := Cond.before_iff.mp hown0
 obtain ⟨i0, ei0⟩ := is_v g3
 obtain rfl : w0 = (.int i0) := Option.some.inj ei0
 obtain ⟨i1, ei1⟩ := isL_v g5
 obtain rfl : w1 = (.long i1) := Option.some.inj ei1
 obtain ⟨i2, ei2⟩ := isL_v g6
 obtain rfl : w2 = (.long i2) := Option.some.inj ei2
 obtain ⟨cz, ecz⟩ := is_v (Cond.before_iff.mp (hsets _ (List.mem_of_getElem? (i := 1) rfl)))
 have SC : Sta s s.heap "java/lang/String" "COMPACT_STRINGS" "Z" (.int cz) := Sta.start ecz (Or.inl (Cond.before_iff.mpr (Cond.before_iff.mp (hsets _ (List.mem_of_getElem? (i := 0) rfl)))))
 have hcz : ¬ (cz = (0 : Int32)) := gotF (Cond.eq_ints ecz (Term.int_eval (0))) (not_v (Cond.before_iff.mp (hsets _ (List.mem_of_getElem? (i := 2) rfl))))
 have hheld : ∀ p ∈ own_EL, Jvm.Lit.constHeld s p.1 p.2 := fun p hp => hcalls.1 p hp
 have hCH : CHv s own_EL s.vm s.heap := CHv.start (own_hEL hw) hheld (Cond.before_iff.mpr (Cond.before_iff.mp (hsets _ (List.mem_of_getElem? (i := 2) rfl)))) (oW hw 30 rfl) (oW hw 12 rfl)
 obtain ⟨n, o, h1, h2, h3, _, L, rfl, ⟨rfl, N⟩, -, hq⟩ := own_law l s _ hw tables_1 cz i0 i1 i2 s.heap (Old.start s) SC hcz p e ha hc hk s m _ below hf ((Spec.applies_iff_loose hf).mp happ).1 ⟨rfl, State.Warmed39.refl s, rfl, hCH, all0⟩ trivial
 refine ⟨n, _, h1, h2, h3, hpost _ _ _ _ _ _ ⟨Cond.after_iff.mpr rfl, Cond.after_iff.mpr (eq_i res_at (Term.int_eval (1)) rfl), trivial⟩ ⟨hq.1, hq.2.1, hq.2.2.1, (hq.2.2.2.sift fun y hy => Or.inr (N y hy)).mono (by decide) (by decide)⟩⟩
theorem main_1_1 : Claimed_1_1 := comes_1 fun _ _ _ _ _ _ h hF => ⟨h.1, hF⟩
theorem main_1_2 : Claimed_1_2 := comes_1 fun _ _ _ _ _ _ h hF => ⟨h.2.1, hF⟩
end Jvm.Pilot.@@N@@
namespace Jvm.Pilot.@@N@@
open Jvm Jvm.ClassFile Sem Op Lib Jvm.Free Jvm.Stand Jvm.Pilot.@@N@@.Jvm.D
/-! MADE BY PROGRAM (witnessworld.py) out of the Statement's table words and the real class files: 25 classes; the members and pool entries that the words name. The judged class is class 1, her method 1. -/
namespace start1
open Jvm.ClassFile
def u (s : String) : CpInfo := .utf8 (stringToUtf16 s)
/-- a pool by its gaps: so many unusable entries, then the entry; so many at the end -/
def gap : Nat → List CpInfo → List CpInfo
  | 0, r => r
  | n + 1, r => .unusable :: gap n r
def poolList (es : List (Nat × CpInfo)) (last : Nat) : List CpInfo := es.foldr (fun e r => gap e.1 (e.2 :: r)) (gap last [])
def pool (es : List (Nat × CpInfo)) (last : Nat) : Array CpInfo := ⟨poolList es last⟩
def fileOf (pool : Array CpInfo) (this : Nat) (attrs : Array Attribute := #[]) (ms : Array MethodInfo := #[]) (fl : Nat := 33) (sup : Nat := 0) (ifs : Array Nat := #[]) (fds : Array FieldInfo := #[]) : ClassFile where
  minorVersion := 0
  majorVersion := 65
  constantPool := pool
  accessFlags := fl
  thisClass := this
  superClass := sup
  interfaces := ifs
  fields := fds
  methods := ms
  attributes := attrs
def plain (name : String) (sup : Option ClassId) : Class where
  name := name
  kind := .ordinary
  loader := none
  accessFlags := 33
  super := sup
  interfaces := #[]
  cf := none
  fields := #[]
  methods := #[]
  instanceTypes := #[]
  staticTypes := #[]
  resolved := #[]
  callSites := []
  init := .initialized
  statics := none
  mirror := none

def pool0 : Array CpInfo := pool [(5, u "<init>"), (0, u "()V"), (1, .class_ 10), (1, u "java/lang/Object")] 113

def k0c0 : Code := { maxStack := 0, maxLocals := 1, code := object_method_1_code, exceptionTable := #[], attributes := #[] }
def k0m0 : Method := { name := "<init>", desc := "()V", sig := { parameters := [], returnType := none }, accessFlags := 1, code := some k0c0 }
/-- java/lang/Object -/
def k0 : Class := { plain "java/lang/Object" none with
  accessFlags := 33
  interfaces := #[]
  cf := some (fileOf pool0 8 #[] #[{ accessFlags := 1, nameIndex := 5, descriptorIndex := 6, attributes := #[] }] 33 0 #[] #[])
  fields := #[]
  methods := #[k0m0]
  instanceTypes := #[]
  staticTypes := #[]
  resolved := Array.replicate 124 none
  statics := none }

def pool1 : Array CpInfo := pool [(2, .class_ 4), (1, u "java/lang/Object"), (0, u "<init>"), (0, u "()V"), (0, .methodref 8 9), (0, .class_ 10), (0, .nameAndType 11 12), (0, u "com/example/rising_block/risingblock/util/StringHashesMeetsPinLaw"), (0, u "code"), (0, u "(JI)I"), (0, .methodref 8 14), (0, .nameAndType 15 16), (0, u "str"), (0, u "(I)Ljava/lang/String;"), (0, .methodref 8 18), (0, .nameAndType 19 20), (0, u "held"), (0, u "(I)I"), (0, .class_ 22), (0, u "com/example/rising_block/risingblock/util/StringHashes"), (0, .methodref 21 24), (0, .nameAndType 5 25), (0, u "(I)V"), (0, .methodref 21 27), (0, .nameAndType 28 29), (0, u "add"), (0, u "(Ljava/lang/String;)V"), (0, .methodref 8 31), (0, .nameAndType 32 33), (0, u "in"), (0, u "(IIIII)Z"), (0, .methodref 21 35), (0, .nameAndType 36 37), (0, u "meets"), (0, u "(Lcom/example/rising_block/risingblock/util/StringHashes;)Z"), (0, .long 262143), (1, .methodref 8 41), (0, .nameAndType 42 20), (0, u "len"), (0, .class_ 44), (0, u "java/lang/String"), (0, .methodref 43 46), (0, .nameAndType 5 47), (0, u "([C)V"), (0, .methodref 43 49), (0, .nameAndType 50 51), (0, u "valueOf"), (0, u "(C)Ljava/lang/String;"), (2, u "law"), (0, u "(IJJ)Z")] 3

def k1m0 : Method := { name := "<init>", desc := "()V", sig := { parameters := [], returnType := none }, accessFlags := 2, code := none }
def k1c1 : Code := { maxStack := 5, maxLocals := 34, code := code, exceptionTable := #[], attributes := #[] }
def k1m1 : Method := { name := "law", desc := "(IJJ)Z", sig := { parameters := [.int, .long, .long], returnType := some .boolean }, accessFlags := 9, code := some k1c1 }
def k1c2 : Code := { maxStack := 2, maxLocals := 5, code := method_3_code, exceptionTable := #[], attributes := #[] }
def k1m2 : Method := { name := "in", desc := "(IIIII)Z", sig := { parameters := [.int, .int, .int, .int, .int], returnType := some .boolean }, accessFlags := 10, code := some k1c2 }
def k1c3 : Code := { maxStack := 4, maxLocals := 3, code := method_4_code, exceptionTable := #[], attributes := #[] }
def k1m3 : Method := { name := "code", desc := "(JI)I", sig := { parameters := [.long, .int], returnType := some .int }, accessFlags := 10, code := some k1c3 }
def k1c4 : Code := { maxStack := 2, maxLocals := 2, code := method_5_code, exceptionTable := #[], attributes := #[] }
def k1m4 : Method := { name := "len", desc := "(I)I", sig := { parameters := [.int], returnType := some .int }, accessFlags := 10, code := some k1c4 }
def k1c5 : Code := { maxStack := 6, maxLocals := 4, code := method_6_code, exceptionTable := #[], attributes := #[] }
def k1m5 : Method := { name := "str", desc := "(I)Ljava/lang/String;", sig := { parameters := [.int], returnType := some (.object "java/lang/String") }, accessFlags := 10, code := some k1c5 }
def k1c6 : Code := { maxStack := 2, maxLocals := 5, code := method_7_code, exceptionTable := #[], attributes := #[] }
def k1m6 : Method := { name := "held", desc := "(I)I", sig := { parameters := [.int], returnType := some .int }, accessFlags := 10, code := some k1c6 }
/-- com/example/rising_block/risingblock/util/StringHashesMeetsPinLaw -/
def k1 : Class := { plain "com/example/rising_block/risingblock/util/StringHashesMeetsPinLaw" (some 0) with
  accessFlags := 49
  interfaces := #[]
  cf := some (fileOf pool1 8 #[] #[{ accessFlags := 2, nameIndex := 5, descriptorIndex := 6, attributes := #[] }, { accessFlags := 9, nameIndex := 54, descriptorIndex := 55, attributes := #[] }, { accessFlags := 10, nameIndex := 32, descriptorIndex := 33, attributes := #[] }, { accessFlags := 10, nameIndex := 11, descriptorIndex := 12, attributes := #[] }, { accessFlags := 10, nameIndex := 42, descriptorIndex := 20, attributes := #[] }, { accessFlags := 10, nameIndex := 15, descriptorIndex := 16, attributes := #[] }, { accessFlags := 10, nameIndex := 19, descriptorIndex := 20, attributes := #[] }] 49 2 #[] #[])
  fields := #[]
  methods := #[k1m0, k1m1, k1m2, k1m3, k1m4, k1m5, k1m6]
  instanceTypes := #[]
  staticTypes := #[]
  resolved := Array.replicate 59 none
  statics := none }

def pool2 : Array CpInfo := pool [(1, .class_ 2), (0, u "java/io/Serializable"), (0, .class_ 4), (0, u "java/lang/Object")] 2

/-- java/io/Serializable -/
def k2 : Class := { plain "java/io/Serializable" (some 0) with
  accessFlags := 1537
  interfaces := #[]
  cf := some (fileOf pool2 1 #[] #[] 1537 3 #[] #[])
  fields := #[]
  methods := #[]
  instanceTypes := #[]
  staticTypes := #[]
  resolved := Array.replicate 7 none
  statics := none }

def pool3 : Array CpInfo := pool [(1, .class_ 2), (0, u "java/lang/Comparable"), (0, .class_ 4), (0, u "java/lang/Object")] 7

/-- java/lang/Comparable -/
def k3 : Class := { plain "java/lang/Comparable" (some 0) with
  accessFlags := 1537
  interfaces := #[]
  cf := some (fileOf pool3 1 #[] #[] 1537 3 #[] #[])
  fields := #[]
  methods := #[]
  instanceTypes := #[]
  staticTypes := #[]
  resolved := Array.replicate 12 none
  statics := none }

def pool4 : Array CpInfo := pool [(2, .class_ 4), (1, u "java/lang/CharSequence"), (42, .class_ 48), (0, u "java/lang/CharSequence$1CodePointIterator"), (10, .class_ 60), (0, u "java/lang/CharSequence$1CharIterator"), (5, .class_ 67), (0, u "java/lang/Object")] 63

/-- java/lang/CharSequence -/
def k4 : Class := { plain "java/lang/CharSequence" (some 0) with
  accessFlags := 1537
  interfaces := #[]
  cf := some (fileOf pool4 2 #[.nestMembers #[47, 59]] #[] 1537 66 #[] #[])
  fields := #[]
  methods := #[]
  instanceTypes := #[]
  staticTypes := #[]
  resolved := Array.replicate 131 none
  statics := none }

def pool5 : Array CpInfo := pool [(1, .class_ 2), (0, u "java/lang/constant/Constable"), (0, .class_ 4), (0, u "java/lang/Object")] 6

/-- java/lang/constant/Constable -/
def k5 : Class := { plain "java/lang/constant/Constable" (some 0) with
  accessFlags := 1537
  interfaces := #[]
  cf := some (fileOf pool5 1 #[] #[] 1537 3 #[] #[])
  fields := #[]
  methods := #[]
  instanceTypes := #[]
  staticTypes := #[]
  resolved := Array.replicate 11 none
  statics := none }

def pool6 : Array CpInfo := pool [(1, .class_ 2), (0, u "java/lang/constant/ConstantDesc"), (0, .class_ 4), (0, u "java/lang/Object")] 32

/-- java/lang/constant/ConstantDesc -/
def k6 : Class := { plain "java/lang/constant/ConstantDesc" (some 0) with
  accessFlags := 1537
  interfaces := #[]
  cf := some (fileOf pool6 1 #[] #[] 1537 3 #[] #[])
  fields := #[]
  methods := #[]
  instanceTypes := #[]
  staticTypes := #[]
  resolved := Array.replicate 37 none
  statics := none }

def pool7 : Array CpInfo := pool [(1, .methodref 2 3), (0, .class_ 4), (0, .nameAndType 5 6), (0, u "java/lang/Object"), (0, u "<init>"), (0, u "()V"), (0, .string 8), (0, u ""), (0, .fieldref 10 11), (0, .class_ 12), (0, .nameAndType 13 14), (0, u "java/lang/String"), (0, u "value"), (0, u "[B"), (0, .fieldref 10 16), (0, .nameAndType 17 18), (0, u "coder"), (0, u "B"), (0, .fieldref 10 20), (0, .nameAndType 21 22), (0, u "hash"), (0, u "I"), (0, .fieldref 10 24), (0, .nameAndType 25 26), (0, u "hashIsZero"), (0, u "Z"), (0, .methodref 10 28), (0, .nameAndType 5 29), (0, u "([CIILjava/lang/Void;)V"), (8, .fieldref 10 39), (0, .nameAndType 40 26), (0, u "COMPACT_STRINGS"), (1, .class_ 44), (1, u "java/lang/StringUTF16"), (0, u "compress"), (1, .methodref 42 48), (0, .nameAndType 49 50), (0, u "coderFromArrayLen"), (0, u "([BI)B"), (2, u "toBytes"), (53, .class_ 109), (1, u "java/lang/StringLatin1"), (32, u "()Z"), (34, .methodref 42 178), (0, .nameAndType 45 179), (0, u "([CII)[B"), (29, .methodref 10 210), (0, .nameAndType 5 211), (0, u "([BB)V"), (122, u "()I"), (34, u "(C)Z"), (122, .methodref 10 493), (0, .nameAndType 494 142), (0, u "isLatin1"), (80, .class_ 576), (0, u "java/lang/CharSequence"), (22, u "CASE_INSENSITIVE_ORDER"), (0, u "Ljava/util/Comparator;"), (27, .methodref 107 629), (0, .nameAndType 630 631), (0, u "hashCode"), (0, u "([B)I"), (150, u "valueOf"), (0, u "(C)Ljava/lang/String;"), (226, u "([C)V"), (4, .methodref 107 1016), (0, .nameAndType 1017 369), (0, u "canEncode"), (0, .methodref 107 1019), (0, .nameAndType 53 1020), (0, u "(C)[B"), (80, u "serialPersistentFields"), (0, u "[Ljava/io/ObjectStreamField;"), (0, .class_ 1104), (0, u "java/lang/String$CaseInsensitiveComparator"), (1, .class_ 1107), (0, u "java/io/Serializable"), (0, .class_ 1109), (0, u "java/lang/Comparable"), (0, .class_ 1111), (0, u "java/lang/constant/Constable"), (0, .class_ 1113), (0, u "java/lang/constant/ConstantDesc"), (2, u "serialVersionUID"), (0, u "J"), (3, u "REPL"), (0, u "C"), (2, u "LATIN1"), (1, u "UTF16")] 323

def k7m0 : Method := { name := "<init>", desc := "()V", sig := { parameters := [], returnType := none }, accessFlags := 1, code := none }
def k7c1 : Code := { maxStack := 5, maxLocals := 2, code := jdk_42_method_3_code, exceptionTable := #[], attributes := #[] }
def k7m1 : Method := { name := "<init>", desc := "([C)V", sig := { parameters := [(.array .char)], returnType := none }, accessFlags := 1, code := some k7c1 }
def k7c2 : Code := { maxStack := 2, maxLocals := 2, code := jdk_42_method_78_code, exceptionTable := #[], attributes := #[] }
def k7m2 : Method := { name := "hashCode", desc := "()I", sig := { parameters := [], returnType := some .int }, accessFlags := 1, code := some k7c2 }
def k7c3 : Code := { maxStack := 4, maxLocals := 1, code := jdk_42_method_139_code, exceptionTable := #[], attributes := #[] }
def k7m3 : Method := { name := "valueOf", desc := "(C)Ljava/lang/String;", sig := { parameters := [.char], returnType := some (.object "java/lang/String") }, accessFlags := 9, code := some k7c3 }
def k7c4 : Code := { maxStack := 4, maxLocals := 6, code := jdk_42_method_149_code, exceptionTable := #[], attributes := #[] }
def k7m4 : Method := { name := "<init>", desc := "([CIILjava/lang/Void;)V", sig := { parameters := [(.array .char), .int, .int, (.object "java/lang/Void")], returnType := none }, accessFlags := 2, code := some k7c4 }
def k7c5 : Code := { maxStack := 2, maxLocals := 3, code := jdk_42_method_151_code, exceptionTable := #[], attributes := #[] }
def k7m5 : Method := { name := "<init>", desc := "([BB)V", sig := { parameters := [(.array .byte), .byte], returnType := none }, accessFlags := 0, code := some k7c5 }
def k7c6 : Code := { maxStack := 1, maxLocals := 1, code := jdk_42_method_154_code, exceptionTable := #[], attributes := #[] }
def k7m6 : Method := { name := "isLatin1", desc := "()Z", sig := { parameters := [], returnType := some .boolean }, accessFlags := 0, code := some k7c6 }
/-- java/lang/String -/
def k7 : Class := { plain "java/lang/String" (some 0) with
  accessFlags := 49
  interfaces := #[2, 3, 4, 5, 6]
  cf := some (fileOf pool7 10 #[.nestMembers #[1103]] #[{ accessFlags := 1, nameIndex := 5, descriptorIndex := 6, attributes := #[] }, { accessFlags := 1, nameIndex := 5, descriptorIndex := 1010, attributes := #[] }, { accessFlags := 1, nameIndex := 630, descriptorIndex := 334, attributes := #[] }, { accessFlags := 9, nameIndex := 782, descriptorIndex := 783, attributes := #[] }, { accessFlags := 2, nameIndex := 5, descriptorIndex := 29, attributes := #[] }, { accessFlags := 0, nameIndex := 5, descriptorIndex := 211, attributes := #[] }, { accessFlags := 0, nameIndex := 494, descriptorIndex := 142, attributes := #[] }] 49 2 #[1106, 1108, 575, 1110, 1112] #[{ accessFlags := 18, nameIndex := 13, descriptorIndex := 14, attributes := #[] }, { accessFlags := 18, nameIndex := 17, descriptorIndex := 18, attributes := #[] }, { accessFlags := 2, nameIndex := 21, descriptorIndex := 22, attributes := #[] }, { accessFlags := 2, nameIndex := 25, descriptorIndex := 26, attributes := #[] }, { accessFlags := 26, nameIndex := 1116, descriptorIndex := 1117, attributes := #[] }, { accessFlags := 24, nameIndex := 40, descriptorIndex := 26, attributes := #[] }, { accessFlags := 26, nameIndex := 1101, descriptorIndex := 1102, attributes := #[] }, { accessFlags := 26, nameIndex := 1121, descriptorIndex := 1122, attributes := #[] }, { accessFlags := 25, nameIndex := 599, descriptorIndex := 600, attributes := #[] }, { accessFlags := 24, nameIndex := 1125, descriptorIndex := 18, attributes := #[] }, { accessFlags := 24, nameIndex := 1127, descriptorIndex := 18, attributes := #[] }])
  fields := #[{ name := "value", type := (.array .byte), accessFlags := 18, slot := 0, constantValue := 0 }, { name := "coder", type := .byte, accessFlags := 18, slot := 1, constantValue := 0 }, { name := "hash", type := .int, accessFlags := 2, slot := 2, constantValue := 0 }, { name := "hashIsZero", type := .boolean, accessFlags := 2, slot := 3, constantValue := 0 }, { name := "serialVersionUID", type := .long, accessFlags := 26, slot := 0, constantValue := 0 }, { name := "COMPACT_STRINGS", type := .boolean, accessFlags := 24, slot := 1, constantValue := 0 }, { name := "serialPersistentFields", type := (.array (.object "java/io/ObjectStreamField")), accessFlags := 26, slot := 2, constantValue := 0 }, { name := "REPL", type := .char, accessFlags := 26, slot := 3, constantValue := 0 }, { name := "CASE_INSENSITIVE_ORDER", type := (.object "java/util/Comparator"), accessFlags := 25, slot := 4, constantValue := 0 }, { name := "LATIN1", type := .byte, accessFlags := 24, slot := 5, constantValue := 0 }, { name := "UTF16", type := .byte, accessFlags := 24, slot := 6, constantValue := 0 }]
  methods := #[k7m0, k7m1, k7m2, k7m3, k7m4, k7m5, k7m6]
  instanceTypes := #[(.array .byte), .byte, .int, .boolean]
  staticTypes := #[.long, .boolean, (.array (.object "java/io/ObjectStreamField")), .char, (.object "java/util/Comparator"), .byte, .byte]
  resolved := Array.replicate 1451 none
  statics := some 0 }

def pool8 : Array CpInfo := pool [(6, .class_ 8), (1, u "java/lang/Object"), (0, u "<init>"), (0, u "()V"), (1, .class_ 14), (1, u "java/lang/StringUTF16"), (31, u "$assertionsDisabled"), (0, u "Z"), (13, u "HI_BYTE_SHIFT"), (0, u "I"), (2, u "LO_BYTE_SHIFT"), (49, .methodref 12 116), (0, .nameAndType 117 118), (0, u "compress"), (0, u "([CI[BII)I"), (3, u "([CII)[B"), (138, u "coderFromArrayLen"), (0, u "([BI)B"), (106, .class_ 371), (1, u "java/lang/StringUTF16$LinesSpliterator"), (58, u "MAX_LENGTH"), (196, .class_ 628), (0, u "java/lang/StringUTF16$CodePointsSpliterator"), (0, .class_ 630), (0, u "java/lang/StringUTF16$CharsSpliterator")] 4

def k8m0 : Method := { name := "<init>", desc := "()V", sig := { parameters := [], returnType := none }, accessFlags := 0, code := none }
def k8c1 : Code := { maxStack := 2, maxLocals := 2, code := jdk_52_method_15_code, exceptionTable := #[], attributes := #[] }
def k8m1 : Method := { name := "coderFromArrayLen", desc := "([BI)B", sig := { parameters := [(.array .byte), .int], returnType := some .byte }, accessFlags := 8, code := some k8c1 }
def k8c2 : Code := { maxStack := 5, maxLocals := 6, code := jdk_52_method_16_code, exceptionTable := #[], attributes := #[] }
def k8m2 : Method := { name := "compress", desc := "([CII)[B", sig := { parameters := [(.array .char), .int, .int], returnType := some (.array .byte) }, accessFlags := 9, code := some k8c2 }
def k8c3 : Code := { maxStack := 3, maxLocals := 7, code := jdk_52_method_21_code, exceptionTable := #[], attributes := #[] }
def k8m3 : Method := { name := "compress", desc := "([CI[BII)I", sig := { parameters := [(.array .char), .int, (.array .byte), .int, .int], returnType := some .int }, accessFlags := 9, code := some k8c3 }
/-- java/lang/StringUTF16 -/
def k8 : Class := { plain "java/lang/StringUTF16" (some 0) with
  accessFlags := 48
  interfaces := #[]
  cf := some (fileOf pool8 12 #[.nestMembers #[627, 629, 369]] #[{ accessFlags := 0, nameIndex := 9, descriptorIndex := 10, attributes := #[] }, { accessFlags := 8, nameIndex := 261, descriptorIndex := 262, attributes := #[] }, { accessFlags := 9, nameIndex := 117, descriptorIndex := 122, attributes := #[] }, { accessFlags := 9, nameIndex := 117, descriptorIndex := 118, attributes := #[] }] 48 6 #[] #[{ accessFlags := 26, nameIndex := 61, descriptorIndex := 62, attributes := #[] }, { accessFlags := 26, nameIndex := 65, descriptorIndex := 62, attributes := #[] }, { accessFlags := 24, nameIndex := 430, descriptorIndex := 62, attributes := #[] }, { accessFlags := 4120, nameIndex := 46, descriptorIndex := 47, attributes := #[] }])
  fields := #[{ name := "HI_BYTE_SHIFT", type := .int, accessFlags := 26, slot := 0, constantValue := 0 }, { name := "LO_BYTE_SHIFT", type := .int, accessFlags := 26, slot := 1, constantValue := 0 }, { name := "MAX_LENGTH", type := .int, accessFlags := 24, slot := 2, constantValue := 0 }, { name := "$assertionsDisabled", type := .boolean, accessFlags := 4120, slot := 3, constantValue := 0 }]
  methods := #[k8m0, k8m1, k8m2, k8m3]
  instanceTypes := #[]
  staticTypes := #[.int, .int, .int, .boolean]
  resolved := Array.replicate 635 none
  statics := none }

def pool9 : Array CpInfo := pool [(4, .class_ 6), (1, u "java/lang/Object"), (0, u "<init>"), (0, u "()V"), (5, .class_ 16), (1, u "java/lang/StringLatin1"), (28, .class_ 47), (1, u "jdk/internal/util/ArraysSupport"), (9, u "([B)I"), (26, .methodref 45 85), (0, .nameAndType 86 87), (0, u "vectorizedHashCode"), (0, u "(Ljava/lang/Object;IIII)I"), (2, u "canEncode"), (14, u "(C)Z"), (15, u "$assertionsDisabled"), (0, u "Z"), (98, .class_ 223), (1, u "java/lang/StringLatin1$LinesSpliterator"), (74, u "hashCode"), (81, u "toBytes"), (1, u "(C)[B"), (7, .class_ 391), (0, u "java/lang/StringLatin1$CharsSpliterator")] 3

def k9m0 : Method := { name := "<init>", desc := "()V", sig := { parameters := [], returnType := none }, accessFlags := 0, code := none }
def k9c1 : Code := { maxStack := 2, maxLocals := 1, code := jdk_43_method_3_code, exceptionTable := #[], attributes := #[] }
def k9m1 : Method := { name := "canEncode", desc := "(C)Z", sig := { parameters := [.char], returnType := some .boolean }, accessFlags := 9, code := some k9c1 }
def k9c2 : Code := { maxStack := 5, maxLocals := 1, code := jdk_43_method_21_code, exceptionTable := #[], attributes := #[] }
def k9m2 : Method := { name := "hashCode", desc := "([B)I", sig := { parameters := [(.array .byte)], returnType := some .int }, accessFlags := 9, code := some k9c2 }
def k9c3 : Code := { maxStack := 4, maxLocals := 1, code := jdk_43_method_46_code, exceptionTable := #[], attributes := #[] }
def k9m3 : Method := { name := "toBytes", desc := "(C)[B", sig := { parameters := [.char], returnType := some (.array .byte) }, accessFlags := 9, code := some k9c3 }
/-- java/lang/StringLatin1 -/
def k9 : Class := { plain "java/lang/StringLatin1" (some 0) with
  accessFlags := 48
  interfaces := #[]
  cf := some (fileOf pool9 14 #[.nestMembers #[390, 221]] #[{ accessFlags := 0, nameIndex := 7, descriptorIndex := 8, attributes := #[] }, { accessFlags := 9, nameIndex := 90, descriptorIndex := 105, attributes := #[] }, { accessFlags := 9, nameIndex := 298, descriptorIndex := 57, attributes := #[] }, { accessFlags := 9, nameIndex := 380, descriptorIndex := 382, attributes := #[] }] 48 4 #[] #[{ accessFlags := 4120, nameIndex := 121, descriptorIndex := 122, attributes := #[] }])
  fields := #[{ name := "$assertionsDisabled", type := .boolean, accessFlags := 4120, slot := 0, constantValue := 0 }]
  methods := #[k9m0, k9m1, k9m2, k9m3]
  instanceTypes := #[]
  staticTypes := #[.boolean]
  resolved := Array.replicate 395 none
  statics := none }

def pool10 : Array CpInfo := pool [(1, .class_ 2), (0, u "com/example/rising_block/risingblock/util/StringHashes"), (3, u "<init>"), (0, u "(I)V"), (0, .methodref 9 10), (0, .class_ 11), (0, .nameAndType 6 12), (0, u "java/lang/Object"), (0, u "()V"), (0, .fieldref 1 14), (0, .nameAndType 15 16), (0, u "slots"), (0, u "[I"), (0, .fieldref 1 18), (0, .nameAndType 19 16), (0, u "pending"), (8, u "(Ljava/lang/String;)V"), (0, .fieldref 1 30), (0, .nameAndType 31 32), (0, u "mostPending"), (0, u "I"), (0, .fieldref 1 34), (0, .nameAndType 35 32), (0, u "pendingCount"), (0, .methodref 37 38), (0, .class_ 39), (0, .nameAndType 40 41), (0, u "java/lang/Math"), (0, u "min"), (0, u "(II)I"), (0, .methodref 43 44), (0, .class_ 45), (0, .nameAndType 46 47), (0, u "java/util/Arrays"), (0, u "copyOf"), (0, u "([II)[I"), (0, .methodref 1 49), (0, .nameAndType 50 12), (0, u "settle"), (0, .methodref 1 52), (0, .nameAndType 53 54), (0, u "held"), (0, u "(Ljava/lang/String;)I"), (0, .methodref 1 56), (0, .nameAndType 57 58), (0, u "mayContainHeld"), (0, u "(I)Z"), (0, .methodref 1 60), (0, .nameAndType 61 62), (0, u "find"), (0, u "([II)I"), (0, .fieldref 1 64), (0, .nameAndType 65 32), (0, u "size"), (3, .methodref 70 71), (0, .class_ 72), (0, .nameAndType 73 74), (0, u "java/lang/String"), (0, u "hashCode"), (0, u "()I"), (0, .integer 2654435769), (0, .methodref 77 78), (0, .class_ 79), (0, .nameAndType 80 81), (0, u "java/lang/Integer"), (0, u "numberOfLeadingZeros"), (0, u "(I)I"), (0, u "INITIAL_SLOTS"), (2, u "SPREAD"), (0, u "MOST_PENDING"), (3, u "add"), (2, u "meets"), (0, u "(Lcom/example/rising_block/risingblock/util/StringHashes;)Z")] 18

def k10m0 : Method := { name := "<init>", desc := "()V", sig := { parameters := [], returnType := none }, accessFlags := 1, code := none }
def k10c1 : Code := { maxStack := 3, maxLocals := 2, code := prog_107_method_2_code, exceptionTable := #[], attributes := #[] }
def k10m1 : Method := { name := "<init>", desc := "(I)V", sig := { parameters := [.int], returnType := none }, accessFlags := 0, code := some k10c1 }
def k10c2 : Code := { maxStack := 5, maxLocals := 2, code := prog_107_method_3_code, exceptionTable := #[], attributes := #[] }
def k10m2 : Method := { name := "add", desc := "(Ljava/lang/String;)V", sig := { parameters := [(.object "java/lang/String")], returnType := none }, accessFlags := 1, code := some k10c2 }
def k10c3 : Code := { maxStack := 3, maxLocals := 2, code := prog_107_method_5_code, exceptionTable := #[], attributes := #[] }
def k10m3 : Method := { name := "mayContainHeld", desc := "(I)Z", sig := { parameters := [.int], returnType := some .boolean }, accessFlags := 2, code := some k10c3 }
def k10c4 : Code := { maxStack := 2, maxLocals := 5, code := prog_107_method_6_code, exceptionTable := #[], attributes := #[] }
def k10m4 : Method := { name := "meets", desc := "(Lcom/example/rising_block/risingblock/util/StringHashes;)Z", sig := { parameters := [(.object "com/example/rising_block/risingblock/util/StringHashes")], returnType := some .boolean }, accessFlags := 1, code := some k10c4 }
def k10c5 : Code := { maxStack := 3, maxLocals := 4, code := prog_107_method_7_code, exceptionTable := #[], attributes := #[] }
def k10m5 : Method := { name := "settle", desc := "()V", sig := { parameters := [], returnType := none }, accessFlags := 2, code := some k10c5 }
def k10c6 : Code := { maxStack := 1, maxLocals := 2, code := prog_107_method_8_code, exceptionTable := #[], attributes := #[] }
def k10m6 : Method := { name := "held", desc := "(Ljava/lang/String;)I", sig := { parameters := [(.object "java/lang/String")], returnType := some .int }, accessFlags := 10, code := some k10c6 }
def k10c7 : Code := { maxStack := 2, maxLocals := 4, code := prog_107_method_9_code, exceptionTable := #[], attributes := #[] }
def k10m7 : Method := { name := "find", desc := "([II)I", sig := { parameters := [(.array .int), .int], returnType := some .int }, accessFlags := 10, code := some k10c7 }
/-- com/example/rising_block/risingblock/util/StringHashes -/
def k10 : Class := { plain "com/example/rising_block/risingblock/util/StringHashes" (some 0) with
  accessFlags := 49
  interfaces := #[]
  cf := some (fileOf pool10 1 #[] #[{ accessFlags := 1, nameIndex := 6, descriptorIndex := 12, attributes := #[] }, { accessFlags := 0, nameIndex := 6, descriptorIndex := 7, attributes := #[] }, { accessFlags := 1, nameIndex := 90, descriptorIndex := 28, attributes := #[] }, { accessFlags := 2, nameIndex := 57, descriptorIndex := 58, attributes := #[] }, { accessFlags := 1, nameIndex := 93, descriptorIndex := 94, attributes := #[] }, { accessFlags := 2, nameIndex := 50, descriptorIndex := 12, attributes := #[] }, { accessFlags := 10, nameIndex := 53, descriptorIndex := 54, attributes := #[] }, { accessFlags := 10, nameIndex := 61, descriptorIndex := 62, attributes := #[] }] 49 9 #[] #[{ accessFlags := 26, nameIndex := 82, descriptorIndex := 32, attributes := #[] }, { accessFlags := 26, nameIndex := 85, descriptorIndex := 32, attributes := #[] }, { accessFlags := 26, nameIndex := 86, descriptorIndex := 32, attributes := #[] }, { accessFlags := 2, nameIndex := 15, descriptorIndex := 16, attributes := #[] }, { accessFlags := 2, nameIndex := 65, descriptorIndex := 32, attributes := #[] }, { accessFlags := 2, nameIndex := 19, descriptorIndex := 16, attributes := #[] }, { accessFlags := 2, nameIndex := 35, descriptorIndex := 32, attributes := #[] }, { accessFlags := 18, nameIndex := 31, descriptorIndex := 32, attributes := #[] }])
  fields := #[{ name := "INITIAL_SLOTS", type := .int, accessFlags := 26, slot := 0, constantValue := 0 }, { name := "SPREAD", type := .int, accessFlags := 26, slot := 1, constantValue := 0 }, { name := "MOST_PENDING", type := .int, accessFlags := 26, slot := 2, constantValue := 0 }, { name := "slots", type := (.array .int), accessFlags := 2, slot := 0, constantValue := 0 }, { name := "size", type := .int, accessFlags := 2, slot := 1, constantValue := 0 }, { name := "pending", type := (.array .int), accessFlags := 2, slot := 2, constantValue := 0 }, { name := "pendingCount", type := .int, accessFlags := 2, slot := 3, constantValue := 0 }, { name := "mostPending", type := .int, accessFlags := 18, slot := 4, constantValue := 0 }]
  methods := #[k10m0, k10m1, k10m2, k10m3, k10m4, k10m5, k10m6, k10m7]
  instanceTypes := #[(.array .int), .int, (.array .int), .int, .int]
  staticTypes := #[.int, .int, .int]
  resolved := Array.replicate 113 none
  statics := none }

def pool11 : Array CpInfo := pool [(2, .class_ 4), (1, u "java/lang/Object"), (0, u "<init>"), (0, u "()V"), (1, .class_ 10), (1, u "java/lang/Number"), (2, .class_ 14), (0, u "java/io/Serializable"), (0, u "serialVersionUID"), (0, u "J")] 20

def k11m0 : Method := { name := "<init>", desc := "()V", sig := { parameters := [], returnType := none }, accessFlags := 1, code := none }
/-- java/lang/Number -/
def k11 : Class := { plain "java/lang/Number" (some 0) with
  accessFlags := 1057
  interfaces := #[2]
  cf := some (fileOf pool11 8 #[] #[{ accessFlags := 1, nameIndex := 5, descriptorIndex := 6, attributes := #[] }] 1057 2 #[13] #[{ accessFlags := 26, nameIndex := 15, descriptorIndex := 16, attributes := #[] }])
  fields := #[{ name := "serialVersionUID", type := .long, accessFlags := 26, slot := 0, constantValue := 0 }]
  methods := #[k11m0]
  instanceTypes := #[]
  staticTypes := #[.long]
  resolved := Array.replicate 37 none
  statics := none }

def pool12 : Array CpInfo := pool [(1, .class_ 2), (0, u "java/lang/Integer"), (16, u "digits"), (0, u "[C"), (32, u "numberOfLeadingZeros"), (0, u "(I)I"), (30, u "DigitOnes"), (0, u "[B"), (2, u "DigitTens"), (99, .class_ 190), (0, u "java/lang/Integer$IntegerCache"), (3, u "I"), (8, .class_ 204), (0, u "java/lang/Number"), (2, u "value"), (56, .integer 65536), (37, u "TYPE"), (0, u "Ljava/lang/Class;"), (0, .class_ 305), (0, u "java/lang/Comparable"), (0, .class_ 307), (0, u "java/lang/constant/Constable"), (0, .class_ 309), (0, u "java/lang/constant/ConstantDesc"), (0, u "MIN_VALUE"), (1, u "MAX_VALUE"), (3, u "SIZE"), (1, u "BYTES"), (1, u "serialVersionUID"), (0, u "J")] 131

def k12c0 : Code := { maxStack := 3, maxLocals := 2, code := jdk_33_method_47_code, exceptionTable := #[], attributes := #[] }
def k12m0 : Method := { name := "numberOfLeadingZeros", desc := "(I)I", sig := { parameters := [.int], returnType := some .int }, accessFlags := 9, code := some k12c0 }
/-- java/lang/Integer -/
def k12 : Class := { plain "java/lang/Integer" (some 11) with
  accessFlags := 49
  interfaces := #[3, 5, 6]
  cf := some (fileOf pool12 1 #[.nestMembers #[189]] #[{ accessFlags := 9, nameIndex := 53, descriptorIndex := 54, attributes := #[] }] 49 203 #[304, 306, 308] #[{ accessFlags := 25, nameIndex := 310, descriptorIndex := 194, attributes := #[] }, { accessFlags := 25, nameIndex := 312, descriptorIndex := 194, attributes := #[] }, { accessFlags := 25, nameIndex := 302, descriptorIndex := 303, attributes := #[] }, { accessFlags := 24, nameIndex := 19, descriptorIndex := 20, attributes := #[] }, { accessFlags := 24, nameIndex := 89, descriptorIndex := 86, attributes := #[] }, { accessFlags := 24, nameIndex := 85, descriptorIndex := 86, attributes := #[] }, { accessFlags := 18, nameIndex := 207, descriptorIndex := 194, attributes := #[] }, { accessFlags := 25, nameIndex := 316, descriptorIndex := 194, attributes := #[] }, { accessFlags := 25, nameIndex := 318, descriptorIndex := 194, attributes := #[] }, { accessFlags := 26, nameIndex := 320, descriptorIndex := 321, attributes := #[] }])
  fields := #[{ name := "MIN_VALUE", type := .int, accessFlags := 25, slot := 0, constantValue := 0 }, { name := "MAX_VALUE", type := .int, accessFlags := 25, slot := 1, constantValue := 0 }, { name := "TYPE", type := (.object "java/lang/Class"), accessFlags := 25, slot := 2, constantValue := 0 }, { name := "digits", type := (.array .char), accessFlags := 24, slot := 3, constantValue := 0 }, { name := "DigitTens", type := (.array .byte), accessFlags := 24, slot := 4, constantValue := 0 }, { name := "DigitOnes", type := (.array .byte), accessFlags := 24, slot := 5, constantValue := 0 }, { name := "value", type := .int, accessFlags := 18, slot := 0, constantValue := 0 }, { name := "SIZE", type := .int, accessFlags := 25, slot := 6, constantValue := 0 }, { name := "BYTES", type := .int, accessFlags := 25, slot := 7, constantValue := 0 }, { name := "serialVersionUID", type := .long, accessFlags := 26, slot := 8, constantValue := 0 }]
  methods := #[k12m0]
  instanceTypes := #[.int]
  staticTypes := #[.int, .int, (.object "java/lang/Class"), (.array .char), (.array .byte), (.array .byte), .int, .int, .long]
  resolved := Array.replicate 453 none
  statics := none }

def pool13 : Array CpInfo := pool [(9, u "<init>"), (6, .class_ 18), (1, u "java/lang/Object"), (0, u "()V"), (1, .class_ 23), (1, u "jdk/internal/util/ArraysSupport"), (0, u "LOG2_ARRAY_LONG_INDEX_SCALE"), (0, u "I"), (2, u "U"), (0, u "Ljdk/internal/misc/Unsafe;"), (8, u "BIG_ENDIAN"), (0, u "Z"), (8, u "LOG2_BYTE_BIT_SIZE"), (4, u "LOG2_ARRAY_INT_INDEX_SCALE"), (6, .class_ 61), (0, u "[B"), (0, .methodref 21 63), (0, .nameAndType 64 65), (0, u "signedHashCode"), (0, u "(I[BII)I"), (42, u "JLA"), (0, u "Ljdk/internal/access/JavaLangAccess;"), (11, u "LOG2_ARRAY_BOOLEAN_INDEX_SCALE"), (9, u "LOG2_ARRAY_BYTE_INDEX_SCALE"), (5, u "LOG2_ARRAY_CHAR_INDEX_SCALE"), (5, u "LOG2_ARRAY_SHORT_INDEX_SCALE"), (18, u "LOG2_ARRAY_FLOAT_INDEX_SCALE"), (24, u "LOG2_ARRAY_DOUBLE_INDEX_SCALE"), (89, u "T_BOOLEAN"), (2, u "T_CHAR"), (1, u "T_FLOAT"), (1, u "T_DOUBLE"), (1, u "T_BYTE"), (1, u "T_SHORT"), (1, u "T_INT"), (1, u "T_LONG"), (1, u "SOFT_MAX_ARRAY_LENGTH"), (26, u "vectorizedHashCode"), (0, u "(Ljava/lang/Object;IIII)I")] 55

def k13m0 : Method := { name := "<init>", desc := "()V", sig := { parameters := [], returnType := none }, accessFlags := 2, code := none }
def k13c1 : Code := { maxStack := 4, maxLocals := 5, code := jdk_48_method_4_code, exceptionTable := #[], attributes := #[] }
def k13m1 : Method := { name := "vectorizedHashCode", desc := "(Ljava/lang/Object;IIII)I", sig := { parameters := [(.object "java/lang/Object"), .int, .int, .int, .int], returnType := some .int }, accessFlags := 9, code := some k13c1 }
def k13c2 : Code := { maxStack := 3, maxLocals := 6, code := jdk_48_method_5_code, exceptionTable := #[], attributes := #[] }
def k13m2 : Method := { name := "signedHashCode", desc := "(I[BII)I", sig := { parameters := [.int, (.array .byte), .int, .int], returnType := some .int }, accessFlags := 10, code := some k13c2 }
/-- jdk/internal/util/ArraysSupport -/
def k13 : Class := { plain "jdk/internal/util/ArraysSupport" (some 0) with
  accessFlags := 33
  interfaces := #[]
  cf := some (fileOf pool13 21 #[] #[{ accessFlags := 2, nameIndex := 9, descriptorIndex := 19, attributes := #[] }, { accessFlags := 9, nameIndex := 321, descriptorIndex := 322, attributes := #[] }, { accessFlags := 10, nameIndex := 64, descriptorIndex := 65, attributes := #[] }] 33 16 #[] #[{ accessFlags := 24, nameIndex := 28, descriptorIndex := 29, attributes := #[] }, { accessFlags := 26, nameIndex := 38, descriptorIndex := 39, attributes := #[] }, { accessFlags := 25, nameIndex := 121, descriptorIndex := 25, attributes := #[] }, { accessFlags := 25, nameIndex := 131, descriptorIndex := 25, attributes := #[] }, { accessFlags := 25, nameIndex := 137, descriptorIndex := 25, attributes := #[] }, { accessFlags := 25, nameIndex := 143, descriptorIndex := 25, attributes := #[] }, { accessFlags := 25, nameIndex := 53, descriptorIndex := 25, attributes := #[] }, { accessFlags := 25, nameIndex := 24, descriptorIndex := 25, attributes := #[] }, { accessFlags := 25, nameIndex := 162, descriptorIndex := 25, attributes := #[] }, { accessFlags := 25, nameIndex := 187, descriptorIndex := 25, attributes := #[] }, { accessFlags := 26, nameIndex := 48, descriptorIndex := 25, attributes := #[] }, { accessFlags := 25, nameIndex := 277, descriptorIndex := 25, attributes := #[] }, { accessFlags := 25, nameIndex := 280, descriptorIndex := 25, attributes := #[] }, { accessFlags := 25, nameIndex := 282, descriptorIndex := 25, attributes := #[] }, { accessFlags := 25, nameIndex := 284, descriptorIndex := 25, attributes := #[] }, { accessFlags := 25, nameIndex := 286, descriptorIndex := 25, attributes := #[] }, { accessFlags := 25, nameIndex := 288, descriptorIndex := 25, attributes := #[] }, { accessFlags := 25, nameIndex := 290, descriptorIndex := 25, attributes := #[] }, { accessFlags := 25, nameIndex := 292, descriptorIndex := 25, attributes := #[] }, { accessFlags := 26, nameIndex := 108, descriptorIndex := 109, attributes := #[] }, { accessFlags := 25, nameIndex := 294, descriptorIndex := 25, attributes := #[] }])
  fields := #[{ name := "U", type := (.object "jdk/internal/misc/Unsafe"), accessFlags := 24, slot := 0, constantValue := 0 }, { name := "BIG_ENDIAN", type := .boolean, accessFlags := 26, slot := 1, constantValue := 0 }, { name := "LOG2_ARRAY_BOOLEAN_INDEX_SCALE", type := .int, accessFlags := 25, slot := 2, constantValue := 0 }, { name := "LOG2_ARRAY_BYTE_INDEX_SCALE", type := .int, accessFlags := 25, slot := 3, constantValue := 0 }, { name := "LOG2_ARRAY_CHAR_INDEX_SCALE", type := .int, accessFlags := 25, slot := 4, constantValue := 0 }, { name := "LOG2_ARRAY_SHORT_INDEX_SCALE", type := .int, accessFlags := 25, slot := 5, constantValue := 0 }, { name := "LOG2_ARRAY_INT_INDEX_SCALE", type := .int, accessFlags := 25, slot := 6, constantValue := 0 }, { name := "LOG2_ARRAY_LONG_INDEX_SCALE", type := .int, accessFlags := 25, slot := 7, constantValue := 0 }, { name := "LOG2_ARRAY_FLOAT_INDEX_SCALE", type := .int, accessFlags := 25, slot := 8, constantValue := 0 }, { name := "LOG2_ARRAY_DOUBLE_INDEX_SCALE", type := .int, accessFlags := 25, slot := 9, constantValue := 0 }, { name := "LOG2_BYTE_BIT_SIZE", type := .int, accessFlags := 26, slot := 10, constantValue := 0 }, { name := "T_BOOLEAN", type := .int, accessFlags := 25, slot := 11, constantValue := 0 }, { name := "T_CHAR", type := .int, accessFlags := 25, slot := 12, constantValue := 0 }, { name := "T_FLOAT", type := .int, accessFlags := 25, slot := 13, constantValue := 0 }, { name := "T_DOUBLE", type := .int, accessFlags := 25, slot := 14, constantValue := 0 }, { name := "T_BYTE", type := .int, accessFlags := 25, slot := 15, constantValue := 0 }, { name := "T_SHORT", type := .int, accessFlags := 25, slot := 16, constantValue := 0 }, { name := "T_INT", type := .int, accessFlags := 25, slot := 17, constantValue := 0 }, { name := "T_LONG", type := .int, accessFlags := 25, slot := 18, constantValue := 0 }, { name := "JLA", type := (.object "jdk/internal/access/JavaLangAccess"), accessFlags := 26, slot := 19, constantValue := 0 }, { name := "SOFT_MAX_ARRAY_LENGTH", type := .int, accessFlags := 25, slot := 20, constantValue := 0 }]
  methods := #[k13m0, k13m1, k13m2]
  instanceTypes := #[]
  staticTypes := #[(.object "jdk/internal/misc/Unsafe"), .boolean, .int, .int, .int, .int, .int, .int, .int, .int, .int, .int, .int, .int, .int, .int, .int, .int, .int, (.object "jdk/internal/access/JavaLangAccess"), .int]
  resolved := Array.replicate 378 none
  statics := none }

def pool14 : Array CpInfo := pool [(1, .class_ 2), (0, u "java/lang/Math"), (1, .class_ 6), (1, u "java/lang/Object"), (0, u "<init>"), (0, u "()V"), (89, .class_ 100), (1, u "java/lang/Math$RandomNumberGeneratorHolder"), (71, u "negativeZeroFloatBits"), (0, u "J"), (2, u "negativeZeroDoubleBits"), (24, u "min"), (43, u "$assertionsDisabled"), (0, u "Z"), (88, u "(II)I"), (2, u "twoToTheDoubleScaleDown"), (0, u "D"), (4, u "twoToTheDoubleScaleUp"), (9, u "E"), (3, u "PI"), (2, u "TAU"), (2, u "DEGREES_TO_RADIANS"), (0, u "RADIANS_TO_DEGREES")] 94

def k14m0 : Method := { name := "<init>", desc := "()V", sig := { parameters := [], returnType := none }, accessFlags := 2, code := none }
def k14c1 : Code := { maxStack := 2, maxLocals := 2, code := jdk_29_method_69_code, exceptionTable := #[], attributes := #[] }
def k14m1 : Method := { name := "min", desc := "(II)I", sig := { parameters := [.int, .int], returnType := some .int }, accessFlags := 9, code := some k14c1 }
/-- java/lang/Math -/
def k14 : Class := { plain "java/lang/Math" (some 0) with
  accessFlags := 49
  interfaces := #[]
  cf := some (fileOf pool14 1 #[.nestMembers #[98]] #[{ accessFlags := 2, nameIndex := 7, descriptorIndex := 8, attributes := #[] }, { accessFlags := 9, nameIndex := 201, descriptorIndex := 335, attributes := #[] }] 49 4 #[] #[{ accessFlags := 25, nameIndex := 354, descriptorIndex := 339, attributes := #[] }, { accessFlags := 25, nameIndex := 358, descriptorIndex := 339, attributes := #[] }, { accessFlags := 25, nameIndex := 361, descriptorIndex := 339, attributes := #[] }, { accessFlags := 26, nameIndex := 364, descriptorIndex := 339, attributes := #[] }, { accessFlags := 26, nameIndex := 365, descriptorIndex := 339, attributes := #[] }, { accessFlags := 26, nameIndex := 172, descriptorIndex := 173, attributes := #[] }, { accessFlags := 26, nameIndex := 176, descriptorIndex := 173, attributes := #[] }, { accessFlags := 8, nameIndex := 344, descriptorIndex := 339, attributes := #[] }, { accessFlags := 8, nameIndex := 338, descriptorIndex := 339, attributes := #[] }, { accessFlags := 4120, nameIndex := 245, descriptorIndex := 246, attributes := #[] }])
  fields := #[{ name := "E", type := .double, accessFlags := 25, slot := 0, constantValue := 0 }, { name := "PI", type := .double, accessFlags := 25, slot := 1, constantValue := 0 }, { name := "TAU", type := .double, accessFlags := 25, slot := 2, constantValue := 0 }, { name := "DEGREES_TO_RADIANS", type := .double, accessFlags := 26, slot := 3, constantValue := 0 }, { name := "RADIANS_TO_DEGREES", type := .double, accessFlags := 26, slot := 4, constantValue := 0 }, { name := "negativeZeroFloatBits", type := .long, accessFlags := 26, slot := 5, constantValue := 0 }, { name := "negativeZeroDoubleBits", type := .long, accessFlags := 26, slot := 6, constantValue := 0 }, { name := "twoToTheDoubleScaleUp", type := .double, accessFlags := 8, slot := 7, constantValue := 0 }, { name := "twoToTheDoubleScaleDown", type := .double, accessFlags := 8, slot := 8, constantValue := 0 }, { name := "$assertionsDisabled", type := .boolean, accessFlags := 4120, slot := 9, constantValue := 0 }]
  methods := #[k14m0, k14m1]
  instanceTypes := #[]
  staticTypes := #[.double, .double, .double, .double, .double, .long, .long, .double, .double, .boolean]
  resolved := Array.replicate 460 none
  statics := none }

def pool15 : Array CpInfo := pool [(2, .class_ 4), (1, u "java/lang/Object"), (0, u "<init>"), (0, u "()V"), (7, .class_ 16), (1, u "java/util/Arrays"), (57, .class_ 76), (1, u "java/util/Arrays$NaturalOrder"), (36, .class_ 115), (1, u "java/util/Arrays$LegacyMergeSort"), (1, u "Z"), (32, .methodref 151 152), (0, .class_ 153), (0, .nameAndType 154 155), (0, u "java/lang/System"), (0, u "arraycopy"), (0, u "(Ljava/lang/Object;ILjava/lang/Object;II)V"), (146, u "copyOf"), (1, .methodref 305 306), (0, .class_ 307), (0, .nameAndType 308 309), (0, u "java/lang/Math"), (0, u "min"), (0, u "(II)I"), (65, .class_ 376), (0, u "java/util/Arrays$ArrayList"), (68, u "$assertionsDisabled"), (269, u "MIN_ARRAY_SORT_GRAN"), (0, u "I"), (2, u "INSERTIONSORT_THRESHOLD"), (151, u "([II)[I"), (103, .class_ 976), (0, u "java/util/Arrays$ArrayItr")] 52

def k15m0 : Method := { name := "<init>", desc := "()V", sig := { parameters := [], returnType := none }, accessFlags := 2, code := none }
def k15c1 : Code := { maxStack := 6, maxLocals := 3, code := jdk_65_method_123_code, exceptionTable := #[], attributes := #[] }
def k15m1 : Method := { name := "copyOf", desc := "([II)[I", sig := { parameters := [(.array .int), .int], returnType := some (.array .int) }, accessFlags := 9, code := some k15c1 }
/-- java/util/Arrays -/
def k15 : Class := { plain "java/util/Arrays" (some 0) with
  accessFlags := 49
  interfaces := #[]
  cf := some (fileOf pool15 14 #[.nestMembers #[975, 375, 113, 74]] #[{ accessFlags := 2, nameIndex := 5, descriptorIndex := 6, attributes := #[] }, { accessFlags := 9, nameIndex := 302, descriptorIndex := 871, attributes := #[] }] 49 2 #[] #[{ accessFlags := 26, nameIndex := 715, descriptorIndex := 716, attributes := #[] }, { accessFlags := 26, nameIndex := 719, descriptorIndex := 716, attributes := #[] }, { accessFlags := 4120, nameIndex := 445, descriptorIndex := 117, attributes := #[] }])
  fields := #[{ name := "MIN_ARRAY_SORT_GRAN", type := .int, accessFlags := 26, slot := 0, constantValue := 0 }, { name := "INSERTIONSORT_THRESHOLD", type := .int, accessFlags := 26, slot := 1, constantValue := 0 }, { name := "$assertionsDisabled", type := .boolean, accessFlags := 4120, slot := 2, constantValue := 0 }]
  methods := #[k15m0, k15m1]
  instanceTypes := #[]
  staticTypes := #[.int, .int, .boolean]
  resolved := Array.replicate 1029 none
  statics := none }

def pool16 : Array CpInfo := pool [(2, .class_ 4), (1, u "java/lang/Object"), (0, u "<init>"), (0, u "()V"), (1, .class_ 10), (1, u "java/lang/System"), (0, u "allowSecurityManager"), (0, u "I"), (16, u "cons"), (0, u "Ljava/io/Console;"), (77, .class_ 110), (1, u "java/lang/System$CallersHolder"), (43, u "initialErrStream"), (0, u "Ljava/io/PrintStream;"), (19, u "security"), (0, u "Ljava/lang/SecurityManager;"), (31, .class_ 209), (0, u "java/lang/System$1"), (7, u "props"), (0, u "Ljava/util/Properties;"), (2, u "lineSeparator"), (0, u "Ljava/lang/String;"), (96, .class_ 321), (1, u "java/lang/System$LoggerFinder"), (5, .class_ 328), (0, u "java/lang/System$Logger"), (67, u "err"), (2, u "out"), (91, u "notSupportedJnuEncoding"), (15, u "in"), (17, u "initialIn"), (0, u "Ljava/io/InputStream;"), (35, u "bootLayer"), (0, u "Ljava/lang/ModuleLayer;"), (99, .class_ 664), (0, u "java/lang/System$2"), (9, u "NEVER"), (2, u "MAYBE"), (49, u "arraycopy"), (0, u "(Ljava/lang/Object;ILjava/lang/Object;II)V"), (72, .class_ 802), (0, u "java/lang/System$Logger$Level")] 31

def k16m0 : Method := { name := "<init>", desc := "()V", sig := { parameters := [], returnType := none }, accessFlags := 2, code := none }
def k16m1 : Method := { name := "arraycopy", desc := "(Ljava/lang/Object;ILjava/lang/Object;II)V", sig := { parameters := [(.object "java/lang/Object"), .int, (.object "java/lang/Object"), .int, .int], returnType := none }, accessFlags := 265, code := none }
/-- java/lang/System -/
def k16 : Class := { plain "java/lang/System" (some 0) with
  accessFlags := 49
  interfaces := #[]
  cf := some (fileOf pool16 8 #[.nestMembers #[319, 327, 801, 108, 663, 208]] #[{ accessFlags := 2, nameIndex := 5, descriptorIndex := 6, attributes := #[] }, { accessFlags := 265, nameIndex := 727, descriptorIndex := 728, attributes := #[] }] 49 2 #[] #[{ accessFlags := 25, nameIndex := 507, descriptorIndex := 526, attributes := #[] }, { accessFlags := 25, nameIndex := 399, descriptorIndex := 155, attributes := #[] }, { accessFlags := 25, nameIndex := 396, descriptorIndex := 155, attributes := #[] }, { accessFlags := 10, nameIndex := 525, descriptorIndex := 526, attributes := #[] }, { accessFlags := 26, nameIndex := 674, descriptorIndex := 12, attributes := #[] }, { accessFlags := 26, nameIndex := 677, descriptorIndex := 12, attributes := #[] }, { accessFlags := 10, nameIndex := 11, descriptorIndex := 12, attributes := #[] }, { accessFlags := 74, nameIndex := 175, descriptorIndex := 176, attributes := #[] }, { accessFlags := 10, nameIndex := 491, descriptorIndex := 222, attributes := #[] }, { accessFlags := 74, nameIndex := 29, descriptorIndex := 30, attributes := #[] }, { accessFlags := 74, nameIndex := 154, descriptorIndex := 155, attributes := #[] }, { accessFlags := 10, nameIndex := 217, descriptorIndex := 218, attributes := #[] }, { accessFlags := 10, nameIndex := 221, descriptorIndex := 222, attributes := #[] }, { accessFlags := 8, nameIndex := 562, descriptorIndex := 563, attributes := #[] }])
  fields := #[{ name := "in", type := (.object "java/io/InputStream"), accessFlags := 25, slot := 0, constantValue := 0 }, { name := "out", type := (.object "java/io/PrintStream"), accessFlags := 25, slot := 1, constantValue := 0 }, { name := "err", type := (.object "java/io/PrintStream"), accessFlags := 25, slot := 2, constantValue := 0 }, { name := "initialIn", type := (.object "java/io/InputStream"), accessFlags := 10, slot := 3, constantValue := 0 }, { name := "NEVER", type := .int, accessFlags := 26, slot := 4, constantValue := 0 }, { name := "MAYBE", type := .int, accessFlags := 26, slot := 5, constantValue := 0 }, { name := "allowSecurityManager", type := .int, accessFlags := 10, slot := 6, constantValue := 0 }, { name := "security", type := (.object "java/lang/SecurityManager"), accessFlags := 74, slot := 7, constantValue := 0 }, { name := "notSupportedJnuEncoding", type := (.object "java/lang/String"), accessFlags := 10, slot := 8, constantValue := 0 }, { name := "cons", type := (.object "java/io/Console"), accessFlags := 74, slot := 9, constantValue := 0 }, { name := "initialErrStream", type := (.object "java/io/PrintStream"), accessFlags := 74, slot := 10, constantValue := 0 }, { name := "props", type := (.object "java/util/Properties"), accessFlags := 10, slot := 11, constantValue := 0 }, { name := "lineSeparator", type := (.object "java/lang/String"), accessFlags := 10, slot := 12, constantValue := 0 }, { name := "bootLayer", type := (.object "java/lang/ModuleLayer"), accessFlags := 8, slot := 13, constantValue := 0 }]
  methods := #[k16m0, k16m1]
  instanceTypes := #[]
  staticTypes := #[(.object "java/io/InputStream"), (.object "java/io/PrintStream"), (.object "java/io/PrintStream"), (.object "java/io/InputStream"), .int, .int, .int, (.object "java/lang/SecurityManager"), (.object "java/lang/String"), (.object "java/io/Console"), (.object "java/io/PrintStream"), (.object "java/util/Properties"), (.object "java/lang/String"), (.object "java/lang/ModuleLayer")]
  resolved := Array.replicate 834 none
  statics := none }

def pool17 : Array CpInfo := pool [(2, .class_ 4), (1, u "java/lang/Object"), (0, u "<init>"), (0, u "()V"), (17, .class_ 26), (1, u "jdk/internal/util/Preconditions"), (28, .class_ 56), (0, u "jdk/internal/util/Preconditions$4"), (57, .class_ 115), (0, u "jdk/internal/util/Preconditions$1"), (7, u "SIOOBE_FORMATTER"), (0, u "Ljava/util/function/BiFunction;"), (0, .class_ 126), (0, u "jdk/internal/util/Preconditions$2"), (3, u "AIOOBE_FORMATTER"), (0, .class_ 132), (0, u "jdk/internal/util/Preconditions$3"), (3, u "IOOBE_FORMATTER")] 57

def k17m0 : Method := { name := "<init>", desc := "()V", sig := { parameters := [], returnType := none }, accessFlags := 1, code := none }
/-- jdk/internal/util/Preconditions -/
def k17 : Class := { plain "jdk/internal/util/Preconditions" (some 0) with
  accessFlags := 33
  interfaces := #[]
  cf := some (fileOf pool17 24 #[.nestMembers #[55, 131, 125, 114]] #[{ accessFlags := 1, nameIndex := 5, descriptorIndex := 6, attributes := #[] }] 33 2 #[] #[{ accessFlags := 25, nameIndex := 123, descriptorIndex := 124, attributes := #[] }, { accessFlags := 25, nameIndex := 130, descriptorIndex := 124, attributes := #[] }, { accessFlags := 25, nameIndex := 136, descriptorIndex := 124, attributes := #[] }])
  fields := #[{ name := "SIOOBE_FORMATTER", type := (.object "java/util/function/BiFunction"), accessFlags := 25, slot := 0, constantValue := 0 }, { name := "AIOOBE_FORMATTER", type := (.object "java/util/function/BiFunction"), accessFlags := 25, slot := 1, constantValue := 0 }, { name := "IOOBE_FORMATTER", type := (.object "java/util/function/BiFunction"), accessFlags := 25, slot := 2, constantValue := 0 }]
  methods := #[k17m0]
  instanceTypes := #[]
  staticTypes := #[(.object "java/util/function/BiFunction"), (.object "java/util/function/BiFunction"), (.object "java/util/function/BiFunction")]
  resolved := Array.replicate 194 none
  statics := some 1 }

def pool18 : Array CpInfo := pool [(1, u "java/lang/Cloneable"), (0, .class_ 1), (0, u "java/lang/Object"), (0, .class_ 3)] 3

/-- java/lang/Cloneable -/
def k18 : Class := { plain "java/lang/Cloneable" (some 0) with
  accessFlags := 1537
  interfaces := #[]
  cf := some (fileOf pool18 2 #[] #[] 1537 4 #[] #[])
  fields := #[]
  methods := #[]
  instanceTypes := #[]
  staticTypes := #[]
  resolved := Array.replicate 8 none
  statics := none }

/-- the primitive byte -/
def k19 : Class := { plain "byte" none with kind := .primitive 'B', accessFlags := 0x411 }
/-- [B -/
def k20 : Class := { plain "[B" (some 0) with kind := .array 19 .byte, interfaces := #[18, 2], accessFlags := 1041 }

/-- the primitive char -/
def k21 : Class := { plain "char" none with kind := .primitive 'C', accessFlags := 0x411 }
/-- [C -/
def k22 : Class := { plain "[C" (some 0) with kind := .array 21 .char, interfaces := #[18, 2], accessFlags := 1041 }

/-- the primitive int -/
def k23 : Class := { plain "int" none with kind := .primitive 'I', accessFlags := 0x411 }
/-- [I -/
def k24 : Class := { plain "[I" (some 0) with kind := .array 23 .int, interfaces := #[18, 2], accessFlags := 1041 }

def heap : Heap := #[{ cls := 7, slots := #[.long 0, .int 1, .null, .int 0, .null, .int 0, .int 0], vm := .statics 7 },
  { cls := 17, slots := #[.null, .null, .null], vm := .statics 17 }]
def classes : Array Class := #[k0, k1, k2, k3, k4, k5, k6, k7, k8, k9, k10, k11, k12, k13, k14, k15, k16, k17, k18, k19, k20, k21, k22, k23, k24]
def interned : List (Array UInt16 × Addr) := []
def slotsUsed : Nat := 10
def theMethod : MethodId := ⟨1, 1⟩
def args0 : Array Value := #[.int 5, .long 1, .long 2]
def aboutOver (below : List Frame) : State where
  vm := { classes := classes, interned := interned.toArray }
  heap := heap
  slotsUsed := slotsUsed
  threads := #[{ frames := .invoking theMethod args0 :: below }]
def below0 : List Frame := [.native { method := ⟨0, 0⟩, args := #[] }]
def about1 : State := aboutOver below0
def p0 : Program := .bare "" "" ""
def e0 : Env := launch0.env 0 0 0
theorem w_frames : about1.frames = Frame.invoking theMethod args0 :: below0 := rfl
set_option maxRecDepth 65536 in
theorem w_args : argsFit about1.vm theMethod args0 = true := by decide +kernel
set_option maxRecDepth 65536 in
theorem w_heap : heapFits about1 = true := by decide +kernel
set_option maxRecDepth 65536 in
theorem w_runnable : about1.curStatus? = some .runnable := by decide +kernel
set_option maxRecDepth 65536 in
theorem w_alone : about1.alone = true := by decide +kernel
set_option maxRecDepth 65536 in
theorem w_named : about1.methodNamed? x = some theMethod := by decide +kernel
set_option maxRecDepth 65536 in
theorem w_hears : about1.hears theMethod below0 = true := by decide +kernel
set_option maxRecDepth 65536 in
theorem w_ripe : about1.ripe theMethod args0 below0 = true := by decide +kernel
theorem w_running : about1.status = .running := rfl
set_option maxRecDepth 65536 in
theorem w_room : about1.hasRoom e0.platform room_1 = true :=
  launch0.hasRoom_least _ room_1 (by decide +kernel) (by decide +kernel) (by decide +kernel) (by decide +kernel) (by decide +kernel) (by decide +kernel)
theorem allAtoms_all (ts : List Jvm.Cond) (a : Array Jvm.Value) (st : Jvm.State) : (allAtoms ts).before a st = ts.all (fun c => c.before a st) := by
  induction ts with
  | nil => rfl
  | cons c t ih =>
    show (Jvm.Cond.and c (allAtoms t)).before a st = _
    rw [Jvm.Cond.before_and, ih, List.all_cons]
def words1 : List Jvm.Cond := Jvm.Cond.code x code maxLocals ret :: tables_1
/-- a 'code' word, met by the world's own term for the bytes: nothing is compared byte by byte -/
theorem code_word {y : MethodName} {bytes : ByteArray} {mx : Nat} {rt : Option FieldType} {a : Array Value} {s : State} {m : MethodId} {meth : Method} {c : Code} (h1 : s.methodNamed? y = some m) (h2 : s.vm.method? m = some meth) (h3 : meth.code = some c) (h4 : c.code = bytes)
    (h5 : (c.maxLocals == mx && c.exceptionTable.isEmpty && decide (c.maxStack ≤ mostOperands) && decide (meth.sig.returnType = rt) && !meth.locks && decide (parseMethodDescriptor y.desc = some meth.sig)) = true) : (Jvm.Cond.code y bytes mx rt).before a s = true := by
  simp only [Bool.and_eq_true, beq_iff_eq, Bool.not_eq_true', decide_eq_true_eq] at h5
  obtain ⟨⟨⟨⟨⟨g1, g2⟩, g3⟩, g4⟩, g5⟩, g6⟩ := h5
  simp [Cond.before, Cond.holds, Cond.value, h1, h2, h3, h4, g1, g2, g3, g4, g5, g6]
def isCode : Jvm.Cond → Bool
  | .code _ _ _ _ => true
  | _ => false
theorem all_split {L : List Jvm.Cond} {P : Jvm.Cond → Bool} (h1 : L.all (fun c => isCode c || P c) = true) (h2 : ∀ c ∈ L.filter isCode, P c = true) : L.all P = true := by
  refine List.all_eq_true.mpr fun c hc => ?_
  have h := List.all_eq_true.mp h1 c hc
  rcases Bool.eq_false_or_eq_true (isCode c) with hi | hi
  · exact h2 c (List.mem_filter.mpr ⟨hc, hi⟩)
  · simpa [hi] using h
set_option maxRecDepth 65536 in
theorem w_c0 : (Jvm.Cond.code x code maxLocals ret).before args0 about1 = true := code_word (m := ⟨1, 1⟩) (meth := k1m1) (c := k1c1) (by decide +kernel) rfl rfl rfl (by decide +kernel)
set_option maxRecDepth 65536 in
theorem w_c1 : (Jvm.Cond.code ({ cls := "com/example/rising_block/risingblock/util/StringHashesMeetsPinLaw", name := "code", desc := "(JI)I" } : Jvm.MethodName) method_4_code (3 : Nat) (Option.some Jvm.ClassFile.FieldType.int)).before args0 about1 = true := code_word (m := ⟨1, 3⟩) (meth := k1m3) (c := k1c3) (by decide +kernel) rfl rfl rfl (by decide +kernel)
set_option maxRecDepth 65536 in
theorem w_c2 : (Jvm.Cond.code ({ cls := "com/example/rising_block/risingblock/util/StringHashesMeetsPinLaw", name := "str", desc := "(I)Ljava/lang/String;" } : Jvm.MethodName) method_6_code (4 : Nat) (Option.some (Jvm.ClassFile.FieldType.object "java/lang/String"))).before args0 about1 = true := code_word (m := ⟨1, 5⟩) (meth := k1m5) (c := k1c5) (by decide +kernel) rfl rfl rfl (by decide +kernel)
set_option maxRecDepth 65536 in
theorem w_c3 : (Jvm.Cond.code ({ cls := "com/example/rising_block/risingblock/util/StringHashesMeetsPinLaw", name := "len", desc := "(I)I" } : Jvm.MethodName) method_5_code (2 : Nat) (Option.some Jvm.ClassFile.FieldType.int)).before args0 about1 = true := code_word (m := ⟨1, 4⟩) (meth := k1m4) (c := k1c4) (by decide +kernel) rfl rfl rfl (by decide +kernel)
set_option maxRecDepth 65536 in
theorem w_c4 : (Jvm.Cond.code ({ cls := "java/lang/String", name := "<init>", desc := "([C)V" } : Jvm.MethodName) jdk_42_method_3_code (2 : Nat) (Option.none : Option Jvm.ClassFile.FieldType)).before args0 about1 = true := code_word (m := ⟨7, 1⟩) (meth := k7m1) (c := k7c1) (by decide +kernel) rfl rfl rfl (by decide +kernel)
set_option maxRecDepth 65536 in
theorem w_c5 : (Jvm.Cond.code ({ cls := "java/lang/String", name := "<init>", desc := "([CIILjava/lang/Void;)V" } : Jvm.MethodName) jdk_42_method_149_code (6 : Nat) (Option.none : Option Jvm.ClassFile.FieldType)).before args0 about1 = true := code_word (m := ⟨7, 4⟩) (meth := k7m4) (c := k7c4) (by decide +kernel) rfl rfl rfl (by decide +kernel)
set_option maxRecDepth 65536 in
theorem w_c6 : (Jvm.Cond.code ({ cls := "java/lang/Object", name := "<init>", desc := "()V" } : Jvm.MethodName) object_method_1_code (1 : Nat) (Option.none : Option Jvm.ClassFile.FieldType)).before args0 about1 = true := code_word (m := ⟨0, 0⟩) (meth := k0m0) (c := k0c0) (by decide +kernel) rfl rfl rfl (by decide +kernel)
set_option maxRecDepth 65536 in
theorem w_c7 : (Jvm.Cond.code ({ cls := "java/lang/StringUTF16", name := "compress", desc := "([CII)[B" } : Jvm.MethodName) jdk_52_method_16_code (6 : Nat) (Option.some (Jvm.ClassFile.FieldType.array Jvm.ClassFile.FieldType.byte))).before args0 about1 = true := code_word (m := ⟨8, 2⟩) (meth := k8m2) (c := k8c2) (by decide +kernel) rfl rfl rfl (by decide +kernel)
set_option maxRecDepth 65536 in
theorem w_c8 : (Jvm.Cond.code ({ cls := "java/lang/StringUTF16", name := "compress", desc := "([CI[BII)I" } : Jvm.MethodName) jdk_52_method_21_code (7 : Nat) (Option.some Jvm.ClassFile.FieldType.int)).before args0 about1 = true := code_word (m := ⟨8, 3⟩) (meth := k8m3) (c := k8c3) (by decide +kernel) rfl rfl rfl (by decide +kernel)
set_option maxRecDepth 65536 in
theorem w_c9 : (Jvm.Cond.code ({ cls := "java/lang/StringUTF16", name := "coderFromArrayLen", desc := "([BI)B" } : Jvm.MethodName) jdk_52_method_15_code (2 : Nat) (Option.some Jvm.ClassFile.FieldType.byte)).before args0 about1 = true := code_word (m := ⟨8, 1⟩) (meth := k8m1) (c := k8c1) (by decide +kernel) rfl rfl rfl (by decide +kernel)
set_option maxRecDepth 65536 in
theorem w_c10 : (Jvm.Cond.code ({ cls := "java/lang/String", name := "valueOf", desc := "(C)Ljava/lang/String;" } : Jvm.MethodName) jdk_42_method_139_code (1 : Nat) (Option.some (Jvm.ClassFile.FieldType.object "java/lang/String"))).before args0 about1 = true := code_word (m := ⟨7, 3⟩) (meth := k7m3) (c := k7c3) (by decide +kernel) rfl rfl rfl (by decide +kernel)
set_option maxRecDepth 65536 in
theorem w_c11 : (Jvm.Cond.code ({ cls := "java/lang/StringLatin1", name := "canEncode", desc := "(C)Z" } : Jvm.MethodName) jdk_43_method_3_code (1 : Nat) (Option.some Jvm.ClassFile.FieldType.boolean)).before args0 about1 = true := code_word (m := ⟨9, 1⟩) (meth := k9m1) (c := k9c1) (by decide +kernel) rfl rfl rfl (by decide +kernel)
set_option maxRecDepth 65536 in
theorem w_c12 : (Jvm.Cond.code ({ cls := "java/lang/StringLatin1", name := "toBytes", desc := "(C)[B" } : Jvm.MethodName) jdk_43_method_46_code (1 : Nat) (Option.some (Jvm.ClassFile.FieldType.array Jvm.ClassFile.FieldType.byte))).before args0 about1 = true := code_word (m := ⟨9, 3⟩) (meth := k9m3) (c := k9c3) (by decide +kernel) rfl rfl rfl (by decide +kernel)
set_option maxRecDepth 65536 in
theorem w_c13 : (Jvm.Cond.code ({ cls := "java/lang/String", name := "<init>", desc := "([BB)V" } : Jvm.MethodName) jdk_42_method_151_code (3 : Nat) (Option.none : Option Jvm.ClassFile.FieldType)).before args0 about1 = true := code_word (m := ⟨7, 5⟩) (meth := k7m5) (c := k7c5) (by decide +kernel) rfl rfl rfl (by decide +kernel)
set_option maxRecDepth 65536 in
theorem w_c14 : (Jvm.Cond.code ({ cls := "com/example/rising_block/risingblock/util/StringHashesMeetsPinLaw", name := "held", desc := "(I)I" } : Jvm.MethodName) method_7_code (5 : Nat) (Option.some Jvm.ClassFile.FieldType.int)).before args0 about1 = true := code_word (m := ⟨1, 6⟩) (meth := k1m6) (c := k1c6) (by decide +kernel) rfl rfl rfl (by decide +kernel)
set_option maxRecDepth 65536 in
theorem w_c15 : (Jvm.Cond.code ({ cls := "com/example/rising_block/risingblock/util/StringHashes", name := "<init>", desc := "(I)V" } : Jvm.MethodName) prog_107_method_2_code (2 : Nat) (Option.none : Option Jvm.ClassFile.FieldType)).before args0 about1 = true := code_word (m := ⟨10, 1⟩) (meth := k10m1) (c := k10c1) (by decide +kernel) rfl rfl rfl (by decide +kernel)
set_option maxRecDepth 65536 in
theorem w_c16 : (Jvm.Cond.code ({ cls := "com/example/rising_block/risingblock/util/StringHashes", name := "meets", desc := "(Lcom/example/rising_block/risingblock/util/StringHashes;)Z" } : Jvm.MethodName) prog_107_method_6_code (5 : Nat) (Option.some Jvm.ClassFile.FieldType.boolean)).before args0 about1 = true := code_word (m := ⟨10, 4⟩) (meth := k10m4) (c := k10c4) (by decide +kernel) rfl rfl rfl (by decide +kernel)
set_option maxRecDepth 65536 in
theorem w_c17 : (Jvm.Cond.code ({ cls := "com/example/rising_block/risingblock/util/StringHashes", name := "add", desc := "(Ljava/lang/String;)V" } : Jvm.MethodName) prog_107_method_3_code (2 : Nat) (Option.none : Option Jvm.ClassFile.FieldType)).before args0 about1 = true := code_word (m := ⟨10, 2⟩) (meth := k10m2) (c := k10c2) (by decide +kernel) rfl rfl rfl (by decide +kernel)
set_option maxRecDepth 65536 in
theorem w_c18 : (Jvm.Cond.code ({ cls := "com/example/rising_block/risingblock/util/StringHashes", name := "held", desc := "(Ljava/lang/String;)I" } : Jvm.MethodName) prog_107_method_8_code (2 : Nat) (Option.some Jvm.ClassFile.FieldType.int)).before args0 about1 = true := code_word (m := ⟨10, 6⟩) (meth := k10m6) (c := k10c6) (by decide +kernel) rfl rfl rfl (by decide +kernel)
set_option maxRecDepth 65536 in
theorem w_c19 : (Jvm.Cond.code ({ cls := "java/lang/String", name := "hashCode", desc := "()I" } : Jvm.MethodName) jdk_42_method_78_code (2 : Nat) (Option.some Jvm.ClassFile.FieldType.int)).before args0 about1 = true := code_word (m := ⟨7, 2⟩) (meth := k7m2) (c := k7c2) (by decide +kernel) rfl rfl rfl (by decide +kernel)
set_option maxRecDepth 65536 in
theorem w_c20 : (Jvm.Cond.code ({ cls := "java/lang/String", name := "isLatin1", desc := "()Z" } : Jvm.MethodName) jdk_42_method_154_code (1 : Nat) (Option.some Jvm.ClassFile.FieldType.boolean)).before args0 about1 = true := code_word (m := ⟨7, 6⟩) (meth := k7m6) (c := k7c6) (by decide +kernel) rfl rfl rfl (by decide +kernel)
set_option maxRecDepth 65536 in
theorem w_c21 : (Jvm.Cond.code ({ cls := "java/lang/StringLatin1", name := "hashCode", desc := "([B)I" } : Jvm.MethodName) jdk_43_method_21_code (1 : Nat) (Option.some Jvm.ClassFile.FieldType.int)).before args0 about1 = true := code_word (m := ⟨9, 2⟩) (meth := k9m2) (c := k9c2) (by decide +kernel) rfl rfl rfl (by decide +kernel)
set_option maxRecDepth 65536 in
theorem w_c22 : (Jvm.Cond.code ({ cls := "com/example/rising_block/risingblock/util/StringHashes", name := "settle", desc := "()V" } : Jvm.MethodName) prog_107_method_7_code (4 : Nat) (Option.none : Option Jvm.ClassFile.FieldType)).before args0 about1 = true := code_word (m := ⟨10, 5⟩) (meth := k10m5) (c := k10c5) (by decide +kernel) rfl rfl rfl (by decide +kernel)
set_option maxRecDepth 65536 in
theorem w_c23 : (Jvm.Cond.code ({ cls := "com/example/rising_block/risingblock/util/StringHashes", name := "find", desc := "([II)I" } : Jvm.MethodName) prog_107_method_9_code (4 : Nat) (Option.some Jvm.ClassFile.FieldType.int)).before args0 about1 = true := code_word (m := ⟨10, 7⟩) (meth := k10m7) (c := k10c7) (by decide +kernel) rfl rfl rfl (by decide +kernel)
set_option maxRecDepth 65536 in
theorem w_c24 : (Jvm.Cond.code ({ cls := "java/lang/Integer", name := "numberOfLeadingZeros", desc := "(I)I" } : Jvm.MethodName) jdk_33_method_47_code (2 : Nat) (Option.some Jvm.ClassFile.FieldType.int)).before args0 about1 = true := code_word (m := ⟨12, 0⟩) (meth := k12m0) (c := k12c0) (by decide +kernel) rfl rfl rfl (by decide +kernel)
set_option maxRecDepth 65536 in
theorem w_c25 : (Jvm.Cond.code ({ cls := "com/example/rising_block/risingblock/util/StringHashes", name := "mayContainHeld", desc := "(I)Z" } : Jvm.MethodName) prog_107_method_5_code (2 : Nat) (Option.some Jvm.ClassFile.FieldType.boolean)).before args0 about1 = true := code_word (m := ⟨10, 3⟩) (meth := k10m3) (c := k10c3) (by decide +kernel) rfl rfl rfl (by decide +kernel)
set_option maxRecDepth 65536 in
theorem w_c26 : (Jvm.Cond.code ({ cls := "jdk/internal/util/ArraysSupport", name := "vectorizedHashCode", desc := "(Ljava/lang/Object;IIII)I" } : Jvm.MethodName) jdk_48_method_4_code (5 : Nat) (Option.some Jvm.ClassFile.FieldType.int)).before args0 about1 = true := code_word (m := ⟨13, 1⟩) (meth := k13m1) (c := k13c1) (by decide +kernel) rfl rfl rfl (by decide +kernel)
set_option maxRecDepth 65536 in
theorem w_c27 : (Jvm.Cond.code ({ cls := "jdk/internal/util/ArraysSupport", name := "signedHashCode", desc := "(I[BII)I" } : Jvm.MethodName) jdk_48_method_5_code (6 : Nat) (Option.some Jvm.ClassFile.FieldType.int)).before args0 about1 = true := code_word (m := ⟨13, 2⟩) (meth := k13m2) (c := k13c2) (by decide +kernel) rfl rfl rfl (by decide +kernel)
set_option maxRecDepth 65536 in
theorem w_c28 : (Jvm.Cond.code ({ cls := "java/lang/Math", name := "min", desc := "(II)I" } : Jvm.MethodName) jdk_29_method_69_code (2 : Nat) (Option.some Jvm.ClassFile.FieldType.int)).before args0 about1 = true := code_word (m := ⟨14, 1⟩) (meth := k14m1) (c := k14c1) (by decide +kernel) rfl rfl rfl (by decide +kernel)
set_option maxRecDepth 65536 in
theorem w_c29 : (Jvm.Cond.code ({ cls := "java/util/Arrays", name := "copyOf", desc := "([II)[I" } : Jvm.MethodName) jdk_65_method_123_code (3 : Nat) (Option.some (Jvm.ClassFile.FieldType.array Jvm.ClassFile.FieldType.int))).before args0 about1 = true := code_word (m := ⟨15, 1⟩) (meth := k15m1) (c := k15c1) (by decide +kernel) rfl rfl rfl (by decide +kernel)
set_option maxRecDepth 65536 in
theorem w_c30 : (Jvm.Cond.code ({ cls := "com/example/rising_block/risingblock/util/StringHashesMeetsPinLaw", name := "in", desc := "(IIIII)Z" } : Jvm.MethodName) method_3_code (5 : Nat) (Option.some Jvm.ClassFile.FieldType.boolean)).before args0 about1 = true := code_word (m := ⟨1, 2⟩) (meth := k1m2) (c := k1c2) (by decide +kernel) rfl rfl rfl (by decide +kernel)
def codes1 : List Jvm.Cond := [Jvm.Cond.code x code maxLocals ret, Jvm.Cond.code ({ cls := "com/example/rising_block/risingblock/util/StringHashesMeetsPinLaw", name := "code", desc := "(JI)I" } : Jvm.MethodName) method_4_code (3 : Nat) (Option.some Jvm.ClassFile.FieldType.int), Jvm.Cond.code ({ cls := "com/example/rising_block/risingblock/util/StringHashesMeetsPinLaw", name := "str", desc := "(I)Ljava/lang/String;" } : Jvm.MethodName) method_6_code (4 : Nat) (Option.some (Jvm.ClassFile.FieldType.object "java/lang/String")), Jvm.Cond.code ({ cls := "com/example/rising_block/risingblock/util/StringHashesMeetsPinLaw", name := "len", desc := "(I)I" } : Jvm.MethodName) method_5_code (2 : Nat) (Option.some Jvm.ClassFile.FieldType.int), Jvm.Cond.code ({ cls := "java/lang/String", name := "<init>", desc := "([C)V" } : Jvm.MethodName) jdk_42_method_3_code (2 : Nat) (Option.none : Option Jvm.ClassFile.FieldType), Jvm.Cond.code ({ cls := "java/lang/String", name := "<init>", desc := "([CIILjava/lang/Void;)V" } : Jvm.MethodName) jdk_42_method_149_code (6 : Nat) (Option.none : Option Jvm.ClassFile.FieldType), Jvm.Cond.code ({ cls := "java/lang/Object", name := "<init>", desc := "()V" } : Jvm.MethodName) object_method_1_code (1 : Nat) (Option.none : Option Jvm.ClassFile.FieldType), Jvm.Cond.code ({ cls := "java/lang/StringUTF16", name := "compress", desc := "([CII)[B" } : Jvm.MethodName) jdk_52_method_16_code (6 : Nat) (Option.some (Jvm.ClassFile.FieldType.array Jvm.ClassFile.FieldType.byte)), Jvm.Cond.code ({ cls := "java/lang/StringUTF16", name := "compress", desc := "([CI[BII)I" } : Jvm.MethodName) jdk_52_method_21_code (7 : Nat) (Option.some Jvm.ClassFile.FieldType.int), Jvm.Cond.code ({ cls := "java/lang/StringUTF16", name := "coderFromArrayLen", desc := "([BI)B" } : Jvm.MethodName) jdk_52_method_15_code (2 : Nat) (Option.some Jvm.ClassFile.FieldType.byte), Jvm.Cond.code ({ cls := "java/lang/String", name := "valueOf", desc := "(C)Ljava/lang/String;" } : Jvm.MethodName) jdk_42_method_139_code (1 : Nat) (Option.some (Jvm.ClassFile.FieldType.object "java/lang/String")), Jvm.Cond.code ({ cls := "java/lang/StringLatin1", name := "canEncode", desc := "(C)Z" } : Jvm.MethodName) jdk_43_method_3_code (1 : Nat) (Option.some Jvm.ClassFile.FieldType.boolean), Jvm.Cond.code ({ cls := "java/lang/StringLatin1", name := "toBytes", desc := "(C)[B" } : Jvm.MethodName) jdk_43_method_46_code (1 : Nat) (Option.some (Jvm.ClassFile.FieldType.array Jvm.ClassFile.FieldType.byte)), Jvm.Cond.code ({ cls := "java/lang/String", name := "<init>", desc := "([BB)V" } : Jvm.MethodName) jdk_42_method_151_code (3 : Nat) (Option.none : Option Jvm.ClassFile.FieldType), Jvm.Cond.code ({ cls := "com/example/rising_block/risingblock/util/StringHashesMeetsPinLaw", name := "held", desc := "(I)I" } : Jvm.MethodName) method_7_code (5 : Nat) (Option.some Jvm.ClassFile.FieldType.int), Jvm.Cond.code ({ cls := "com/example/rising_block/risingblock/util/StringHashes", name := "<init>", desc := "(I)V" } : Jvm.MethodName) prog_107_method_2_code (2 : Nat) (Option.none : Option Jvm.ClassFile.FieldType), Jvm.Cond.code ({ cls := "com/example/rising_block/risingblock/util/StringHashes", name := "meets", desc := "(Lcom/example/rising_block/risingblock/util/StringHashes;)Z" } : Jvm.MethodName) prog_107_method_6_code (5 : Nat) (Option.some Jvm.ClassFile.FieldType.boolean), Jvm.Cond.code ({ cls := "com/example/rising_block/risingblock/util/StringHashes", name := "add", desc := "(Ljava/lang/String;)V" } : Jvm.MethodName) prog_107_method_3_code (2 : Nat) (Option.none : Option Jvm.ClassFile.FieldType), Jvm.Cond.code ({ cls := "com/example/rising_block/risingblock/util/StringHashes", name := "held", desc := "(Ljava/lang/String;)I" } : Jvm.MethodName) prog_107_method_8_code (2 : Nat) (Option.some Jvm.ClassFile.FieldType.int), Jvm.Cond.code ({ cls := "java/lang/String", name := "hashCode", desc := "()I" } : Jvm.MethodName) jdk_42_method_78_code (2 : Nat) (Option.some Jvm.ClassFile.FieldType.int), Jvm.Cond.code ({ cls := "java/lang/String", name := "isLatin1", desc := "()Z" } : Jvm.MethodName) jdk_42_method_154_code (1 : Nat) (Option.some Jvm.ClassFile.FieldType.boolean), Jvm.Cond.code ({ cls := "java/lang/StringLatin1", name := "hashCode", desc := "([B)I" } : Jvm.MethodName) jdk_43_method_21_code (1 : Nat) (Option.some Jvm.ClassFile.FieldType.int), Jvm.Cond.code ({ cls := "com/example/rising_block/risingblock/util/StringHashes", name := "settle", desc := "()V" } : Jvm.MethodName) prog_107_method_7_code (4 : Nat) (Option.none : Option Jvm.ClassFile.FieldType), Jvm.Cond.code ({ cls := "com/example/rising_block/risingblock/util/StringHashes", name := "find", desc := "([II)I" } : Jvm.MethodName) prog_107_method_9_code (4 : Nat) (Option.some Jvm.ClassFile.FieldType.int), Jvm.Cond.code ({ cls := "java/lang/Integer", name := "numberOfLeadingZeros", desc := "(I)I" } : Jvm.MethodName) jdk_33_method_47_code (2 : Nat) (Option.some Jvm.ClassFile.FieldType.int), Jvm.Cond.code ({ cls := "com/example/rising_block/risingblock/util/StringHashes", name := "mayContainHeld", desc := "(I)Z" } : Jvm.MethodName) prog_107_method_5_code (2 : Nat) (Option.some Jvm.ClassFile.FieldType.boolean), Jvm.Cond.code ({ cls := "jdk/internal/util/ArraysSupport", name := "vectorizedHashCode", desc := "(Ljava/lang/Object;IIII)I" } : Jvm.MethodName) jdk_48_method_4_code (5 : Nat) (Option.some Jvm.ClassFile.FieldType.int), Jvm.Cond.code ({ cls := "jdk/internal/util/ArraysSupport", name := "signedHashCode", desc := "(I[BII)I" } : Jvm.MethodName) jdk_48_method_5_code (6 : Nat) (Option.some Jvm.ClassFile.FieldType.int), Jvm.Cond.code ({ cls := "java/lang/Math", name := "min", desc := "(II)I" } : Jvm.MethodName) jdk_29_method_69_code (2 : Nat) (Option.some Jvm.ClassFile.FieldType.int), Jvm.Cond.code ({ cls := "java/util/Arrays", name := "copyOf", desc := "([II)[I" } : Jvm.MethodName) jdk_65_method_123_code (3 : Nat) (Option.some (Jvm.ClassFile.FieldType.array Jvm.ClassFile.FieldType.int)), Jvm.Cond.code ({ cls := "com/example/rising_block/risingblock/util/StringHashesMeetsPinLaw", name := "in", desc := "(IIIII)Z" } : Jvm.MethodName) method_3_code (5 : Nat) (Option.some Jvm.ClassFile.FieldType.boolean)]
set_option maxRecDepth 65536 in
theorem codes_eq : words1.filter isCode = codes1 := rfl
theorem w_codes : ∀ c ∈ words1.filter isCode, c.before args0 about1 = true := by
  rw [codes_eq]
  intro c hc
  simp only [codes1, List.mem_cons, List.not_mem_nil, or_false] at hc
  rcases hc with rfl | rfl | rfl | rfl | rfl | rfl | rfl | rfl | rfl | rfl | rfl | rfl | rfl | rfl | rfl | rfl | rfl | rfl | rfl | rfl | rfl | rfl | rfl | rfl | rfl | rfl | rfl | rfl | rfl | rfl | rfl
  · exact w_c0
  · exact w_c1
  · exact w_c2
  · exact w_c3
  · exact w_c4
  · exact w_c5
  · exact w_c6
  · exact w_c7
  · exact w_c8
  · exact w_c9
  · exact w_c10
  · exact w_c11
  · exact w_c12
  · exact w_c13
  · exact w_c14
  · exact w_c15
  · exact w_c16
  · exact w_c17
  · exact w_c18
  · exact w_c19
  · exact w_c20
  · exact w_c21
  · exact w_c22
  · exact w_c23
  · exact w_c24
  · exact w_c25
  · exact w_c26
  · exact w_c27
  · exact w_c28
  · exact w_c29
  · exact w_c30
set_option maxRecDepth 65536 in
theorem w_t1 : (words1.take 24).all (fun c => isCode c || c.before args0 about1) = true := by decide +kernel
set_option maxRecDepth 65536 in
theorem w_t2 : ((words1.drop 24).take 24).all (fun c => isCode c || c.before args0 about1) = true := by decide +kernel
set_option maxRecDepth 65536 in
theorem w_t3 : (((words1.drop 24).drop 24).take 24).all (fun c => isCode c || c.before args0 about1) = true := by decide +kernel
set_option maxRecDepth 65536 in
theorem w_t4 : ((((words1.drop 24).drop 24).drop 24).take 24).all (fun c => isCode c || c.before args0 about1) = true := by decide +kernel
set_option maxRecDepth 65536 in
theorem w_t5 : (((((words1.drop 24).drop 24).drop 24).drop 24).take 24).all (fun c => isCode c || c.before args0 about1) = true := by decide +kernel
set_option maxRecDepth 65536 in
theorem w_t6 : ((((((words1.drop 24).drop 24).drop 24).drop 24).drop 24).take 24).all (fun c => isCode c || c.before args0 about1) = true := by decide +kernel
set_option maxRecDepth 65536 in
theorem w_t7 : ((((((words1.drop 24).drop 24).drop 24).drop 24).drop 24).drop 24).all (fun c => isCode c || c.before args0 about1) = true := by decide +kernel
theorem w_tables : (allAtoms (Jvm.Cond.code x code maxLocals ret :: tables_1)).before args0 about1 = true := by
  rw [allAtoms_all]
  show words1.all (fun c => c.before args0 about1) = true
  refine all_split ?_ w_codes
  rw [← List.take_append_drop 24 words1, List.all_append, w_t1, ← List.take_append_drop 24 (words1.drop 24), List.all_append, w_t2, ← List.take_append_drop 24 ((words1.drop 24).drop 24), List.all_append, w_t3, ← List.take_append_drop 24 (((words1.drop 24).drop 24).drop 24), List.all_append, w_t4, ← List.take_append_drop 24 ((((words1.drop 24).drop 24).drop 24).drop 24), List.all_append, w_t5, ← List.take_append_drop 24 (((((words1.drop 24).drop 24).drop 24).drop 24).drop 24), List.all_append, w_t6, w_t7]
  rfl
set_option maxRecDepth 65536 in
theorem w_rest : rest_1_c.before args0 about1 = true := by decide +kernel
set_option maxRecDepth 65536 in
theorem w_case : (Jvm.Cond.and given_1 narrow_1).before args0 about1 = true := by decide +kernel
set_option maxRecDepth 65536 in
theorem w_consts : constsHeld consts_1 about1 := Jvm.Lit.constsHeldB_iff.mp (by decide +kernel)
theorem w_applies : (headSpec (Jvm.Cond.code x code maxLocals ret :: tables_1) room_1).applies x e0.platform about1 = true :=
  (Spec.applies_iff w_frames).mpr ⟨w_running, w_runnable, w_alone, w_named, w_hears, w_ripe, w_room, w_tables⟩
theorem atStart : AtStart classFile x code maxLocals ret World_1 tables_1 room_1 Calls_1 rest_1 Pre_1 launch0 p0 e0 about1 theMethod args0 below0 :=
  ⟨lists_1, trivial, launch0.admits_env _ _ _, launch0.least_env, fairChoices_fair.cas, fairChoices_fair.clock, w_frames, w_args, w_heap, w_applies, ⟨w_consts, trivial⟩, w_rest, w_case⟩
end start1
theorem witness_1 : WitnessClaimed_1 := ⟨start1.p0, start1.e0, start1.about1, start1.theMethod, start1.args0, start1.below0, start1.atStart⟩
end Jvm.Pilot.@@N@@
