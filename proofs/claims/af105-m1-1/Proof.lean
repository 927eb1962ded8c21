import JvmDerived
import JvmDerived.Pilot.@@N@@Statement
import JvmDerived.Pilot.@@N@@Code
set_option linter.unusedVariables false
set_option linter.unusedSimpArgs false
namespace Jvm.RoadKit
open Sem ClassFile Op Lib Jvm.Stand Jvm.Free Jvm.LawKit
section Own
variable {p : Program} {l : Launch} {e : Env} {R : Room} {s : State} {m : MethodId} {args : Array Value} {below : List Frame} {meth : Method} {c : Code} {T : State} {locs : List Loc} {cells slots : Nat} {Z : State} {a0 : Array Value} {h : Heap}
theorem retI (X : Stand p l e R s m args below meth c T locs cells slots) (hx : p.tables.exec = Jvm.exec) {pc : Nat} {Ls : Array Slot} {z : Int32} {rest : List Value} (hret : meth.sig.returnType = some .int) (hd : decode c.code pc = .ok (.ireturn, 1)) {fs : List Frame}
    (hl : ∀ (f : JFrame) (acts : List Action), f.method = m → f.locked = none → f.entered = [] → (doReturn e (T.setTop f) acts (some (.int z))).1 = T.setFrames fs) : Steps p.tables e below (T.setTop (mkF m pc Ls (.int z :: rest))) (T.setFrames fs) := by
  have hm' : T.vm.method? m = some meth := X.method'
  have hn : narrow .int (.int z) = .int z := rfl
  show Steps p.tables e below (T.setTop { method := m, pc := pc, locals := Ls, stack := _ :: rest, locked := none }) _
  jvm_step X.here [X.here.top, hx, hd, hm', hret, hn]
  first | (intro acts; rw [hl _ acts rfl rfl rfl]) | rw [hl _ _ rfl rfl rfl]
  exact Steps.refl _
theorem own_retN (X : Stand p l e R s m args below meth c T locs cells slots) (hx : p.tables.exec = Jvm.exec) {pc : Nat} {Ls : Array Slot} {z z' : Int32} {t : FieldType} {rest : List Value} (hret : meth.sig.returnType = some t) (ht : t = .boolean ∨ t = .byte ∨ t = .char ∨ t = .short)
    (hd : decode c.code pc = .ok (.ireturn, 1)) (eq : nar t z = z') {fs : List Frame} (hl : ∀ (f : JFrame) (acts : List Action), f.method = m → f.locked = none → f.entered = [] → (doReturn e (T.setTop f) acts (some (.int z'))).1 = T.setFrames fs) :
    Steps p.tables e below (T.setTop (mkF m pc Ls (.int z :: rest))) (T.setFrames fs) := retN X hx hret ht hd (by rw [eq]; exact hl)
/-- the run comes from S to an end of which Q holds -/
def ownGo (p : Program) (e : Env) (below : List Frame) (Q : Outcome → State → Prop) (S : State) : Prop := ∃ s₂ o, Steps p.tables e below S s₂ ∧ s₂.status = .running ∧ Ended s₂ below o ∧ Q o s₂
theorem own_st {Q : Outcome → State → Prop} {S : State} (S' : State) (h : ∀ t, Steps p.tables e below S' t → Steps p.tables e below S t) (k : ownGo p e below Q S') : ownGo p e below Q S := by
  obtain ⟨a, b, h1, h2⟩ := k; exact ⟨a, b, h _ h1, h2⟩
theorem own_cast {Q : Outcome → State → Prop} {g g' : JFrame} (q : g = g') (k : ownGo p e below Q (T.setTop g')) : ownGo p e below Q (T.setTop g) := q ▸ k
def ownQ (s : State) (QQ : Option Value → Heap → List Loc → Prop) (C N : Nat) : Outcome → State → Prop := fun o U' => ∃ v L, o = .returned v ∧ QQ v U'.heap L ∧ FrameEnd s o U' L C N
theorem own_ret (X : Stand p l e R s m args below meth c T locs cells slots) (hlk : meth.locks = false) {v : Option Value} (hv : meth.sig.returnType = none → v = none) {QQ : Option Value → Heap → List Loc → Prop} {C N : Nat} (eT : T.heap = h) (hq : QQ v h locs) (hC : cells ≤ C) (hN : slots ≤ N) {S : State}
    (hs : ∀ fs, (∀ (f : JFrame) (acts : List Action), f.method = m → f.locked = none → f.entered = [] → (doReturn e (T.setTop f) acts v).1 = T.setFrames fs) → Steps p.tables e below S (T.setFrames fs)) : ownGo p e below (ownQ s QQ C N) S := by
  obtain ⟨fs, hr, hrun, hended, hW, hsame⟩ := X.leave (v := v) hv hlk
  exact ⟨_, _, hs fs hr, hrun, hended, v, locs, rfl, (by show QQ v T.heap locs; rw [eT]; exact hq), ⟨_, rfl⟩, hW, hsame.mono hC hN⟩
/-- a body's contract -/
abbrev ownMet (l : Launch) (y : MethodName) (bytes : ByteArray) (maxL : Nat) (ret : Option FieldType) (ws : List Jvm.Cond) (rm : Room) (Z : State) (as : Array Value) (h0 : Heap) (QQ : Option Value → Heap → List Loc → Prop) : Prop :=
  MetFree l y (head1 (Jvm.Cond.code y bytes maxL ret :: ws) rm) (fun a U => a = as ∧ Z.Warmed39 U.vm ∧ U.heap = h0) (fun _ _ _ _ _ => True) (fun _ U o U' => ∃ v L, o = .returned v ∧ QQ v U'.heap L ∧ FrameEnd U o U' L rm.cells rm.slots)
theorem own_met {y : MethodName} {bytes : ByteArray} {maxL : Nat} {ret : Option FieldType} {ws : List Jvm.Cond} {rm : Room} {as : Array Value} {h0 : Heap} {QQ : Option Value → Heap → List Loc → Prop} (hpl : plainFor y = true)
    (body : ∀ (p : Program) (e : Env) (s : State) (m : MethodId) (below : List Frame) (meth : Method) (c : Code) (s₁ : State), p.tables.exec = Jvm.exec → c.code = bytes → c.maxLocals = maxL → s.vm.findClass y.cls = some m.cls → meth.name = y.name → meth.sig.returnType = ret → meth.locks = false → Z.Warmed39 s.vm → s₁.heap = h0 → Stand p l e rm s m as below meth c s₁ [] 0 0 →
      ownGo p e below (ownQ s QQ rm.cells rm.slots) (s₁.setTop (entryFrame m as maxL))) : ownMet l y bytes maxL ret ws rm Z as h0 QQ := by
  refine MetFree.of_bodySF hpl hisR ?_
  intro p e s m args below meth c s₁ Bd hml0 hP hK
  obtain ⟨rfl, hZ, hh⟩ := hP
  exact body p e s m below meth c s₁ Bd.exec Bd.bytes hml0 (findClass_of_methodNamed Bd.named) (name_of_methodNamed Bd.named Bd.method).1 Bd.returns Bd.notSynchronized hZ (by rw [← hh, Bd.state]; rfl) (Stand.of_body Bd)
theorem own_callS (X : Stand p l e R s m args below meth c T locs cells slots) (hx : p.tables.exec = Jvm.exec) (hZ : Z.Warmed39 s.vm) {own : String} {index : Nat} {y : MethodName} {bytes : ByteArray} {maxL : Nat} {ret : Option FieldType} (hown : s.vm.findClass own = some m.cls)
    (w1 : (Jvm.Cond.methodLink own index y).before a0 Z = true) (w2 : (Jvm.Cond.static y).before a0 Z = true) (w3 : (Jvm.Cond.initialized y.cls).before a0 Z = true) (w4 : (Jvm.Cond.code y bytes maxL ret).before a0 Z = true)
    {rm : Room} {QQ : Option Value → Heap → List Loc → Prop} {argsL : List Value} (hM : ownMet l y bytes maxL ret [] rm Z argsL.toArray h QQ) (W : Nat)
    (hy : y.cls ≠ "java/lang/invoke/MethodHandle" ∧ y.cls ≠ "java/lang/invoke/VarHandle") (hf : rm.frames + 1 ≤ R.frames) (hl : W + (maxL + 11) + rm.locals ≤ R.locals) (hc : cells + rm.cells ≤ R.cells) (hs : slots + rm.slots ≤ R.slots)
    (eT : T.heap = h) {g : JFrame} (hg : g.method = m) (hsize : g.locals.size = c.maxLocals) (rest : List Value) (hlen : ∀ sig, parseMethodDescriptor y.desc = some sig → argsL.length = sig.parameters.length) (hstack : g.stack = argsL.reverse ++ rest) (hW : 2 * g.monitorRoom + (rest.map fun v => v.category).sum ≤ W) (hdg : decode c.code g.pc = .ok (.invokestatic index, 3)) :
    ∃ v T' L, Stand p l e R s m args below meth c T' (locs ++ L) (cells + rm.cells) (slots + rm.slots) ∧ QQ v T'.heap L ∧ ∀ target, Steps p.tables e below (T'.setTop { g with pc := g.pc + 3, stack := v.toList ++ rest }) target → Steps p.tables e below (T.setTop g) target := by
  obtain ⟨v, _, ⟨T1, L1, k1, n1⟩, -, X1, ⟨Lc, hQ, l1, y1, z1⟩, st⟩ := Jvm.LawKit.callS X hx (y := y) hown (mvT hZ w1) (mvT hZ w2) (mvT hZ w3) (mvT hZ w4) hy (backOf (W := W) hM hZ w4 w3 hf hl) hg hsize (argsL := argsL) (rest := rest) hlen hstack hW hdg (fun _ _ => ⟨rfl, eT, hc, hs⟩)
  dsimp only [Pt.U, Pt.locs, Pt.cells, Pt.slots] at X1 l1 y1 z1 st hQ
  subst l1 y1 z1
  exact ⟨v, T1, Lc, X1, hQ, st⟩
theorem own_callI (X : Stand p l e R s m args below meth c T locs cells slots) (hx : p.tables.exec = Jvm.exec) (hZ : Z.Warmed39 s.vm) {own : String} {index : Nat} {y : MethodName} {bytes : ByteArray} {maxL : Nat} (hown : s.vm.findClass own = some m.cls) (hy1 : y.name = "<init>")
    (w1 : (Jvm.Cond.methodLink own index y).before a0 Z = true) (w2 : (Jvm.Cond.instanceMethod y).before a0 Z = true) (w3 : (Jvm.Cond.initialized y.cls).before a0 Z = true) (w4 : (Jvm.Cond.code y bytes maxL none).before a0 Z = true)
    {rm : Room} {QQ : Option Value → Heap → List Loc → Prop} {a : Addr} {argsL : List Value} (hM : ownMet l y bytes maxL none [] rm Z (.ref a :: argsL).toArray h QQ) (W : Nat)
    (hy : y.cls ≠ "java/lang/invoke/MethodHandle" ∧ y.cls ≠ "java/lang/invoke/VarHandle") (hf : rm.frames + 1 ≤ R.frames) (hl : W + (maxL + 11) + rm.locals ≤ R.locals) (hc : cells + rm.cells ≤ R.cells) (hs : slots + rm.slots ≤ R.slots)
    (eT : T.heap = h) {g : JFrame} (hg : g.method = m) (hsize : g.locals.size = c.maxLocals) (rest : List Value) (hlen : ∀ sig, parseMethodDescriptor y.desc = some sig → argsL.length = sig.parameters.length) (hstack : g.stack = argsL.reverse ++ .ref a :: rest) (hW : 2 * g.monitorRoom + (rest.map fun v => v.category).sum ≤ W) (hdg : decode c.code g.pc = .ok (.invokespecial index, 3)) :
    ∃ v T' L, Stand p l e R s m args below meth c T' (locs ++ L) (cells + rm.cells) (slots + rm.slots) ∧ QQ v T'.heap L ∧ ∀ target, Steps p.tables e below (T'.setTop { g with pc := g.pc + 3, stack := v.toList ++ rest }) target → Steps p.tables e below (T.setTop g) target := by
  obtain ⟨v, _, ⟨T1, L1, k1, n1⟩, -, X1, ⟨Lc, hQ, l1, y1, z1⟩, st⟩ := X.specialBack hx (y := y) hy1 hown (mvT hZ w1) (mvT hZ w2) (mvT hZ w4) hy (backOf (W := W) hM hZ w4 w3 hf hl) hg hsize (Steps.refl _) (a := a) (argsL := argsL) (rest := rest) hlen hstack hW hdg (fun _ _ => ⟨rfl, eT, hc, hs⟩)
  dsimp only [Pt.U, Pt.locs, Pt.cells, Pt.slots] at X1 l1 y1 z1 st hQ
  subst l1 y1 z1
  exact ⟨v, T1, Lc, X1, hQ, fun t k => st.trans k⟩
theorem own_nfz {y : MethodName} (hZ : Z.Warmed39 s.vm) (nf : NotFace Z y) : NotFace s y := fun r0 h0 => by
  have e : (Z.setVm s.vm).methodNamed? y = some r0 := h0
  rw [State.methodNamed?_setVm hZ.alike] at e
  obtain ⟨kr, a1, a2⟩ := nf r0 e
  obtain ⟨k', q1, q2⟩ := hZ.alike.2.2 _ _ a1
  exact ⟨k', q1, by rw [q2]; exact a2⟩
theorem own_callV (X : Stand p l e R s m args below meth c T locs cells slots) (hx : p.tables.exec = Jvm.exec) (hZ : Z.Warmed39 s.vm) {own C : String} {index : Nat} {y z : MethodName} {bytes : ByteArray} {maxL : Nat} {ret : Option FieldType} (hown : s.vm.findClass own = some m.cls)
    (w1 : (Jvm.Cond.methodLink own index y).before a0 Z = true) (wd : (Jvm.Cond.declares y).before a0 Z = true) (nf : NotFace Z y) (wsel : (Jvm.Cond.selects C y z).before a0 Z = true) (w2 : (Jvm.Cond.instanceMethod z).before a0 Z = true) (w3 : (Jvm.Cond.initialized z.cls).before a0 Z = true) (w4 : (Jvm.Cond.code z bytes maxL ret).before a0 Z = true)
    {b : Addr} (E : Exa Z h b C) {rm : Room} {QQ : Option Value → Heap → List Loc → Prop} {argsL : List Value} (hM : ownMet l z bytes maxL ret [] rm Z (.ref b :: argsL).toArray h QQ) (W : Nat)
    (hy : y.cls ≠ "java/lang/invoke/MethodHandle" ∧ y.cls ≠ "java/lang/invoke/VarHandle") (hf : rm.frames + 1 ≤ R.frames) (hl : W + (maxL + 11) + rm.locals ≤ R.locals) (hc : cells + rm.cells ≤ R.cells) (hs : slots + rm.slots ≤ R.slots)
    (eT : T.heap = h) {g : JFrame} (hg : g.method = m) (hsize : g.locals.size = c.maxLocals) (rest : List Value) (hlen : ∀ sig, parseMethodDescriptor y.desc = some sig → argsL.length = sig.parameters.length) (hstack : g.stack = argsL.reverse ++ .ref b :: rest) (hW : 2 * g.monitorRoom + (rest.map fun v => v.category).sum ≤ W) (hdg : decode c.code g.pc = .ok (.invokevirtual index, 3)) :
    ∃ v T' L, Stand p l e R s m args below meth c T' (locs ++ L) (cells + rm.cells) (slots + rm.slots) ∧ QQ v T'.heap L ∧ ∀ target, Steps p.tables e below (T'.setTop { g with pc := g.pc + 3, stack := v.toList ++ rest }) target → Steps p.tables e below (T.setTop g) target := by
  obtain ⟨cq, kq, qa, qb, qc⟩ := isOf (T := T) hZ eT E
  obtain ⟨v, _, ⟨T1, L1, k1, n1⟩, -, X1, ⟨Lc, hQ, l1, y1, z1⟩, st⟩ := X.virtualBack hx (y := y) (z := z) hown (mvT hZ w1) (mvT hZ wd) (own_nfz hZ nf) (mvT hZ wsel) (mvT hZ w2) hy (backOf (W := W) hM hZ w4 w3 hf hl) qa qc hg hsize (Steps.refl _) (argsL := argsL) (rest := rest) hlen hstack hW hdg (fun _ _ => ⟨rfl, eT, hc, hs⟩)
  dsimp only [Pt.U, Pt.locs, Pt.cells, Pt.slots] at X1 l1 y1 z1 st hQ
  subst l1 y1 z1
  exact ⟨v, T1, Lc, X1, hQ, fun t k => st.trans k⟩
theorem own_eqI {first : State} {o : Option Outcome} {idx : List Nat} {a b : Term} {n : Int32} (h : (Jvm.Cond.eq a b).value args first o s idx = some true) (hb : b.eval args first o idx s = some (.int n)) : a.eval args first o idx s = some (.int n) := by
  obtain ⟨x, y, ex, ey, k1, k2⟩ := cmp_v (Or.inl h)
  cases ey.symm.trans hb
  obtain ⟨z, rfl⟩ := k2
  rw [ex, gotT (Jvm.Cond.eq_ints ex hb) h]
theorem own_eqR {first : State} {o : Option Outcome} {idx : List Nat} {a b : Term} {y : Addr} (h : (Jvm.Cond.eq a b).value args first o s idx = some true) (hb : b.eval args first o idx s = some (.ref y)) : a.eval args first o idx s = some (.ref y) := by
  obtain ⟨x, y', ex, ey, k1, k2⟩ := cmp_v (Or.inl h)
  cases ey.symm.trans hb
  have q := gotT (eq_R ex hb k2.2 rfl) h
  rw [ex, q]
theorem own_arv {t : Term} {a : Addr} {cl : Cell} {ty : FieldType} {z : Int32} {vs : List Value} {dv : Value} (hf : Fit s) (A : Arr s s.heap a cl ty) (ev : t.eval args s none [] s = some (.ref a)) (hl : (Term.length t).eval args s none [] s = some (.int z)) (hz : ¬ z < 0) (hn : z.toNatClampNeg = vs.length) (H : HasL cl 0 vs) : Arv s s.heap a cl.cls ty z vs dv := by
  have harr := A.fin (Vm.Alike.refl _)
  have h31 := SBG.length_lt ev harr hl
  have e := Option.some.inj ((len_f ev harr h31).symm.trans hl)
  exact Arv.start hf A h31 (Value.int.inj e) hz hn H
theorem own_nfc {y y' : MethodName} {r : MethodId} (h : NotFace s y') (hr : s.methodNamed? y' = some r) (hc : y.cls = y'.cls) : NotFace s y := fun r0 h0 => by
  obtain ⟨kr, a1, a2⟩ := h r hr
  have q1 := findClass_of_methodNamed h0
  have q2 := findClass_of_methodNamed hr
  rw [hc] at q1
  have e : r0.cls = r.cls := Option.some.inj (q1.symm.trans q2)
  exact ⟨kr, by rw [e]; exact a1, a2⟩
theorem own_named {y : MethodName} (w : (Jvm.Cond.instanceMethod y).before a0 s = true) : ∃ r, s.methodNamed? y = some r := by
  obtain ⟨mk, methM, hnamed, -⟩ := Jvm.Cond.instanceMethod_spec w
  exact ⟨mk, hnamed⟩
theorem own_same {y : MethodName} (nf : NotFace s y) (w : (Jvm.Cond.instanceMethod y).before a0 s = true) (hy : y.cls ≠ "java/lang/invoke/MethodHandle" ∧ y.cls ≠ "java/lang/invoke/VarHandle") : (Jvm.Cond.sameMethod y.cls y.cls y.name y.desc).before args s = true := by
  obtain ⟨r, hr⟩ := own_named w
  obtain ⟨kr, a1, a2⟩ := nf r hr
  have q1 := findClass_of_methodNamed hr
  have q2 := State.methodFound?_of_named hr hy
  have hr' : s.methodNamed? ⟨y.cls, y.name, y.desc⟩ = some r := hr
  simp [Jvm.Cond.before, Jvm.Cond.holds, Jvm.Cond.value, q1, q2, hr', a1, a2]
theorem own_callP (X : Stand p l e R s m args below meth c T locs cells slots) (hx : p.tables.exec = Jvm.exec) (hZ : Z.Warmed39 s.vm) {own C : String} {index : Nat} {y : MethodName} {bytes : ByteArray} {maxL : Nat} {ret : Option FieldType} (hown : s.vm.findClass own = some m.cls)
    (w1 : (Jvm.Cond.methodLink own index y).before a0 Z = true) (wp : (Jvm.Cond.privateMethod y).before a0 Z = true) (nf : NotFace Z y) (w2 : (Jvm.Cond.instanceMethod y).before a0 Z = true) (w3 : (Jvm.Cond.initialized y.cls).before a0 Z = true) (w4 : (Jvm.Cond.code y bytes maxL ret).before a0 Z = true)
    {b : Addr} (E : Exa Z h b C) {rm : Room} {QQ : Option Value → Heap → List Loc → Prop} {argsL : List Value} (hM : ownMet l y bytes maxL ret [] rm Z (.ref b :: argsL).toArray h QQ) (W : Nat)
    (hy : y.cls ≠ "java/lang/invoke/MethodHandle" ∧ y.cls ≠ "java/lang/invoke/VarHandle") (hf : rm.frames + 1 ≤ R.frames) (hl : W + (maxL + 11) + rm.locals ≤ R.locals) (hc : cells + rm.cells ≤ R.cells) (hs : slots + rm.slots ≤ R.slots)
    (eT : T.heap = h) {g : JFrame} (hg : g.method = m) (hsize : g.locals.size = c.maxLocals) (rest : List Value) (hlen : ∀ sig, parseMethodDescriptor y.desc = some sig → argsL.length = sig.parameters.length) (hstack : g.stack = argsL.reverse ++ .ref b :: rest) (hW : 2 * g.monitorRoom + (rest.map fun v => v.category).sum ≤ W) (hdg : decode c.code g.pc = .ok (.invokevirtual index, 3)) :
    ∃ v T' L, Stand p l e R s m args below meth c T' (locs ++ L) (cells + rm.cells) (slots + rm.slots) ∧ QQ v T'.heap L ∧ ∀ target, Steps p.tables e below (T'.setTop { g with pc := g.pc + 3, stack := v.toList ++ rest }) target → Steps p.tables e below (T.setTop g) target := by
  obtain ⟨cell, hcell, hobj⟩ := E.cell
  obtain ⟨mk, methM, hnamed, hmethM, hstM, habM⟩ := Jvm.Cond.instanceMethod_spec (mvT (args := args) hZ w2)
  obtain ⟨methM', cM, hmethM', -, -, -, -, -, -, hsigM⟩ := Jvm.Cond.code_spec hnamed (mvT (args := args) hZ w4)
  cases hmethM.symm.trans hmethM'
  obtain ⟨kP, hkP, hkPi⟩ := own_nfz hZ nf mk hnamed
  have hselP : selectMethod e.platform s.vm cell.cls mk = .method mk := selectMethod_private hmethM ((Jvm.Cond.privateMethod_at (mvP (args := #[]) hZ wp)) mk methM hnamed hmethM)
  obtain ⟨vm₁, X₁, hstep₁⟩ := X.invokevirtual hx hown (mvT hZ w1) hnamed hmethM hstM hkP hkPi hy (a := b) (cell := cell) (by rw [eT]; exact hcell) hobj hselP hmethM habM hkP hkPi (g := g) hg (argsL := argsL) (rest := rest) (hlen _ hsigM) hstack hdg
  obtain ⟨v, ⟨T1, L1, k1, n1⟩, X1, ⟨Lc, hQ, l1, y1, z1⟩, st⟩ := (backOf (len := 3) (W := W) (p := p) (e := e) (below := below) (args := args) (R := R) hM hZ w4 w3 hf hl) m meth c ⟨T.setVm vm₁, locs, cells, slots⟩ { g with stack := rest } (.invokevirtual index) mk (.ref b :: argsL).toArray X₁ hg hsize hdg hW (X₁.named hnamed) ⟨rfl, eT, hc, hs⟩
  dsimp only [Pt.U, Pt.locs, Pt.cells, Pt.slots] at X1 l1 y1 z1 st hQ
  subst l1 y1 z1
  exact ⟨v, T1, Lc, X1, hQ, fun t k => hstep₁ _ fun acts => by rw [doInvoke_state]; exact st.trans k⟩
theorem own_callU (X : Stand p l e R s m args below meth c T locs cells slots) (hx : p.tables.exec = Jvm.exec) (hZ : Z.Warmed39 s.vm) {own C owner : String} {index : Nat} {y z : MethodName} {bytes : ByteArray} {maxL : Nat} {ret : Option FieldType} (hown : s.vm.findClass own = some m.cls)
    (w1 : (Jvm.Cond.methodLink own index y).before a0 Z = true) (wsm : (Jvm.Cond.sameMethod y.cls owner y.name y.desc).before a0 Z = true) (wd : (Jvm.Cond.declares ⟨owner, y.name, y.desc⟩).before a0 Z = true) (hyo : owner ≠ "java/lang/invoke/MethodHandle" ∧ owner ≠ "java/lang/invoke/VarHandle") (wsel : (Jvm.Cond.selects C y z).before a0 Z = true) (w2 : (Jvm.Cond.instanceMethod z).before a0 Z = true) (w3 : (Jvm.Cond.initialized z.cls).before a0 Z = true) (w4 : (Jvm.Cond.code z bytes maxL ret).before a0 Z = true)
    {b : Addr} (E : Exa Z h b C) {rm : Room} {QQ : Option Value → Heap → List Loc → Prop} {argsL : List Value} (hM : ownMet l z bytes maxL ret [] rm Z (.ref b :: argsL).toArray h QQ) (W : Nat)
    (hf : rm.frames + 1 ≤ R.frames) (hl : W + (maxL + 11) + rm.locals ≤ R.locals) (hc : cells + rm.cells ≤ R.cells) (hs : slots + rm.slots ≤ R.slots)
    (eT : T.heap = h) {g : JFrame} (hg : g.method = m) (hsize : g.locals.size = c.maxLocals) (rest : List Value) (hlen : ∀ sig, parseMethodDescriptor y.desc = some sig → argsL.length = sig.parameters.length) (hstack : g.stack = argsL.reverse ++ .ref b :: rest) (hW : 2 * g.monitorRoom + (rest.map fun v => v.category).sum ≤ W) (hdg : decode c.code g.pc = .ok (.invokevirtual index, 3)) :
    ∃ v T' L, Stand p l e R s m args below meth c T' (locs ++ L) (cells + rm.cells) (slots + rm.slots) ∧ QQ v T'.heap L ∧ ∀ target, Steps p.tables e below (T'.setTop { g with pc := g.pc + 3, stack := v.toList ++ rest }) target → Steps p.tables e below (T.setTop g) target := by
  obtain ⟨cq, kq, qa, qb, qc⟩ := isOf (T := T) hZ eT E
  obtain ⟨v, _, ⟨T1, L1, k1, n1⟩, -, X1, ⟨Lc, hQ, l1, y1, z1⟩, st⟩ := X.virtualBackUp hx (x := y) (y := z) (owner := owner) hown (mvT hZ w1) (mvT hZ wsm) (mvT hZ wd) hyo (mvT hZ wsel) (mvT hZ w2) (backOf (W := W) hM hZ w4 w3 hf hl) qa qc hg hsize (Steps.refl _) (argsL := argsL) (rest := rest) hlen hstack hW hdg (fun _ _ => ⟨rfl, eT, hc, hs⟩)
  dsimp only [Pt.U, Pt.locs, Pt.cells, Pt.slots] at X1 l1 y1 z1 st hQ
  subst l1 y1 z1
  exact ⟨v, T1, Lc, X1, hQ, fun t k => st.trans k⟩
theorem own_callSup (X : Stand p l e R s m args below meth c T locs cells slots) (hx : p.tables.exec = Jvm.exec) (hZ : Z.Warmed39 s.vm) {own C : String} {index : Nat} {y : MethodName} {bytes : ByteArray} {maxL : Nat} {ret : Option FieldType} (hown : s.vm.findClass own = some m.cls)
    (w1 : (Jvm.Cond.methodLink own index y).before a0 Z = true) (nf : NotFace Z y) (w2 : (Jvm.Cond.instanceMethod y).before a0 Z = true) (wsu : (Jvm.Cond.superclass own y.cls).before a0 Z = true) (hn : y.name ≠ "<init>") (w3 : (Jvm.Cond.initialized y.cls).before a0 Z = true) (w4 : (Jvm.Cond.code y bytes maxL ret).before a0 Z = true)
    {b : Addr} (E : Exa Z h b C) {rm : Room} {QQ : Option Value → Heap → List Loc → Prop} {argsL : List Value} (hM : ownMet l y bytes maxL ret [] rm Z (.ref b :: argsL).toArray h QQ) (W : Nat)
    (hy : y.cls ≠ "java/lang/invoke/MethodHandle" ∧ y.cls ≠ "java/lang/invoke/VarHandle") (hf : rm.frames + 1 ≤ R.frames) (hl : W + (maxL + 11) + rm.locals ≤ R.locals) (hc : cells + rm.cells ≤ R.cells) (hs : slots + rm.slots ≤ R.slots)
    (eT : T.heap = h) {g : JFrame} (hg : g.method = m) (hsize : g.locals.size = c.maxLocals) (rest : List Value) (hlen : ∀ sig, parseMethodDescriptor y.desc = some sig → argsL.length = sig.parameters.length) (hstack : g.stack = argsL.reverse ++ .ref b :: rest) (hW : 2 * g.monitorRoom + (rest.map fun v => v.category).sum ≤ W) (hdg : decode c.code g.pc = .ok (.invokespecial index, 3)) :
    ∃ v T' L, Stand p l e R s m args below meth c T' (locs ++ L) (cells + rm.cells) (slots + rm.slots) ∧ QQ v T'.heap L ∧ ∀ target, Steps p.tables e below (T'.setTop { g with pc := g.pc + 3, stack := v.toList ++ rest }) target → Steps p.tables e below (T.setTop g) target := by
  obtain ⟨v, _, ⟨T1, L1, k1, n1⟩, -, X1, ⟨Lc, hQ, l1, y1, z1⟩, st⟩ := superBack X hx hZ (y := y) hown w1 (own_same nf w2 hy) w2 wsu hn (backOf (W := W) hM hZ w4 w3 hf hl) eT (Ins.self E) hg hsize w4 (argsL := argsL) (rest := rest) hlen hstack hW hdg (fun _ _ => ⟨rfl, eT, hc, hs⟩)
  dsimp only [Pt.U, Pt.locs, Pt.cells, Pt.slots] at X1 l1 y1 z1 st hQ
  subst l1 y1 z1
  exact ⟨v, T1, Lc, X1, hQ, fun t k => st.trans k⟩
end Own
end Jvm.RoadKit
namespace Jvm.Pilot.@@N@@
open Jvm Jvm.ClassFile Sem Op Lib Jvm.Free Jvm.Stand Jvm.LawKit Jvm.RoadKit Bundle Jvm.Pilot.@@N@@.Jvm.D
def own_sel (i : Int32) (w0 w1 w2 w3 : Addr) : Addr := if i = 0 then w0 else if i = 1 then w1 else if i = 2 then w2 else w3
def own_ex (m s : Int32) : Int32 := if m = 0 then (if s = 0 then 1 else -1) else if m = 1 then (if s = 1 then 2 else -1) else if m = 2 then (if s = 2 then 1 else -1) else (if s = 1 then 3 else -1)
theorem own_d1_0 : decode method_2_code 0 = .ok (.iload_n 0, 1) := by decide +kernel
theorem own_d1_1 : decode method_2_code 1 = .ok (.ifCond .ne 7, 3) := by decide +kernel
theorem own_d1_4 : decode method_2_code 4 = .ok (.getstatic 7, 3) := by decide +kernel
theorem own_d1_7 : decode method_2_code 7 = .ok (.areturn, 1) := by decide +kernel
theorem own_d1_8 : decode method_2_code 8 = .ok (.iload_n 0, 1) := by decide +kernel
theorem own_d1_9 : decode method_2_code 9 = .ok (.iconst 1, 1) := by decide +kernel
theorem own_d1_10 : decode method_2_code 10 = .ok (.if_icmp .ne 7, 3) := by decide +kernel
theorem own_d1_13 : decode method_2_code 13 = .ok (.getstatic 13, 3) := by decide +kernel
theorem own_d1_16 : decode method_2_code 16 = .ok (.areturn, 1) := by decide +kernel
theorem own_d1_17 : decode method_2_code 17 = .ok (.iload_n 0, 1) := by decide +kernel
theorem own_d1_18 : decode method_2_code 18 = .ok (.iconst 2, 1) := by decide +kernel
theorem own_d1_19 : decode method_2_code 19 = .ok (.if_icmp .ne 7, 3) := by decide +kernel
theorem own_d1_22 : decode method_2_code 22 = .ok (.getstatic 16, 3) := by decide +kernel
theorem own_d1_25 : decode method_2_code 25 = .ok (.areturn, 1) := by decide +kernel
theorem own_d1_26 : decode method_2_code 26 = .ok (.getstatic 19, 3) := by decide +kernel
theorem own_d1_29 : decode method_2_code 29 = .ok (.areturn, 1) := by decide +kernel
theorem own_pn_com_example_luoyang_luoyang_model_TaskTransitionApplyToPinLaw : plainName "com/example/luoyang/luoyang/model/TaskTransitionApplyToPinLaw" = true := by first | (simp [plainName, overriddenIn]; done) | decide +kernel
set_option maxRecDepth 65536 in
set_option maxHeartbeats 40000000 in
theorem own_move (l : Launch) (Z : State) (a0 : Array Value) (hw : ∀ d ∈ tables_1, d.before a0 Z = true) (ws : List Jvm.Cond) (i : Int32) (w0 w1 w2 w3 : Addr) (h0 : Heap) (O0 : Old Z Z.heap.size h0) (SW0 : Sta Z Z.heap "com/example/luoyang/luoyang/model/TaskTransition" "ASSIGN" "Lcom/example/luoyang/luoyang/model/TaskTransition;" (.ref w0)) (SW1 : Sta Z Z.heap "com/example/luoyang/luoyang/model/TaskTransition" "SUSPEND" "Lcom/example/luoyang/luoyang/model/TaskTransition;" (.ref w1)) (SW2 : Sta Z Z.heap "com/example/luoyang/luoyang/model/TaskTransition" "RESUME" "Lcom/example/luoyang/luoyang/model/TaskTransition;" (.ref w2)) (SW3 : Sta Z Z.heap "com/example/luoyang/luoyang/model/TaskTransition" "COMPLETE" "Lcom/example/luoyang/luoyang/model/TaskTransition;" (.ref w3)) :
    ownMet l (⟨"com/example/luoyang/luoyang/model/TaskTransitionApplyToPinLaw", "move", "(I)Lcom/example/luoyang/luoyang/model/TaskTransition;"⟩ : MethodName) method_2_code 1 (some (.object "com/example/luoyang/luoyang/model/TaskTransition")) ws ({ frames := 0, cells := 0, slots := 0, locals := 0 } : Room) Z #[(.int i)] h0 (fun v h L => v = some (.ref (own_sel i w0 w1 w2 w3)) ∧ Fr Z.heap.size L ∧ h = h0) := by
  refine own_met (plainFor_of_name own_pn_com_example_luoyang_luoyang_model_TaskTransitionApplyToPinLaw) ?_
  intro p e s m below meth c s₁ hx hby hml hown hnm hret hlk hZ e0 X0
  refine own_cast (show _ = (mkF m 0 #[.val (.int i)] []) by first | (simp [entryFrame, mkF, argsToLocals, Value.category]; done) | rfl) ?_
  refine own_st (s₁.setTop (mkF m 1 #[.val (.int i)] [(.int i)])) (fun tq kq => XS.iloadN X0.here hx rfl (hb hby own_d1_0) rfl kq) ?_
  by_cases c1_1 : i = (0 : Int32)
  · skip
    refine own_st (s₁.setTop (mkF m 4 #[.val (.int i)] [])) (fun tq kq => XS.ifNo X0.here hx rfl (hb hby own_d1_1) rfl ((if0 _ _).trans (teq (c1_1 : i = (0 : Int32))).2) kq) ?_
    obtain ⟨T2, X2, e2, st2⟩ := getS2 X0 hx hZ hown (host := "") (Or.inl (hw _ (List.mem_of_getElem? (i := 4) rfl))) Via.refl e0 (SW0.ext O0.2) (g := (mkF m 4 #[.val (.int i)] [])) rfl (hb hby own_d1_4)
    refine own_st (T2.setTop (mkF m 7 #[.val (.int i)] [(.ref w0)])) st2 ?_
    exact own_ret X2 hlk (v := some (.ref w0)) (fun h => by rw [hret] at h; cases h) e2 (⟨by simp [own_sel, c1_1], (Fr.nil _), rfl⟩) (by decide) (by decide) (fun fs hr => retOut X2 hx hret rfl (Or.inr (Or.inr (Or.inr (Or.inr ⟨rfl, rfl, rfl⟩)))) (hb hby own_d1_7) hr)
  · skip
    refine own_st (s₁.setTop (mkF m 8 #[.val (.int i)] [])) (fun tq kq => XS.ifYes X0.here hx rfl (pc0 := 1) (pc' := 8) rfl (hb hby own_d1_1) rfl ((if0 _ _).trans (feq (c1_1 : ¬ (i = (0 : Int32)))).2) (by decide) (by decide) kq) ?_
    refine own_st (s₁.setTop (mkF m 9 #[.val (.int i)] [(.int i)])) (fun tq kq => XS.iloadN X0.here hx rfl (hb hby own_d1_8) rfl kq) ?_
    refine own_st (s₁.setTop (mkF m 10 #[.val (.int i)] [(.int (1 : Int32)), (.int i)])) (fun tq kq => XS.iconst X0.here hx rfl (hb hby own_d1_9) kq) ?_
    by_cases c10_3 : i = (1 : Int32)
    · skip
      refine own_st (s₁.setTop (mkF m 13 #[.val (.int i)] [])) (fun tq kq => XS.icmpNo X0.here hx rfl (hb hby own_d1_10) rfl (teq (c10_3 : i = (1 : Int32))).2 kq) ?_
      obtain ⟨T4, X4, e4, st4⟩ := getS2 X0 hx hZ hown (host := "") (Or.inl (hw _ (List.mem_of_getElem? (i := 65) rfl))) Via.refl e0 (SW1.ext O0.2) (g := (mkF m 13 #[.val (.int i)] [])) rfl (hb hby own_d1_13)
      refine own_st (T4.setTop (mkF m 16 #[.val (.int i)] [(.ref w1)])) st4 ?_
      exact own_ret X4 hlk (v := some (.ref w1)) (fun h => by rw [hret] at h; cases h) e4 (⟨by simp [own_sel, c10_3, c1_1], (Fr.nil _), rfl⟩) (by decide) (by decide) (fun fs hr => retOut X4 hx hret rfl (Or.inr (Or.inr (Or.inr (Or.inr ⟨rfl, rfl, rfl⟩)))) (hb hby own_d1_16) hr)
    · skip
      refine own_st (s₁.setTop (mkF m 17 #[.val (.int i)] [])) (fun tq kq => XS.icmpYes X0.here hx rfl (pc0 := 10) (pc' := 17) rfl (hb hby own_d1_10) rfl (feq (c10_3 : ¬ (i = (1 : Int32)))).2 (by decide) (by decide) kq) ?_
      refine own_st (s₁.setTop (mkF m 18 #[.val (.int i)] [(.int i)])) (fun tq kq => XS.iloadN X0.here hx rfl (hb hby own_d1_17) rfl kq) ?_
      refine own_st (s₁.setTop (mkF m 19 #[.val (.int i)] [(.int (2 : Int32)), (.int i)])) (fun tq kq => XS.iconst X0.here hx rfl (hb hby own_d1_18) kq) ?_
      by_cases c19_5 : i = (2 : Int32)
      · skip
        refine own_st (s₁.setTop (mkF m 22 #[.val (.int i)] [])) (fun tq kq => XS.icmpNo X0.here hx rfl (hb hby own_d1_19) rfl (teq (c19_5 : i = (2 : Int32))).2 kq) ?_
        obtain ⟨T6, X6, e6, st6⟩ := getS2 X0 hx hZ hown (host := "") (Or.inl (hw _ (List.mem_of_getElem? (i := 36) rfl))) Via.refl e0 (SW2.ext O0.2) (g := (mkF m 22 #[.val (.int i)] [])) rfl (hb hby own_d1_22)
        refine own_st (T6.setTop (mkF m 25 #[.val (.int i)] [(.ref w2)])) st6 ?_
        exact own_ret X6 hlk (v := some (.ref w2)) (fun h => by rw [hret] at h; cases h) e6 (⟨by simp [own_sel, c10_3, c19_5, c1_1], (Fr.nil _), rfl⟩) (by decide) (by decide) (fun fs hr => retOut X6 hx hret rfl (Or.inr (Or.inr (Or.inr (Or.inr ⟨rfl, rfl, rfl⟩)))) (hb hby own_d1_25) hr)
      · skip
        refine own_st (s₁.setTop (mkF m 26 #[.val (.int i)] [])) (fun tq kq => XS.icmpYes X0.here hx rfl (pc0 := 19) (pc' := 26) rfl (hb hby own_d1_19) rfl (feq (c19_5 : ¬ (i = (2 : Int32)))).2 (by decide) (by decide) kq) ?_
        obtain ⟨T7, X7, e7, st7⟩ := getS2 X0 hx hZ hown (host := "") (Or.inl (hw _ (List.mem_of_getElem? (i := 68) rfl))) Via.refl e0 (SW3.ext O0.2) (g := (mkF m 26 #[.val (.int i)] [])) rfl (hb hby own_d1_26)
        refine own_st (T7.setTop (mkF m 29 #[.val (.int i)] [(.ref w3)])) st7 ?_
        exact own_ret X7 hlk (v := some (.ref w3)) (fun h => by rw [hret] at h; cases h) e7 (⟨by simp [own_sel, c10_3, c19_5, c1_1], (Fr.nil _), rfl⟩) (by decide) (by decide) (fun fs hr => retOut X7 hx hret rfl (Or.inr (Or.inr (Or.inr (Or.inr ⟨rfl, rfl, rfl⟩)))) (hb hby own_d1_29) hr)
theorem own_d2_0 : decode method_3_code 0 = .ok (.iload_n 0, 1) := by decide +kernel
theorem own_d2_1 : decode method_3_code 1 = .ok (.ifCond .ne 7, 3) := by decide +kernel
theorem own_d2_4 : decode method_3_code 4 = .ok (.getstatic 22, 3) := by decide +kernel
theorem own_d2_7 : decode method_3_code 7 = .ok (.areturn, 1) := by decide +kernel
theorem own_d2_8 : decode method_3_code 8 = .ok (.iload_n 0, 1) := by decide +kernel
theorem own_d2_9 : decode method_3_code 9 = .ok (.iconst 1, 1) := by decide +kernel
theorem own_d2_10 : decode method_3_code 10 = .ok (.if_icmp .ne 7, 3) := by decide +kernel
theorem own_d2_13 : decode method_3_code 13 = .ok (.getstatic 28, 3) := by decide +kernel
theorem own_d2_16 : decode method_3_code 16 = .ok (.areturn, 1) := by decide +kernel
theorem own_d2_17 : decode method_3_code 17 = .ok (.iload_n 0, 1) := by decide +kernel
theorem own_d2_18 : decode method_3_code 18 = .ok (.iconst 2, 1) := by decide +kernel
theorem own_d2_19 : decode method_3_code 19 = .ok (.if_icmp .ne 7, 3) := by decide +kernel
theorem own_d2_22 : decode method_3_code 22 = .ok (.getstatic 31, 3) := by decide +kernel
theorem own_d2_25 : decode method_3_code 25 = .ok (.areturn, 1) := by decide +kernel
theorem own_d2_26 : decode method_3_code 26 = .ok (.getstatic 34, 3) := by decide +kernel
theorem own_d2_29 : decode method_3_code 29 = .ok (.areturn, 1) := by decide +kernel
set_option maxRecDepth 65536 in
set_option maxHeartbeats 40000000 in
theorem own_state (l : Launch) (Z : State) (a0 : Array Value) (hw : ∀ d ∈ tables_1, d.before a0 Z = true) (ws : List Jvm.Cond) (i : Int32) (u0 u1 u2 u3 : Addr) (h0 : Heap) (O0 : Old Z Z.heap.size h0) (SU0 : Sta Z Z.heap "com/example/luoyang/luoyang/model/TaskState" "READY" "Lcom/example/luoyang/luoyang/model/TaskState;" (.ref u0)) (SU1 : Sta Z Z.heap "com/example/luoyang/luoyang/model/TaskState" "EXECUTING" "Lcom/example/luoyang/luoyang/model/TaskState;" (.ref u1)) (SU2 : Sta Z Z.heap "com/example/luoyang/luoyang/model/TaskState" "SUSPENDED" "Lcom/example/luoyang/luoyang/model/TaskState;" (.ref u2)) (SU3 : Sta Z Z.heap "com/example/luoyang/luoyang/model/TaskState" "COMPLETED" "Lcom/example/luoyang/luoyang/model/TaskState;" (.ref u3)) :
    ownMet l (⟨"com/example/luoyang/luoyang/model/TaskTransitionApplyToPinLaw", "state", "(I)Lcom/example/luoyang/luoyang/model/TaskState;"⟩ : MethodName) method_3_code 1 (some (.object "com/example/luoyang/luoyang/model/TaskState")) ws ({ frames := 0, cells := 0, slots := 0, locals := 0 } : Room) Z #[(.int i)] h0 (fun v h L => v = some (.ref (own_sel i u0 u1 u2 u3)) ∧ Fr Z.heap.size L ∧ h = h0) := by
  refine own_met (plainFor_of_name own_pn_com_example_luoyang_luoyang_model_TaskTransitionApplyToPinLaw) ?_
  intro p e s m below meth c s₁ hx hby hml hown hnm hret hlk hZ e0 X0
  refine own_cast (show _ = (mkF m 0 #[.val (.int i)] []) by first | (simp [entryFrame, mkF, argsToLocals, Value.category]; done) | rfl) ?_
  refine own_st (s₁.setTop (mkF m 1 #[.val (.int i)] [(.int i)])) (fun tq kq => XS.iloadN X0.here hx rfl (hb hby own_d2_0) rfl kq) ?_
  by_cases c1_1 : i = (0 : Int32)
  · skip
    refine own_st (s₁.setTop (mkF m 4 #[.val (.int i)] [])) (fun tq kq => XS.ifNo X0.here hx rfl (hb hby own_d2_1) rfl ((if0 _ _).trans (teq (c1_1 : i = (0 : Int32))).2) kq) ?_
    obtain ⟨T2, X2, e2, st2⟩ := getS2 X0 hx hZ hown (host := "") (Or.inl (hw _ (List.mem_of_getElem? (i := 41) rfl))) Via.refl e0 (SU0.ext O0.2) (g := (mkF m 4 #[.val (.int i)] [])) rfl (hb hby own_d2_4)
    refine own_st (T2.setTop (mkF m 7 #[.val (.int i)] [(.ref u0)])) st2 ?_
    exact own_ret X2 hlk (v := some (.ref u0)) (fun h => by rw [hret] at h; cases h) e2 (⟨by simp [own_sel, c1_1], (Fr.nil _), rfl⟩) (by decide) (by decide) (fun fs hr => retOut X2 hx hret rfl (Or.inr (Or.inr (Or.inr (Or.inr ⟨rfl, rfl, rfl⟩)))) (hb hby own_d2_7) hr)
  · skip
    refine own_st (s₁.setTop (mkF m 8 #[.val (.int i)] [])) (fun tq kq => XS.ifYes X0.here hx rfl (pc0 := 1) (pc' := 8) rfl (hb hby own_d2_1) rfl ((if0 _ _).trans (feq (c1_1 : ¬ (i = (0 : Int32)))).2) (by decide) (by decide) kq) ?_
    refine own_st (s₁.setTop (mkF m 9 #[.val (.int i)] [(.int i)])) (fun tq kq => XS.iloadN X0.here hx rfl (hb hby own_d2_8) rfl kq) ?_
    refine own_st (s₁.setTop (mkF m 10 #[.val (.int i)] [(.int (1 : Int32)), (.int i)])) (fun tq kq => XS.iconst X0.here hx rfl (hb hby own_d2_9) kq) ?_
    by_cases c10_3 : i = (1 : Int32)
    · skip
      refine own_st (s₁.setTop (mkF m 13 #[.val (.int i)] [])) (fun tq kq => XS.icmpNo X0.here hx rfl (hb hby own_d2_10) rfl (teq (c10_3 : i = (1 : Int32))).2 kq) ?_
      obtain ⟨T4, X4, e4, st4⟩ := getS2 X0 hx hZ hown (host := "") (Or.inl (hw _ (List.mem_of_getElem? (i := 38) rfl))) Via.refl e0 (SU1.ext O0.2) (g := (mkF m 13 #[.val (.int i)] [])) rfl (hb hby own_d2_13)
      refine own_st (T4.setTop (mkF m 16 #[.val (.int i)] [(.ref u1)])) st4 ?_
      exact own_ret X4 hlk (v := some (.ref u1)) (fun h => by rw [hret] at h; cases h) e4 (⟨by simp [own_sel, c10_3, c1_1], (Fr.nil _), rfl⟩) (by decide) (by decide) (fun fs hr => retOut X4 hx hret rfl (Or.inr (Or.inr (Or.inr (Or.inr ⟨rfl, rfl, rfl⟩)))) (hb hby own_d2_16) hr)
    · skip
      refine own_st (s₁.setTop (mkF m 17 #[.val (.int i)] [])) (fun tq kq => XS.icmpYes X0.here hx rfl (pc0 := 10) (pc' := 17) rfl (hb hby own_d2_10) rfl (feq (c10_3 : ¬ (i = (1 : Int32)))).2 (by decide) (by decide) kq) ?_
      refine own_st (s₁.setTop (mkF m 18 #[.val (.int i)] [(.int i)])) (fun tq kq => XS.iloadN X0.here hx rfl (hb hby own_d2_17) rfl kq) ?_
      refine own_st (s₁.setTop (mkF m 19 #[.val (.int i)] [(.int (2 : Int32)), (.int i)])) (fun tq kq => XS.iconst X0.here hx rfl (hb hby own_d2_18) kq) ?_
      by_cases c19_5 : i = (2 : Int32)
      · skip
        refine own_st (s₁.setTop (mkF m 22 #[.val (.int i)] [])) (fun tq kq => XS.icmpNo X0.here hx rfl (hb hby own_d2_19) rfl (teq (c19_5 : i = (2 : Int32))).2 kq) ?_
        obtain ⟨T6, X6, e6, st6⟩ := getS2 X0 hx hZ hown (host := "") (Or.inl (hw _ (List.mem_of_getElem? (i := 67) rfl))) Via.refl e0 (SU2.ext O0.2) (g := (mkF m 22 #[.val (.int i)] [])) rfl (hb hby own_d2_22)
        refine own_st (T6.setTop (mkF m 25 #[.val (.int i)] [(.ref u2)])) st6 ?_
        exact own_ret X6 hlk (v := some (.ref u2)) (fun h => by rw [hret] at h; cases h) e6 (⟨by simp [own_sel, c10_3, c19_5, c1_1], (Fr.nil _), rfl⟩) (by decide) (by decide) (fun fs hr => retOut X6 hx hret rfl (Or.inr (Or.inr (Or.inr (Or.inr ⟨rfl, rfl, rfl⟩)))) (hb hby own_d2_25) hr)
      · skip
        refine own_st (s₁.setTop (mkF m 26 #[.val (.int i)] [])) (fun tq kq => XS.icmpYes X0.here hx rfl (pc0 := 19) (pc' := 26) rfl (hb hby own_d2_19) rfl (feq (c19_5 : ¬ (i = (2 : Int32)))).2 (by decide) (by decide) kq) ?_
        obtain ⟨T7, X7, e7, st7⟩ := getS2 X0 hx hZ hown (host := "") (Or.inl (hw _ (List.mem_of_getElem? (i := 10) rfl))) Via.refl e0 (SU3.ext O0.2) (g := (mkF m 26 #[.val (.int i)] [])) rfl (hb hby own_d2_26)
        refine own_st (T7.setTop (mkF m 29 #[.val (.int i)] [(.ref u3)])) st7 ?_
        exact own_ret X7 hlk (v := some (.ref u3)) (fun h => by rw [hret] at h; cases h) e7 (⟨by simp [own_sel, c10_3, c19_5, c1_1], (Fr.nil _), rfl⟩) (by decide) (by decide) (fun fs hr => retOut X7 hx hret rfl (Or.inr (Or.inr (Or.inr (Or.inr ⟨rfl, rfl, rfl⟩)))) (hb hby own_d2_29) hr)
theorem own_d5_0 : decode method_4_code 0 = .ok (.iload_n 0, 1) := by decide +kernel
theorem own_d5_1 : decode method_4_code 1 = .ok (.ifCond .ne 13, 3) := by decide +kernel
theorem own_d5_4 : decode method_4_code 4 = .ok (.iload_n 1, 1) := by decide +kernel
theorem own_d5_5 : decode method_4_code 5 = .ok (.ifCond .ne 7, 3) := by decide +kernel
theorem own_d5_8 : decode method_4_code 8 = .ok (.iconst 1, 1) := by decide +kernel
theorem own_d5_9 : decode method_4_code 9 = .ok (.goto 4, 3) := by decide +kernel
theorem own_d5_13 : decode method_4_code 13 = .ok (.ireturn, 1) := by decide +kernel
theorem own_d5_12 : decode method_4_code 12 = .ok (.iconst (-1), 1) := by decide +kernel
theorem own_d5_14 : decode method_4_code 14 = .ok (.iload_n 0, 1) := by decide +kernel
theorem own_d5_15 : decode method_4_code 15 = .ok (.iconst 1, 1) := by decide +kernel
theorem own_d5_16 : decode method_4_code 16 = .ok (.if_icmp .ne 14, 3) := by decide +kernel
theorem own_d5_19 : decode method_4_code 19 = .ok (.iload_n 1, 1) := by decide +kernel
theorem own_d5_20 : decode method_4_code 20 = .ok (.iconst 1, 1) := by decide +kernel
theorem own_d5_21 : decode method_4_code 21 = .ok (.if_icmp .ne 7, 3) := by decide +kernel
theorem own_d5_24 : decode method_4_code 24 = .ok (.iconst 2, 1) := by decide +kernel
theorem own_d5_25 : decode method_4_code 25 = .ok (.goto 4, 3) := by decide +kernel
theorem own_d5_29 : decode method_4_code 29 = .ok (.ireturn, 1) := by decide +kernel
theorem own_d5_28 : decode method_4_code 28 = .ok (.iconst (-1), 1) := by decide +kernel
theorem own_d5_30 : decode method_4_code 30 = .ok (.iload_n 0, 1) := by decide +kernel
theorem own_d5_31 : decode method_4_code 31 = .ok (.iconst 2, 1) := by decide +kernel
theorem own_d5_32 : decode method_4_code 32 = .ok (.if_icmp .ne 14, 3) := by decide +kernel
theorem own_d5_35 : decode method_4_code 35 = .ok (.iload_n 1, 1) := by decide +kernel
theorem own_d5_36 : decode method_4_code 36 = .ok (.iconst 2, 1) := by decide +kernel
theorem own_d5_37 : decode method_4_code 37 = .ok (.if_icmp .ne 7, 3) := by decide +kernel
theorem own_d5_40 : decode method_4_code 40 = .ok (.iconst 1, 1) := by decide +kernel
theorem own_d5_41 : decode method_4_code 41 = .ok (.goto 4, 3) := by decide +kernel
theorem own_d5_45 : decode method_4_code 45 = .ok (.ireturn, 1) := by decide +kernel
theorem own_d5_44 : decode method_4_code 44 = .ok (.iconst (-1), 1) := by decide +kernel
theorem own_d5_46 : decode method_4_code 46 = .ok (.iload_n 1, 1) := by decide +kernel
theorem own_d5_47 : decode method_4_code 47 = .ok (.iconst 1, 1) := by decide +kernel
theorem own_d5_48 : decode method_4_code 48 = .ok (.if_icmp .ne 7, 3) := by decide +kernel
theorem own_d5_51 : decode method_4_code 51 = .ok (.iconst 3, 1) := by decide +kernel
theorem own_d5_52 : decode method_4_code 52 = .ok (.goto 4, 3) := by decide +kernel
theorem own_d5_56 : decode method_4_code 56 = .ok (.ireturn, 1) := by decide +kernel
theorem own_d5_55 : decode method_4_code 55 = .ok (.iconst (-1), 1) := by decide +kernel
set_option maxRecDepth 65536 in
set_option maxHeartbeats 40000000 in
theorem own_expect (l : Launch) (Z : State) (a0 : Array Value) (hw : ∀ d ∈ tables_1, d.before a0 Z = true) (ws : List Jvm.Cond) (i j : Int32) (h0 : Heap) (O0 : Old Z Z.heap.size h0) :
    ownMet l (⟨"com/example/luoyang/luoyang/model/TaskTransitionApplyToPinLaw", "expected", "(II)I"⟩ : MethodName) method_4_code 2 (some .int) ws ({ frames := 0, cells := 0, slots := 0, locals := 0 } : Room) Z #[(.int i), (.int j)] h0 (fun v h L => v = some (.int (own_ex i j)) ∧ Fr Z.heap.size L ∧ h = h0) := by
  refine own_met (plainFor_of_name own_pn_com_example_luoyang_luoyang_model_TaskTransitionApplyToPinLaw) ?_
  intro p e s m below meth c s₁ hx hby hml hown hnm hret hlk hZ e0 X0
  refine own_cast (show _ = (mkF m 0 #[.val (.int i), .val (.int j)] []) by first | (simp [entryFrame, mkF, argsToLocals, Value.category]; done) | rfl) ?_
  refine own_st (s₁.setTop (mkF m 1 #[.val (.int i), .val (.int j)] [(.int i)])) (fun tq kq => XS.iloadN X0.here hx rfl (hb hby own_d5_0) rfl kq) ?_
  by_cases c1_1 : i = (0 : Int32)
  · skip
    refine own_st (s₁.setTop (mkF m 4 #[.val (.int i), .val (.int j)] [])) (fun tq kq => XS.ifNo X0.here hx rfl (hb hby own_d5_1) rfl ((if0 _ _).trans (teq (c1_1 : i = (0 : Int32))).2) kq) ?_
    refine own_st (s₁.setTop (mkF m 5 #[.val (.int i), .val (.int j)] [(.int j)])) (fun tq kq => XS.iloadN X0.here hx rfl (hb hby own_d5_4) rfl kq) ?_
    by_cases c5_2 : j = (0 : Int32)
    · skip
      refine own_st (s₁.setTop (mkF m 8 #[.val (.int i), .val (.int j)] [])) (fun tq kq => XS.ifNo X0.here hx rfl (hb hby own_d5_5) rfl ((if0 _ _).trans (teq (c5_2 : j = (0 : Int32))).2) kq) ?_
      refine own_st (s₁.setTop (mkF m 9 #[.val (.int i), .val (.int j)] [(.int (1 : Int32))])) (fun tq kq => XS.iconst X0.here hx rfl (hb hby own_d5_8) kq) ?_
      refine own_st (s₁.setTop (mkF m 13 #[.val (.int i), .val (.int j)] [(.int (1 : Int32))])) (fun tq kq => XS.goto X0.here hx rfl (pc0 := 9) (pc' := 13) rfl (hb hby own_d5_9) (by decide) (by decide) kq) ?_
      exact own_ret X0 hlk (v := some (.int (1 : Int32))) (fun h => by rw [hret] at h; cases h) e0 (⟨by simp [own_ex, c1_1, c5_2], (Fr.nil _), rfl⟩) (by decide) (by decide) (fun fs hr => retI X0 hx hret (hb hby own_d5_13) hr)
    · skip
      refine own_st (s₁.setTop (mkF m 12 #[.val (.int i), .val (.int j)] [])) (fun tq kq => XS.ifYes X0.here hx rfl (pc0 := 5) (pc' := 12) rfl (hb hby own_d5_5) rfl ((if0 _ _).trans (feq (c5_2 : ¬ (j = (0 : Int32)))).2) (by decide) (by decide) kq) ?_
      refine own_st (s₁.setTop (mkF m 13 #[.val (.int i), .val (.int j)] [(.int (-1 : Int32))])) (fun tq kq => XS.iconst X0.here hx rfl (hb hby own_d5_12) kq) ?_
      exact own_ret X0 hlk (v := some (.int (-1 : Int32))) (fun h => by rw [hret] at h; cases h) e0 (⟨by simp [own_ex, c1_1, c5_2], (Fr.nil _), rfl⟩) (by decide) (by decide) (fun fs hr => retI X0 hx hret (hb hby own_d5_13) hr)
  · skip
    refine own_st (s₁.setTop (mkF m 14 #[.val (.int i), .val (.int j)] [])) (fun tq kq => XS.ifYes X0.here hx rfl (pc0 := 1) (pc' := 14) rfl (hb hby own_d5_1) rfl ((if0 _ _).trans (feq (c1_1 : ¬ (i = (0 : Int32)))).2) (by decide) (by decide) kq) ?_
    refine own_st (s₁.setTop (mkF m 15 #[.val (.int i), .val (.int j)] [(.int i)])) (fun tq kq => XS.iloadN X0.here hx rfl (hb hby own_d5_14) rfl kq) ?_
    refine own_st (s₁.setTop (mkF m 16 #[.val (.int i), .val (.int j)] [(.int (1 : Int32)), (.int i)])) (fun tq kq => XS.iconst X0.here hx rfl (hb hby own_d5_15) kq) ?_
    by_cases c16_3 : i = (1 : Int32)
    · skip
      refine own_st (s₁.setTop (mkF m 19 #[.val (.int i), .val (.int j)] [])) (fun tq kq => XS.icmpNo X0.here hx rfl (hb hby own_d5_16) rfl (teq (c16_3 : i = (1 : Int32))).2 kq) ?_
      refine own_st (s₁.setTop (mkF m 20 #[.val (.int i), .val (.int j)] [(.int j)])) (fun tq kq => XS.iloadN X0.here hx rfl (hb hby own_d5_19) rfl kq) ?_
      refine own_st (s₁.setTop (mkF m 21 #[.val (.int i), .val (.int j)] [(.int (1 : Int32)), (.int j)])) (fun tq kq => XS.iconst X0.here hx rfl (hb hby own_d5_20) kq) ?_
      by_cases c21_4 : j = (1 : Int32)
      · skip
        refine own_st (s₁.setTop (mkF m 24 #[.val (.int i), .val (.int j)] [])) (fun tq kq => XS.icmpNo X0.here hx rfl (hb hby own_d5_21) rfl (teq (c21_4 : j = (1 : Int32))).2 kq) ?_
        refine own_st (s₁.setTop (mkF m 25 #[.val (.int i), .val (.int j)] [(.int (2 : Int32))])) (fun tq kq => XS.iconst X0.here hx rfl (hb hby own_d5_24) kq) ?_
        refine own_st (s₁.setTop (mkF m 29 #[.val (.int i), .val (.int j)] [(.int (2 : Int32))])) (fun tq kq => XS.goto X0.here hx rfl (pc0 := 25) (pc' := 29) rfl (hb hby own_d5_25) (by decide) (by decide) kq) ?_
        exact own_ret X0 hlk (v := some (.int (2 : Int32))) (fun h => by rw [hret] at h; cases h) e0 (⟨by simp [own_ex, c16_3, c1_1, c21_4], (Fr.nil _), rfl⟩) (by decide) (by decide) (fun fs hr => retI X0 hx hret (hb hby own_d5_29) hr)
      · skip
        refine own_st (s₁.setTop (mkF m 28 #[.val (.int i), .val (.int j)] [])) (fun tq kq => XS.icmpYes X0.here hx rfl (pc0 := 21) (pc' := 28) rfl (hb hby own_d5_21) rfl (feq (c21_4 : ¬ (j = (1 : Int32)))).2 (by decide) (by decide) kq) ?_
        refine own_st (s₁.setTop (mkF m 29 #[.val (.int i), .val (.int j)] [(.int (-1 : Int32))])) (fun tq kq => XS.iconst X0.here hx rfl (hb hby own_d5_28) kq) ?_
        exact own_ret X0 hlk (v := some (.int (-1 : Int32))) (fun h => by rw [hret] at h; cases h) e0 (⟨by simp [own_ex, c16_3, c1_1, c21_4], (Fr.nil _), rfl⟩) (by decide) (by decide) (fun fs hr => retI X0 hx hret (hb hby own_d5_29) hr)
    · skip
      refine own_st (s₁.setTop (mkF m 30 #[.val (.int i), .val (.int j)] [])) (fun tq kq => XS.icmpYes X0.here hx rfl (pc0 := 16) (pc' := 30) rfl (hb hby own_d5_16) rfl (feq (c16_3 : ¬ (i = (1 : Int32)))).2 (by decide) (by decide) kq) ?_
      refine own_st (s₁.setTop (mkF m 31 #[.val (.int i), .val (.int j)] [(.int i)])) (fun tq kq => XS.iloadN X0.here hx rfl (hb hby own_d5_30) rfl kq) ?_
      refine own_st (s₁.setTop (mkF m 32 #[.val (.int i), .val (.int j)] [(.int (2 : Int32)), (.int i)])) (fun tq kq => XS.iconst X0.here hx rfl (hb hby own_d5_31) kq) ?_
      by_cases c32_5 : i = (2 : Int32)
      · skip
        refine own_st (s₁.setTop (mkF m 35 #[.val (.int i), .val (.int j)] [])) (fun tq kq => XS.icmpNo X0.here hx rfl (hb hby own_d5_32) rfl (teq (c32_5 : i = (2 : Int32))).2 kq) ?_
        refine own_st (s₁.setTop (mkF m 36 #[.val (.int i), .val (.int j)] [(.int j)])) (fun tq kq => XS.iloadN X0.here hx rfl (hb hby own_d5_35) rfl kq) ?_
        refine own_st (s₁.setTop (mkF m 37 #[.val (.int i), .val (.int j)] [(.int (2 : Int32)), (.int j)])) (fun tq kq => XS.iconst X0.here hx rfl (hb hby own_d5_36) kq) ?_
        by_cases c37_6 : j = (2 : Int32)
        · skip
          refine own_st (s₁.setTop (mkF m 40 #[.val (.int i), .val (.int j)] [])) (fun tq kq => XS.icmpNo X0.here hx rfl (hb hby own_d5_37) rfl (teq (c37_6 : j = (2 : Int32))).2 kq) ?_
          refine own_st (s₁.setTop (mkF m 41 #[.val (.int i), .val (.int j)] [(.int (1 : Int32))])) (fun tq kq => XS.iconst X0.here hx rfl (hb hby own_d5_40) kq) ?_
          refine own_st (s₁.setTop (mkF m 45 #[.val (.int i), .val (.int j)] [(.int (1 : Int32))])) (fun tq kq => XS.goto X0.here hx rfl (pc0 := 41) (pc' := 45) rfl (hb hby own_d5_41) (by decide) (by decide) kq) ?_
          exact own_ret X0 hlk (v := some (.int (1 : Int32))) (fun h => by rw [hret] at h; cases h) e0 (⟨by simp [own_ex, c16_3, c1_1, c32_5, c37_6], (Fr.nil _), rfl⟩) (by decide) (by decide) (fun fs hr => retI X0 hx hret (hb hby own_d5_45) hr)
        · skip
          refine own_st (s₁.setTop (mkF m 44 #[.val (.int i), .val (.int j)] [])) (fun tq kq => XS.icmpYes X0.here hx rfl (pc0 := 37) (pc' := 44) rfl (hb hby own_d5_37) rfl (feq (c37_6 : ¬ (j = (2 : Int32)))).2 (by decide) (by decide) kq) ?_
          refine own_st (s₁.setTop (mkF m 45 #[.val (.int i), .val (.int j)] [(.int (-1 : Int32))])) (fun tq kq => XS.iconst X0.here hx rfl (hb hby own_d5_44) kq) ?_
          exact own_ret X0 hlk (v := some (.int (-1 : Int32))) (fun h => by rw [hret] at h; cases h) e0 (⟨by simp [own_ex, c16_3, c1_1, c32_5, c37_6], (Fr.nil _), rfl⟩) (by decide) (by decide) (fun fs hr => retI X0 hx hret (hb hby own_d5_45) hr)
      · skip
        refine own_st (s₁.setTop (mkF m 46 #[.val (.int i), .val (.int j)] [])) (fun tq kq => XS.icmpYes X0.here hx rfl (pc0 := 32) (pc' := 46) rfl (hb hby own_d5_32) rfl (feq (c32_5 : ¬ (i = (2 : Int32)))).2 (by decide) (by decide) kq) ?_
        refine own_st (s₁.setTop (mkF m 47 #[.val (.int i), .val (.int j)] [(.int j)])) (fun tq kq => XS.iloadN X0.here hx rfl (hb hby own_d5_46) rfl kq) ?_
        refine own_st (s₁.setTop (mkF m 48 #[.val (.int i), .val (.int j)] [(.int (1 : Int32)), (.int j)])) (fun tq kq => XS.iconst X0.here hx rfl (hb hby own_d5_47) kq) ?_
        by_cases c48_7 : j = (1 : Int32)
        · skip
          refine own_st (s₁.setTop (mkF m 51 #[.val (.int i), .val (.int j)] [])) (fun tq kq => XS.icmpNo X0.here hx rfl (hb hby own_d5_48) rfl (teq (c48_7 : j = (1 : Int32))).2 kq) ?_
          refine own_st (s₁.setTop (mkF m 52 #[.val (.int i), .val (.int j)] [(.int (3 : Int32))])) (fun tq kq => XS.iconst X0.here hx rfl (hb hby own_d5_51) kq) ?_
          refine own_st (s₁.setTop (mkF m 56 #[.val (.int i), .val (.int j)] [(.int (3 : Int32))])) (fun tq kq => XS.goto X0.here hx rfl (pc0 := 52) (pc' := 56) rfl (hb hby own_d5_52) (by decide) (by decide) kq) ?_
          exact own_ret X0 hlk (v := some (.int (3 : Int32))) (fun h => by rw [hret] at h; cases h) e0 (⟨by simp [own_ex, c16_3, c1_1, c32_5, c48_7], (Fr.nil _), rfl⟩) (by decide) (by decide) (fun fs hr => retI X0 hx hret (hb hby own_d5_56) hr)
        · skip
          refine own_st (s₁.setTop (mkF m 55 #[.val (.int i), .val (.int j)] [])) (fun tq kq => XS.icmpYes X0.here hx rfl (pc0 := 48) (pc' := 55) rfl (hb hby own_d5_48) rfl (feq (c48_7 : ¬ (j = (1 : Int32)))).2 (by decide) (by decide) kq) ?_
          refine own_st (s₁.setTop (mkF m 56 #[.val (.int i), .val (.int j)] [(.int (-1 : Int32))])) (fun tq kq => XS.iconst X0.here hx rfl (hb hby own_d5_55) kq) ?_
          exact own_ret X0 hlk (v := some (.int (-1 : Int32))) (fun h => by rw [hret] at h; cases h) e0 (⟨by simp [own_ex, c16_3, c1_1, c32_5, c48_7], (Fr.nil _), rfl⟩) (by decide) (by decide) (fun fs hr => retI X0 hx hret (hb hby own_d5_56) hr)
theorem own_d4_0 : decode jdk_32_method_1_code 0 = .ok (.getstatic 1, 3) := by decide +kernel
theorem own_d4_3 : decode jdk_32_method_1_code 3 = .ok (.astore_n 0, 1) := by decide +kernel
theorem own_d4_4 : decode jdk_32_method_1_code 4 = .ok (.aload_n 0, 1) := by decide +kernel
theorem own_d4_5 : decode jdk_32_method_1_code 5 = .ok (.areturn, 1) := by decide +kernel
theorem own_pn_java_util_Optional : plainName "java/util/Optional" = true := by first | (simp [plainName, overriddenIn]; done) | decide +kernel
set_option maxRecDepth 65536 in
set_option maxHeartbeats 40000000 in
theorem own_empty (l : Launch) (Z : State) (a0 : Array Value) (hw : ∀ d ∈ tables_1, d.before a0 Z = true) (ws : List Jvm.Cond) (we : Addr) (h0 : Heap) (O0 : Old Z Z.heap.size h0) (SE : Sta Z Z.heap "java/util/Optional" "EMPTY" "Ljava/util/Optional;" (.ref we)) :
    ownMet l (⟨"java/util/Optional", "empty", "()Ljava/util/Optional;"⟩ : MethodName) jdk_32_method_1_code 1 (some (.object "java/util/Optional")) ws ({ frames := 0, cells := 0, slots := 0, locals := 0 } : Room) Z #[] h0 (fun v h L => v = some (.ref we) ∧ Fr Z.heap.size L ∧ h = h0) := by
  refine own_met (plainFor_of_name own_pn_java_util_Optional) ?_
  intro p e s m below meth c s₁ hx hby hml hown hnm hret hlk hZ e0 X0
  refine own_cast (show _ = (mkF m 0 #[.unset] []) by first | (simp [entryFrame, mkF, argsToLocals, Value.category]; done) | rfl) ?_
  obtain ⟨T1, X1, e1, st1⟩ := getS2 X0 hx hZ hown (host := "") (Or.inl (hw _ (List.mem_of_getElem? (i := 25) rfl))) Via.refl e0 (SE.ext O0.2) (g := (mkF m 0 #[.unset] [])) rfl (hb hby own_d4_0)
  refine own_st (T1.setTop (mkF m 3 #[.unset] [(.ref we)])) st1 ?_
  refine own_st (T1.setTop (mkF m 4 #[.val (.ref we)] [])) (fun tq kq => XS.astoreN X1.here hx rfl (hb hby own_d4_3) rfl (by rfl) (l' := #[.val (.ref we)]) rfl kq) ?_
  refine own_st (T1.setTop (mkF m 5 #[.val (.ref we)] [(.ref we)])) (fun tq kq => XS.aloadN X1.here hx rfl (hb hby own_d4_4) rfl (by rfl) kq) ?_
  exact own_ret X1 hlk (v := some (.ref we)) (fun h => by rw [hret] at h; cases h) e1 (⟨rfl, (Fr.nil _), rfl⟩) (by decide) (by decide) (fun fs hr => retOut X1 hx hret rfl (Or.inr (Or.inr (Or.inr (Or.inr ⟨rfl, rfl, rfl⟩)))) (hb hby own_d4_5) hr)
theorem own_d8_0 : decode jdk_31_method_10_code 0 = .ok (.aload_n 0, 1) := by decide +kernel
theorem own_d8_1 : decode jdk_31_method_10_code 1 = .ok (.ifnonnull 11, 3) := by decide +kernel
theorem own_d8_12 : decode jdk_31_method_10_code 12 = .ok (.aload_n 0, 1) := by decide +kernel
theorem own_d8_13 : decode jdk_31_method_10_code 13 = .ok (.areturn, 1) := by decide +kernel
theorem own_pn_java_util_Objects : plainName "java/util/Objects" = true := by first | (simp [plainName, overriddenIn]; done) | decide +kernel
set_option maxRecDepth 65536 in
set_option maxHeartbeats 40000000 in
theorem own_rnn (l : Launch) (Z : State) (a0 : Array Value) (hw : ∀ d ∈ tables_1, d.before a0 Z = true) (ws : List Jvm.Cond) (a : Addr) (h0 : Heap) (O0 : Old Z Z.heap.size h0) :
    ownMet l (⟨"java/util/Objects", "requireNonNull", "(Ljava/lang/Object;)Ljava/lang/Object;"⟩ : MethodName) jdk_31_method_10_code 1 (some (.object "java/lang/Object")) ws ({ frames := 0, cells := 0, slots := 0, locals := 0 } : Room) Z #[(.ref a)] h0 (fun v h L => v = some (.ref a) ∧ Fr Z.heap.size L ∧ h = h0) := by
  refine own_met (plainFor_of_name own_pn_java_util_Objects) ?_
  intro p e s m below meth c s₁ hx hby hml hown hnm hret hlk hZ e0 X0
  refine own_cast (show _ = (mkF m 0 #[.val (.ref a)] []) by first | (simp [entryFrame, mkF, argsToLocals, Value.category]; done) | rfl) ?_
  refine own_st (s₁.setTop (mkF m 1 #[.val (.ref a)] [(.ref a)])) (fun tq kq => XS.aloadN X0.here hx rfl (hb hby own_d8_0) rfl (by rfl) kq) ?_
  refine own_st (s₁.setTop (mkF m 12 #[.val (.ref a)] [])) (fun tq kq => XS.ifnonnullYes X0.here hx rfl (pc0 := 1) (pc' := 12) rfl (hb hby own_d8_1) rfl (by decide) (by decide) kq) ?_
  refine own_st (s₁.setTop (mkF m 13 #[.val (.ref a)] [(.ref a)])) (fun tq kq => XS.aloadN X0.here hx rfl (hb hby own_d8_12) rfl (by rfl) kq) ?_
  exact own_ret X0 hlk (v := some (.ref a)) (fun h => by rw [hret] at h; cases h) e0 (⟨rfl, (Fr.nil _), rfl⟩) (by decide) (by decide) (fun fs hr => retOut X0 hx hret rfl (Or.inr (Or.inr (Or.inr (Or.inr ⟨rfl, rfl, rfl⟩)))) (hb hby own_d8_13) hr)
theorem own_d9_0 : decode jdk_32_method_2_code 0 = .ok (.aload_n 0, 1) := by decide +kernel
theorem own_d9_1 : decode jdk_32_method_2_code 1 = .ok (.invokespecial 7, 3) := by decide +kernel
theorem own_d9_4 : decode jdk_32_method_2_code 4 = .ok (.aload_n 0, 1) := by decide +kernel
theorem own_d9_5 : decode jdk_32_method_2_code 5 = .ok (.aload_n 1, 1) := by decide +kernel
theorem own_d9_6 : decode jdk_32_method_2_code 6 = .ok (.putfield 13, 3) := by decide +kernel
theorem own_d9_9 : decode jdk_32_method_2_code 9 = .ok (.return_, 1) := by decide +kernel
set_option maxRecDepth 65536 in
set_option maxHeartbeats 40000000 in
theorem own_init (l : Launch) (Z : State) (a0 : Array Value) (hw : ∀ d ∈ tables_1, d.before a0 Z = true) (ws : List Jvm.Cond) (a b : Addr) (h0 : Heap) (O0 : Old Z Z.heap.size h0) (F0 : Fld Z h0 a "java/util/Optional" "value" "Ljava/lang/Object;" .null) (E0 : Exa Z h0 a "java/util/Optional") (g0 : Z.heap.size ≤ a) :
    ownMet l (⟨"java/util/Optional", "<init>", "(Ljava/lang/Object;)V"⟩ : MethodName) jdk_32_method_2_code 2 none ws ({ frames := 1, cells := 0, slots := 0, locals := 12 } : Room) Z #[(.ref a), (.ref b)] h0 (fun v h L => v = none ∧ Fr Z.heap.size L ∧ Keep h0 h [a] ∧ Fld Z h a "java/util/Optional" "value" "Ljava/lang/Object;" (.ref b)) := by
  refine own_met (plainFor_of_name own_pn_java_util_Optional) ?_
  intro p e s m below meth c s₁ hx hby hml hown hnm hret hlk hZ e0 X0
  refine own_cast (show _ = (mkF m 0 #[.val (.ref a), .val (.ref b)] []) by first | (simp [entryFrame, mkF, argsToLocals, Value.category]; done) | rfl) ?_
  refine own_st (s₁.setTop (mkF m 1 #[.val (.ref a), .val (.ref b)] [(.ref a)])) (fun tq kq => XS.aloadN X0.here hx rfl (hb hby own_d9_0) rfl (by rfl) kq) ?_
  obtain ⟨T1, X1, e1, st1⟩ := initO X0 hx hZ hown (hw _ (List.mem_of_getElem? (i := 57) rfl)) (hw _ (List.mem_of_getElem? (i := 58) rfl)) (hw _ (List.mem_of_getElem? (i := 59) rfl)) e0 (g := (mkF m 1 #[.val (.ref a), .val (.ref b)] [(.ref a)])) rfl (by rw [hml]; rfl) rfl (hb hby own_d9_1) (by decide) (W := 0) (by show 2 * 0 + _ ≤ _; exact Nat.le_of_eq rfl) (by decide)
  refine own_st (T1.setTop (mkF m 4 #[.val (.ref a), .val (.ref b)] [])) st1 ?_
  refine own_st (T1.setTop (mkF m 5 #[.val (.ref a), .val (.ref b)] [(.ref a)])) (fun tq kq => XS.aloadN X1.here hx rfl (hb hby own_d9_4) rfl (by rfl) kq) ?_
  refine own_st (T1.setTop (mkF m 6 #[.val (.ref a), .val (.ref b)] [(.ref b), (.ref a)])) (fun tq kq => XS.aloadN X1.here hx rfl (hb hby own_d9_5) rfl (by rfl) kq) ?_
  obtain ⟨T2, h2, X2, e2, W2, st2⟩ := putF X1 hx hZ hown (host := "") (Or.inl (hw _ (List.mem_of_getElem? (i := 34) rfl))) Via.refl e1 F0 E0 (Or.inr ⟨(hw _ (List.mem_of_getElem? (i := 35) rfl)), rfl, hnm⟩) (hw _ (List.mem_of_getElem? (i := 48) rfl)) (ty := (.object "java/lang/Object")) (by decide) (by rfl) (by rfl) (g := (mkF m 6 #[.val (.ref a), .val (.ref b)] [(.ref b), (.ref a)])) rfl rfl (hb hby own_d9_6)
  have N2 := Fr.snoc X2 (Fr.nil _) g0
  have O2 := O0.wr W2 g0
  have K2 := (Keep.refl h0 [a]).wr W2 (Or.inl (List.mem_of_getElem? (i := 0) rfl))
  have f4 := (E0.wr W2)
  have f5 := (F0.same W2)
  refine own_st (T2.setTop (mkF m 9 #[.val (.ref a), .val (.ref b)] [])) st2 ?_
  exact own_ret X2 hlk (v := none) (fun _ => rfl) e2 (⟨rfl, N2, K2, f5⟩) (by decide) (by decide) (fun fs hr => X2.returnOut hx hret (hb hby own_d9_9) hr)
theorem own_d7_0 : decode jdk_32_method_3_code 0 = .ok (.new 2, 3) := by decide +kernel
theorem own_d7_3 : decode jdk_32_method_3_code 3 = .ok (.dup, 1) := by decide +kernel
theorem own_d7_4 : decode jdk_32_method_3_code 4 = .ok (.aload_n 0, 1) := by decide +kernel
theorem own_pd__28Ljava_2flang_2fObject_3b_29Ljava_2flang_2fObject_3b : parseMethodDescriptor "(Ljava/lang/Object;)Ljava/lang/Object;" = some ⟨[(.object "java/lang/Object")], some (.object "java/lang/Object")⟩ := by decide +kernel
theorem own_d7_5 : decode jdk_32_method_3_code 5 = .ok (.invokestatic 17, 3) := by decide +kernel
theorem own_pd__28Ljava_2flang_2fObject_3b_29V : parseMethodDescriptor "(Ljava/lang/Object;)V" = some ⟨[(.object "java/lang/Object")], none⟩ := by decide +kernel
theorem own_d7_8 : decode jdk_32_method_3_code 8 = .ok (.invokespecial 23, 3) := by decide +kernel
theorem own_d7_11 : decode jdk_32_method_3_code 11 = .ok (.areturn, 1) := by decide +kernel
set_option maxRecDepth 65536 in
set_option maxHeartbeats 40000000 in
theorem own_of (l : Launch) (Z : State) (a0 : Array Value) (hw : ∀ d ∈ tables_1, d.before a0 Z = true) (ws : List Jvm.Cond) (a : Addr) (h0 : Heap) (O0 : Old Z Z.heap.size h0) :
    ownMet l (⟨"java/util/Optional", "of", "(Ljava/lang/Object;)Ljava/util/Optional;"⟩ : MethodName) jdk_32_method_3_code 1 (some (.object "java/util/Optional")) ws ({ frames := 2, cells := 1, slots := 1, locals := 26 } : Room) Z #[(.ref a)] h0 (fun v h L => ∃ o : Addr, v = some (.ref o) ∧ Fr Z.heap.size L ∧ Keep h0 h [] ∧ Z.heap.size ≤ o ∧ Exa Z h o "java/util/Optional" ∧ Fld Z h o "java/util/Optional" "value" "Ljava/lang/Object;" (.ref a)) := by
  refine own_met (plainFor_of_name own_pn_java_util_Optional) ?_
  intro p e s m below meth c s₁ hx hby hml hown hnm hret hlk hZ e0 X0
  refine own_cast (show _ = (mkF m 0 #[.val (.ref a)] []) by first | (simp [entryFrame, mkF, argsToLocals, Value.category]; done) | rfl) ?_
  obtain ⟨T1, h1, X1, e1, E1, A1, D1, -, st1⟩ := newO X0 hx hZ hown (hw _ (List.mem_of_getElem? (i := 47) rfl)) (hw _ (List.mem_of_getElem? (i := 48) rfl)) (hw _ (List.mem_of_getElem? (i := 23) rfl)) e0 (g := (mkF m 0 #[.val (.ref a)] [])) rfl (hb hby own_d7_0) (by decide) (by decide)
  obtain ⟨b1, g1⟩ : ∃ z, z = h0.size := ⟨_, rfl⟩
  have z1 : Z.heap.size ≤ b1 := Nat.le_trans O0.2.1 (Nat.le_of_eq g1.symm)
  have s1 : h0.size ≤ b1 := Nat.le_trans (Keep.refl h0 []).1 (Nat.le_of_eq g1.symm)
  rw [← g1] at A1 D1 st1
  have O1 := O0.ext E1
  have K1 := (Keep.refl h0 []).ext E1
  have f2 : Fld Z h1 b1 "java/util/Optional" "value" "Ljava/lang/Object;" .null := D1 (Or.inr (hw _ (List.mem_of_getElem? (i := 35) rfl))) (ty := (.object "java/lang/Object")) (by decide)
  refine own_st (T1.setTop (mkF m 3 #[.val (.ref a)] [(.ref b1)])) st1 ?_
  refine own_st (T1.setTop (mkF m 4 #[.val (.ref a)] [(.ref b1), (.ref b1)])) (fun tq kq => XS.dup X1.here hx rfl (hb hby own_d7_3) rfl (by rfl) kq) ?_
  refine own_st (T1.setTop (mkF m 5 #[.val (.ref a)] [(.ref a), (.ref b1), (.ref b1)])) (fun tq kq => XS.aloadN X1.here hx rfl (hb hby own_d7_4) rfl (by rfl) kq) ?_
  obtain ⟨v3, T3, L3, X3, q3, st3⟩ := own_callS X1 hx hZ hown (hw _ (List.mem_of_getElem? (i := 49) rfl)) (hw _ (List.mem_of_getElem? (i := 50) rfl)) (hw _ (List.mem_of_getElem? (i := 51) rfl)) (hw _ (List.mem_of_getElem? (i := 52) rfl)) (argsL := [(.ref a)]) (own_rnn l Z a0 hw [] a h1 O1) 2 (by decide) (by decide) (by decide) (by decide) (by decide) e1 (g := (mkF m 5 #[.val (.ref a)] [(.ref a), (.ref b1), (.ref b1)])) rfl (by rw [hml]; rfl) [(.ref b1), (.ref b1)] (lenOf own_pd__28Ljava_2flang_2fObject_3b_29Ljava_2flang_2fObject_3b rfl) rfl (by show 2 * 0 + _ ≤ _; exact Nat.le_of_eq rfl) (hb hby own_d7_5)
  obtain ⟨rfl, N3q, e3⟩ := q3
  have N3 := Fr.app (Fr.nil _) N3q
  refine own_st (T3.setTop (mkF m 8 #[.val (.ref a)] [(.ref a), (.ref b1), (.ref b1)])) st3 ?_
  obtain ⟨v4, T4, L4, X4, q4, st4⟩ := own_callI X3 hx hZ hown (y := (⟨"java/util/Optional", "<init>", "(Ljava/lang/Object;)V"⟩ : MethodName)) rfl (hw _ (List.mem_of_getElem? (i := 53) rfl)) (hw _ (List.mem_of_getElem? (i := 54) rfl)) (hw _ (List.mem_of_getElem? (i := 23) rfl)) (hw _ (List.mem_of_getElem? (i := 56) rfl)) (a := b1) (argsL := [(.ref a)]) (own_init l Z a0 hw [] b1 a h1 O1 f2 A1 z1) 1 (by decide) (by decide) (by decide) (by decide) (by decide) e3 (g := (mkF m 8 #[.val (.ref a)] [(.ref a), (.ref b1), (.ref b1)])) rfl (by rw [hml]; rfl) [(.ref b1)] (lenOf own_pd__28Ljava_2flang_2fObject_3b_29V rfl) rfl (by show 2 * 0 + _ ≤ _; exact Nat.le_of_eq rfl) (hb hby own_d7_8)
  obtain ⟨rfl, N4q, K4q, f4q⟩ := q4
  have N4 := Fr.app N3 N4q
  have f5 := (A1.keep K4q)
  have O4 := O1.keep K4q (allS z1 all0)
  have K4 := K1.trans K4q (allS (Or.inr s1) all0)
  refine own_st (T4.setTop (mkF m 11 #[.val (.ref a)] [(.ref b1)])) st4 ?_
  exact own_ret X4 hlk (v := some (.ref b1)) (fun h => by rw [hret] at h; cases h) rfl (⟨_, rfl, N4, K4, z1, f5, f4q⟩) (by decide) (by decide) (fun fs hr => retOut X4 hx hret rfl (Or.inr (Or.inr (Or.inr (Or.inr ⟨rfl, rfl, rfl⟩)))) (hb hby own_d7_11) hr)
theorem own_d3_0 : decode prog_62_method_6_code 0 = .ok (.aload_n 1, 1) := by decide +kernel
theorem own_d3_1 : decode prog_62_method_6_code 1 = .ok (.aload_n 0, 1) := by decide +kernel
theorem own_d3_2 : decode prog_62_method_6_code 2 = .ok (.getfield 35, 3) := by decide +kernel
theorem own_d3_5 : decode prog_62_method_6_code 5 = .ok (.if_acmp .ne 13, 3) := by decide +kernel
theorem own_d3_8 : decode prog_62_method_6_code 8 = .ok (.aload_n 0, 1) := by decide +kernel
theorem own_d3_9 : decode prog_62_method_6_code 9 = .ok (.getfield 39, 3) := by decide +kernel
theorem own_pd__28Ljava_2flang_2fObject_3b_29Ljava_2futil_2fOptional_3b : parseMethodDescriptor "(Ljava/lang/Object;)Ljava/util/Optional;" = some ⟨[(.object "java/lang/Object")], some (.object "java/util/Optional")⟩ := by decide +kernel
theorem own_d3_12 : decode prog_62_method_6_code 12 = .ok (.invokestatic 42, 3) := by decide +kernel
theorem own_d3_15 : decode prog_62_method_6_code 15 = .ok (.goto 6, 3) := by decide +kernel
theorem own_d3_21 : decode prog_62_method_6_code 21 = .ok (.areturn, 1) := by decide +kernel
theorem own_pn_com_example_luoyang_luoyang_model_TaskTransition : plainName "com/example/luoyang/luoyang/model/TaskTransition" = true := by first | (simp [plainName, overriddenIn]; done) | decide +kernel
set_option maxRecDepth 65536 in
set_option maxHeartbeats 40000000 in
theorem own_applyYes (l : Launch) (Z : State) (a0 : Array Value) (hw : ∀ d ∈ tables_1, d.before a0 Z = true) (ws : List Jvm.Cond) (a b sa ta : Addr) (h0 : Heap) (O0 : Old Z Z.heap.size h0) (FS : Fld Z Z.heap a "com/example/luoyang/luoyang/model/TaskTransition" "source" "Lcom/example/luoyang/luoyang/model/TaskState;" (.ref sa)) (FT : Fld Z Z.heap a "com/example/luoyang/luoyang/model/TaskTransition" "target" "Lcom/example/luoyang/luoyang/model/TaskState;" (.ref ta)) (hb_ : b = sa) :
    ownMet l (⟨"com/example/luoyang/luoyang/model/TaskTransition", "applyTo", "(Lcom/example/luoyang/luoyang/model/TaskState;)Ljava/util/Optional;"⟩ : MethodName) prog_62_method_6_code 2 (some (.object "java/util/Optional")) ws ({ frames := 3, cells := 1, slots := 1, locals := 38 } : Room) Z #[(.ref a), (.ref b)] h0 (fun v h L => ∃ o : Addr, v = some (.ref o) ∧ Fr Z.heap.size L ∧ Keep h0 h [] ∧ Z.heap.size ≤ o ∧ Exa Z h o "java/util/Optional" ∧ Fld Z h o "java/util/Optional" "value" "Ljava/lang/Object;" (.ref ta)) := by
  refine own_met (plainFor_of_name own_pn_com_example_luoyang_luoyang_model_TaskTransition) ?_
  intro p e s m below meth c s₁ hx hby hml hown hnm hret hlk hZ e0 X0
  refine own_cast (show _ = (mkF m 0 #[.val (.ref a), .val (.ref b)] []) by first | (simp [entryFrame, mkF, argsToLocals, Value.category]; done) | rfl) ?_
  refine own_st (s₁.setTop (mkF m 1 #[.val (.ref a), .val (.ref b)] [(.ref b)])) (fun tq kq => XS.aloadN X0.here hx rfl (hb hby own_d3_0) rfl (by rfl) kq) ?_
  refine own_st (s₁.setTop (mkF m 2 #[.val (.ref a), .val (.ref b)] [(.ref a), (.ref b)])) (fun tq kq => XS.aloadN X0.here hx rfl (hb hby own_d3_1) rfl (by rfl) kq) ?_
  obtain ⟨T1, X1, e1, st1⟩ := getF X0 hx hZ hown (host := "") (Or.inl (hw _ (List.mem_of_getElem? (i := 18) rfl))) Via.refl e0 (FS.ext O0.2) (g := (mkF m 2 #[.val (.ref a), .val (.ref b)] [(.ref a), (.ref b)])) rfl rfl (hb hby own_d3_2)
  refine own_st (T1.setTop (mkF m 5 #[.val (.ref a), .val (.ref b)] [(.ref sa), (.ref b)])) st1 ?_
  refine own_st (T1.setTop (mkF m 8 #[.val (.ref a), .val (.ref b)] [])) (fun tq kq => Jvm.RoadKit.acmp (g := (mkF m 5 #[.val (.ref a), .val (.ref b)] [(.ref sa), (.ref b)])) X1 hx rfl (by rfl) (by rfl) (pc0 := 5) (pc' := 8) (same := true) rfl (hb hby own_d3_5) rfl (decide_eq_true (congrArg Value.ref (hb_ : b = sa))) (by decide) (by decide) kq) ?_
  refine own_st (T1.setTop (mkF m 9 #[.val (.ref a), .val (.ref b)] [(.ref a)])) (fun tq kq => XS.aloadN X1.here hx rfl (hb hby own_d3_8) rfl (by rfl) kq) ?_
  obtain ⟨T2, X2, e2, st2⟩ := getF X1 hx hZ hown (host := "") (Or.inl (hw _ (List.mem_of_getElem? (i := 42) rfl))) Via.refl e1 (FT.ext O0.2) (g := (mkF m 9 #[.val (.ref a), .val (.ref b)] [(.ref a)])) rfl rfl (hb hby own_d3_9)
  refine own_st (T2.setTop (mkF m 12 #[.val (.ref a), .val (.ref b)] [(.ref ta)])) st2 ?_
  obtain ⟨v3, T3, L3, X3, q3, st3⟩ := own_callS X2 hx hZ hown (hw _ (List.mem_of_getElem? (i := 44) rfl)) (hw _ (List.mem_of_getElem? (i := 45) rfl)) (hw _ (List.mem_of_getElem? (i := 23) rfl)) (hw _ (List.mem_of_getElem? (i := 46) rfl)) (argsL := [(.ref ta)]) (own_of l Z a0 hw [] ta h0 O0) 0 (by decide) (by decide) (by decide) (by decide) (by decide) e2 (g := (mkF m 12 #[.val (.ref a), .val (.ref b)] [(.ref ta)])) rfl (by rw [hml]; rfl) [] (lenOf own_pd__28Ljava_2flang_2fObject_3b_29Ljava_2futil_2fOptional_3b rfl) rfl (by show 2 * 0 + _ ≤ _; exact Nat.le_of_eq rfl) (hb hby own_d3_12)
  obtain ⟨o3, rfl, N3q, K3q, z3, E3q, f3q⟩ := q3
  have N3 := Fr.app (Fr.nil _) N3q
  have O3 := O0.keep K3q all0
  have K3 := (Keep.refl h0 []).trans K3q all0
  refine own_st (T3.setTop (mkF m 15 #[.val (.ref a), .val (.ref b)] [(.ref o3)])) st3 ?_
  refine own_st (T3.setTop (mkF m 21 #[.val (.ref a), .val (.ref b)] [(.ref o3)])) (fun tq kq => XS.goto X3.here hx rfl (pc0 := 15) (pc' := 21) rfl (hb hby own_d3_15) (by decide) (by decide) kq) ?_
  exact own_ret X3 hlk (v := some (.ref o3)) (fun h => by rw [hret] at h; cases h) rfl (⟨_, rfl, N3, K3, z3, E3q, f3q⟩) (by decide) (by decide) (fun fs hr => retOut X3 hx hret rfl (Or.inr (Or.inr (Or.inr (Or.inr ⟨rfl, rfl, rfl⟩)))) (hb hby own_d3_21) hr)
theorem own_pd__28_29Ljava_2futil_2fOptional_3b : parseMethodDescriptor "()Ljava/util/Optional;" = some ⟨[], some (.object "java/util/Optional")⟩ := by decide +kernel
theorem own_d3_18 : decode prog_62_method_6_code 18 = .ok (.invokestatic 48, 3) := by decide +kernel
set_option maxRecDepth 65536 in
set_option maxHeartbeats 40000000 in
theorem own_applyNo (l : Launch) (Z : State) (a0 : Array Value) (hw : ∀ d ∈ tables_1, d.before a0 Z = true) (ws : List Jvm.Cond) (a b sa we : Addr) (h0 : Heap) (O0 : Old Z Z.heap.size h0) (FS : Fld Z Z.heap a "com/example/luoyang/luoyang/model/TaskTransition" "source" "Lcom/example/luoyang/luoyang/model/TaskState;" (.ref sa)) (SE : Sta Z Z.heap "java/util/Optional" "EMPTY" "Ljava/util/Optional;" (.ref we)) (hb_ : ¬ b = sa) :
    ownMet l (⟨"com/example/luoyang/luoyang/model/TaskTransition", "applyTo", "(Lcom/example/luoyang/luoyang/model/TaskState;)Ljava/util/Optional;"⟩ : MethodName) prog_62_method_6_code 2 (some (.object "java/util/Optional")) ws ({ frames := 1, cells := 0, slots := 0, locals := 12 } : Room) Z #[(.ref a), (.ref b)] h0 (fun v h L => v = some (.ref we) ∧ Fr Z.heap.size L ∧ h = h0) := by
  refine own_met (plainFor_of_name own_pn_com_example_luoyang_luoyang_model_TaskTransition) ?_
  intro p e s m below meth c s₁ hx hby hml hown hnm hret hlk hZ e0 X0
  refine own_cast (show _ = (mkF m 0 #[.val (.ref a), .val (.ref b)] []) by first | (simp [entryFrame, mkF, argsToLocals, Value.category]; done) | rfl) ?_
  refine own_st (s₁.setTop (mkF m 1 #[.val (.ref a), .val (.ref b)] [(.ref b)])) (fun tq kq => XS.aloadN X0.here hx rfl (hb hby own_d3_0) rfl (by rfl) kq) ?_
  refine own_st (s₁.setTop (mkF m 2 #[.val (.ref a), .val (.ref b)] [(.ref a), (.ref b)])) (fun tq kq => XS.aloadN X0.here hx rfl (hb hby own_d3_1) rfl (by rfl) kq) ?_
  obtain ⟨T1, X1, e1, st1⟩ := getF X0 hx hZ hown (host := "") (Or.inl (hw _ (List.mem_of_getElem? (i := 18) rfl))) Via.refl e0 (FS.ext O0.2) (g := (mkF m 2 #[.val (.ref a), .val (.ref b)] [(.ref a), (.ref b)])) rfl rfl (hb hby own_d3_2)
  refine own_st (T1.setTop (mkF m 5 #[.val (.ref a), .val (.ref b)] [(.ref sa), (.ref b)])) st1 ?_
  refine own_st (T1.setTop (mkF m 18 #[.val (.ref a), .val (.ref b)] [])) (fun tq kq => Jvm.RoadKit.acmp (g := (mkF m 5 #[.val (.ref a), .val (.ref b)] [(.ref sa), (.ref b)])) X1 hx rfl (by rfl) (by rfl) (pc0 := 5) (pc' := 18) (same := false) rfl (hb hby own_d3_5) rfl (decide_eq_false (fun q => (hb_ : ¬ (b = sa)) (Value.ref.inj q))) (by decide) (by decide) kq) ?_
  obtain ⟨v2, T2, L2, X2, q2, st2⟩ := own_callS X1 hx hZ hown (hw _ (List.mem_of_getElem? (i := 21) rfl)) (hw _ (List.mem_of_getElem? (i := 22) rfl)) (hw _ (List.mem_of_getElem? (i := 23) rfl)) (hw _ (List.mem_of_getElem? (i := 24) rfl)) (argsL := []) (own_empty l Z a0 hw [] we h0 O0 SE) 0 (by decide) (by decide) (by decide) (by decide) (by decide) e1 (g := (mkF m 18 #[.val (.ref a), .val (.ref b)] [])) rfl (by rw [hml]; rfl) [] (lenOf own_pd__28_29Ljava_2futil_2fOptional_3b rfl) rfl (by show 2 * 0 + _ ≤ _; exact Nat.le_of_eq rfl) (hb hby own_d3_18)
  obtain ⟨rfl, N2q, e2⟩ := q2
  have N2 := Fr.app (Fr.nil _) N2q
  refine own_st (T2.setTop (mkF m 21 #[.val (.ref a), .val (.ref b)] [(.ref we)])) st2 ?_
  exact own_ret X2 hlk (v := some (.ref we)) (fun h => by rw [hret] at h; cases h) e2 (⟨rfl, N2, rfl⟩) (by decide) (by decide) (fun fs hr => retOut X2 hx hret rfl (Or.inr (Or.inr (Or.inr (Or.inr ⟨rfl, rfl, rfl⟩)))) (hb hby own_d3_21) hr)
theorem own_d6_0 : decode jdk_32_method_6_code 0 = .ok (.aload_n 0, 1) := by decide +kernel
theorem own_d6_1 : decode jdk_32_method_6_code 1 = .ok (.getfield 13, 3) := by decide +kernel
theorem own_d6_4 : decode jdk_32_method_6_code 4 = .ok (.ifnull 7, 3) := by decide +kernel
theorem own_d6_7 : decode jdk_32_method_6_code 7 = .ok (.iconst 1, 1) := by decide +kernel
theorem own_d6_8 : decode jdk_32_method_6_code 8 = .ok (.goto 4, 3) := by decide +kernel
theorem own_d6_12 : decode jdk_32_method_6_code 12 = .ok (.ireturn, 1) := by decide +kernel
set_option maxRecDepth 65536 in
set_option maxHeartbeats 40000000 in
theorem own_ispYes (l : Launch) (Z : State) (a0 : Array Value) (hw : ∀ d ∈ tables_1, d.before a0 Z = true) (ws : List Jvm.Cond) (a x : Addr) (h0 : Heap) (O0 : Old Z Z.heap.size h0) (F : Fld Z h0 a "java/util/Optional" "value" "Ljava/lang/Object;" (.ref x)) :
    ownMet l (⟨"java/util/Optional", "isPresent", "()Z"⟩ : MethodName) jdk_32_method_6_code 1 (some .boolean) ws ({ frames := 0, cells := 0, slots := 0, locals := 0 } : Room) Z #[(.ref a)] h0 (fun v h L => v = some (.int 1) ∧ Fr Z.heap.size L ∧ h = h0) := by
  refine own_met (plainFor_of_name own_pn_java_util_Optional) ?_
  intro p e s m below meth c s₁ hx hby hml hown hnm hret hlk hZ e0 X0
  refine own_cast (show _ = (mkF m 0 #[.val (.ref a)] []) by first | (simp [entryFrame, mkF, argsToLocals, Value.category]; done) | rfl) ?_
  refine own_st (s₁.setTop (mkF m 1 #[.val (.ref a)] [(.ref a)])) (fun tq kq => XS.aloadN X0.here hx rfl (hb hby own_d6_0) rfl (by rfl) kq) ?_
  obtain ⟨T1, X1, e1, st1⟩ := getF X0 hx hZ hown (host := "") (Or.inl (hw _ (List.mem_of_getElem? (i := 34) rfl))) Via.refl e0 F (g := (mkF m 1 #[.val (.ref a)] [(.ref a)])) rfl rfl (hb hby own_d6_1)
  refine own_st (T1.setTop (mkF m 4 #[.val (.ref a)] [(.ref x)])) st1 ?_
  refine own_st (T1.setTop (mkF m 7 #[.val (.ref a)] [])) (fun tq kq => XS.ifnullNo X1.here hx rfl (hb hby own_d6_4) rfl kq) ?_
  refine own_st (T1.setTop (mkF m 8 #[.val (.ref a)] [(.int (1 : Int32))])) (fun tq kq => XS.iconst X1.here hx rfl (hb hby own_d6_7) kq) ?_
  refine own_st (T1.setTop (mkF m 12 #[.val (.ref a)] [(.int (1 : Int32))])) (fun tq kq => XS.goto X1.here hx rfl (pc0 := 8) (pc' := 12) rfl (hb hby own_d6_8) (by decide) (by decide) kq) ?_
  exact own_ret X1 hlk (v := some (.int (1 : Int32))) (fun h => by rw [hret] at h; cases h) e1 (⟨rfl, (Fr.nil _), rfl⟩) (by decide) (by decide) (fun fs hr => own_retN X1 hx (t := .boolean) hret (by simp) (hb hby own_d6_12) rfl hr)
theorem own_d6_11 : decode jdk_32_method_6_code 11 = .ok (.iconst 0, 1) := by decide +kernel
set_option maxRecDepth 65536 in
set_option maxHeartbeats 40000000 in
theorem own_ispNo (l : Launch) (Z : State) (a0 : Array Value) (hw : ∀ d ∈ tables_1, d.before a0 Z = true) (ws : List Jvm.Cond) (a : Addr) (h0 : Heap) (O0 : Old Z Z.heap.size h0) (F : Fld Z h0 a "java/util/Optional" "value" "Ljava/lang/Object;" .null) :
    ownMet l (⟨"java/util/Optional", "isPresent", "()Z"⟩ : MethodName) jdk_32_method_6_code 1 (some .boolean) ws ({ frames := 0, cells := 0, slots := 0, locals := 0 } : Room) Z #[(.ref a)] h0 (fun v h L => v = some (.int 0) ∧ Fr Z.heap.size L ∧ h = h0) := by
  refine own_met (plainFor_of_name own_pn_java_util_Optional) ?_
  intro p e s m below meth c s₁ hx hby hml hown hnm hret hlk hZ e0 X0
  refine own_cast (show _ = (mkF m 0 #[.val (.ref a)] []) by first | (simp [entryFrame, mkF, argsToLocals, Value.category]; done) | rfl) ?_
  refine own_st (s₁.setTop (mkF m 1 #[.val (.ref a)] [(.ref a)])) (fun tq kq => XS.aloadN X0.here hx rfl (hb hby own_d6_0) rfl (by rfl) kq) ?_
  obtain ⟨T1, X1, e1, st1⟩ := getF X0 hx hZ hown (host := "") (Or.inl (hw _ (List.mem_of_getElem? (i := 34) rfl))) Via.refl e0 F (g := (mkF m 1 #[.val (.ref a)] [(.ref a)])) rfl rfl (hb hby own_d6_1)
  refine own_st (T1.setTop (mkF m 4 #[.val (.ref a)] [.null])) st1 ?_
  refine own_st (T1.setTop (mkF m 11 #[.val (.ref a)] [])) (fun tq kq => XS.ifnullYes X1.here hx rfl (pc0 := 4) (pc' := 11) rfl (hb hby own_d6_4) rfl (by decide) (by decide) kq) ?_
  refine own_st (T1.setTop (mkF m 12 #[.val (.ref a)] [(.int (0 : Int32))])) (fun tq kq => XS.iconst X1.here hx rfl (hb hby own_d6_11) kq) ?_
  exact own_ret X1 hlk (v := some (.int (0 : Int32))) (fun h => by rw [hret] at h; cases h) e1 (⟨rfl, (Fr.nil _), rfl⟩) (by decide) (by decide) (fun fs hr => own_retN X1 hx (t := .boolean) hret (by simp) (hb hby own_d6_12) rfl hr)
theorem own_d11_0 : decode jdk_32_method_5_code 0 = .ok (.aload_n 0, 1) := by decide +kernel
theorem own_d11_1 : decode jdk_32_method_5_code 1 = .ok (.getfield 13, 3) := by decide +kernel
theorem own_d11_4 : decode jdk_32_method_5_code 4 = .ok (.ifnonnull 13, 3) := by decide +kernel
theorem own_d11_17 : decode jdk_32_method_5_code 17 = .ok (.aload_n 0, 1) := by decide +kernel
theorem own_d11_18 : decode jdk_32_method_5_code 18 = .ok (.getfield 13, 3) := by decide +kernel
theorem own_d11_21 : decode jdk_32_method_5_code 21 = .ok (.areturn, 1) := by decide +kernel
set_option maxRecDepth 65536 in
set_option maxHeartbeats 40000000 in
theorem own_get (l : Launch) (Z : State) (a0 : Array Value) (hw : ∀ d ∈ tables_1, d.before a0 Z = true) (ws : List Jvm.Cond) (a x : Addr) (h0 : Heap) (O0 : Old Z Z.heap.size h0) (F : Fld Z h0 a "java/util/Optional" "value" "Ljava/lang/Object;" (.ref x)) :
    ownMet l (⟨"java/util/Optional", "get", "()Ljava/lang/Object;"⟩ : MethodName) jdk_32_method_5_code 1 (some (.object "java/lang/Object")) ws ({ frames := 0, cells := 0, slots := 0, locals := 0 } : Room) Z #[(.ref a)] h0 (fun v h L => v = some (.ref x) ∧ Fr Z.heap.size L ∧ h = h0) := by
  refine own_met (plainFor_of_name own_pn_java_util_Optional) ?_
  intro p e s m below meth c s₁ hx hby hml hown hnm hret hlk hZ e0 X0
  refine own_cast (show _ = (mkF m 0 #[.val (.ref a)] []) by first | (simp [entryFrame, mkF, argsToLocals, Value.category]; done) | rfl) ?_
  refine own_st (s₁.setTop (mkF m 1 #[.val (.ref a)] [(.ref a)])) (fun tq kq => XS.aloadN X0.here hx rfl (hb hby own_d11_0) rfl (by rfl) kq) ?_
  obtain ⟨T1, X1, e1, st1⟩ := getF X0 hx hZ hown (host := "") (Or.inl (hw _ (List.mem_of_getElem? (i := 34) rfl))) Via.refl e0 F (g := (mkF m 1 #[.val (.ref a)] [(.ref a)])) rfl rfl (hb hby own_d11_1)
  refine own_st (T1.setTop (mkF m 4 #[.val (.ref a)] [(.ref x)])) st1 ?_
  refine own_st (T1.setTop (mkF m 17 #[.val (.ref a)] [])) (fun tq kq => XS.ifnonnullYes X1.here hx rfl (pc0 := 4) (pc' := 17) rfl (hb hby own_d11_4) rfl (by decide) (by decide) kq) ?_
  refine own_st (T1.setTop (mkF m 18 #[.val (.ref a)] [(.ref a)])) (fun tq kq => XS.aloadN X1.here hx rfl (hb hby own_d11_17) rfl (by rfl) kq) ?_
  obtain ⟨T2, X2, e2, st2⟩ := getF X1 hx hZ hown (host := "") (Or.inl (hw _ (List.mem_of_getElem? (i := 34) rfl))) Via.refl e1 F (g := (mkF m 18 #[.val (.ref a)] [(.ref a)])) rfl rfl (hb hby own_d11_18)
  refine own_st (T2.setTop (mkF m 21 #[.val (.ref a)] [(.ref x)])) st2 ?_
  exact own_ret X2 hlk (v := some (.ref x)) (fun h => by rw [hret] at h; cases h) e2 (⟨rfl, (Fr.nil _), rfl⟩) (by decide) (by decide) (fun fs hr => retOut X2 hx hret rfl (Or.inr (Or.inr (Or.inr (Or.inr ⟨rfl, rfl, rfl⟩)))) (hb hby own_d11_21) hr)
theorem own_pd__28I_29Lcom_2fexample_2fluoyang_2fluoyang_2fmodel_2fTaskTransition_3b : parseMethodDescriptor "(I)Lcom/example/luoyang/luoyang/model/TaskTransition;" = some ⟨[.int], some (.object "com/example/luoyang/luoyang/model/TaskTransition")⟩ := by decide +kernel
theorem own_pd__28I_29Lcom_2fexample_2fluoyang_2fluoyang_2fmodel_2fTaskState_3b : parseMethodDescriptor "(I)Lcom/example/luoyang/luoyang/model/TaskState;" = some ⟨[.int], some (.object "com/example/luoyang/luoyang/model/TaskState")⟩ := by decide +kernel
theorem own_pd__28Lcom_2fexample_2fluoyang_2fluoyang_2fmodel_2fTaskState_3b_29Ljava_2futil_2fOptional_3b : parseMethodDescriptor "(Lcom/example/luoyang/luoyang/model/TaskState;)Ljava/util/Optional;" = some ⟨[(.object "com/example/luoyang/luoyang/model/TaskState")], some (.object "java/util/Optional")⟩ := by decide +kernel
theorem own_pd__28II_29I : parseMethodDescriptor "(II)I" = some ⟨[.int, .int], some .int⟩ := by decide +kernel
theorem own_pd__28_29Z : parseMethodDescriptor "()Z" = some ⟨[], some .boolean⟩ := by decide +kernel
theorem own_pd__28_29Ljava_2flang_2fObject_3b : parseMethodDescriptor "()Ljava/lang/Object;" = some ⟨[], some (.object "java/lang/Object")⟩ := by decide +kernel
set_option maxRecDepth 65536 in
set_option maxHeartbeats 40000000 in
theorem own_law (l : Launch) (Z : State) (a0 : Array Value) (hw : ∀ d ∈ tables_1, d.before a0 Z = true) (ws : List Jvm.Cond) (i j : Int32) (w0 w1 w2 w3 u0 u1 u2 u3 we sa ta : Addr) (h0 : Heap) (O0 : Old Z Z.heap.size h0) (SW0 : Sta Z Z.heap "com/example/luoyang/luoyang/model/TaskTransition" "ASSIGN" "Lcom/example/luoyang/luoyang/model/TaskTransition;" (.ref w0)) (SW1 : Sta Z Z.heap "com/example/luoyang/luoyang/model/TaskTransition" "SUSPEND" "Lcom/example/luoyang/luoyang/model/TaskTransition;" (.ref w1)) (SW2 : Sta Z Z.heap "com/example/luoyang/luoyang/model/TaskTransition" "RESUME" "Lcom/example/luoyang/luoyang/model/TaskTransition;" (.ref w2)) (SW3 : Sta Z Z.heap "com/example/luoyang/luoyang/model/TaskTransition" "COMPLETE" "Lcom/example/luoyang/luoyang/model/TaskTransition;" (.ref w3)) (SU0 : Sta Z Z.heap "com/example/luoyang/luoyang/model/TaskState" "READY" "Lcom/example/luoyang/luoyang/model/TaskState;" (.ref u0)) (SU1 : Sta Z Z.heap "com/example/luoyang/luoyang/model/TaskState" "EXECUTING" "Lcom/example/luoyang/luoyang/model/TaskState;" (.ref u1)) (SU2 : Sta Z Z.heap "com/example/luoyang/luoyang/model/TaskState" "SUSPENDED" "Lcom/example/luoyang/luoyang/model/TaskState;" (.ref u2)) (SU3 : Sta Z Z.heap "com/example/luoyang/luoyang/model/TaskState" "COMPLETED" "Lcom/example/luoyang/luoyang/model/TaskState;" (.ref u3)) (SE : Sta Z Z.heap "java/util/Optional" "EMPTY" "Ljava/util/Optional;" (.ref we)) (EE : Exa Z Z.heap we "java/util/Optional") (FE : Fld Z Z.heap we "java/util/Optional" "value" "Ljava/lang/Object;" .null) (Ea : Exa Z Z.heap (own_sel (i &&& (3 : Int32)) w0 w1 w2 w3) "com/example/luoyang/luoyang/model/TaskTransition") (FS : Fld Z Z.heap (own_sel (i &&& (3 : Int32)) w0 w1 w2 w3) "com/example/luoyang/luoyang/model/TaskTransition" "source" "Lcom/example/luoyang/luoyang/model/TaskState;" (.ref sa)) (FT : Fld Z Z.heap (own_sel (i &&& (3 : Int32)) w0 w1 w2 w3) "com/example/luoyang/luoyang/model/TaskTransition" "target" "Lcom/example/luoyang/luoyang/model/TaskState;" (.ref ta)) (hyes : (own_sel (j &&& (3 : Int32)) u0 u1 u2 u3) = sa → ¬ ((own_ex (i &&& (3 : Int32)) (j &&& (3 : Int32))) < (0 : Int32)) ∧ ta = (own_sel (own_ex (i &&& (3 : Int32)) (j &&& (3 : Int32))) u0 u1 u2 u3)) (hno : ¬ ((own_sel (j &&& (3 : Int32)) u0 u1 u2 u3) = sa) → (own_ex (i &&& (3 : Int32)) (j &&& (3 : Int32))) < (0 : Int32)) :
    ownMet l x code maxLocals ret ws room_1 Z #[(.int i), (.int j)] h0 (fun v h L => v = some (.int 1) ∧ Fr Z.heap.size L) := by
  refine own_met (plainFor_of_name own_pn_com_example_luoyang_luoyang_model_TaskTransitionApplyToPinLaw) ?_
  intro p e s m below meth c s₁ hx hby hml hown hnm hret hlk hZ e0 X0
  refine own_cast (show _ = (mkF m 0 #[.val (.int i), .val (.int j), .unset, .unset, .unset, .unset] []) by first | (simp [entryFrame, mkF, argsToLocals, Value.category, maxLocals]; done) | rfl) ?_
  refine own_st (s₁.setTop (mkF m 1 #[.val (.int i), .val (.int j), .unset, .unset, .unset, .unset] [(.int i)])) (fun tq kq => XS.iloadN X0.here hx rfl (hb hby at_0) rfl kq) ?_
  refine own_st (s₁.setTop (mkF m 2 #[.val (.int i), .val (.int j), .unset, .unset, .unset, .unset] [(.int (3 : Int32)), (.int i)])) (fun tq kq => XS.iconst X0.here hx rfl (hb hby at_1) kq) ?_
  refine own_st (s₁.setTop (mkF m 3 #[.val (.int i), .val (.int j), .unset, .unset, .unset, .unset] [(.int (i &&& (3 : Int32)))])) (fun tq kq => XS.iand X0.here hx rfl (hb hby at_2) rfl kq) ?_
  refine own_st (s₁.setTop (mkF m 4 #[.val (.int i), .val (.int j), .val (.int (i &&& (3 : Int32))), .unset, .unset, .unset] [])) (fun tq kq => XS.istoreN X0.here hx rfl (hb hby at_3) rfl (l' := #[.val (.int i), .val (.int j), .val (.int (i &&& (3 : Int32))), .unset, .unset, .unset]) rfl kq) ?_
  refine own_st (s₁.setTop (mkF m 5 #[.val (.int i), .val (.int j), .val (.int (i &&& (3 : Int32))), .unset, .unset, .unset] [(.int j)])) (fun tq kq => XS.iloadN X0.here hx rfl (hb hby at_4) rfl kq) ?_
  refine own_st (s₁.setTop (mkF m 6 #[.val (.int i), .val (.int j), .val (.int (i &&& (3 : Int32))), .unset, .unset, .unset] [(.int (3 : Int32)), (.int j)])) (fun tq kq => XS.iconst X0.here hx rfl (hb hby at_5) kq) ?_
  refine own_st (s₁.setTop (mkF m 7 #[.val (.int i), .val (.int j), .val (.int (i &&& (3 : Int32))), .unset, .unset, .unset] [(.int (j &&& (3 : Int32)))])) (fun tq kq => XS.iand X0.here hx rfl (hb hby at_6) rfl kq) ?_
  refine own_st (s₁.setTop (mkF m 8 #[.val (.int i), .val (.int j), .val (.int (i &&& (3 : Int32))), .val (.int (j &&& (3 : Int32))), .unset, .unset] [])) (fun tq kq => XS.istoreN X0.here hx rfl (hb hby at_7) rfl (l' := #[.val (.int i), .val (.int j), .val (.int (i &&& (3 : Int32))), .val (.int (j &&& (3 : Int32))), .unset, .unset]) rfl kq) ?_
  refine own_st (s₁.setTop (mkF m 9 #[.val (.int i), .val (.int j), .val (.int (i &&& (3 : Int32))), .val (.int (j &&& (3 : Int32))), .unset, .unset] [(.int (i &&& (3 : Int32)))])) (fun tq kq => XS.iloadN X0.here hx rfl (hb hby at_8) rfl kq) ?_
  obtain ⟨v1, T1, L1, X1, q1, st1⟩ := own_callS X0 hx hZ hown (hw _ (List.mem_of_getElem? (i := 0) rfl)) (hw _ (List.mem_of_getElem? (i := 1) rfl)) (hw _ (List.mem_of_getElem? (i := 2) rfl)) (hw _ (List.mem_of_getElem? (i := 3) rfl)) (argsL := [(.int (i &&& (3 : Int32)))]) (own_move l Z a0 hw [] (i &&& (3 : Int32)) w0 w1 w2 w3 h0 O0 SW0 SW1 SW2 SW3) 0 (by decide) (by decide) (by decide) (by decide) (by decide) e0 (g := (mkF m 9 #[.val (.int i), .val (.int j), .val (.int (i &&& (3 : Int32))), .val (.int (j &&& (3 : Int32))), .unset, .unset] [(.int (i &&& (3 : Int32)))])) rfl (by rw [hml]; rfl) [] (lenOf own_pd__28I_29Lcom_2fexample_2fluoyang_2fluoyang_2fmodel_2fTaskTransition_3b rfl) rfl (by show 2 * 0 + _ ≤ _; exact Nat.le_of_eq rfl) (hb hby at_9)
  obtain ⟨rfl, N1q, e1⟩ := q1
  have N1 := Fr.app (Fr.nil _) N1q
  refine own_st (T1.setTop (mkF m 12 #[.val (.int i), .val (.int j), .val (.int (i &&& (3 : Int32))), .val (.int (j &&& (3 : Int32))), .unset, .unset] [(.ref (own_sel (i &&& (3 : Int32)) w0 w1 w2 w3))])) st1 ?_
  refine own_st (T1.setTop (mkF m 13 #[.val (.int i), .val (.int j), .val (.int (i &&& (3 : Int32))), .val (.int (j &&& (3 : Int32))), .unset, .unset] [(.int (j &&& (3 : Int32))), (.ref (own_sel (i &&& (3 : Int32)) w0 w1 w2 w3))])) (fun tq kq => XS.iloadN X1.here hx rfl (hb hby at_12) rfl kq) ?_
  obtain ⟨v2, T2, L2, X2, q2, st2⟩ := own_callS X1 hx hZ hown (hw _ (List.mem_of_getElem? (i := 7) rfl)) (hw _ (List.mem_of_getElem? (i := 8) rfl)) (hw _ (List.mem_of_getElem? (i := 2) rfl)) (hw _ (List.mem_of_getElem? (i := 9) rfl)) (argsL := [(.int (j &&& (3 : Int32)))]) (own_state l Z a0 hw [] (j &&& (3 : Int32)) u0 u1 u2 u3 h0 O0 SU0 SU1 SU2 SU3) 1 (by decide) (by decide) (by decide) (by decide) (by decide) e1 (g := (mkF m 13 #[.val (.int i), .val (.int j), .val (.int (i &&& (3 : Int32))), .val (.int (j &&& (3 : Int32))), .unset, .unset] [(.int (j &&& (3 : Int32))), (.ref (own_sel (i &&& (3 : Int32)) w0 w1 w2 w3))])) rfl (by rw [hml]; rfl) [(.ref (own_sel (i &&& (3 : Int32)) w0 w1 w2 w3))] (lenOf own_pd__28I_29Lcom_2fexample_2fluoyang_2fluoyang_2fmodel_2fTaskState_3b rfl) rfl (by show 2 * 0 + _ ≤ _; exact Nat.le_of_eq rfl) (hb hby at_13)
  obtain ⟨rfl, N2q, e2⟩ := q2
  have N2 := Fr.app N1 N2q
  refine own_st (T2.setTop (mkF m 16 #[.val (.int i), .val (.int j), .val (.int (i &&& (3 : Int32))), .val (.int (j &&& (3 : Int32))), .unset, .unset] [(.ref (own_sel (j &&& (3 : Int32)) u0 u1 u2 u3)), (.ref (own_sel (i &&& (3 : Int32)) w0 w1 w2 w3))])) st2 ?_
  by_cases cb : (own_sel (j &&& (3 : Int32)) u0 u1 u2 u3) = sa
  · skip
    obtain ⟨v3, T3, L3, X3, q3, st3⟩ := own_callV X2 hx hZ hown (y := (⟨"com/example/luoyang/luoyang/model/TaskTransition", "applyTo", "(Lcom/example/luoyang/luoyang/model/TaskState;)Ljava/util/Optional;"⟩ : MethodName)) (z := (⟨"com/example/luoyang/luoyang/model/TaskTransition", "applyTo", "(Lcom/example/luoyang/luoyang/model/TaskState;)Ljava/util/Optional;"⟩ : MethodName)) (hw _ (List.mem_of_getElem? (i := 13) rfl)) (hw _ (List.mem_of_getElem? (i := 14) rfl)) (notFace_of_selects (args := a0) (hw _ (List.mem_of_getElem? (i := 16) rfl))) (hw _ (List.mem_of_getElem? (i := 16) rfl)) (hw _ (List.mem_of_getElem? (i := 15) rfl)) (hw _ (List.mem_of_getElem? (i := 5) rfl)) (hw _ (List.mem_of_getElem? (i := 17) rfl)) (Ea.ext O0.2) (b := (own_sel (i &&& (3 : Int32)) w0 w1 w2 w3)) (argsL := [(.ref (own_sel (j &&& (3 : Int32)) u0 u1 u2 u3))]) (own_applyYes l Z a0 hw [] (own_sel (i &&& (3 : Int32)) w0 w1 w2 w3) (own_sel (j &&& (3 : Int32)) u0 u1 u2 u3) sa ta h0 O0 FS FT cb) 0 (by decide) (by decide) (by decide) (by decide) (by decide) e2 (g := (mkF m 16 #[.val (.int i), .val (.int j), .val (.int (i &&& (3 : Int32))), .val (.int (j &&& (3 : Int32))), .unset, .unset] [(.ref (own_sel (j &&& (3 : Int32)) u0 u1 u2 u3)), (.ref (own_sel (i &&& (3 : Int32)) w0 w1 w2 w3))])) rfl (by rw [hml]; rfl) [] (lenOf own_pd__28Lcom_2fexample_2fluoyang_2fluoyang_2fmodel_2fTaskState_3b_29Ljava_2futil_2fOptional_3b rfl) rfl (by show 2 * 0 + _ ≤ _; exact Nat.le_of_eq rfl) (hb hby at_16)
    obtain ⟨o3, rfl, N3q, K3q, z3, E3q, f3q⟩ := q3
    have N3 := Fr.app N2 N3q
    have O3 := O0.keep K3q all0
    have K3 := (Keep.refl h0 []).trans K3q all0
    refine own_st (T3.setTop (mkF m 19 #[.val (.int i), .val (.int j), .val (.int (i &&& (3 : Int32))), .val (.int (j &&& (3 : Int32))), .unset, .unset] [(.ref o3)])) st3 ?_
    refine own_st (T3.setTop (mkF m 21 #[.val (.int i), .val (.int j), .val (.int (i &&& (3 : Int32))), .val (.int (j &&& (3 : Int32))), .val (.ref o3), .unset] [])) (fun tq kq => XS.astore X3.here hx rfl (hb hby at_19) rfl (by rfl) (l' := #[.val (.int i), .val (.int j), .val (.int (i &&& (3 : Int32))), .val (.int (j &&& (3 : Int32))), .val (.ref o3), .unset]) rfl kq) ?_
    refine own_st (T3.setTop (mkF m 23 #[.val (.int i), .val (.int j), .val (.int (i &&& (3 : Int32))), .val (.int (j &&& (3 : Int32))), .val (.ref o3), .unset] [(.ref o3)])) (fun tq kq => XS.aload X3.here hx rfl (hb hby at_21) rfl (by rfl) kq) ?_
    refine own_st (T3.setTop (mkF m 28 #[.val (.int i), .val (.int j), .val (.int (i &&& (3 : Int32))), .val (.int (j &&& (3 : Int32))), .val (.ref o3), .unset] [])) (fun tq kq => XS.ifnonnullYes X3.here hx rfl (pc0 := 23) (pc' := 28) rfl (hb hby at_23) rfl (by decide) (by decide) kq) ?_
    refine own_st (T3.setTop (mkF m 29 #[.val (.int i), .val (.int j), .val (.int (i &&& (3 : Int32))), .val (.int (j &&& (3 : Int32))), .val (.ref o3), .unset] [(.int (i &&& (3 : Int32)))])) (fun tq kq => XS.iloadN X3.here hx rfl (hb hby at_28) rfl kq) ?_
    refine own_st (T3.setTop (mkF m 30 #[.val (.int i), .val (.int j), .val (.int (i &&& (3 : Int32))), .val (.int (j &&& (3 : Int32))), .val (.ref o3), .unset] [(.int (j &&& (3 : Int32))), (.int (i &&& (3 : Int32)))])) (fun tq kq => XS.iloadN X3.here hx rfl (hb hby at_29) rfl kq) ?_
    obtain ⟨v4, T4, L4, X4, q4, st4⟩ := own_callS X3 hx hZ hown (hw _ (List.mem_of_getElem? (i := 26) rfl)) (hw _ (List.mem_of_getElem? (i := 27) rfl)) (hw _ (List.mem_of_getElem? (i := 2) rfl)) (hw _ (List.mem_of_getElem? (i := 28) rfl)) (argsL := [(.int (i &&& (3 : Int32))), (.int (j &&& (3 : Int32)))]) (own_expect l Z a0 hw [] (i &&& (3 : Int32)) (j &&& (3 : Int32)) T3.heap O3) 0 (by decide) (by decide) (by decide) (by decide) (by decide) rfl (g := (mkF m 30 #[.val (.int i), .val (.int j), .val (.int (i &&& (3 : Int32))), .val (.int (j &&& (3 : Int32))), .val (.ref o3), .unset] [(.int (j &&& (3 : Int32))), (.int (i &&& (3 : Int32)))])) rfl (by rw [hml]; rfl) [] (lenOf own_pd__28II_29I rfl) rfl (by show 2 * 0 + _ ≤ _; exact Nat.le_of_eq rfl) (hb hby at_30)
    obtain ⟨rfl, N4q, e4⟩ := q4
    have N4 := Fr.app N3 N4q
    refine own_st (T4.setTop (mkF m 33 #[.val (.int i), .val (.int j), .val (.int (i &&& (3 : Int32))), .val (.int (j &&& (3 : Int32))), .val (.ref o3), .unset] [(.int (own_ex (i &&& (3 : Int32)) (j &&& (3 : Int32))))])) st4 ?_
    refine own_st (T4.setTop (mkF m 35 #[.val (.int i), .val (.int j), .val (.int (i &&& (3 : Int32))), .val (.int (j &&& (3 : Int32))), .val (.ref o3), .val (.int (own_ex (i &&& (3 : Int32)) (j &&& (3 : Int32))))] [])) (fun tq kq => XS.istore X4.here hx rfl (hb hby at_33) rfl (l' := #[.val (.int i), .val (.int j), .val (.int (i &&& (3 : Int32))), .val (.int (j &&& (3 : Int32))), .val (.ref o3), .val (.int (own_ex (i &&& (3 : Int32)) (j &&& (3 : Int32))))]) rfl kq) ?_
    refine own_st (T4.setTop (mkF m 37 #[.val (.int i), .val (.int j), .val (.int (i &&& (3 : Int32))), .val (.int (j &&& (3 : Int32))), .val (.ref o3), .val (.int (own_ex (i &&& (3 : Int32)) (j &&& (3 : Int32))))] [(.int (own_ex (i &&& (3 : Int32)) (j &&& (3 : Int32))))])) (fun tq kq => XS.iload X4.here hx rfl (hb hby at_35) rfl kq) ?_
    refine own_st (T4.setTop (mkF m 54 #[.val (.int i), .val (.int j), .val (.int (i &&& (3 : Int32))), .val (.int (j &&& (3 : Int32))), .val (.ref o3), .val (.int (own_ex (i &&& (3 : Int32)) (j &&& (3 : Int32))))] [])) (fun tq kq => XS.ifYes X4.here hx rfl (pc0 := 37) (pc' := 54) rfl (hb hby at_37) rfl ((if0 _ _).trans (flt ((hyes cb).1 : ¬ ((own_ex (i &&& (3 : Int32)) (j &&& (3 : Int32))) < (0 : Int32)))).2.1) (by decide) (by decide) kq) ?_
    refine own_st (T4.setTop (mkF m 56 #[.val (.int i), .val (.int j), .val (.int (i &&& (3 : Int32))), .val (.int (j &&& (3 : Int32))), .val (.ref o3), .val (.int (own_ex (i &&& (3 : Int32)) (j &&& (3 : Int32))))] [(.ref o3)])) (fun tq kq => XS.aload X4.here hx rfl (hb hby at_54) rfl (by rfl) kq) ?_
    obtain ⟨v5, T5, L5, X5, q5, st5⟩ := own_callV X4 hx hZ hown (y := (⟨"java/util/Optional", "isPresent", "()Z"⟩ : MethodName)) (z := (⟨"java/util/Optional", "isPresent", "()Z"⟩ : MethodName)) (hw _ (List.mem_of_getElem? (i := 29) rfl)) (hw _ (List.mem_of_getElem? (i := 30) rfl)) (notFace_of_selects (args := a0) (hw _ (List.mem_of_getElem? (i := 32) rfl))) (hw _ (List.mem_of_getElem? (i := 32) rfl)) (hw _ (List.mem_of_getElem? (i := 31) rfl)) (hw _ (List.mem_of_getElem? (i := 23) rfl)) (hw _ (List.mem_of_getElem? (i := 33) rfl)) E3q (b := o3) (argsL := []) (own_ispYes l Z a0 hw [] o3 ta T3.heap O3 f3q) 0 (by decide) (by decide) (by decide) (by decide) (by decide) e4 (g := (mkF m 56 #[.val (.int i), .val (.int j), .val (.int (i &&& (3 : Int32))), .val (.int (j &&& (3 : Int32))), .val (.ref o3), .val (.int (own_ex (i &&& (3 : Int32)) (j &&& (3 : Int32))))] [(.ref o3)])) rfl (by rw [hml]; rfl) [] (lenOf own_pd__28_29Z rfl) rfl (by show 2 * 0 + _ ≤ _; exact Nat.le_of_eq rfl) (hb hby at_56)
    obtain ⟨rfl, N5q, e5⟩ := q5
    have N5 := Fr.app N4 N5q
    refine own_st (T5.setTop (mkF m 59 #[.val (.int i), .val (.int j), .val (.int (i &&& (3 : Int32))), .val (.int (j &&& (3 : Int32))), .val (.ref o3), .val (.int (own_ex (i &&& (3 : Int32)) (j &&& (3 : Int32))))] [(.int (1 : Int32))])) st5 ?_
    refine own_st (T5.setTop (mkF m 62 #[.val (.int i), .val (.int j), .val (.int (i &&& (3 : Int32))), .val (.int (j &&& (3 : Int32))), .val (.ref o3), .val (.int (own_ex (i &&& (3 : Int32)) (j &&& (3 : Int32))))] [])) (fun tq kq => XS.ifNo X5.here hx rfl (hb hby at_59) rfl ((if0 _ _).trans (feq ((by decide) : ¬ ((1 : Int32) = (0 : Int32)))).1) kq) ?_
    refine own_st (T5.setTop (mkF m 64 #[.val (.int i), .val (.int j), .val (.int (i &&& (3 : Int32))), .val (.int (j &&& (3 : Int32))), .val (.ref o3), .val (.int (own_ex (i &&& (3 : Int32)) (j &&& (3 : Int32))))] [(.ref o3)])) (fun tq kq => XS.aload X5.here hx rfl (hb hby at_62) rfl (by rfl) kq) ?_
    obtain ⟨v6, T6, L6, X6, q6, st6⟩ := own_callV X5 hx hZ hown (y := (⟨"java/util/Optional", "get", "()Ljava/lang/Object;"⟩ : MethodName)) (z := (⟨"java/util/Optional", "get", "()Ljava/lang/Object;"⟩ : MethodName)) (hw _ (List.mem_of_getElem? (i := 60) rfl)) (hw _ (List.mem_of_getElem? (i := 61) rfl)) (notFace_of_selects (args := a0) (hw _ (List.mem_of_getElem? (i := 63) rfl))) (hw _ (List.mem_of_getElem? (i := 63) rfl)) (hw _ (List.mem_of_getElem? (i := 62) rfl)) (hw _ (List.mem_of_getElem? (i := 23) rfl)) (hw _ (List.mem_of_getElem? (i := 64) rfl)) E3q (b := o3) (argsL := []) (own_get l Z a0 hw [] o3 ta T3.heap O3 f3q) 0 (by decide) (by decide) (by decide) (by decide) (by decide) e5 (g := (mkF m 64 #[.val (.int i), .val (.int j), .val (.int (i &&& (3 : Int32))), .val (.int (j &&& (3 : Int32))), .val (.ref o3), .val (.int (own_ex (i &&& (3 : Int32)) (j &&& (3 : Int32))))] [(.ref o3)])) rfl (by rw [hml]; rfl) [] (lenOf own_pd__28_29Ljava_2flang_2fObject_3b rfl) rfl (by show 2 * 0 + _ ≤ _; exact Nat.le_of_eq rfl) (hb hby at_64)
    obtain ⟨rfl, N6q, e6⟩ := q6
    have N6 := Fr.app N5 N6q
    refine own_st (T6.setTop (mkF m 67 #[.val (.int i), .val (.int j), .val (.int (i &&& (3 : Int32))), .val (.int (j &&& (3 : Int32))), .val (.ref o3), .val (.int (own_ex (i &&& (3 : Int32)) (j &&& (3 : Int32))))] [(.ref ta)])) st6 ?_
    refine own_st (T6.setTop (mkF m 69 #[.val (.int i), .val (.int j), .val (.int (i &&& (3 : Int32))), .val (.int (j &&& (3 : Int32))), .val (.ref o3), .val (.int (own_ex (i &&& (3 : Int32)) (j &&& (3 : Int32))))] [(.int (own_ex (i &&& (3 : Int32)) (j &&& (3 : Int32)))), (.ref ta)])) (fun tq kq => XS.iload X6.here hx rfl (hb hby at_67) rfl kq) ?_
    obtain ⟨v7, T7, L7, X7, q7, st7⟩ := own_callS X6 hx hZ hown (hw _ (List.mem_of_getElem? (i := 7) rfl)) (hw _ (List.mem_of_getElem? (i := 8) rfl)) (hw _ (List.mem_of_getElem? (i := 2) rfl)) (hw _ (List.mem_of_getElem? (i := 9) rfl)) (argsL := [(.int (own_ex (i &&& (3 : Int32)) (j &&& (3 : Int32))))]) (own_state l Z a0 hw [] (own_ex (i &&& (3 : Int32)) (j &&& (3 : Int32))) u0 u1 u2 u3 T3.heap O3 SU0 SU1 SU2 SU3) 1 (by decide) (by decide) (by decide) (by decide) (by decide) e6 (g := (mkF m 69 #[.val (.int i), .val (.int j), .val (.int (i &&& (3 : Int32))), .val (.int (j &&& (3 : Int32))), .val (.ref o3), .val (.int (own_ex (i &&& (3 : Int32)) (j &&& (3 : Int32))))] [(.int (own_ex (i &&& (3 : Int32)) (j &&& (3 : Int32)))), (.ref ta)])) rfl (by rw [hml]; rfl) [(.ref ta)] (lenOf own_pd__28I_29Lcom_2fexample_2fluoyang_2fluoyang_2fmodel_2fTaskState_3b rfl) rfl (by show 2 * 0 + _ ≤ _; exact Nat.le_of_eq rfl) (hb hby at_69)
    obtain ⟨rfl, N7q, e7⟩ := q7
    have N7 := Fr.app N6 N7q
    refine own_st (T7.setTop (mkF m 72 #[.val (.int i), .val (.int j), .val (.int (i &&& (3 : Int32))), .val (.int (j &&& (3 : Int32))), .val (.ref o3), .val (.int (own_ex (i &&& (3 : Int32)) (j &&& (3 : Int32))))] [(.ref (own_sel (own_ex (i &&& (3 : Int32)) (j &&& (3 : Int32))) u0 u1 u2 u3)), (.ref ta)])) st7 ?_
    refine own_st (T7.setTop (mkF m 75 #[.val (.int i), .val (.int j), .val (.int (i &&& (3 : Int32))), .val (.int (j &&& (3 : Int32))), .val (.ref o3), .val (.int (own_ex (i &&& (3 : Int32)) (j &&& (3 : Int32))))] [])) (fun tq kq => Jvm.RoadKit.acmp (g := (mkF m 72 #[.val (.int i), .val (.int j), .val (.int (i &&& (3 : Int32))), .val (.int (j &&& (3 : Int32))), .val (.ref o3), .val (.int (own_ex (i &&& (3 : Int32)) (j &&& (3 : Int32))))] [(.ref (own_sel (own_ex (i &&& (3 : Int32)) (j &&& (3 : Int32))) u0 u1 u2 u3)), (.ref ta)])) X7 hx rfl (by rfl) (by rfl) (pc0 := 72) (pc' := 75) (same := true) rfl (hb hby at_72) rfl (decide_eq_true (congrArg Value.ref ((hyes cb).2 : ta = (own_sel (own_ex (i &&& (3 : Int32)) (j &&& (3 : Int32))) u0 u1 u2 u3)))) (by decide) (by decide) kq) ?_
    refine own_st (T7.setTop (mkF m 76 #[.val (.int i), .val (.int j), .val (.int (i &&& (3 : Int32))), .val (.int (j &&& (3 : Int32))), .val (.ref o3), .val (.int (own_ex (i &&& (3 : Int32)) (j &&& (3 : Int32))))] [(.int (1 : Int32))])) (fun tq kq => XS.iconst X7.here hx rfl (hb hby at_75) kq) ?_
    refine own_st (T7.setTop (mkF m 80 #[.val (.int i), .val (.int j), .val (.int (i &&& (3 : Int32))), .val (.int (j &&& (3 : Int32))), .val (.ref o3), .val (.int (own_ex (i &&& (3 : Int32)) (j &&& (3 : Int32))))] [(.int (1 : Int32))])) (fun tq kq => XS.goto X7.here hx rfl (pc0 := 76) (pc' := 80) rfl (hb hby at_76) (by decide) (by decide) kq) ?_
    exact own_ret X7 hlk (v := some (.int (1 : Int32))) (fun h => by rw [hret] at h; cases h) e7 (⟨rfl, N7⟩) (by decide) (by decide) (fun fs hr => own_retN X7 hx (t := .boolean) hret (by simp) (hb hby at_80) rfl hr)
  · skip
    obtain ⟨v8, T8, L8, X8, q8, st8⟩ := own_callV X2 hx hZ hown (y := (⟨"com/example/luoyang/luoyang/model/TaskTransition", "applyTo", "(Lcom/example/luoyang/luoyang/model/TaskState;)Ljava/util/Optional;"⟩ : MethodName)) (z := (⟨"com/example/luoyang/luoyang/model/TaskTransition", "applyTo", "(Lcom/example/luoyang/luoyang/model/TaskState;)Ljava/util/Optional;"⟩ : MethodName)) (hw _ (List.mem_of_getElem? (i := 13) rfl)) (hw _ (List.mem_of_getElem? (i := 14) rfl)) (notFace_of_selects (args := a0) (hw _ (List.mem_of_getElem? (i := 16) rfl))) (hw _ (List.mem_of_getElem? (i := 16) rfl)) (hw _ (List.mem_of_getElem? (i := 15) rfl)) (hw _ (List.mem_of_getElem? (i := 5) rfl)) (hw _ (List.mem_of_getElem? (i := 17) rfl)) (Ea.ext O0.2) (b := (own_sel (i &&& (3 : Int32)) w0 w1 w2 w3)) (argsL := [(.ref (own_sel (j &&& (3 : Int32)) u0 u1 u2 u3))]) (own_applyNo l Z a0 hw [] (own_sel (i &&& (3 : Int32)) w0 w1 w2 w3) (own_sel (j &&& (3 : Int32)) u0 u1 u2 u3) sa we h0 O0 FS SE cb) 0 (by decide) (by decide) (by decide) (by decide) (by decide) e2 (g := (mkF m 16 #[.val (.int i), .val (.int j), .val (.int (i &&& (3 : Int32))), .val (.int (j &&& (3 : Int32))), .unset, .unset] [(.ref (own_sel (j &&& (3 : Int32)) u0 u1 u2 u3)), (.ref (own_sel (i &&& (3 : Int32)) w0 w1 w2 w3))])) rfl (by rw [hml]; rfl) [] (lenOf own_pd__28Lcom_2fexample_2fluoyang_2fluoyang_2fmodel_2fTaskState_3b_29Ljava_2futil_2fOptional_3b rfl) rfl (by show 2 * 0 + _ ≤ _; exact Nat.le_of_eq rfl) (hb hby at_16)
    obtain ⟨rfl, N8q, e8⟩ := q8
    have N8 := Fr.app N2 N8q
    refine own_st (T8.setTop (mkF m 19 #[.val (.int i), .val (.int j), .val (.int (i &&& (3 : Int32))), .val (.int (j &&& (3 : Int32))), .unset, .unset] [(.ref we)])) st8 ?_
    refine own_st (T8.setTop (mkF m 21 #[.val (.int i), .val (.int j), .val (.int (i &&& (3 : Int32))), .val (.int (j &&& (3 : Int32))), .val (.ref we), .unset] [])) (fun tq kq => XS.astore X8.here hx rfl (hb hby at_19) rfl (by rfl) (l' := #[.val (.int i), .val (.int j), .val (.int (i &&& (3 : Int32))), .val (.int (j &&& (3 : Int32))), .val (.ref we), .unset]) rfl kq) ?_
    refine own_st (T8.setTop (mkF m 23 #[.val (.int i), .val (.int j), .val (.int (i &&& (3 : Int32))), .val (.int (j &&& (3 : Int32))), .val (.ref we), .unset] [(.ref we)])) (fun tq kq => XS.aload X8.here hx rfl (hb hby at_21) rfl (by rfl) kq) ?_
    refine own_st (T8.setTop (mkF m 28 #[.val (.int i), .val (.int j), .val (.int (i &&& (3 : Int32))), .val (.int (j &&& (3 : Int32))), .val (.ref we), .unset] [])) (fun tq kq => XS.ifnonnullYes X8.here hx rfl (pc0 := 23) (pc' := 28) rfl (hb hby at_23) rfl (by decide) (by decide) kq) ?_
    refine own_st (T8.setTop (mkF m 29 #[.val (.int i), .val (.int j), .val (.int (i &&& (3 : Int32))), .val (.int (j &&& (3 : Int32))), .val (.ref we), .unset] [(.int (i &&& (3 : Int32)))])) (fun tq kq => XS.iloadN X8.here hx rfl (hb hby at_28) rfl kq) ?_
    refine own_st (T8.setTop (mkF m 30 #[.val (.int i), .val (.int j), .val (.int (i &&& (3 : Int32))), .val (.int (j &&& (3 : Int32))), .val (.ref we), .unset] [(.int (j &&& (3 : Int32))), (.int (i &&& (3 : Int32)))])) (fun tq kq => XS.iloadN X8.here hx rfl (hb hby at_29) rfl kq) ?_
    obtain ⟨v9, T9, L9, X9, q9, st9⟩ := own_callS X8 hx hZ hown (hw _ (List.mem_of_getElem? (i := 26) rfl)) (hw _ (List.mem_of_getElem? (i := 27) rfl)) (hw _ (List.mem_of_getElem? (i := 2) rfl)) (hw _ (List.mem_of_getElem? (i := 28) rfl)) (argsL := [(.int (i &&& (3 : Int32))), (.int (j &&& (3 : Int32)))]) (own_expect l Z a0 hw [] (i &&& (3 : Int32)) (j &&& (3 : Int32)) h0 O0) 0 (by decide) (by decide) (by decide) (by decide) (by decide) e8 (g := (mkF m 30 #[.val (.int i), .val (.int j), .val (.int (i &&& (3 : Int32))), .val (.int (j &&& (3 : Int32))), .val (.ref we), .unset] [(.int (j &&& (3 : Int32))), (.int (i &&& (3 : Int32)))])) rfl (by rw [hml]; rfl) [] (lenOf own_pd__28II_29I rfl) rfl (by show 2 * 0 + _ ≤ _; exact Nat.le_of_eq rfl) (hb hby at_30)
    obtain ⟨rfl, N9q, e9⟩ := q9
    have N9 := Fr.app N8 N9q
    refine own_st (T9.setTop (mkF m 33 #[.val (.int i), .val (.int j), .val (.int (i &&& (3 : Int32))), .val (.int (j &&& (3 : Int32))), .val (.ref we), .unset] [(.int (own_ex (i &&& (3 : Int32)) (j &&& (3 : Int32))))])) st9 ?_
    refine own_st (T9.setTop (mkF m 35 #[.val (.int i), .val (.int j), .val (.int (i &&& (3 : Int32))), .val (.int (j &&& (3 : Int32))), .val (.ref we), .val (.int (own_ex (i &&& (3 : Int32)) (j &&& (3 : Int32))))] [])) (fun tq kq => XS.istore X9.here hx rfl (hb hby at_33) rfl (l' := #[.val (.int i), .val (.int j), .val (.int (i &&& (3 : Int32))), .val (.int (j &&& (3 : Int32))), .val (.ref we), .val (.int (own_ex (i &&& (3 : Int32)) (j &&& (3 : Int32))))]) rfl kq) ?_
    refine own_st (T9.setTop (mkF m 37 #[.val (.int i), .val (.int j), .val (.int (i &&& (3 : Int32))), .val (.int (j &&& (3 : Int32))), .val (.ref we), .val (.int (own_ex (i &&& (3 : Int32)) (j &&& (3 : Int32))))] [(.int (own_ex (i &&& (3 : Int32)) (j &&& (3 : Int32))))])) (fun tq kq => XS.iload X9.here hx rfl (hb hby at_35) rfl kq) ?_
    refine own_st (T9.setTop (mkF m 40 #[.val (.int i), .val (.int j), .val (.int (i &&& (3 : Int32))), .val (.int (j &&& (3 : Int32))), .val (.ref we), .val (.int (own_ex (i &&& (3 : Int32)) (j &&& (3 : Int32))))] [])) (fun tq kq => XS.ifNo X9.here hx rfl (hb hby at_37) rfl ((if0 _ _).trans (tlt ((hno cb) : (own_ex (i &&& (3 : Int32)) (j &&& (3 : Int32))) < (0 : Int32))).2.1) kq) ?_
    refine own_st (T9.setTop (mkF m 42 #[.val (.int i), .val (.int j), .val (.int (i &&& (3 : Int32))), .val (.int (j &&& (3 : Int32))), .val (.ref we), .val (.int (own_ex (i &&& (3 : Int32)) (j &&& (3 : Int32))))] [(.ref we)])) (fun tq kq => XS.aload X9.here hx rfl (hb hby at_40) rfl (by rfl) kq) ?_
    obtain ⟨v10, T10, L10, X10, q10, st10⟩ := own_callV X9 hx hZ hown (y := (⟨"java/util/Optional", "isPresent", "()Z"⟩ : MethodName)) (z := (⟨"java/util/Optional", "isPresent", "()Z"⟩ : MethodName)) (hw _ (List.mem_of_getElem? (i := 29) rfl)) (hw _ (List.mem_of_getElem? (i := 30) rfl)) (notFace_of_selects (args := a0) (hw _ (List.mem_of_getElem? (i := 32) rfl))) (hw _ (List.mem_of_getElem? (i := 32) rfl)) (hw _ (List.mem_of_getElem? (i := 31) rfl)) (hw _ (List.mem_of_getElem? (i := 23) rfl)) (hw _ (List.mem_of_getElem? (i := 33) rfl)) (EE.ext O0.2) (b := we) (argsL := []) (own_ispNo l Z a0 hw [] we h0 O0 (FE.ext O0.2)) 0 (by decide) (by decide) (by decide) (by decide) (by decide) e9 (g := (mkF m 42 #[.val (.int i), .val (.int j), .val (.int (i &&& (3 : Int32))), .val (.int (j &&& (3 : Int32))), .val (.ref we), .val (.int (own_ex (i &&& (3 : Int32)) (j &&& (3 : Int32))))] [(.ref we)])) rfl (by rw [hml]; rfl) [] (lenOf own_pd__28_29Z rfl) rfl (by show 2 * 0 + _ ≤ _; exact Nat.le_of_eq rfl) (hb hby at_42)
    obtain ⟨rfl, N10q, e10⟩ := q10
    have N10 := Fr.app N9 N10q
    refine own_st (T10.setTop (mkF m 45 #[.val (.int i), .val (.int j), .val (.int (i &&& (3 : Int32))), .val (.int (j &&& (3 : Int32))), .val (.ref we), .val (.int (own_ex (i &&& (3 : Int32)) (j &&& (3 : Int32))))] [(.int (0 : Int32))])) st10 ?_
    refine own_st (T10.setTop (mkF m 48 #[.val (.int i), .val (.int j), .val (.int (i &&& (3 : Int32))), .val (.int (j &&& (3 : Int32))), .val (.ref we), .val (.int (own_ex (i &&& (3 : Int32)) (j &&& (3 : Int32))))] [])) (fun tq kq => XS.ifNo X10.here hx rfl (hb hby at_45) rfl ((if0 _ _).trans (teq ((by decide) : (0 : Int32) = (0 : Int32))).2) kq) ?_
    refine own_st (T10.setTop (mkF m 49 #[.val (.int i), .val (.int j), .val (.int (i &&& (3 : Int32))), .val (.int (j &&& (3 : Int32))), .val (.ref we), .val (.int (own_ex (i &&& (3 : Int32)) (j &&& (3 : Int32))))] [(.int (1 : Int32))])) (fun tq kq => XS.iconst X10.here hx rfl (hb hby at_48) kq) ?_
    refine own_st (T10.setTop (mkF m 53 #[.val (.int i), .val (.int j), .val (.int (i &&& (3 : Int32))), .val (.int (j &&& (3 : Int32))), .val (.ref we), .val (.int (own_ex (i &&& (3 : Int32)) (j &&& (3 : Int32))))] [(.int (1 : Int32))])) (fun tq kq => XS.goto X10.here hx rfl (pc0 := 49) (pc' := 53) rfl (hb hby at_49) (by decide) (by decide) kq) ?_
    exact own_ret X10 hlk (v := some (.int (1 : Int32))) (fun h => by rw [hret] at h; cases h) e10 (⟨rfl, N10⟩) (by decide) (by decide) (fun fs hr => own_retN X10 hx (t := .boolean) hret (by simp) (hb hby at_53) rfl hr)
theorem own_and3 (k : Int32) : k &&& (3 : Int32) = 0 ∨ k &&& (3 : Int32) = 1 ∨ k &&& (3 : Int32) = 2 ∨ k &&& (3 : Int32) = 3 := by
  have h1 := c_and k 3 (by decide)
  have h0 : (3 : Int32).toInt = 3 := rfl
  rw [h0] at h1
  generalize k &&& (3 : Int32) = i at h1 ⊢
  have h3 : i.toInt = 0 ∨ i.toInt = 1 ∨ i.toInt = 2 ∨ i.toInt = 3 := by omega
  rcases h3 with h | h | h | h
  · exact Or.inl (Int32.toInt_inj.mp h)
  · exact Or.inr (Or.inl (Int32.toInt_inj.mp h))
  · exact Or.inr (Or.inr (Or.inl (Int32.toInt_inj.mp h)))
  · exact Or.inr (Or.inr (Or.inr (Int32.toInt_inj.mp h)))
set_option maxRecDepth 65536 in
set_option maxHeartbeats 40000000 in
theorem comes_1 {Post : Tables → Env → Array Value → State → Outcome → State → Prop} (hpost : ∀ tb e args s v u, (limb_1_1.after args s (.returned v) u = true ∧ limb_1_2.after args s (.returned v) u = true ∧ True) → FrameEnd s (.returned v) u (Jvm.fieldLocs frame_1_writes args s ++ Jvm.arrayLocs frame_1_arrays args s ++ Jvm.staticLocs frame_1_statics s) 16 128 → Post tb e args s (.returned v) u) :
    ArmFor flags0 classFile x code maxLocals ret World_1 tables_1 room_1 Calls_1 rest_1 Pre_1 Post := by
  intro l hfl _ _ p e ha hc hk s m args below hf hA hF happ hP
  obtain ⟨hcalls, hrest, hpre⟩ := hP
  obtain ⟨-, -, -, hnamed, -, -, -, hat⟩ := (Spec.applies_iff hf).mp happ
  obtain ⟨hg, hn⟩ := and_e (Cond.before_iff.mp (show (Jvm.Cond.and given_1 narrow_1).before args s = true from hpre))
  obtain ⟨g1, g2⟩ := and_e hg
  obtain ⟨g3, g4⟩ := and_e g2
  obtain ⟨g5, g6⟩ := and_e hn
  obtain ⟨g7, g8⟩ := and_e g6
  obtain ⟨g9, g10⟩ := and_e g8
  obtain ⟨g11, g12⟩ := and_e g10
  obtain ⟨g13, g14⟩ := and_e g12
  obtain ⟨g15, g16⟩ := and_e g14
  obtain ⟨g17, g18⟩ := and_e g16
  obtain ⟨g19, g20⟩ := and_e g18
  obtain ⟨g21, g22⟩ := and_e g20
  obtain ⟨g23, g24⟩ := and_e g22
  obtain ⟨g25, g26⟩ := and_e g24
  obtain ⟨g27, g28⟩ := and_e g26
  obtain ⟨g29, g30⟩ := and_e g28
  obtain ⟨g31, g32⟩ := and_e g30
  obtain ⟨g33, g34⟩ := and_e g32
  obtain ⟨g35, g36⟩ := and_e g34
  obtain ⟨g37, g38⟩ := and_e g36
  obtain ⟨g39, g40⟩ := and_e g38
  obtain ⟨g41, g42⟩ := and_e g40
  obtain ⟨w0, w1, rfl⟩ : ∃ w0 w1 : Value, args = #[w0, w1] := by
    have hs : args.size = 2 := by simpa [Cond.value, given_1] using g1
    obtain ⟨L⟩ := args
    match L, hs with
    | [w0, w1], _ => exact ⟨w0, w1, rfl⟩
  have hw := fun d (hd : d ∈ tables_1) => atoms_spec (ws := Jvm.Cond.code x code maxLocals ret :: tables_1) hat d (List.mem_cons_of_mem _ hd)
  have hfit : Fit s := fun {y c} hc i hi => by
    obtain ⟨ha, rfl⟩ := Array.getElem?_eq_some_iff.mp hc
    have q := List.all_eq_true.mp ((Array.all_eq_true_iff_forall_mem.mp hF) _ (Array.getElem_mem ha)) i (List.mem_range.mpr hi)
    simpa [Array.getElem?_eq_getElem hi] using q
  obtain ⟨hsets, hown0⟩ := atoms_of _ (rest_1_c_eq ▸ (show rest_1_c.before _ s = true from hrest))
  have hr0 := Cond.before_iff.mp hown0
  obtain ⟨i0, ei0⟩ := is_v g3
  obtain rfl : w0 = (.int i0) := Option.some.inj ei0
  obtain ⟨i1, ei1⟩ := is_v g4
  obtain rfl : w1 = (.int i1) := Option.some.inj ei1
  obtain ⟨sa43, se44⟩ := exa_v g5
  have E45 : Exa s s.heap sa43 "com/example/luoyang/luoyang/model/TaskTransition" := Exa.start se44 g5
  have S46 : Sta s s.heap "com/example/luoyang/luoyang/model/TaskTransition" "ASSIGN" "Lcom/example/luoyang/luoyang/model/TaskTransition;" (.ref sa43) := Sta.start se44 (Or.inr ⟨(hw _ (List.mem_of_getElem? (i := 5) rfl)), (hw _ (List.mem_of_getElem? (i := 6) rfl))⟩)
  obtain ⟨sa47, se48⟩ := exa_v g7
  have E49 : Exa s s.heap sa47 "com/example/luoyang/luoyang/model/TaskState" := Exa.start se48 g7
  have S50 : Sta s s.heap "com/example/luoyang/luoyang/model/TaskState" "COMPLETED" "Lcom/example/luoyang/luoyang/model/TaskState;" (.ref sa47) := Sta.start se48 (Or.inr ⟨(hw _ (List.mem_of_getElem? (i := 11) rfl)), (hw _ (List.mem_of_getElem? (i := 12) rfl))⟩)
  obtain ⟨sa51, se52⟩ := exa_v g9
  have E53 : Exa s s.heap sa51 "com/example/luoyang/luoyang/model/TaskState" := Exa.start se52 g9
  have S54 : Sta s s.heap "com/example/luoyang/luoyang/model/TaskState" "READY" "Lcom/example/luoyang/luoyang/model/TaskState;" (.ref sa51) := Sta.start se52 (Or.inr ⟨(hw _ (List.mem_of_getElem? (i := 11) rfl)), (hw _ (List.mem_of_getElem? (i := 20) rfl))⟩)
  have se55 := own_eqR g11 se52
  have F56 : Fld s s.heap sa43 "com/example/luoyang/luoyang/model/TaskTransition" "source" "Lcom/example/luoyang/luoyang/model/TaskState;" (.ref sa51) := Fld.start ((fld_at se44).symm.trans se55)
  have se57 := own_eqI g13 (Term.int_eval _)
  have F58 : Fld s s.heap sa47 "java/lang/Enum" "ordinal" "I" (.int (3 : Int32)) := Fld.start ((fld_at se48).symm.trans se57)
  have se59 := own_eqI g15 (Term.int_eval _)
  have F60 : Fld s s.heap sa51 "java/lang/Enum" "ordinal" "I" (.int (0 : Int32)) := Fld.start ((fld_at se52).symm.trans se59)
  obtain ⟨sa61, se62⟩ := exa_v g17
  have E63 : Exa s s.heap sa61 "com/example/luoyang/luoyang/model/TaskTransition" := Exa.start se62 g17
  have S64 : Sta s s.heap "com/example/luoyang/luoyang/model/TaskTransition" "RESUME" "Lcom/example/luoyang/luoyang/model/TaskTransition;" (.ref sa61) := Sta.start se62 (Or.inr ⟨(hw _ (List.mem_of_getElem? (i := 5) rfl)), (hw _ (List.mem_of_getElem? (i := 37) rfl))⟩)
  obtain ⟨sa65, se66⟩ := exa_v g19
  have E67 : Exa s s.heap sa65 "com/example/luoyang/luoyang/model/TaskState" := Exa.start se66 g19
  have S68 : Sta s s.heap "com/example/luoyang/luoyang/model/TaskState" "EXECUTING" "Lcom/example/luoyang/luoyang/model/TaskState;" (.ref sa65) := Sta.start se66 (Or.inr ⟨(hw _ (List.mem_of_getElem? (i := 11) rfl)), (hw _ (List.mem_of_getElem? (i := 39) rfl))⟩)
  obtain ⟨sa69, se70⟩ := exa_v g21
  have E71 : Exa s s.heap sa69 "com/example/luoyang/luoyang/model/TaskState" := Exa.start se70 g21
  have S72 : Sta s s.heap "com/example/luoyang/luoyang/model/TaskState" "SUSPENDED" "Lcom/example/luoyang/luoyang/model/TaskState;" (.ref sa69) := Sta.start se70 (Or.inr ⟨(hw _ (List.mem_of_getElem? (i := 11) rfl)), (hw _ (List.mem_of_getElem? (i := 40) rfl))⟩)
  have se73 := own_eqR g23 se70
  have F74 : Fld s s.heap sa61 "com/example/luoyang/luoyang/model/TaskTransition" "source" "Lcom/example/luoyang/luoyang/model/TaskState;" (.ref sa69) := Fld.start ((fld_at se62).symm.trans se73)
  have se75 := own_eqI g25 (Term.int_eval _)
  have F76 : Fld s s.heap sa65 "java/lang/Enum" "ordinal" "I" (.int (1 : Int32)) := Fld.start ((fld_at se66).symm.trans se75)
  have se77 := own_eqI g27 (Term.int_eval _)
  have F78 : Fld s s.heap sa69 "java/lang/Enum" "ordinal" "I" (.int (2 : Int32)) := Fld.start ((fld_at se70).symm.trans se77)
  have se79 := own_eqR g29 se66
  have F80 : Fld s s.heap sa43 "com/example/luoyang/luoyang/model/TaskTransition" "target" "Lcom/example/luoyang/luoyang/model/TaskState;" (.ref sa65) := Fld.start ((fld_at se44).symm.trans se79)
  obtain ⟨sa81, se82⟩ := exa_v g31
  have E83 : Exa s s.heap sa81 "com/example/luoyang/luoyang/model/TaskTransition" := Exa.start se82 g31
  have S84 : Sta s s.heap "com/example/luoyang/luoyang/model/TaskTransition" "SUSPEND" "Lcom/example/luoyang/luoyang/model/TaskTransition;" (.ref sa81) := Sta.start se82 (Or.inr ⟨(hw _ (List.mem_of_getElem? (i := 5) rfl)), (hw _ (List.mem_of_getElem? (i := 66) rfl))⟩)
  have se85 := own_eqR g33 se66
  have F86 : Fld s s.heap sa81 "com/example/luoyang/luoyang/model/TaskTransition" "source" "Lcom/example/luoyang/luoyang/model/TaskState;" (.ref sa65) := Fld.start ((fld_at se82).symm.trans se85)
  have se87 := own_eqR g35 se70
  have F88 : Fld s s.heap sa81 "com/example/luoyang/luoyang/model/TaskTransition" "target" "Lcom/example/luoyang/luoyang/model/TaskState;" (.ref sa69) := Fld.start ((fld_at se82).symm.trans se87)
  obtain ⟨sa89, se90⟩ := exa_v g37
  have E91 : Exa s s.heap sa89 "com/example/luoyang/luoyang/model/TaskTransition" := Exa.start se90 g37
  have S92 : Sta s s.heap "com/example/luoyang/luoyang/model/TaskTransition" "COMPLETE" "Lcom/example/luoyang/luoyang/model/TaskTransition;" (.ref sa89) := Sta.start se90 (Or.inr ⟨(hw _ (List.mem_of_getElem? (i := 5) rfl)), (hw _ (List.mem_of_getElem? (i := 69) rfl))⟩)
  have se93 := own_eqR g39 se66
  have F94 : Fld s s.heap sa89 "com/example/luoyang/luoyang/model/TaskTransition" "source" "Lcom/example/luoyang/luoyang/model/TaskState;" (.ref sa65) := Fld.start ((fld_at se90).symm.trans se93)
  have se95 := own_eqR g41 se48
  have F96 : Fld s s.heap sa89 "com/example/luoyang/luoyang/model/TaskTransition" "target" "Lcom/example/luoyang/luoyang/model/TaskState;" (.ref sa47) := Fld.start ((fld_at se90).symm.trans se95)
  have se97 := own_eqR g42 se66
  have F98 : Fld s s.heap sa61 "com/example/luoyang/luoyang/model/TaskTransition" "target" "Lcom/example/luoyang/luoyang/model/TaskState;" (.ref sa65) := Fld.start ((fld_at se62).symm.trans se97)
  obtain ⟨sa99, se100⟩ := exa_v (Cond.before_iff.mp (hsets _ (List.mem_of_getElem? (i := 2) rfl)))
  have E101 : Exa s s.heap sa99 "java/util/Optional" := Exa.start se100 (Cond.before_iff.mp (hsets _ (List.mem_of_getElem? (i := 2) rfl)))
  have S102 : Sta s s.heap "java/util/Optional" "EMPTY" "Ljava/util/Optional;" (.ref sa99) := Sta.start se100 (Or.inl (Cond.before_iff.mpr (Cond.before_iff.mp (hsets _ (List.mem_of_getElem? (i := 1) rfl)))))
  have se103 := null_v (Cond.before_iff.mp (hsets _ (List.mem_of_getElem? (i := 3) rfl)))
  have F104 : Fld s s.heap sa99 "java/util/Optional" "value" "Ljava/lang/Object;" .null := Fld.start ((fld_at se100).symm.trans se103)
  have nu01 : sa51 ≠ sa65 := Fld.ne F60 F76 (by decide)
  have nu02 : sa51 ≠ sa69 := Fld.ne F60 F78 (by decide)
  have nu03 : sa51 ≠ sa47 := Fld.ne F60 F58 (by decide)
  have nu10 : sa65 ≠ sa51 := Fld.ne F76 F60 (by decide)
  have nu12 : sa65 ≠ sa69 := Fld.ne F76 F78 (by decide)
  have nu13 : sa65 ≠ sa47 := Fld.ne F76 F58 (by decide)
  have nu20 : sa69 ≠ sa51 := Fld.ne F78 F60 (by decide)
  have nu21 : sa69 ≠ sa65 := Fld.ne F78 F76 (by decide)
  have nu23 : sa69 ≠ sa47 := Fld.ne F78 F58 (by decide)
  have nu30 : sa47 ≠ sa51 := Fld.ne F58 F60 (by decide)
  have nu31 : sa47 ≠ sa65 := Fld.ne F58 F76 (by decide)
  have nu32 : sa47 ≠ sa69 := Fld.ne F58 F78 (by decide)
  have key : ∃ sa ta : Addr, Exa s s.heap (own_sel (i0 &&& (3 : Int32)) sa43 sa81 sa61 sa89) "com/example/luoyang/luoyang/model/TaskTransition" ∧ Fld s s.heap (own_sel (i0 &&& (3 : Int32)) sa43 sa81 sa61 sa89) "com/example/luoyang/luoyang/model/TaskTransition" "source" "Lcom/example/luoyang/luoyang/model/TaskState;" (.ref sa) ∧ Fld s s.heap (own_sel (i0 &&& (3 : Int32)) sa43 sa81 sa61 sa89) "com/example/luoyang/luoyang/model/TaskTransition" "target" "Lcom/example/luoyang/luoyang/model/TaskState;" (.ref ta) ∧ ((own_sel (i1 &&& (3 : Int32)) sa51 sa65 sa69 sa47) = sa → ¬ ((own_ex (i0 &&& (3 : Int32)) (i1 &&& (3 : Int32))) < (0 : Int32)) ∧ ta = own_sel (own_ex (i0 &&& (3 : Int32)) (i1 &&& (3 : Int32))) sa51 sa65 sa69 sa47) ∧ (¬ ((own_sel (i1 &&& (3 : Int32)) sa51 sa65 sa69 sa47) = sa) → (own_ex (i0 &&& (3 : Int32)) (i1 &&& (3 : Int32))) < (0 : Int32)) := by
    rcases own_and3 i0 with q | q | q | q <;> rcases own_and3 i1 with r | r | r | r <;> rw [q, r]
    · exact ⟨_, _, (by simpa [own_sel] using E45), (by simpa [own_sel] using F56), (by simpa [own_sel] using F80), fun _ => ⟨by decide, by simp [own_sel, own_ex]⟩, fun c => absurd (show own_sel 0 sa51 sa65 sa69 sa47 = sa51 by simp [own_sel]) c⟩
    · exact ⟨_, _, (by simpa [own_sel] using E45), (by simpa [own_sel] using F56), (by simpa [own_sel] using F80), fun c => absurd (show sa65 = sa51 by simpa [own_sel] using c) nu10, fun _ => by decide⟩
    · exact ⟨_, _, (by simpa [own_sel] using E45), (by simpa [own_sel] using F56), (by simpa [own_sel] using F80), fun c => absurd (show sa69 = sa51 by simpa [own_sel] using c) nu20, fun _ => by decide⟩
    · exact ⟨_, _, (by simpa [own_sel] using E45), (by simpa [own_sel] using F56), (by simpa [own_sel] using F80), fun c => absurd (show sa47 = sa51 by simpa [own_sel] using c) nu30, fun _ => by decide⟩
    · exact ⟨_, _, (by simpa [own_sel] using E83), (by simpa [own_sel] using F86), (by simpa [own_sel] using F88), fun c => absurd (show sa51 = sa65 by simpa [own_sel] using c) nu01, fun _ => by decide⟩
    · exact ⟨_, _, (by simpa [own_sel] using E83), (by simpa [own_sel] using F86), (by simpa [own_sel] using F88), fun _ => ⟨by decide, by simp [own_sel, own_ex]⟩, fun c => absurd (show own_sel 1 sa51 sa65 sa69 sa47 = sa65 by simp [own_sel]) c⟩
    · exact ⟨_, _, (by simpa [own_sel] using E83), (by simpa [own_sel] using F86), (by simpa [own_sel] using F88), fun c => absurd (show sa69 = sa65 by simpa [own_sel] using c) nu21, fun _ => by decide⟩
    · exact ⟨_, _, (by simpa [own_sel] using E83), (by simpa [own_sel] using F86), (by simpa [own_sel] using F88), fun c => absurd (show sa47 = sa65 by simpa [own_sel] using c) nu31, fun _ => by decide⟩
    · exact ⟨_, _, (by simpa [own_sel] using E63), (by simpa [own_sel] using F74), (by simpa [own_sel] using F98), fun c => absurd (show sa51 = sa69 by simpa [own_sel] using c) nu02, fun _ => by decide⟩
    · exact ⟨_, _, (by simpa [own_sel] using E63), (by simpa [own_sel] using F74), (by simpa [own_sel] using F98), fun c => absurd (show sa65 = sa69 by simpa [own_sel] using c) nu12, fun _ => by decide⟩
    · exact ⟨_, _, (by simpa [own_sel] using E63), (by simpa [own_sel] using F74), (by simpa [own_sel] using F98), fun _ => ⟨by decide, by simp [own_sel, own_ex]⟩, fun c => absurd (show own_sel 2 sa51 sa65 sa69 sa47 = sa69 by simp [own_sel]) c⟩
    · exact ⟨_, _, (by simpa [own_sel] using E63), (by simpa [own_sel] using F74), (by simpa [own_sel] using F98), fun c => absurd (show sa47 = sa69 by simpa [own_sel] using c) nu32, fun _ => by decide⟩
    · exact ⟨_, _, (by simpa [own_sel] using E91), (by simpa [own_sel] using F94), (by simpa [own_sel] using F96), fun c => absurd (show sa51 = sa65 by simpa [own_sel] using c) nu01, fun _ => by decide⟩
    · exact ⟨_, _, (by simpa [own_sel] using E91), (by simpa [own_sel] using F94), (by simpa [own_sel] using F96), fun _ => ⟨by decide, by simp [own_sel, own_ex]⟩, fun c => absurd (show own_sel 1 sa51 sa65 sa69 sa47 = sa65 by simp [own_sel]) c⟩
    · exact ⟨_, _, (by simpa [own_sel] using E91), (by simpa [own_sel] using F94), (by simpa [own_sel] using F96), fun c => absurd (show sa69 = sa65 by simpa [own_sel] using c) nu21, fun _ => by decide⟩
    · exact ⟨_, _, (by simpa [own_sel] using E91), (by simpa [own_sel] using F94), (by simpa [own_sel] using F96), fun c => absurd (show sa47 = sa65 by simpa [own_sel] using c) nu31, fun _ => by decide⟩
  obtain ⟨sa, ta, Ea, FS, FT, hyes, hno⟩ := key
  obtain ⟨n, o, h1, h2, h3, _, L, rfl, ⟨rfl, N⟩, hq⟩ := own_law l s _ hw tables_1 i0 i1 sa43 sa81 sa61 sa89 sa51 sa65 sa69 sa47 sa99 sa ta s.heap (Old.start s) S46 S84 S64 S92 S54 S68 S72 S50 S102 E101 F104 Ea FS FT hyes hno p e ha hc hk s m _ below hf ((Spec.applies_iff_loose hf).mp happ).1 ⟨rfl, State.Warmed39.refl s, rfl⟩ trivial
  refine ⟨n, _, h1, h2, h3, hpost _ _ _ _ _ _ ⟨Cond.after_iff.mpr rfl, Cond.after_iff.mpr (eq_i res_at (Term.int_eval (1)) rfl), trivial⟩ ⟨hq.1, hq.2.1, (hq.2.2.sift fun y hy => Or.inr (N y hy)).mono (by decide) (by decide)⟩⟩
theorem main_1_1 : Claimed_1_1 := comes_1 fun _ _ _ _ _ _ h hF => ⟨h.1, hF⟩
theorem main_1_2 : Claimed_1_2 := comes_1 fun _ _ _ _ _ _ h hF => ⟨h.2.1, hF⟩
end Jvm.Pilot.@@N@@
namespace Jvm.Pilot.@@N@@
open Jvm Jvm.ClassFile Sem Op Lib Jvm.Free Jvm.Stand Jvm.Pilot.@@N@@.Jvm.D
/-! MADE BY PROGRAM (witnessworld.py) out of the Statement's table words and the real class files: 15 classes; the members and pool entries that the words name. The judged class is class 1, her method 4. -/
namespace start1
open Jvm.ClassFile
def u (s : String) : CpInfo := .utf8 (stringToUtf16 s)
/-- a pool by its gaps: so many unusable entries, then the entry; so many at the end -/
def gap : Nat → List CpInfo → List CpInfo
  | 0, r => r
  | n + 1, r => .unusable :: gap n r
def poolList (es : List (Nat × CpInfo)) (last : Nat) : List CpInfo := es.foldr (fun e r => gap e.1 (e.2 :: r)) (gap last [])
def pool (es : List (Nat × CpInfo)) (last : Nat) : Array CpInfo := ⟨poolList es last⟩
def fileOf (pool : Array CpInfo) (this : Nat) (attrs : Array Attribute := #[]) (ms : Array MethodInfo := #[]) (fl : Nat := 33) (sup : Nat := 0) (ifs : Array Nat := #[]) (fds : Array FieldInfo := #[]) : ClassFile where
  minorVersion := 0
  majorVersion := 65
  constantPool := pool
  accessFlags := fl
  thisClass := this
  superClass := sup
  interfaces := ifs
  fields := fds
  methods := ms
  attributes := attrs
def plain (name : String) (sup : Option ClassId) : Class where
  name := name
  kind := .ordinary
  loader := none
  accessFlags := 33
  super := sup
  interfaces := #[]
  cf := none
  fields := #[]
  methods := #[]
  instanceTypes := #[]
  staticTypes := #[]
  resolved := #[]
  callSites := []
  init := .initialized
  statics := none
  mirror := none

def pool0 : Array CpInfo := pool [(5, u "<init>"), (0, u "()V"), (1, .class_ 10), (1, u "java/lang/Object")] 113

def k0c0 : Code := { maxStack := 0, maxLocals := 1, code := object_method_1_code, exceptionTable := #[], attributes := #[] }
def k0m0 : Method := { name := "<init>", desc := "()V", sig := { parameters := [], returnType := none }, accessFlags := 1, code := some k0c0 }
/-- java/lang/Object -/
def k0 : Class := { plain "java/lang/Object" none with
  accessFlags := 33
  interfaces := #[]
  cf := some (fileOf pool0 8 #[] #[{ accessFlags := 1, nameIndex := 5, descriptorIndex := 6, attributes := #[] }] 33 0 #[] #[])
  fields := #[]
  methods := #[k0m0]
  instanceTypes := #[]
  staticTypes := #[]
  resolved := Array.replicate 124 none
  statics := none }

def pool1 : Array CpInfo := pool [(2, .class_ 4), (1, u "java/lang/Object"), (0, u "<init>"), (0, u "()V"), (0, .fieldref 8 9), (0, .class_ 10), (0, .nameAndType 11 12), (0, u "com/example/luoyang/luoyang/model/TaskTransition"), (0, u "ASSIGN"), (0, u "Lcom/example/luoyang/luoyang/model/TaskTransition;"), (0, .fieldref 8 14), (0, .nameAndType 15 12), (0, u "SUSPEND"), (0, .fieldref 8 17), (0, .nameAndType 18 12), (0, u "RESUME"), (0, .fieldref 8 20), (0, .nameAndType 21 12), (0, u "COMPLETE"), (0, .fieldref 23 24), (0, .class_ 25), (0, .nameAndType 26 27), (0, u "com/example/luoyang/luoyang/model/TaskState"), (0, u "READY"), (0, u "Lcom/example/luoyang/luoyang/model/TaskState;"), (0, .fieldref 23 29), (0, .nameAndType 30 27), (0, u "EXECUTING"), (0, .fieldref 23 32), (0, .nameAndType 33 27), (0, u "SUSPENDED"), (0, .fieldref 23 35), (0, .nameAndType 36 27), (0, u "COMPLETED"), (0, .methodref 38 39), (0, .class_ 40), (0, .nameAndType 41 42), (0, u "com/example/luoyang/luoyang/model/TaskTransitionApplyToPinLaw"), (0, u "move"), (0, u "(I)Lcom/example/luoyang/luoyang/model/TaskTransition;"), (0, .methodref 38 44), (0, .nameAndType 45 46), (0, u "state"), (0, u "(I)Lcom/example/luoyang/luoyang/model/TaskState;"), (0, .methodref 8 48), (0, .nameAndType 49 50), (0, u "applyTo"), (0, u "(Lcom/example/luoyang/luoyang/model/TaskState;)Ljava/util/Optional;"), (0, .methodref 38 52), (0, .nameAndType 53 54), (0, u "expected"), (0, u "(II)I"), (0, .methodref 56 57), (0, .class_ 58), (0, .nameAndType 59 60), (0, u "java/util/Optional"), (0, u "isPresent"), (0, u "()Z"), (0, .methodref 56 62), (0, .nameAndType 63 64), (0, u "get"), (0, u "()Ljava/lang/Object;"), (3, u "law"), (0, u "(II)Z")] 2

def k1m0 : Method := { name := "<init>", desc := "()V", sig := { parameters := [], returnType := none }, accessFlags := 1, code := none }
def k1c1 : Code := { maxStack := 2, maxLocals := 1, code := method_2_code, exceptionTable := #[], attributes := #[] }
def k1m1 : Method := { name := "move", desc := "(I)Lcom/example/luoyang/luoyang/model/TaskTransition;", sig := { parameters := [.int], returnType := some (.object "com/example/luoyang/luoyang/model/TaskTransition") }, accessFlags := 10, code := some k1c1 }
def k1c2 : Code := { maxStack := 2, maxLocals := 1, code := method_3_code, exceptionTable := #[], attributes := #[] }
def k1m2 : Method := { name := "state", desc := "(I)Lcom/example/luoyang/luoyang/model/TaskState;", sig := { parameters := [.int], returnType := some (.object "com/example/luoyang/luoyang/model/TaskState") }, accessFlags := 10, code := some k1c2 }
def k1c3 : Code := { maxStack := 2, maxLocals := 2, code := method_4_code, exceptionTable := #[], attributes := #[] }
def k1m3 : Method := { name := "expected", desc := "(II)I", sig := { parameters := [.int, .int], returnType := some .int }, accessFlags := 10, code := some k1c3 }
def k1c4 : Code := { maxStack := 2, maxLocals := 6, code := code, exceptionTable := #[], attributes := #[] }
def k1m4 : Method := { name := "law", desc := "(II)Z", sig := { parameters := [.int, .int], returnType := some .boolean }, accessFlags := 9, code := some k1c4 }
/-- com/example/luoyang/luoyang/model/TaskTransitionApplyToPinLaw -/
def k1 : Class := { plain "com/example/luoyang/luoyang/model/TaskTransitionApplyToPinLaw" (some 0) with
  accessFlags := 49
  interfaces := #[]
  cf := some (fileOf pool1 38 #[] #[{ accessFlags := 1, nameIndex := 5, descriptorIndex := 6, attributes := #[] }, { accessFlags := 10, nameIndex := 41, descriptorIndex := 42, attributes := #[] }, { accessFlags := 10, nameIndex := 45, descriptorIndex := 46, attributes := #[] }, { accessFlags := 10, nameIndex := 53, descriptorIndex := 54, attributes := #[] }, { accessFlags := 9, nameIndex := 68, descriptorIndex := 69, attributes := #[] }] 49 2 #[] #[])
  fields := #[]
  methods := #[k1m0, k1m1, k1m2, k1m3, k1m4]
  instanceTypes := #[]
  staticTypes := #[]
  resolved := Array.replicate 72 none
  statics := none }

def pool2 : Array CpInfo := pool [(1, .class_ 2), (0, u "java/lang/constant/Constable"), (0, .class_ 4), (0, u "java/lang/Object")] 6

/-- java/lang/constant/Constable -/
def k2 : Class := { plain "java/lang/constant/Constable" (some 0) with
  accessFlags := 1537
  interfaces := #[]
  cf := some (fileOf pool2 1 #[] #[] 1537 3 #[] #[])
  fields := #[]
  methods := #[]
  instanceTypes := #[]
  staticTypes := #[]
  resolved := Array.replicate 11 none
  statics := none }

def pool3 : Array CpInfo := pool [(1, .class_ 2), (0, u "java/lang/Comparable"), (0, .class_ 4), (0, u "java/lang/Object")] 7

/-- java/lang/Comparable -/
def k3 : Class := { plain "java/lang/Comparable" (some 0) with
  accessFlags := 1537
  interfaces := #[]
  cf := some (fileOf pool3 1 #[] #[] 1537 3 #[] #[])
  fields := #[]
  methods := #[]
  instanceTypes := #[]
  staticTypes := #[]
  resolved := Array.replicate 12 none
  statics := none }

def pool4 : Array CpInfo := pool [(1, .class_ 2), (0, u "java/io/Serializable"), (0, .class_ 4), (0, u "java/lang/Object")] 2

/-- java/io/Serializable -/
def k4 : Class := { plain "java/io/Serializable" (some 0) with
  accessFlags := 1537
  interfaces := #[]
  cf := some (fileOf pool4 1 #[] #[] 1537 3 #[] #[])
  fields := #[]
  methods := #[]
  instanceTypes := #[]
  staticTypes := #[]
  resolved := Array.replicate 7 none
  statics := none }

def pool5 : Array CpInfo := pool [(2, .class_ 4), (1, u "java/lang/Enum"), (0, u "name"), (0, u "Ljava/lang/String;"), (2, u "ordinal"), (0, u "I"), (1, .class_ 14), (1, u "java/lang/Object"), (4, u "hash"), (86, .class_ 108), (1, u "java/lang/Enum$EnumDesc"), (2, .class_ 112), (0, u "java/lang/constant/Constable"), (0, .class_ 114), (0, u "java/lang/Comparable"), (0, .class_ 116), (0, u "java/io/Serializable")] 87

/-- java/lang/Enum -/
def k5 : Class := { plain "java/lang/Enum" (some 0) with
  accessFlags := 1057
  interfaces := #[2, 3, 4]
  cf := some (fileOf pool5 2 #[.nestMembers #[106]] #[] 1057 12 #[111, 113, 115] #[{ accessFlags := 18, nameIndex := 5, descriptorIndex := 6, attributes := #[] }, { accessFlags := 18, nameIndex := 9, descriptorIndex := 10, attributes := #[] }, { accessFlags := 2, nameIndex := 19, descriptorIndex := 10, attributes := #[] }])
  fields := #[{ name := "name", type := (.object "java/lang/String"), accessFlags := 18, slot := 0, constantValue := 0 }, { name := "ordinal", type := .int, accessFlags := 18, slot := 1, constantValue := 0 }, { name := "hash", type := .int, accessFlags := 2, slot := 2, constantValue := 0 }]
  methods := #[]
  instanceTypes := #[(.object "java/lang/String"), .int, .int]
  staticTypes := #[]
  resolved := Array.replicate 204 none
  statics := none }

def pool6 : Array CpInfo := pool [(1, .class_ 2), (0, u "com/example/luoyang/luoyang/model/TaskTransition"), (2, u "ASSIGN"), (0, u "Lcom/example/luoyang/luoyang/model/TaskTransition;"), (2, u "SUSPEND"), (2, u "RESUME"), (2, u "COMPLETE"), (2, u "$VALUES"), (0, u "[Lcom/example/luoyang/luoyang/model/TaskTransition;"), (6, .class_ 28), (1, u "java/lang/Enum"), (6, .fieldref 1 36), (0, .nameAndType 37 38), (0, u "source"), (0, u "Lcom/example/luoyang/luoyang/model/TaskState;"), (0, .fieldref 1 40), (0, .nameAndType 41 38), (0, u "target"), (0, .methodref 43 44), (0, .class_ 45), (0, .nameAndType 46 47), (0, u "java/util/Optional"), (0, u "of"), (0, u "(Ljava/lang/Object;)Ljava/util/Optional;"), (0, .methodref 43 49), (0, .nameAndType 50 51), (0, u "empty"), (0, u "()Ljava/util/Optional;"), (33, u "applyTo"), (0, u "(Lcom/example/luoyang/luoyang/model/TaskState;)Ljava/util/Optional;")] 7

def k6c0 : Code := { maxStack := 2, maxLocals := 2, code := prog_62_method_6_code, exceptionTable := #[], attributes := #[] }
def k6m0 : Method := { name := "applyTo", desc := "(Lcom/example/luoyang/luoyang/model/TaskState;)Ljava/util/Optional;", sig := { parameters := [(.object "com/example/luoyang/luoyang/model/TaskState")], returnType := some (.object "java/util/Optional") }, accessFlags := 1, code := some k6c0 }
/-- com/example/luoyang/luoyang/model/TaskTransition -/
def k6 : Class := { plain "com/example/luoyang/luoyang/model/TaskTransition" (some 5) with
  accessFlags := 16433
  interfaces := #[]
  cf := some (fileOf pool6 1 #[] #[{ accessFlags := 1, nameIndex := 85, descriptorIndex := 86, attributes := #[] }] 16433 26 #[] #[{ accessFlags := 16409, nameIndex := 5, descriptorIndex := 6, attributes := #[] }, { accessFlags := 16409, nameIndex := 9, descriptorIndex := 6, attributes := #[] }, { accessFlags := 16409, nameIndex := 12, descriptorIndex := 6, attributes := #[] }, { accessFlags := 16409, nameIndex := 15, descriptorIndex := 6, attributes := #[] }, { accessFlags := 18, nameIndex := 37, descriptorIndex := 38, attributes := #[] }, { accessFlags := 18, nameIndex := 41, descriptorIndex := 38, attributes := #[] }, { accessFlags := 4122, nameIndex := 18, descriptorIndex := 19, attributes := #[] }])
  fields := #[{ name := "ASSIGN", type := (.object "com/example/luoyang/luoyang/model/TaskTransition"), accessFlags := 16409, slot := 0, constantValue := 0 }, { name := "SUSPEND", type := (.object "com/example/luoyang/luoyang/model/TaskTransition"), accessFlags := 16409, slot := 1, constantValue := 0 }, { name := "RESUME", type := (.object "com/example/luoyang/luoyang/model/TaskTransition"), accessFlags := 16409, slot := 2, constantValue := 0 }, { name := "COMPLETE", type := (.object "com/example/luoyang/luoyang/model/TaskTransition"), accessFlags := 16409, slot := 3, constantValue := 0 }, { name := "source", type := (.object "com/example/luoyang/luoyang/model/TaskState"), accessFlags := 18, slot := 3, constantValue := 0 }, { name := "target", type := (.object "com/example/luoyang/luoyang/model/TaskState"), accessFlags := 18, slot := 4, constantValue := 0 }, { name := "$VALUES", type := (.array (.object "com/example/luoyang/luoyang/model/TaskTransition")), accessFlags := 4122, slot := 4, constantValue := 0 }]
  methods := #[k6m0]
  instanceTypes := #[(.object "java/lang/String"), .int, .int, (.object "com/example/luoyang/luoyang/model/TaskState"), (.object "com/example/luoyang/luoyang/model/TaskState")]
  staticTypes := #[(.object "com/example/luoyang/luoyang/model/TaskTransition"), (.object "com/example/luoyang/luoyang/model/TaskTransition"), (.object "com/example/luoyang/luoyang/model/TaskTransition"), (.object "com/example/luoyang/luoyang/model/TaskTransition"), (.array (.object "com/example/luoyang/luoyang/model/TaskTransition"))]
  resolved := Array.replicate 94 none
  statics := some 0 }

def pool7 : Array CpInfo := pool [(1, .class_ 2), (0, u "com/example/luoyang/luoyang/model/TaskState"), (2, u "READY"), (0, u "Lcom/example/luoyang/luoyang/model/TaskState;"), (2, u "EXECUTING"), (2, u "SUSPENDED"), (2, u "COMPLETED"), (2, u "$VALUES"), (0, u "[Lcom/example/luoyang/luoyang/model/TaskState;"), (6, .class_ 28), (1, u "java/lang/Enum"), (8, u "token"), (0, u "Ljava/lang/String;")] 55

/-- com/example/luoyang/luoyang/model/TaskState -/
def k7 : Class := { plain "com/example/luoyang/luoyang/model/TaskState" (some 5) with
  accessFlags := 16433
  interfaces := #[]
  cf := some (fileOf pool7 1 #[] #[] 16433 26 #[] #[{ accessFlags := 16409, nameIndex := 5, descriptorIndex := 6, attributes := #[] }, { accessFlags := 16409, nameIndex := 9, descriptorIndex := 6, attributes := #[] }, { accessFlags := 16409, nameIndex := 12, descriptorIndex := 6, attributes := #[] }, { accessFlags := 16409, nameIndex := 15, descriptorIndex := 6, attributes := #[] }, { accessFlags := 18, nameIndex := 37, descriptorIndex := 38, attributes := #[] }, { accessFlags := 4122, nameIndex := 18, descriptorIndex := 19, attributes := #[] }])
  fields := #[{ name := "READY", type := (.object "com/example/luoyang/luoyang/model/TaskState"), accessFlags := 16409, slot := 0, constantValue := 0 }, { name := "EXECUTING", type := (.object "com/example/luoyang/luoyang/model/TaskState"), accessFlags := 16409, slot := 1, constantValue := 0 }, { name := "SUSPENDED", type := (.object "com/example/luoyang/luoyang/model/TaskState"), accessFlags := 16409, slot := 2, constantValue := 0 }, { name := "COMPLETED", type := (.object "com/example/luoyang/luoyang/model/TaskState"), accessFlags := 16409, slot := 3, constantValue := 0 }, { name := "token", type := (.object "java/lang/String"), accessFlags := 18, slot := 3, constantValue := 0 }, { name := "$VALUES", type := (.array (.object "com/example/luoyang/luoyang/model/TaskState")), accessFlags := 4122, slot := 4, constantValue := 0 }]
  methods := #[]
  instanceTypes := #[(.object "java/lang/String"), .int, .int, (.object "java/lang/String")]
  staticTypes := #[(.object "com/example/luoyang/luoyang/model/TaskState"), (.object "com/example/luoyang/luoyang/model/TaskState"), (.object "com/example/luoyang/luoyang/model/TaskState"), (.object "com/example/luoyang/luoyang/model/TaskState"), (.array (.object "com/example/luoyang/luoyang/model/TaskState"))]
  resolved := Array.replicate 94 none
  statics := some 1 }

def pool8 : Array CpInfo := pool [(1, .fieldref 2 3), (0, .class_ 4), (0, .nameAndType 5 6), (0, u "java/util/Optional"), (0, u "EMPTY"), (0, u "Ljava/util/Optional;"), (0, .methodref 8 9), (0, .class_ 10), (0, .nameAndType 11 12), (0, u "java/lang/Object"), (0, u "<init>"), (0, u "()V"), (0, .fieldref 2 14), (0, .nameAndType 15 16), (0, u "value"), (0, u "Ljava/lang/Object;"), (0, .methodref 18 19), (0, .class_ 20), (0, .nameAndType 21 22), (0, u "java/util/Objects"), (0, u "requireNonNull"), (0, u "(Ljava/lang/Object;)Ljava/lang/Object;"), (0, .methodref 2 24), (0, .nameAndType 11 25), (0, u "(Ljava/lang/Object;)V"), (20, u "()Z"), (8, u "empty"), (0, u "()Ljava/util/Optional;"), (8, u "(Ljava/lang/Object;)Ljava/util/Optional;"), (2, u "isPresent"), (4, u "get"), (0, u "()Ljava/lang/Object;"), (7, u "of")] 104

def k8c0 : Code := { maxStack := 1, maxLocals := 1, code := jdk_32_method_1_code, exceptionTable := #[], attributes := #[] }
def k8m0 : Method := { name := "empty", desc := "()Ljava/util/Optional;", sig := { parameters := [], returnType := some (.object "java/util/Optional") }, accessFlags := 9, code := some k8c0 }
def k8c1 : Code := { maxStack := 2, maxLocals := 2, code := jdk_32_method_2_code, exceptionTable := #[], attributes := #[] }
def k8m1 : Method := { name := "<init>", desc := "(Ljava/lang/Object;)V", sig := { parameters := [(.object "java/lang/Object")], returnType := none }, accessFlags := 2, code := some k8c1 }
def k8c2 : Code := { maxStack := 3, maxLocals := 1, code := jdk_32_method_3_code, exceptionTable := #[], attributes := #[] }
def k8m2 : Method := { name := "of", desc := "(Ljava/lang/Object;)Ljava/util/Optional;", sig := { parameters := [(.object "java/lang/Object")], returnType := some (.object "java/util/Optional") }, accessFlags := 9, code := some k8c2 }
def k8c3 : Code := { maxStack := 3, maxLocals := 1, code := jdk_32_method_5_code, exceptionTable := #[], attributes := #[] }
def k8m3 : Method := { name := "get", desc := "()Ljava/lang/Object;", sig := { parameters := [], returnType := some (.object "java/lang/Object") }, accessFlags := 1, code := some k8c3 }
def k8c4 : Code := { maxStack := 1, maxLocals := 1, code := jdk_32_method_6_code, exceptionTable := #[], attributes := #[] }
def k8m4 : Method := { name := "isPresent", desc := "()Z", sig := { parameters := [], returnType := some .boolean }, accessFlags := 1, code := some k8c4 }
/-- java/util/Optional -/
def k8 : Class := { plain "java/util/Optional" (some 0) with
  accessFlags := 49
  interfaces := #[]
  cf := some (fileOf pool8 2 #[] #[{ accessFlags := 9, nameIndex := 55, descriptorIndex := 56, attributes := #[] }, { accessFlags := 2, nameIndex := 11, descriptorIndex := 25, attributes := #[] }, { accessFlags := 9, nameIndex := 82, descriptorIndex := 65, attributes := #[] }, { accessFlags := 1, nameIndex := 73, descriptorIndex := 74, attributes := #[] }, { accessFlags := 1, nameIndex := 68, descriptorIndex := 46, attributes := #[] }] 49 8 #[] #[{ accessFlags := 26, nameIndex := 5, descriptorIndex := 6, attributes := #[] }, { accessFlags := 18, nameIndex := 15, descriptorIndex := 16, attributes := #[] }])
  fields := #[{ name := "EMPTY", type := (.object "java/util/Optional"), accessFlags := 26, slot := 0, constantValue := 0 }, { name := "value", type := (.object "java/lang/Object"), accessFlags := 18, slot := 0, constantValue := 0 }]
  methods := #[k8m0, k8m1, k8m2, k8m3, k8m4]
  instanceTypes := #[(.object "java/lang/Object")]
  staticTypes := #[(.object "java/util/Optional")]
  resolved := Array.replicate 187 none
  statics := some 2 }

def pool9 : Array CpInfo := pool [(2, .class_ 4), (1, u "java/lang/Object"), (0, u "<init>"), (0, u "()V"), (35, .class_ 44), (1, u "java/util/Objects"), (0, u "requireNonNull"), (0, u "(Ljava/lang/Object;)Ljava/lang/Object;")] 137

def k9m0 : Method := { name := "<init>", desc := "()V", sig := { parameters := [], returnType := none }, accessFlags := 2, code := none }
def k9c1 : Code := { maxStack := 2, maxLocals := 1, code := jdk_31_method_10_code, exceptionTable := #[], attributes := #[] }
def k9m1 : Method := { name := "requireNonNull", desc := "(Ljava/lang/Object;)Ljava/lang/Object;", sig := { parameters := [(.object "java/lang/Object")], returnType := some (.object "java/lang/Object") }, accessFlags := 9, code := some k9c1 }
/-- java/util/Objects -/
def k9 : Class := { plain "java/util/Objects" (some 0) with
  accessFlags := 49
  interfaces := #[]
  cf := some (fileOf pool9 42 #[] #[{ accessFlags := 2, nameIndex := 5, descriptorIndex := 6, attributes := #[] }, { accessFlags := 9, nameIndex := 45, descriptorIndex := 46, attributes := #[] }] 49 2 #[] #[])
  fields := #[]
  methods := #[k9m0, k9m1]
  instanceTypes := #[]
  staticTypes := #[]
  resolved := Array.replicate 184 none
  statics := none }

def pool10 : Array CpInfo := pool [(1, u "java/lang/Cloneable"), (0, .class_ 1), (0, u "java/lang/Object"), (0, .class_ 3)] 3

/-- java/lang/Cloneable -/
def k10 : Class := { plain "java/lang/Cloneable" (some 0) with
  accessFlags := 1537
  interfaces := #[]
  cf := some (fileOf pool10 2 #[] #[] 1537 4 #[] #[])
  fields := #[]
  methods := #[]
  instanceTypes := #[]
  staticTypes := #[]
  resolved := Array.replicate 8 none
  statics := none }

/-- the primitive byte -/
def k11 : Class := { plain "byte" none with kind := .primitive 'B', accessFlags := 0x411 }
/-- [B -/
def k12 : Class := { plain "[B" (some 0) with kind := .array 11 .byte, interfaces := #[10, 4], accessFlags := 1041 }

/-- the primitive int -/
def k13 : Class := { plain "int" none with kind := .primitive 'I', accessFlags := 0x411 }
/-- [I -/
def k14 : Class := { plain "[I" (some 0) with kind := .array 13 .int, interfaces := #[10, 4], accessFlags := 1041 }

def heap : Heap := #[{ cls := 6, slots := #[.ref 7, .ref 8, .ref 9, .ref 10, .null], vm := .statics 6 },
  { cls := 7, slots := #[.ref 3, .ref 4, .ref 5, .ref 6, .null], vm := .statics 7 },
  { cls := 8, slots := #[.ref 11], vm := .statics 8 },
  { cls := 7, slots := #[.null, .int 0, .int 0, .null], vm := .none },
  { cls := 7, slots := #[.null, .int 1, .int 0, .null], vm := .none },
  { cls := 7, slots := #[.null, .int 2, .int 0, .null], vm := .none },
  { cls := 7, slots := #[.null, .int 3, .int 0, .null], vm := .none },
  { cls := 6, slots := #[.null, .int 0, .int 0, .ref 3, .ref 4], vm := .none },
  { cls := 6, slots := #[.null, .int 1, .int 0, .ref 4, .ref 5], vm := .none },
  { cls := 6, slots := #[.null, .int 2, .int 0, .ref 5, .ref 4], vm := .none },
  { cls := 6, slots := #[.null, .int 3, .int 0, .ref 4, .ref 6], vm := .none },
  { cls := 8, slots := #[.null], vm := .none }]
def classes : Array Class := #[k0, k1, k2, k3, k4, k5, k6, k7, k8, k9, k10, k11, k12, k13, k14]
def interned : List (Array UInt16 × Addr) := []
def slotsUsed : Nat := 48
def theMethod : MethodId := ⟨1, 4⟩
def args0 : Array Value := #[.int 0, .int 0]
def aboutOver (below : List Frame) : State where
  vm := { classes := classes, interned := interned.toArray }
  heap := heap
  slotsUsed := slotsUsed
  threads := #[{ frames := .invoking theMethod args0 :: below }]
def below0 : List Frame := [.native { method := ⟨0, 0⟩, args := #[] }]
def about1 : State := aboutOver below0
def p0 : Program := .bare "" "" ""
def e0 : Env := launch0.env 0 0 0
theorem w_frames : about1.frames = Frame.invoking theMethod args0 :: below0 := rfl
set_option maxRecDepth 65536 in
theorem w_args : argsFit about1.vm theMethod args0 = true := by decide +kernel
set_option maxRecDepth 65536 in
theorem w_heap : heapFits about1 = true := by decide +kernel
set_option maxRecDepth 65536 in
theorem w_runnable : about1.curStatus? = some .runnable := by decide +kernel
set_option maxRecDepth 65536 in
theorem w_alone : about1.alone = true := by decide +kernel
set_option maxRecDepth 65536 in
theorem w_named : about1.methodNamed? x = some theMethod := by decide +kernel
set_option maxRecDepth 65536 in
theorem w_hears : about1.hears theMethod below0 = true := by decide +kernel
set_option maxRecDepth 65536 in
theorem w_ripe : about1.ripe theMethod args0 below0 = true := by decide +kernel
theorem w_running : about1.status = .running := rfl
set_option maxRecDepth 65536 in
theorem w_room : about1.hasRoom e0.platform room_1 = true :=
  launch0.hasRoom_least _ room_1 (by decide +kernel) (by decide +kernel) (by decide +kernel) (by decide +kernel) (by decide +kernel) (by decide +kernel)
theorem allAtoms_all (ts : List Jvm.Cond) (a : Array Jvm.Value) (st : Jvm.State) : (allAtoms ts).before a st = ts.all (fun c => c.before a st) := by
  induction ts with
  | nil => rfl
  | cons c t ih =>
    show (Jvm.Cond.and c (allAtoms t)).before a st = _
    rw [Jvm.Cond.before_and, ih, List.all_cons]
def words1 : List Jvm.Cond := Jvm.Cond.code x code maxLocals ret :: tables_1
/-- a 'code' word, met by the world's own term for the bytes: nothing is compared byte by byte -/
theorem code_word {y : MethodName} {bytes : ByteArray} {mx : Nat} {rt : Option FieldType} {a : Array Value} {s : State} {m : MethodId} {meth : Method} {c : Code} (h1 : s.methodNamed? y = some m) (h2 : s.vm.method? m = some meth) (h3 : meth.code = some c) (h4 : c.code = bytes)
    (h5 : (c.maxLocals == mx && c.exceptionTable.isEmpty && decide (c.maxStack ≤ mostOperands) && decide (meth.sig.returnType = rt) && !meth.locks && decide (parseMethodDescriptor y.desc = some meth.sig)) = true) : (Jvm.Cond.code y bytes mx rt).before a s = true := by
  simp only [Bool.and_eq_true, beq_iff_eq, Bool.not_eq_true', decide_eq_true_eq] at h5
  obtain ⟨⟨⟨⟨⟨g1, g2⟩, g3⟩, g4⟩, g5⟩, g6⟩ := h5
  simp [Cond.before, Cond.holds, Cond.value, h1, h2, h3, h4, g1, g2, g3, g4, g5, g6]
def isCode : Jvm.Cond → Bool
  | .code _ _ _ _ => true
  | _ => false
theorem all_split {L : List Jvm.Cond} {P : Jvm.Cond → Bool} (h1 : L.all (fun c => isCode c || P c) = true) (h2 : ∀ c ∈ L.filter isCode, P c = true) : L.all P = true := by
  refine List.all_eq_true.mpr fun c hc => ?_
  have h := List.all_eq_true.mp h1 c hc
  rcases Bool.eq_false_or_eq_true (isCode c) with hi | hi
  · exact h2 c (List.mem_filter.mpr ⟨hc, hi⟩)
  · simpa [hi] using h
set_option maxRecDepth 65536 in
theorem w_c0 : (Jvm.Cond.code x code maxLocals ret).before args0 about1 = true := code_word (m := ⟨1, 4⟩) (meth := k1m4) (c := k1c4) (by decide +kernel) rfl rfl rfl (by decide +kernel)
set_option maxRecDepth 65536 in
theorem w_c1 : (Jvm.Cond.code ({ cls := "com/example/luoyang/luoyang/model/TaskTransitionApplyToPinLaw", name := "move", desc := "(I)Lcom/example/luoyang/luoyang/model/TaskTransition;" } : Jvm.MethodName) method_2_code (1 : Nat) (Option.some (Jvm.ClassFile.FieldType.object "com/example/luoyang/luoyang/model/TaskTransition"))).before args0 about1 = true := code_word (m := ⟨1, 1⟩) (meth := k1m1) (c := k1c1) (by decide +kernel) rfl rfl rfl (by decide +kernel)
set_option maxRecDepth 65536 in
theorem w_c2 : (Jvm.Cond.code ({ cls := "com/example/luoyang/luoyang/model/TaskTransitionApplyToPinLaw", name := "state", desc := "(I)Lcom/example/luoyang/luoyang/model/TaskState;" } : Jvm.MethodName) method_3_code (1 : Nat) (Option.some (Jvm.ClassFile.FieldType.object "com/example/luoyang/luoyang/model/TaskState"))).before args0 about1 = true := code_word (m := ⟨1, 2⟩) (meth := k1m2) (c := k1c2) (by decide +kernel) rfl rfl rfl (by decide +kernel)
set_option maxRecDepth 65536 in
theorem w_c3 : (Jvm.Cond.code ({ cls := "com/example/luoyang/luoyang/model/TaskTransition", name := "applyTo", desc := "(Lcom/example/luoyang/luoyang/model/TaskState;)Ljava/util/Optional;" } : Jvm.MethodName) prog_62_method_6_code (2 : Nat) (Option.some (Jvm.ClassFile.FieldType.object "java/util/Optional"))).before args0 about1 = true := code_word (m := ⟨6, 0⟩) (meth := k6m0) (c := k6c0) (by decide +kernel) rfl rfl rfl (by decide +kernel)
set_option maxRecDepth 65536 in
theorem w_c4 : (Jvm.Cond.code ({ cls := "java/util/Optional", name := "empty", desc := "()Ljava/util/Optional;" } : Jvm.MethodName) jdk_32_method_1_code (1 : Nat) (Option.some (Jvm.ClassFile.FieldType.object "java/util/Optional"))).before args0 about1 = true := code_word (m := ⟨8, 0⟩) (meth := k8m0) (c := k8c0) (by decide +kernel) rfl rfl rfl (by decide +kernel)
set_option maxRecDepth 65536 in
theorem w_c5 : (Jvm.Cond.code ({ cls := "com/example/luoyang/luoyang/model/TaskTransitionApplyToPinLaw", name := "expected", desc := "(II)I" } : Jvm.MethodName) method_4_code (2 : Nat) (Option.some Jvm.ClassFile.FieldType.int)).before args0 about1 = true := code_word (m := ⟨1, 3⟩) (meth := k1m3) (c := k1c3) (by decide +kernel) rfl rfl rfl (by decide +kernel)
set_option maxRecDepth 65536 in
theorem w_c6 : (Jvm.Cond.code ({ cls := "java/util/Optional", name := "isPresent", desc := "()Z" } : Jvm.MethodName) jdk_32_method_6_code (1 : Nat) (Option.some Jvm.ClassFile.FieldType.boolean)).before args0 about1 = true := code_word (m := ⟨8, 4⟩) (meth := k8m4) (c := k8c4) (by decide +kernel) rfl rfl rfl (by decide +kernel)
set_option maxRecDepth 65536 in
theorem w_c7 : (Jvm.Cond.code ({ cls := "java/util/Optional", name := "of", desc := "(Ljava/lang/Object;)Ljava/util/Optional;" } : Jvm.MethodName) jdk_32_method_3_code (1 : Nat) (Option.some (Jvm.ClassFile.FieldType.object "java/util/Optional"))).before args0 about1 = true := code_word (m := ⟨8, 2⟩) (meth := k8m2) (c := k8c2) (by decide +kernel) rfl rfl rfl (by decide +kernel)
set_option maxRecDepth 65536 in
theorem w_c8 : (Jvm.Cond.code ({ cls := "java/util/Objects", name := "requireNonNull", desc := "(Ljava/lang/Object;)Ljava/lang/Object;" } : Jvm.MethodName) jdk_31_method_10_code (1 : Nat) (Option.some (Jvm.ClassFile.FieldType.object "java/lang/Object"))).before args0 about1 = true := code_word (m := ⟨9, 1⟩) (meth := k9m1) (c := k9c1) (by decide +kernel) rfl rfl rfl (by decide +kernel)
set_option maxRecDepth 65536 in
theorem w_c9 : (Jvm.Cond.code ({ cls := "java/util/Optional", name := "<init>", desc := "(Ljava/lang/Object;)V" } : Jvm.MethodName) jdk_32_method_2_code (2 : Nat) (Option.none : Option Jvm.ClassFile.FieldType)).before args0 about1 = true := code_word (m := ⟨8, 1⟩) (meth := k8m1) (c := k8c1) (by decide +kernel) rfl rfl rfl (by decide +kernel)
set_option maxRecDepth 65536 in
theorem w_c10 : (Jvm.Cond.code ({ cls := "java/lang/Object", name := "<init>", desc := "()V" } : Jvm.MethodName) object_method_1_code (1 : Nat) (Option.none : Option Jvm.ClassFile.FieldType)).before args0 about1 = true := code_word (m := ⟨0, 0⟩) (meth := k0m0) (c := k0c0) (by decide +kernel) rfl rfl rfl (by decide +kernel)
set_option maxRecDepth 65536 in
theorem w_c11 : (Jvm.Cond.code ({ cls := "java/util/Optional", name := "get", desc := "()Ljava/lang/Object;" } : Jvm.MethodName) jdk_32_method_5_code (1 : Nat) (Option.some (Jvm.ClassFile.FieldType.object "java/lang/Object"))).before args0 about1 = true := code_word (m := ⟨8, 3⟩) (meth := k8m3) (c := k8c3) (by decide +kernel) rfl rfl rfl (by decide +kernel)
def codes1 : List Jvm.Cond := [Jvm.Cond.code x code maxLocals ret, Jvm.Cond.code ({ cls := "com/example/luoyang/luoyang/model/TaskTransitionApplyToPinLaw", name := "move", desc := "(I)Lcom/example/luoyang/luoyang/model/TaskTransition;" } : Jvm.MethodName) method_2_code (1 : Nat) (Option.some (Jvm.ClassFile.FieldType.object "com/example/luoyang/luoyang/model/TaskTransition")), Jvm.Cond.code ({ cls := "com/example/luoyang/luoyang/model/TaskTransitionApplyToPinLaw", name := "state", desc := "(I)Lcom/example/luoyang/luoyang/model/TaskState;" } : Jvm.MethodName) method_3_code (1 : Nat) (Option.some (Jvm.ClassFile.FieldType.object "com/example/luoyang/luoyang/model/TaskState")), Jvm.Cond.code ({ cls := "com/example/luoyang/luoyang/model/TaskTransition", name := "applyTo", desc := "(Lcom/example/luoyang/luoyang/model/TaskState;)Ljava/util/Optional;" } : Jvm.MethodName) prog_62_method_6_code (2 : Nat) (Option.some (Jvm.ClassFile.FieldType.object "java/util/Optional")), Jvm.Cond.code ({ cls := "java/util/Optional", name := "empty", desc := "()Ljava/util/Optional;" } : Jvm.MethodName) jdk_32_method_1_code (1 : Nat) (Option.some (Jvm.ClassFile.FieldType.object "java/util/Optional")), Jvm.Cond.code ({ cls := "com/example/luoyang/luoyang/model/TaskTransitionApplyToPinLaw", name := "expected", desc := "(II)I" } : Jvm.MethodName) method_4_code (2 : Nat) (Option.some Jvm.ClassFile.FieldType.int), Jvm.Cond.code ({ cls := "java/util/Optional", name := "isPresent", desc := "()Z" } : Jvm.MethodName) jdk_32_method_6_code (1 : Nat) (Option.some Jvm.ClassFile.FieldType.boolean), Jvm.Cond.code ({ cls := "java/util/Optional", name := "of", desc := "(Ljava/lang/Object;)Ljava/util/Optional;" } : Jvm.MethodName) jdk_32_method_3_code (1 : Nat) (Option.some (Jvm.ClassFile.FieldType.object "java/util/Optional")), Jvm.Cond.code ({ cls := "java/util/Objects", name := "requireNonNull", desc := "(Ljava/lang/Object;)Ljava/lang/Object;" } : Jvm.MethodName) jdk_31_method_10_code (1 : Nat) (Option.some (Jvm.ClassFile.FieldType.object "java/lang/Object")), Jvm.Cond.code ({ cls := "java/util/Optional", name := "<init>", desc := "(Ljava/lang/Object;)V" } : Jvm.MethodName) jdk_32_method_2_code (2 : Nat) (Option.none : Option Jvm.ClassFile.FieldType), Jvm.Cond.code ({ cls := "java/lang/Object", name := "<init>", desc := "()V" } : Jvm.MethodName) object_method_1_code (1 : Nat) (Option.none : Option Jvm.ClassFile.FieldType), Jvm.Cond.code ({ cls := "java/util/Optional", name := "get", desc := "()Ljava/lang/Object;" } : Jvm.MethodName) jdk_32_method_5_code (1 : Nat) (Option.some (Jvm.ClassFile.FieldType.object "java/lang/Object"))]
set_option maxRecDepth 65536 in
theorem codes_eq : words1.filter isCode = codes1 := rfl
theorem w_codes : ∀ c ∈ words1.filter isCode, c.before args0 about1 = true := by
  rw [codes_eq]
  intro c hc
  simp only [codes1, List.mem_cons, List.not_mem_nil, or_false] at hc
  rcases hc with rfl | rfl | rfl | rfl | rfl | rfl | rfl | rfl | rfl | rfl | rfl | rfl
  · exact w_c0
  · exact w_c1
  · exact w_c2
  · exact w_c3
  · exact w_c4
  · exact w_c5
  · exact w_c6
  · exact w_c7
  · exact w_c8
  · exact w_c9
  · exact w_c10
  · exact w_c11
set_option maxRecDepth 65536 in
theorem w_t1 : (words1.take 24).all (fun c => isCode c || c.before args0 about1) = true := by decide +kernel
set_option maxRecDepth 65536 in
theorem w_t2 : ((words1.drop 24).take 24).all (fun c => isCode c || c.before args0 about1) = true := by decide +kernel
set_option maxRecDepth 65536 in
theorem w_t3 : ((words1.drop 24).drop 24).all (fun c => isCode c || c.before args0 about1) = true := by decide +kernel
theorem w_tables : (allAtoms (Jvm.Cond.code x code maxLocals ret :: tables_1)).before args0 about1 = true := by
  rw [allAtoms_all]
  show words1.all (fun c => c.before args0 about1) = true
  refine all_split ?_ w_codes
  rw [← List.take_append_drop 24 words1, List.all_append, w_t1, ← List.take_append_drop 24 (words1.drop 24), List.all_append, w_t2, w_t3]
  rfl
set_option maxRecDepth 65536 in
theorem w_rest : rest_1_c.before args0 about1 = true := by decide +kernel
set_option maxRecDepth 65536 in
theorem w_case : (Jvm.Cond.and given_1 narrow_1).before args0 about1 = true := by decide +kernel
theorem w_applies : (headSpec (Jvm.Cond.code x code maxLocals ret :: tables_1) room_1).applies x e0.platform about1 = true :=
  (Spec.applies_iff w_frames).mpr ⟨w_running, w_runnable, w_alone, w_named, w_hears, w_ripe, w_room, w_tables⟩
theorem atStart : AtStart classFile x code maxLocals ret World_1 tables_1 room_1 Calls_1 rest_1 Pre_1 launch0 p0 e0 about1 theMethod args0 below0 :=
  ⟨lists_1, trivial, launch0.admits_env _ _ _, launch0.least_env, fairChoices_fair.cas, fairChoices_fair.clock, w_frames, w_args, w_heap, w_applies, trivial, w_rest, w_case⟩
end start1
theorem witness_1 : WitnessClaimed_1 := ⟨start1.p0, start1.e0, start1.about1, start1.theMethod, start1.args0, start1.below0, start1.atStart⟩
end Jvm.Pilot.@@N@@
