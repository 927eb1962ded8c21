import JvmDerived
import JvmDerived.Pilot.@@N@@Statement
import JvmDerived.Pilot.@@N@@Code
set_option linter.unusedVariables false
set_option linter.unusedSimpArgs false
namespace Jvm.RoadKit
open Sem ClassFile Op Lib Jvm.Stand Jvm.Free Jvm.LawKit
section Own
variable {p : Program} {l : Launch} {e : Env} {R : Room} {s : State} {m : MethodId} {args : Array Value} {below : List Frame} {meth : Method} {c : Code} {T : State} {locs : List Loc} {cells slots : Nat} {Z : State} {a0 : Array Value} {h : Heap}
theorem retI (X : Stand p l e R s m args below meth c T locs cells slots) (hx : p.tables.exec = Jvm.exec) {pc : Nat} {Ls : Array Slot} {z : Int32} {rest : List Value} (hret : meth.sig.returnType = some .int) (hd : decode c.code pc = .ok (.ireturn, 1)) {fs : List Frame}
    (hl : ∀ (f : JFrame) (acts : List Action), f.method = m → f.locked = none → f.entered = [] → (doReturn e (T.setTop f) acts (some (.int z))).1 = T.setFrames fs) : Steps p.tables e below (T.setTop (mkF m pc Ls (.int z :: rest))) (T.setFrames fs) := by
  have hm' : T.vm.method? m = some meth := X.method'
  have hn : narrow .int (.int z) = .int z := rfl
  show Steps p.tables e below (T.setTop { method := m, pc := pc, locals := Ls, stack := _ :: rest, locked := none }) _
  jvm_step X.here [X.here.top, hx, hd, hm', hret, hn]
  first | (intro acts; rw [hl _ acts rfl rfl rfl]) | rw [hl _ _ rfl rfl rfl]
  exact Steps.refl _
theorem own_retN (X : Stand p l e R s m args below meth c T locs cells slots) (hx : p.tables.exec = Jvm.exec) {pc : Nat} {Ls : Array Slot} {z z' : Int32} {t : FieldType} {rest : List Value} (hret : meth.sig.returnType = some t) (ht : t = .boolean ∨ t = .byte ∨ t = .char ∨ t = .short)
    (hd : decode c.code pc = .ok (.ireturn, 1)) (eq : nar t z = z') {fs : List Frame} (hl : ∀ (f : JFrame) (acts : List Action), f.method = m → f.locked = none → f.entered = [] → (doReturn e (T.setTop f) acts (some (.int z'))).1 = T.setFrames fs) :
    Steps p.tables e below (T.setTop (mkF m pc Ls (.int z :: rest))) (T.setFrames fs) := retN X hx hret ht hd (by rw [eq]; exact hl)
/-- the run comes from S to an end of which Q holds -/
def ownGo (p : Program) (e : Env) (below : List Frame) (Q : Outcome → State → Prop) (S : State) : Prop := ∃ s₂ o, Steps p.tables e below S s₂ ∧ s₂.status = .running ∧ Ended s₂ below o ∧ Q o s₂
theorem own_st {Q : Outcome → State → Prop} {S : State} (S' : State) (h : ∀ t, Steps p.tables e below S' t → Steps p.tables e below S t) (k : ownGo p e below Q S') : ownGo p e below Q S := by
  obtain ⟨a, b, h1, h2⟩ := k; exact ⟨a, b, h _ h1, h2⟩
theorem own_cast {Q : Outcome → State → Prop} {g g' : JFrame} (q : g = g') (k : ownGo p e below Q (T.setTop g')) : ownGo p e below Q (T.setTop g) := q ▸ k
def ownQ (s : State) (QQ : Option Value → Heap → List Loc → Prop) (C N : Nat) : Outcome → State → Prop := fun o U' => ∃ v L, o = .returned v ∧ QQ v U'.heap L ∧ FrameEnd s o U' L C N
theorem own_ret (X : Stand p l e R s m args below meth c T locs cells slots) (hlk : meth.locks = false) {v : Option Value} (hv : meth.sig.returnType = none → v = none) {QQ : Option Value → Heap → List Loc → Prop} {C N : Nat} (eT : T.heap = h) (hq : QQ v h locs) (hC : cells ≤ C) (hN : slots ≤ N) {S : State}
    (hs : ∀ fs, (∀ (f : JFrame) (acts : List Action), f.method = m → f.locked = none → f.entered = [] → (doReturn e (T.setTop f) acts v).1 = T.setFrames fs) → Steps p.tables e below S (T.setFrames fs)) : ownGo p e below (ownQ s QQ C N) S := by
  obtain ⟨fs, hr, hrun, hended, hW, hsame⟩ := X.leave (v := v) hv hlk
  exact ⟨_, _, hs fs hr, hrun, hended, v, locs, rfl, (by show QQ v T.heap locs; rw [eT]; exact hq), ⟨_, rfl⟩, hW, hsame.mono hC hN⟩
/-- a body's contract -/
abbrev ownMet (l : Launch) (y : MethodName) (bytes : ByteArray) (maxL : Nat) (ret : Option FieldType) (ws : List Jvm.Cond) (rm : Room) (Z : State) (as : Array Value) (h0 : Heap) (QQ : Option Value → Heap → List Loc → Prop) : Prop :=
  MetFree l y (head1 (Jvm.Cond.code y bytes maxL ret :: ws) rm) (fun a U => a = as ∧ Z.Warmed39 U.vm ∧ U.heap = h0) (fun _ _ _ _ _ => True) (fun _ U o U' => ∃ v L, o = .returned v ∧ QQ v U'.heap L ∧ FrameEnd U o U' L rm.cells rm.slots)
theorem own_met {y : MethodName} {bytes : ByteArray} {maxL : Nat} {ret : Option FieldType} {ws : List Jvm.Cond} {rm : Room} {as : Array Value} {h0 : Heap} {QQ : Option Value → Heap → List Loc → Prop} (hpl : plainFor y = true)
    (body : ∀ (p : Program) (e : Env) (s : State) (m : MethodId) (below : List Frame) (meth : Method) (c : Code) (s₁ : State), p.tables.exec = Jvm.exec → c.code = bytes → c.maxLocals = maxL → s.vm.findClass y.cls = some m.cls → meth.name = y.name → meth.sig.returnType = ret → meth.locks = false → Z.Warmed39 s.vm → s₁.heap = h0 → Stand p l e rm s m as below meth c s₁ [] 0 0 →
      ownGo p e below (ownQ s QQ rm.cells rm.slots) (s₁.setTop (entryFrame m as maxL))) : ownMet l y bytes maxL ret ws rm Z as h0 QQ := by
  refine MetFree.of_bodySF hpl hisR ?_
  intro p e s m args below meth c s₁ Bd hml0 hP hK
  obtain ⟨rfl, hZ, hh⟩ := hP
  exact body p e s m below meth c s₁ Bd.exec Bd.bytes hml0 (findClass_of_methodNamed Bd.named) (name_of_methodNamed Bd.named Bd.method).1 Bd.returns Bd.notSynchronized hZ (by rw [← hh, Bd.state]; rfl) (Stand.of_body Bd)
theorem own_callS (X : Stand p l e R s m args below meth c T locs cells slots) (hx : p.tables.exec = Jvm.exec) (hZ : Z.Warmed39 s.vm) {own : String} {index : Nat} {y : MethodName} {bytes : ByteArray} {maxL : Nat} {ret : Option FieldType} (hown : s.vm.findClass own = some m.cls)
    (w1 : (Jvm.Cond.methodLink own index y).before a0 Z = true) (w2 : (Jvm.Cond.static y).before a0 Z = true) (w3 : (Jvm.Cond.initialized y.cls).before a0 Z = true) (w4 : (Jvm.Cond.code y bytes maxL ret).before a0 Z = true)
    {rm : Room} {QQ : Option Value → Heap → List Loc → Prop} {argsL : List Value} (hM : ownMet l y bytes maxL ret [] rm Z argsL.toArray h QQ) (W : Nat)
    (hy : y.cls ≠ "java/lang/invoke/MethodHandle" ∧ y.cls ≠ "java/lang/invoke/VarHandle") (hf : rm.frames + 1 ≤ R.frames) (hl : W + (maxL + 11) + rm.locals ≤ R.locals) (hc : cells + rm.cells ≤ R.cells) (hs : slots + rm.slots ≤ R.slots)
    (eT : T.heap = h) {g : JFrame} (hg : g.method = m) (hsize : g.locals.size = c.maxLocals) (rest : List Value) (hlen : ∀ sig, parseMethodDescriptor y.desc = some sig → argsL.length = sig.parameters.length) (hstack : g.stack = argsL.reverse ++ rest) (hW : 2 * g.monitorRoom + (rest.map fun v => v.category).sum ≤ W) (hdg : decode c.code g.pc = .ok (.invokestatic index, 3)) :
    ∃ v T' L, Stand p l e R s m args below meth c T' (locs ++ L) (cells + rm.cells) (slots + rm.slots) ∧ QQ v T'.heap L ∧ ∀ target, Steps p.tables e below (T'.setTop { g with pc := g.pc + 3, stack := v.toList ++ rest }) target → Steps p.tables e below (T.setTop g) target := by
  obtain ⟨v, _, ⟨T1, L1, k1, n1⟩, -, X1, ⟨Lc, hQ, l1, y1, z1⟩, st⟩ := Jvm.LawKit.callS X hx (y := y) hown (mvT hZ w1) (mvT hZ w2) (mvT hZ w3) (mvT hZ w4) hy (backOf (W := W) hM hZ w4 w3 hf hl) hg hsize (argsL := argsL) (rest := rest) hlen hstack hW hdg (fun _ _ => ⟨rfl, eT, hc, hs⟩)
  dsimp only [Pt.U, Pt.locs, Pt.cells, Pt.slots] at X1 l1 y1 z1 st hQ
  subst l1 y1 z1
  exact ⟨v, T1, Lc, X1, hQ, st⟩
theorem own_callI (X : Stand p l e R s m args below meth c T locs cells slots) (hx : p.tables.exec = Jvm.exec) (hZ : Z.Warmed39 s.vm) {own : String} {index : Nat} {y : MethodName} {bytes : ByteArray} {maxL : Nat} (hown : s.vm.findClass own = some m.cls) (hy1 : y.name = "<init>")
    (w1 : (Jvm.Cond.methodLink own index y).before a0 Z = true) (w2 : (Jvm.Cond.instanceMethod y).before a0 Z = true) (w3 : (Jvm.Cond.initialized y.cls).before a0 Z = true) (w4 : (Jvm.Cond.code y bytes maxL none).before a0 Z = true)
    {rm : Room} {QQ : Option Value → Heap → List Loc → Prop} {a : Addr} {argsL : List Value} (hM : ownMet l y bytes maxL none [] rm Z (.ref a :: argsL).toArray h QQ) (W : Nat)
    (hy : y.cls ≠ "java/lang/invoke/MethodHandle" ∧ y.cls ≠ "java/lang/invoke/VarHandle") (hf : rm.frames + 1 ≤ R.frames) (hl : W + (maxL + 11) + rm.locals ≤ R.locals) (hc : cells + rm.cells ≤ R.cells) (hs : slots + rm.slots ≤ R.slots)
    (eT : T.heap = h) {g : JFrame} (hg : g.method = m) (hsize : g.locals.size = c.maxLocals) (rest : List Value) (hlen : ∀ sig, parseMethodDescriptor y.desc = some sig → argsL.length = sig.parameters.length) (hstack : g.stack = argsL.reverse ++ .ref a :: rest) (hW : 2 * g.monitorRoom + (rest.map fun v => v.category).sum ≤ W) (hdg : decode c.code g.pc = .ok (.invokespecial index, 3)) :
    ∃ v T' L, Stand p l e R s m args below meth c T' (locs ++ L) (cells + rm.cells) (slots + rm.slots) ∧ QQ v T'.heap L ∧ ∀ target, Steps p.tables e below (T'.setTop { g with pc := g.pc + 3, stack := v.toList ++ rest }) target → Steps p.tables e below (T.setTop g) target := by
  obtain ⟨v, _, ⟨T1, L1, k1, n1⟩, -, X1, ⟨Lc, hQ, l1, y1, z1⟩, st⟩ := X.specialBack hx (y := y) hy1 hown (mvT hZ w1) (mvT hZ w2) (mvT hZ w4) hy (backOf (W := W) hM hZ w4 w3 hf hl) hg hsize (Steps.refl _) (a := a) (argsL := argsL) (rest := rest) hlen hstack hW hdg (fun _ _ => ⟨rfl, eT, hc, hs⟩)
  dsimp only [Pt.U, Pt.locs, Pt.cells, Pt.slots] at X1 l1 y1 z1 st hQ
  subst l1 y1 z1
  exact ⟨v, T1, Lc, X1, hQ, fun t k => st.trans k⟩
theorem own_nfz {y : MethodName} (hZ : Z.Warmed39 s.vm) (nf : NotFace Z y) : NotFace s y := fun r0 h0 => by
  have e : (Z.setVm s.vm).methodNamed? y = some r0 := h0
  rw [State.methodNamed?_setVm hZ.alike] at e
  obtain ⟨kr, a1, a2⟩ := nf r0 e
  obtain ⟨k', q1, q2⟩ := hZ.alike.2.2 _ _ a1
  exact ⟨k', q1, by rw [q2]; exact a2⟩
theorem own_callV (X : Stand p l e R s m args below meth c T locs cells slots) (hx : p.tables.exec = Jvm.exec) (hZ : Z.Warmed39 s.vm) {own C : String} {index : Nat} {y z : MethodName} {bytes : ByteArray} {maxL : Nat} {ret : Option FieldType} (hown : s.vm.findClass own = some m.cls)
    (w1 : (Jvm.Cond.methodLink own index y).before a0 Z = true) (wd : (Jvm.Cond.declares y).before a0 Z = true) (nf : NotFace Z y) (wsel : (Jvm.Cond.selects C y z).before a0 Z = true) (w2 : (Jvm.Cond.instanceMethod z).before a0 Z = true) (w3 : (Jvm.Cond.initialized z.cls).before a0 Z = true) (w4 : (Jvm.Cond.code z bytes maxL ret).before a0 Z = true)
    {b : Addr} (E : Exa Z h b C) {rm : Room} {QQ : Option Value → Heap → List Loc → Prop} {argsL : List Value} (hM : ownMet l z bytes maxL ret [] rm Z (.ref b :: argsL).toArray h QQ) (W : Nat)
    (hy : y.cls ≠ "java/lang/invoke/MethodHandle" ∧ y.cls ≠ "java/lang/invoke/VarHandle") (hf : rm.frames + 1 ≤ R.frames) (hl : W + (maxL + 11) + rm.locals ≤ R.locals) (hc : cells + rm.cells ≤ R.cells) (hs : slots + rm.slots ≤ R.slots)
    (eT : T.heap = h) {g : JFrame} (hg : g.method = m) (hsize : g.locals.size = c.maxLocals) (rest : List Value) (hlen : ∀ sig, parseMethodDescriptor y.desc = some sig → argsL.length = sig.parameters.length) (hstack : g.stack = argsL.reverse ++ .ref b :: rest) (hW : 2 * g.monitorRoom + (rest.map fun v => v.category).sum ≤ W) (hdg : decode c.code g.pc = .ok (.invokevirtual index, 3)) :
    ∃ v T' L, Stand p l e R s m args below meth c T' (locs ++ L) (cells + rm.cells) (slots + rm.slots) ∧ QQ v T'.heap L ∧ ∀ target, Steps p.tables e below (T'.setTop { g with pc := g.pc + 3, stack := v.toList ++ rest }) target → Steps p.tables e below (T.setTop g) target := by
  obtain ⟨cq, kq, qa, qb, qc⟩ := isOf (T := T) hZ eT E
  obtain ⟨v, _, ⟨T1, L1, k1, n1⟩, -, X1, ⟨Lc, hQ, l1, y1, z1⟩, st⟩ := X.virtualBack hx (y := y) (z := z) hown (mvT hZ w1) (mvT hZ wd) (own_nfz hZ nf) (mvT hZ wsel) (mvT hZ w2) hy (backOf (W := W) hM hZ w4 w3 hf hl) qa qc hg hsize (Steps.refl _) (argsL := argsL) (rest := rest) hlen hstack hW hdg (fun _ _ => ⟨rfl, eT, hc, hs⟩)
  dsimp only [Pt.U, Pt.locs, Pt.cells, Pt.slots] at X1 l1 y1 z1 st hQ
  subst l1 y1 z1
  exact ⟨v, T1, Lc, X1, hQ, fun t k => st.trans k⟩
theorem own_eqI {first : State} {o : Option Outcome} {idx : List Nat} {a b : Term} {n : Int32} (h : (Jvm.Cond.eq a b).value args first o s idx = some true) (hb : b.eval args first o idx s = some (.int n)) : a.eval args first o idx s = some (.int n) := by
  obtain ⟨x, y, ex, ey, k1, k2⟩ := cmp_v (Or.inl h)
  cases ey.symm.trans hb
  obtain ⟨z, rfl⟩ := k2
  rw [ex, gotT (Jvm.Cond.eq_ints ex hb) h]
theorem own_eqR {first : State} {o : Option Outcome} {idx : List Nat} {a b : Term} {y : Addr} (h : (Jvm.Cond.eq a b).value args first o s idx = some true) (hb : b.eval args first o idx s = some (.ref y)) : a.eval args first o idx s = some (.ref y) := by
  obtain ⟨x, y', ex, ey, k1, k2⟩ := cmp_v (Or.inl h)
  cases ey.symm.trans hb
  have q := gotT (eq_R ex hb k2.2 rfl) h
  rw [ex, q]
theorem own_arv {t : Term} {a : Addr} {cl : Cell} {ty : FieldType} {z : Int32} {vs : List Value} {dv : Value} (hf : Fit s) (A : Arr s s.heap a cl ty) (ev : t.eval args s none [] s = some (.ref a)) (hl : (Term.length t).eval args s none [] s = some (.int z)) (hz : ¬ z < 0) (hn : z.toNatClampNeg = vs.length) (H : HasL cl 0 vs) : Arv s s.heap a cl.cls ty z vs dv := by
  have harr := A.fin (Vm.Alike.refl _)
  have h31 := SBG.length_lt ev harr hl
  have e := Option.some.inj ((len_f ev harr h31).symm.trans hl)
  exact Arv.start hf A h31 (Value.int.inj e) hz hn H
theorem own_nfc {y y' : MethodName} {r : MethodId} (h : NotFace s y') (hr : s.methodNamed? y' = some r) (hc : y.cls = y'.cls) : NotFace s y := fun r0 h0 => by
  obtain ⟨kr, a1, a2⟩ := h r hr
  have q1 := findClass_of_methodNamed h0
  have q2 := findClass_of_methodNamed hr
  rw [hc] at q1
  have e : r0.cls = r.cls := Option.some.inj (q1.symm.trans q2)
  exact ⟨kr, by rw [e]; exact a1, a2⟩
theorem own_named {y : MethodName} (w : (Jvm.Cond.instanceMethod y).before a0 s = true) : ∃ r, s.methodNamed? y = some r := by
  obtain ⟨mk, methM, hnamed, -⟩ := Jvm.Cond.instanceMethod_spec w
  exact ⟨mk, hnamed⟩
theorem own_same {y : MethodName} (nf : NotFace s y) (w : (Jvm.Cond.instanceMethod y).before a0 s = true) (hy : y.cls ≠ "java/lang/invoke/MethodHandle" ∧ y.cls ≠ "java/lang/invoke/VarHandle") : (Jvm.Cond.sameMethod y.cls y.cls y.name y.desc).before args s = true := by
  obtain ⟨r, hr⟩ := own_named w
  obtain ⟨kr, a1, a2⟩ := nf r hr
  have q1 := findClass_of_methodNamed hr
  have q2 := State.methodFound?_of_named hr hy
  have hr' : s.methodNamed? ⟨y.cls, y.name, y.desc⟩ = some r := hr
  simp [Jvm.Cond.before, Jvm.Cond.holds, Jvm.Cond.value, q1, q2, hr', a1, a2]
theorem own_callP (X : Stand p l e R s m args below meth c T locs cells slots) (hx : p.tables.exec = Jvm.exec) (hZ : Z.Warmed39 s.vm) {own C : String} {index : Nat} {y : MethodName} {bytes : ByteArray} {maxL : Nat} {ret : Option FieldType} (hown : s.vm.findClass own = some m.cls)
    (w1 : (Jvm.Cond.methodLink own index y).before a0 Z = true) (wp : (Jvm.Cond.privateMethod y).before a0 Z = true) (nf : NotFace Z y) (w2 : (Jvm.Cond.instanceMethod y).before a0 Z = true) (w3 : (Jvm.Cond.initialized y.cls).before a0 Z = true) (w4 : (Jvm.Cond.code y bytes maxL ret).before a0 Z = true)
    {b : Addr} (E : Exa Z h b C) {rm : Room} {QQ : Option Value → Heap → List Loc → Prop} {argsL : List Value} (hM : ownMet l y bytes maxL ret [] rm Z (.ref b :: argsL).toArray h QQ) (W : Nat)
    (hy : y.cls ≠ "java/lang/invoke/MethodHandle" ∧ y.cls ≠ "java/lang/invoke/VarHandle") (hf : rm.frames + 1 ≤ R.frames) (hl : W + (maxL + 11) + rm.locals ≤ R.locals) (hc : cells + rm.cells ≤ R.cells) (hs : slots + rm.slots ≤ R.slots)
    (eT : T.heap = h) {g : JFrame} (hg : g.method = m) (hsize : g.locals.size = c.maxLocals) (rest : List Value) (hlen : ∀ sig, parseMethodDescriptor y.desc = some sig → argsL.length = sig.parameters.length) (hstack : g.stack = argsL.reverse ++ .ref b :: rest) (hW : 2 * g.monitorRoom + (rest.map fun v => v.category).sum ≤ W) (hdg : decode c.code g.pc = .ok (.invokevirtual index, 3)) :
    ∃ v T' L, Stand p l e R s m args below meth c T' (locs ++ L) (cells + rm.cells) (slots + rm.slots) ∧ QQ v T'.heap L ∧ ∀ target, Steps p.tables e below (T'.setTop { g with pc := g.pc + 3, stack := v.toList ++ rest }) target → Steps p.tables e below (T.setTop g) target := by
  obtain ⟨cell, hcell, hobj⟩ := E.cell
  obtain ⟨mk, methM, hnamed, hmethM, hstM, habM⟩ := Jvm.Cond.instanceMethod_spec (mvT (args := args) hZ w2)
  obtain ⟨methM', cM, hmethM', -, -, -, -, -, -, hsigM⟩ := Jvm.Cond.code_spec hnamed (mvT (args := args) hZ w4)
  cases hmethM.symm.trans hmethM'
  obtain ⟨kP, hkP, hkPi⟩ := own_nfz hZ nf mk hnamed
  have hselP : selectMethod e.platform s.vm cell.cls mk = .method mk := selectMethod_private hmethM ((Jvm.Cond.privateMethod_at (mvP (args := #[]) hZ wp)) mk methM hnamed hmethM)
  obtain ⟨vm₁, X₁, hstep₁⟩ := X.invokevirtual hx hown (mvT hZ w1) hnamed hmethM hstM hkP hkPi hy (a := b) (cell := cell) (by rw [eT]; exact hcell) hobj hselP hmethM habM hkP hkPi (g := g) hg (argsL := argsL) (rest := rest) (hlen _ hsigM) hstack hdg
  obtain ⟨v, ⟨T1, L1, k1, n1⟩, X1, ⟨Lc, hQ, l1, y1, z1⟩, st⟩ := (backOf (len := 3) (W := W) (p := p) (e := e) (below := below) (args := args) (R := R) hM hZ w4 w3 hf hl) m meth c ⟨T.setVm vm₁, locs, cells, slots⟩ { g with stack := rest } (.invokevirtual index) mk (.ref b :: argsL).toArray X₁ hg hsize hdg hW (X₁.named hnamed) ⟨rfl, eT, hc, hs⟩
  dsimp only [Pt.U, Pt.locs, Pt.cells, Pt.slots] at X1 l1 y1 z1 st hQ
  subst l1 y1 z1
  exact ⟨v, T1, Lc, X1, hQ, fun t k => hstep₁ _ fun acts => by rw [doInvoke_state]; exact st.trans k⟩
theorem own_callU (X : Stand p l e R s m args below meth c T locs cells slots) (hx : p.tables.exec = Jvm.exec) (hZ : Z.Warmed39 s.vm) {own C owner : String} {index : Nat} {y z : MethodName} {bytes : ByteArray} {maxL : Nat} {ret : Option FieldType} (hown : s.vm.findClass own = some m.cls)
    (w1 : (Jvm.Cond.methodLink own index y).before a0 Z = true) (wsm : (Jvm.Cond.sameMethod y.cls owner y.name y.desc).before a0 Z = true) (wd : (Jvm.Cond.declares ⟨owner, y.name, y.desc⟩).before a0 Z = true) (hyo : owner ≠ "java/lang/invoke/MethodHandle" ∧ owner ≠ "java/lang/invoke/VarHandle") (wsel : (Jvm.Cond.selects C y z).before a0 Z = true) (w2 : (Jvm.Cond.instanceMethod z).before a0 Z = true) (w3 : (Jvm.Cond.initialized z.cls).before a0 Z = true) (w4 : (Jvm.Cond.code z bytes maxL ret).before a0 Z = true)
    {b : Addr} (E : Exa Z h b C) {rm : Room} {QQ : Option Value → Heap → List Loc → Prop} {argsL : List Value} (hM : ownMet l z bytes maxL ret [] rm Z (.ref b :: argsL).toArray h QQ) (W : Nat)
    (hf : rm.frames + 1 ≤ R.frames) (hl : W + (maxL + 11) + rm.locals ≤ R.locals) (hc : cells + rm.cells ≤ R.cells) (hs : slots + rm.slots ≤ R.slots)
    (eT : T.heap = h) {g : JFrame} (hg : g.method = m) (hsize : g.locals.size = c.maxLocals) (rest : List Value) (hlen : ∀ sig, parseMethodDescriptor y.desc = some sig → argsL.length = sig.parameters.length) (hstack : g.stack = argsL.reverse ++ .ref b :: rest) (hW : 2 * g.monitorRoom + (rest.map fun v => v.category).sum ≤ W) (hdg : decode c.code g.pc = .ok (.invokevirtual index, 3)) :
    ∃ v T' L, Stand p l e R s m args below meth c T' (locs ++ L) (cells + rm.cells) (slots + rm.slots) ∧ QQ v T'.heap L ∧ ∀ target, Steps p.tables e below (T'.setTop { g with pc := g.pc + 3, stack := v.toList ++ rest }) target → Steps p.tables e below (T.setTop g) target := by
  obtain ⟨cq, kq, qa, qb, qc⟩ := isOf (T := T) hZ eT E
  obtain ⟨v, _, ⟨T1, L1, k1, n1⟩, -, X1, ⟨Lc, hQ, l1, y1, z1⟩, st⟩ := X.virtualBackUp hx (x := y) (y := z) (owner := owner) hown (mvT hZ w1) (mvT hZ wsm) (mvT hZ wd) hyo (mvT hZ wsel) (mvT hZ w2) (backOf (W := W) hM hZ w4 w3 hf hl) qa qc hg hsize (Steps.refl _) (argsL := argsL) (rest := rest) hlen hstack hW hdg (fun _ _ => ⟨rfl, eT, hc, hs⟩)
  dsimp only [Pt.U, Pt.locs, Pt.cells, Pt.slots] at X1 l1 y1 z1 st hQ
  subst l1 y1 z1
  exact ⟨v, T1, Lc, X1, hQ, fun t k => st.trans k⟩
theorem own_callSup (X : Stand p l e R s m args below meth c T locs cells slots) (hx : p.tables.exec = Jvm.exec) (hZ : Z.Warmed39 s.vm) {own C : String} {index : Nat} {y : MethodName} {bytes : ByteArray} {maxL : Nat} {ret : Option FieldType} (hown : s.vm.findClass own = some m.cls)
    (w1 : (Jvm.Cond.methodLink own index y).before a0 Z = true) (nf : NotFace Z y) (w2 : (Jvm.Cond.instanceMethod y).before a0 Z = true) (wsu : (Jvm.Cond.superclass own y.cls).before a0 Z = true) (hn : y.name ≠ "<init>") (w3 : (Jvm.Cond.initialized y.cls).before a0 Z = true) (w4 : (Jvm.Cond.code y bytes maxL ret).before a0 Z = true)
    {b : Addr} (E : Exa Z h b C) {rm : Room} {QQ : Option Value → Heap → List Loc → Prop} {argsL : List Value} (hM : ownMet l y bytes maxL ret [] rm Z (.ref b :: argsL).toArray h QQ) (W : Nat)
    (hy : y.cls ≠ "java/lang/invoke/MethodHandle" ∧ y.cls ≠ "java/lang/invoke/VarHandle") (hf : rm.frames + 1 ≤ R.frames) (hl : W + (maxL + 11) + rm.locals ≤ R.locals) (hc : cells + rm.cells ≤ R.cells) (hs : slots + rm.slots ≤ R.slots)
    (eT : T.heap = h) {g : JFrame} (hg : g.method = m) (hsize : g.locals.size = c.maxLocals) (rest : List Value) (hlen : ∀ sig, parseMethodDescriptor y.desc = some sig → argsL.length = sig.parameters.length) (hstack : g.stack = argsL.reverse ++ .ref b :: rest) (hW : 2 * g.monitorRoom + (rest.map fun v => v.category).sum ≤ W) (hdg : decode c.code g.pc = .ok (.invokespecial index, 3)) :
    ∃ v T' L, Stand p l e R s m args below meth c T' (locs ++ L) (cells + rm.cells) (slots + rm.slots) ∧ QQ v T'.heap L ∧ ∀ target, Steps p.tables e below (T'.setTop { g with pc := g.pc + 3, stack := v.toList ++ rest }) target → Steps p.tables e below (T.setTop g) target := by
  obtain ⟨v, _, ⟨T1, L1, k1, n1⟩, -, X1, ⟨Lc, hQ, l1, y1, z1⟩, st⟩ := superBack X hx hZ (y := y) hown w1 (own_same nf w2 hy) w2 wsu hn (backOf (W := W) hM hZ w4 w3 hf hl) eT (Ins.self E) hg hsize w4 (argsL := argsL) (rest := rest) hlen hstack hW hdg (fun _ _ => ⟨rfl, eT, hc, hs⟩)
  dsimp only [Pt.U, Pt.locs, Pt.cells, Pt.slots] at X1 l1 y1 z1 st hQ
  subst l1 y1 z1
  exact ⟨v, T1, Lc, X1, hQ, fun t k => st.trans k⟩
end Own
end Jvm.RoadKit
namespace Jvm.Pilot.@@N@@
open Jvm Jvm.ClassFile Sem Op Lib Jvm.Free Jvm.Stand Jvm.LawKit Jvm.RoadKit Bundle Jvm.Pilot.@@N@@.Jvm.D
def own_sel (i : Int32) (w0 w1 w2 w3 w4 w5 : Addr) : Addr := if i = 0 then w0 else if i = 1 then w1 else if i = 2 then w2 else if i = 3 then w3 else if i = 4 then w4 else w5
theorem own_d1_0 : decode method_2_code 0 = .ok (.iload_n 0, 1) := by decide +kernel
theorem own_d1_1 : decode method_2_code 1 = .ok (.ifCond .ne 7, 3) := by decide +kernel
theorem own_d1_4 : decode method_2_code 4 = .ok (.getstatic 7, 3) := by decide +kernel
theorem own_d1_7 : decode method_2_code 7 = .ok (.areturn, 1) := by decide +kernel
theorem own_d1_8 : decode method_2_code 8 = .ok (.iload_n 0, 1) := by decide +kernel
theorem own_d1_9 : decode method_2_code 9 = .ok (.iconst 1, 1) := by decide +kernel
theorem own_d1_10 : decode method_2_code 10 = .ok (.if_icmp .ne 7, 3) := by decide +kernel
theorem own_d1_13 : decode method_2_code 13 = .ok (.getstatic 13, 3) := by decide +kernel
theorem own_d1_16 : decode method_2_code 16 = .ok (.areturn, 1) := by decide +kernel
theorem own_d1_17 : decode method_2_code 17 = .ok (.iload_n 0, 1) := by decide +kernel
theorem own_d1_18 : decode method_2_code 18 = .ok (.iconst 2, 1) := by decide +kernel
theorem own_d1_19 : decode method_2_code 19 = .ok (.if_icmp .ne 7, 3) := by decide +kernel
theorem own_d1_22 : decode method_2_code 22 = .ok (.getstatic 16, 3) := by decide +kernel
theorem own_d1_25 : decode method_2_code 25 = .ok (.areturn, 1) := by decide +kernel
theorem own_d1_26 : decode method_2_code 26 = .ok (.iload_n 0, 1) := by decide +kernel
theorem own_d1_27 : decode method_2_code 27 = .ok (.iconst 3, 1) := by decide +kernel
theorem own_d1_28 : decode method_2_code 28 = .ok (.if_icmp .ne 7, 3) := by decide +kernel
theorem own_d1_31 : decode method_2_code 31 = .ok (.getstatic 19, 3) := by decide +kernel
theorem own_d1_34 : decode method_2_code 34 = .ok (.areturn, 1) := by decide +kernel
theorem own_d1_35 : decode method_2_code 35 = .ok (.iload_n 0, 1) := by decide +kernel
theorem own_d1_36 : decode method_2_code 36 = .ok (.iconst 4, 1) := by decide +kernel
theorem own_d1_37 : decode method_2_code 37 = .ok (.if_icmp .ne 7, 3) := by decide +kernel
theorem own_d1_40 : decode method_2_code 40 = .ok (.getstatic 22, 3) := by decide +kernel
theorem own_d1_43 : decode method_2_code 43 = .ok (.areturn, 1) := by decide +kernel
theorem own_d1_44 : decode method_2_code 44 = .ok (.getstatic 25, 3) := by decide +kernel
theorem own_d1_47 : decode method_2_code 47 = .ok (.areturn, 1) := by decide +kernel
theorem own_pn_com_example_gridclause_gridclause_core_RateUnitPricesCapacityByTheDayPinLaw : plainName "com/example/gridclause/gridclause/core/RateUnitPricesCapacityByTheDayPinLaw" = true := by first | (simp [plainName, overriddenIn]; done) | decide +kernel
set_option maxRecDepth 65536 in
set_option maxHeartbeats 40000000 in
theorem own_pick (l : Launch) (Z : State) (a0 : Array Value) (hw : ∀ d ∈ tables_1, d.before a0 Z = true) (ws : List Jvm.Cond) (i : Int32) (w0 w1 w2 w3 w4 w5 : Addr) (h0 : Heap) (O0 : Old Z Z.heap.size h0) (S0 : Sta Z Z.heap "com/example/gridclause/gridclause/core/RateUnit" "USD_PER_MWH" "Lcom/example/gridclause/gridclause/core/RateUnit;" (.ref w0)) (S1 : Sta Z Z.heap "com/example/gridclause/gridclause/core/RateUnit" "CENTS_PER_KWH" "Lcom/example/gridclause/gridclause/core/RateUnit;" (.ref w1)) (S2 : Sta Z Z.heap "com/example/gridclause/gridclause/core/RateUnit" "USD_PER_MW_MONTH" "Lcom/example/gridclause/gridclause/core/RateUnit;" (.ref w2)) (S3 : Sta Z Z.heap "com/example/gridclause/gridclause/core/RateUnit" "USD_PER_MW_DAY" "Lcom/example/gridclause/gridclause/core/RateUnit;" (.ref w3)) (S4 : Sta Z Z.heap "com/example/gridclause/gridclause/core/RateUnit" "USD_PER_YEAR" "Lcom/example/gridclause/gridclause/core/RateUnit;" (.ref w4)) (S5 : Sta Z Z.heap "com/example/gridclause/gridclause/core/RateUnit" "USD_PER_MONTH" "Lcom/example/gridclause/gridclause/core/RateUnit;" (.ref w5)) :
    ownMet l (⟨"com/example/gridclause/gridclause/core/RateUnitPricesCapacityByTheDayPinLaw", "pick", "(I)Lcom/example/gridclause/gridclause/core/RateUnit;"⟩ : MethodName) method_2_code 1 (some (.object "com/example/gridclause/gridclause/core/RateUnit")) ws ({ frames := 0, cells := 0, slots := 0, locals := 0 } : Room) Z #[(.int i)] h0 (fun v h L => v = some (.ref (own_sel i w0 w1 w2 w3 w4 w5)) ∧ Fr Z.heap.size L ∧ h = h0) := by
  refine own_met (plainFor_of_name own_pn_com_example_gridclause_gridclause_core_RateUnitPricesCapacityByTheDayPinLaw) ?_
  intro p e s m below meth c s₁ hx hby hml hown hnm hret hlk hZ e0 X0
  refine own_cast (show _ = (mkF m 0 #[.val (.int i)] []) by first | (simp [entryFrame, mkF, argsToLocals, Value.category]; done) | rfl) ?_
  refine own_st (s₁.setTop (mkF m 1 #[.val (.int i)] [(.int i)])) (fun tq kq => XS.iloadN X0.here hx rfl (hb hby own_d1_0) rfl kq) ?_
  by_cases c1_1 : i = (0 : Int32)
  · skip
    refine own_st (s₁.setTop (mkF m 4 #[.val (.int i)] [])) (fun tq kq => XS.ifNo X0.here hx rfl (hb hby own_d1_1) rfl ((if0 _ _).trans (teq (c1_1 : i = (0 : Int32))).2) kq) ?_
    obtain ⟨T2, X2, e2, st2⟩ := getS2 X0 hx hZ hown (host := "") (Or.inl (hw _ (List.mem_of_getElem? (i := 5) rfl))) Via.refl e0 (S0.ext O0.2) (g := (mkF m 4 #[.val (.int i)] [])) rfl (hb hby own_d1_4)
    refine own_st (T2.setTop (mkF m 7 #[.val (.int i)] [(.ref w0)])) st2 ?_
    exact own_ret X2 hlk (v := some (.ref w0)) (fun h => by rw [hret] at h; cases h) e2 (⟨by simp [own_sel, c1_1], (Fr.nil _), rfl⟩) (by decide) (by decide) (fun fs hr => retOut X2 hx hret rfl (Or.inr (Or.inr (Or.inr (Or.inr ⟨rfl, rfl, rfl⟩)))) (hb hby own_d1_7) hr)
  · skip
    refine own_st (s₁.setTop (mkF m 8 #[.val (.int i)] [])) (fun tq kq => XS.ifYes X0.here hx rfl (pc0 := 1) (pc' := 8) rfl (hb hby own_d1_1) rfl ((if0 _ _).trans (feq (c1_1 : ¬ (i = (0 : Int32)))).2) (by decide) (by decide) kq) ?_
    refine own_st (s₁.setTop (mkF m 9 #[.val (.int i)] [(.int i)])) (fun tq kq => XS.iloadN X0.here hx rfl (hb hby own_d1_8) rfl kq) ?_
    refine own_st (s₁.setTop (mkF m 10 #[.val (.int i)] [(.int (1 : Int32)), (.int i)])) (fun tq kq => XS.iconst X0.here hx rfl (hb hby own_d1_9) kq) ?_
    by_cases c10_3 : i = (1 : Int32)
    · skip
      refine own_st (s₁.setTop (mkF m 13 #[.val (.int i)] [])) (fun tq kq => XS.icmpNo X0.here hx rfl (hb hby own_d1_10) rfl (teq (c10_3 : i = (1 : Int32))).2 kq) ?_
      obtain ⟨T4, X4, e4, st4⟩ := getS2 X0 hx hZ hown (host := "") (Or.inl (hw _ (List.mem_of_getElem? (i := 21) rfl))) Via.refl e0 (S1.ext O0.2) (g := (mkF m 13 #[.val (.int i)] [])) rfl (hb hby own_d1_13)
      refine own_st (T4.setTop (mkF m 16 #[.val (.int i)] [(.ref w1)])) st4 ?_
      exact own_ret X4 hlk (v := some (.ref w1)) (fun h => by rw [hret] at h; cases h) e4 (⟨by simp [own_sel, c10_3, c1_1], (Fr.nil _), rfl⟩) (by decide) (by decide) (fun fs hr => retOut X4 hx hret rfl (Or.inr (Or.inr (Or.inr (Or.inr ⟨rfl, rfl, rfl⟩)))) (hb hby own_d1_16) hr)
    · skip
      refine own_st (s₁.setTop (mkF m 17 #[.val (.int i)] [])) (fun tq kq => XS.icmpYes X0.here hx rfl (pc0 := 10) (pc' := 17) rfl (hb hby own_d1_10) rfl (feq (c10_3 : ¬ (i = (1 : Int32)))).2 (by decide) (by decide) kq) ?_
      refine own_st (s₁.setTop (mkF m 18 #[.val (.int i)] [(.int i)])) (fun tq kq => XS.iloadN X0.here hx rfl (hb hby own_d1_17) rfl kq) ?_
      refine own_st (s₁.setTop (mkF m 19 #[.val (.int i)] [(.int (2 : Int32)), (.int i)])) (fun tq kq => XS.iconst X0.here hx rfl (hb hby own_d1_18) kq) ?_
      by_cases c19_5 : i = (2 : Int32)
      · skip
        refine own_st (s₁.setTop (mkF m 22 #[.val (.int i)] [])) (fun tq kq => XS.icmpNo X0.here hx rfl (hb hby own_d1_19) rfl (teq (c19_5 : i = (2 : Int32))).2 kq) ?_
        obtain ⟨T6, X6, e6, st6⟩ := getS2 X0 hx hZ hown (host := "") (Or.inl (hw _ (List.mem_of_getElem? (i := 19) rfl))) Via.refl e0 (S2.ext O0.2) (g := (mkF m 22 #[.val (.int i)] [])) rfl (hb hby own_d1_22)
        refine own_st (T6.setTop (mkF m 25 #[.val (.int i)] [(.ref w2)])) st6 ?_
        exact own_ret X6 hlk (v := some (.ref w2)) (fun h => by rw [hret] at h; cases h) e6 (⟨by simp [own_sel, c10_3, c19_5, c1_1], (Fr.nil _), rfl⟩) (by decide) (by decide) (fun fs hr => retOut X6 hx hret rfl (Or.inr (Or.inr (Or.inr (Or.inr ⟨rfl, rfl, rfl⟩)))) (hb hby own_d1_25) hr)
      · skip
        refine own_st (s₁.setTop (mkF m 26 #[.val (.int i)] [])) (fun tq kq => XS.icmpYes X0.here hx rfl (pc0 := 19) (pc' := 26) rfl (hb hby own_d1_19) rfl (feq (c19_5 : ¬ (i = (2 : Int32)))).2 (by decide) (by decide) kq) ?_
        refine own_st (s₁.setTop (mkF m 27 #[.val (.int i)] [(.int i)])) (fun tq kq => XS.iloadN X0.here hx rfl (hb hby own_d1_26) rfl kq) ?_
        refine own_st (s₁.setTop (mkF m 28 #[.val (.int i)] [(.int (3 : Int32)), (.int i)])) (fun tq kq => XS.iconst X0.here hx rfl (hb hby own_d1_27) kq) ?_
        by_cases c28_7 : i = (3 : Int32)
        · skip
          refine own_st (s₁.setTop (mkF m 31 #[.val (.int i)] [])) (fun tq kq => XS.icmpNo X0.here hx rfl (hb hby own_d1_28) rfl (teq (c28_7 : i = (3 : Int32))).2 kq) ?_
          obtain ⟨T8, X8, e8, st8⟩ := getS2 X0 hx hZ hown (host := "") (Or.inl (hw _ (List.mem_of_getElem? (i := 17) rfl))) Via.refl e0 (S3.ext O0.2) (g := (mkF m 31 #[.val (.int i)] [])) rfl (hb hby own_d1_31)
          refine own_st (T8.setTop (mkF m 34 #[.val (.int i)] [(.ref w3)])) st8 ?_
          exact own_ret X8 hlk (v := some (.ref w3)) (fun h => by rw [hret] at h; cases h) e8 (⟨by simp [own_sel, c10_3, c19_5, c1_1, c28_7], (Fr.nil _), rfl⟩) (by decide) (by decide) (fun fs hr => retOut X8 hx hret rfl (Or.inr (Or.inr (Or.inr (Or.inr ⟨rfl, rfl, rfl⟩)))) (hb hby own_d1_34) hr)
        · skip
          refine own_st (s₁.setTop (mkF m 35 #[.val (.int i)] [])) (fun tq kq => XS.icmpYes X0.here hx rfl (pc0 := 28) (pc' := 35) rfl (hb hby own_d1_28) rfl (feq (c28_7 : ¬ (i = (3 : Int32)))).2 (by decide) (by decide) kq) ?_
          refine own_st (s₁.setTop (mkF m 36 #[.val (.int i)] [(.int i)])) (fun tq kq => XS.iloadN X0.here hx rfl (hb hby own_d1_35) rfl kq) ?_
          refine own_st (s₁.setTop (mkF m 37 #[.val (.int i)] [(.int (4 : Int32)), (.int i)])) (fun tq kq => XS.iconst X0.here hx rfl (hb hby own_d1_36) kq) ?_
          by_cases c37_9 : i = (4 : Int32)
          · skip
            refine own_st (s₁.setTop (mkF m 40 #[.val (.int i)] [])) (fun tq kq => XS.icmpNo X0.here hx rfl (hb hby own_d1_37) rfl (teq (c37_9 : i = (4 : Int32))).2 kq) ?_
            obtain ⟨T10, X10, e10, st10⟩ := getS2 X0 hx hZ hown (host := "") (Or.inl (hw _ (List.mem_of_getElem? (i := 25) rfl))) Via.refl e0 (S4.ext O0.2) (g := (mkF m 40 #[.val (.int i)] [])) rfl (hb hby own_d1_40)
            refine own_st (T10.setTop (mkF m 43 #[.val (.int i)] [(.ref w4)])) st10 ?_
            exact own_ret X10 hlk (v := some (.ref w4)) (fun h => by rw [hret] at h; cases h) e10 (⟨by simp [own_sel, c10_3, c19_5, c1_1, c28_7, c37_9], (Fr.nil _), rfl⟩) (by decide) (by decide) (fun fs hr => retOut X10 hx hret rfl (Or.inr (Or.inr (Or.inr (Or.inr ⟨rfl, rfl, rfl⟩)))) (hb hby own_d1_43) hr)
          · skip
            refine own_st (s₁.setTop (mkF m 44 #[.val (.int i)] [])) (fun tq kq => XS.icmpYes X0.here hx rfl (pc0 := 37) (pc' := 44) rfl (hb hby own_d1_37) rfl (feq (c37_9 : ¬ (i = (4 : Int32)))).2 (by decide) (by decide) kq) ?_
            obtain ⟨T11, X11, e11, st11⟩ := getS2 X0 hx hZ hown (host := "") (Or.inl (hw _ (List.mem_of_getElem? (i := 23) rfl))) Via.refl e0 (S5.ext O0.2) (g := (mkF m 44 #[.val (.int i)] [])) rfl (hb hby own_d1_44)
            refine own_st (T11.setTop (mkF m 47 #[.val (.int i)] [(.ref w5)])) st11 ?_
            exact own_ret X11 hlk (v := some (.ref w5)) (fun h => by rw [hret] at h; cases h) e11 (⟨by simp [own_sel, c10_3, c19_5, c1_1, c28_7, c37_9], (Fr.nil _), rfl⟩) (by decide) (by decide) (fun fs hr => retOut X11 hx hret rfl (Or.inr (Or.inr (Or.inr (Or.inr ⟨rfl, rfl, rfl⟩)))) (hb hby own_d1_47) hr)
theorem own_d2_0 : decode prog_99_method_9_code 0 = .ok (.aload_n 0, 1) := by decide +kernel
theorem own_d2_1 : decode prog_99_method_9_code 1 = .ok (.getfield 59, 3) := by decide +kernel
theorem own_d2_4 : decode prog_99_method_9_code 4 = .ok (.getstatic 86, 3) := by decide +kernel
theorem own_d2_7 : decode prog_99_method_9_code 7 = .ok (.if_acmp .ne 7, 3) := by decide +kernel
theorem own_d2_10 : decode prog_99_method_9_code 10 = .ok (.iconst 1, 1) := by decide +kernel
theorem own_d2_11 : decode prog_99_method_9_code 11 = .ok (.goto 4, 3) := by decide +kernel
theorem own_d2_15 : decode prog_99_method_9_code 15 = .ok (.ireturn, 1) := by decide +kernel
theorem own_d2_14 : decode prog_99_method_9_code 14 = .ok (.iconst 0, 1) := by decide +kernel
theorem own_pn_com_example_gridclause_gridclause_core_RateUnit : plainName "com/example/gridclause/gridclause/core/RateUnit" = true := by first | (simp [plainName, overriddenIn]; done) | decide +kernel
set_option maxRecDepth 65536 in
set_option maxHeartbeats 40000000 in
theorem own_day (l : Launch) (Z : State) (a0 : Array Value) (hw : ∀ d ∈ tables_1, d.before a0 Z = true) (ws : List Jvm.Cond) (a wd : Addr) (fv : Value) (h0 : Heap) (O0 : Old Z Z.heap.size h0) (SD : Sta Z Z.heap "java/time/temporal/ChronoUnit" "DAYS" "Ljava/time/temporal/ChronoUnit;" (.ref wd)) (F : Fld Z Z.heap a "com/example/gridclause/gridclause/core/RateUnit" "capacityHeldFor" "Ljava/time/temporal/ChronoUnit;" fv) (hfr : fv.isRef = true) :
    ownMet l (⟨"com/example/gridclause/gridclause/core/RateUnit", "pricesCapacityByTheDay", "()Z"⟩ : MethodName) prog_99_method_9_code 1 (some .boolean) ws ({ frames := 0, cells := 0, slots := 0, locals := 0 } : Room) Z #[(.ref a)] h0 (fun v h L => v = some (.int (if fv = .ref wd then (1 : Int32) else 0)) ∧ Fr Z.heap.size L ∧ h = h0) := by
  refine own_met (plainFor_of_name own_pn_com_example_gridclause_gridclause_core_RateUnit) ?_
  intro p e s m below meth c s₁ hx hby hml hown hnm hret hlk hZ e0 X0
  refine own_cast (show _ = (mkF m 0 #[.val (.ref a)] []) by first | (simp [entryFrame, mkF, argsToLocals, Value.category]; done) | rfl) ?_
  refine own_st (s₁.setTop (mkF m 1 #[.val (.ref a)] [(.ref a)])) (fun tq kq => XS.aloadN X0.here hx rfl (hb hby own_d2_0) rfl (by rfl) kq) ?_
  obtain ⟨T1, X1, e1, st1⟩ := getF X0 hx hZ hown (host := "") (Or.inl (hw _ (List.mem_of_getElem? (i := 13) rfl))) Via.refl e0 (F.ext O0.2) (g := (mkF m 1 #[.val (.ref a)] [(.ref a)])) rfl rfl (hb hby own_d2_1)
  refine own_st (T1.setTop (mkF m 4 #[.val (.ref a)] [fv])) st1 ?_
  obtain ⟨T2, X2, e2, st2⟩ := getS2 X1 hx hZ hown (host := "") (Or.inl (hw _ (List.mem_of_getElem? (i := 15) rfl))) Via.refl e1 (SD.ext O0.2) (g := (mkF m 4 #[.val (.ref a)] [fv])) rfl (hb hby own_d2_4)
  refine own_st (T2.setTop (mkF m 7 #[.val (.ref a)] [(.ref wd), fv])) st2 ?_
  by_cases c7_3 : fv = (.ref wd)
  · skip
    refine own_st (T2.setTop (mkF m 10 #[.val (.ref a)] [])) (fun tq kq => Jvm.RoadKit.acmp (g := (mkF m 7 #[.val (.ref a)] [(.ref wd), fv])) X2 hx rfl hfr (by rfl) (pc0 := 7) (pc' := 10) (same := true) rfl (hb hby own_d2_7) rfl (decide_eq_true (c7_3 : fv = (.ref wd))) (by decide) (by decide) kq) ?_
    refine own_st (T2.setTop (mkF m 11 #[.val (.ref a)] [(.int (1 : Int32))])) (fun tq kq => XS.iconst X2.here hx rfl (hb hby own_d2_10) kq) ?_
    refine own_st (T2.setTop (mkF m 15 #[.val (.ref a)] [(.int (1 : Int32))])) (fun tq kq => XS.goto X2.here hx rfl (pc0 := 11) (pc' := 15) rfl (hb hby own_d2_11) (by decide) (by decide) kq) ?_
    exact own_ret X2 hlk (v := some (.int (1 : Int32))) (fun h => by rw [hret] at h; cases h) e2 (⟨by simp [c7_3], (Fr.nil _), rfl⟩) (by decide) (by decide) (fun fs hr => own_retN X2 hx (t := .boolean) hret (by simp) (hb hby own_d2_15) rfl hr)
  · skip
    refine own_st (T2.setTop (mkF m 14 #[.val (.ref a)] [])) (fun tq kq => Jvm.RoadKit.acmp (g := (mkF m 7 #[.val (.ref a)] [(.ref wd), fv])) X2 hx rfl hfr (by rfl) (pc0 := 7) (pc' := 14) (same := false) rfl (hb hby own_d2_7) rfl (decide_eq_false (c7_3 : ¬ (fv = (.ref wd)))) (by decide) (by decide) kq) ?_
    refine own_st (T2.setTop (mkF m 15 #[.val (.ref a)] [(.int (0 : Int32))])) (fun tq kq => XS.iconst X2.here hx rfl (hb hby own_d2_14) kq) ?_
    exact own_ret X2 hlk (v := some (.int (0 : Int32))) (fun h => by rw [hret] at h; cases h) e2 (⟨by simp [c7_3], (Fr.nil _), rfl⟩) (by decide) (by decide) (fun fs hr => own_retN X2 hx (t := .boolean) hret (by simp) (hb hby own_d2_15) rfl hr)
theorem own_pd__28I_29Lcom_2fexample_2fgridclause_2fgridclause_2fcore_2fRateUnit_3b : parseMethodDescriptor "(I)Lcom/example/gridclause/gridclause/core/RateUnit;" = some ⟨[.int], some (.object "com/example/gridclause/gridclause/core/RateUnit")⟩ := by decide +kernel
theorem own_pd__28_29Z : parseMethodDescriptor "()Z" = some ⟨[], some .boolean⟩ := by decide +kernel
set_option maxRecDepth 65536 in
set_option maxHeartbeats 40000000 in
theorem own_law (l : Launch) (Z : State) (a0 : Array Value) (hw : ∀ d ∈ tables_1, d.before a0 Z = true) (ws : List Jvm.Cond) (k : Int32) (w0 w1 w2 w3 w4 w5 wd : Addr) (fv : Value) (h0 : Heap) (O0 : Old Z Z.heap.size h0) (S0 : Sta Z Z.heap "com/example/gridclause/gridclause/core/RateUnit" "USD_PER_MWH" "Lcom/example/gridclause/gridclause/core/RateUnit;" (.ref w0)) (S1 : Sta Z Z.heap "com/example/gridclause/gridclause/core/RateUnit" "CENTS_PER_KWH" "Lcom/example/gridclause/gridclause/core/RateUnit;" (.ref w1)) (S2 : Sta Z Z.heap "com/example/gridclause/gridclause/core/RateUnit" "USD_PER_MW_MONTH" "Lcom/example/gridclause/gridclause/core/RateUnit;" (.ref w2)) (S3 : Sta Z Z.heap "com/example/gridclause/gridclause/core/RateUnit" "USD_PER_MW_DAY" "Lcom/example/gridclause/gridclause/core/RateUnit;" (.ref w3)) (S4 : Sta Z Z.heap "com/example/gridclause/gridclause/core/RateUnit" "USD_PER_YEAR" "Lcom/example/gridclause/gridclause/core/RateUnit;" (.ref w4)) (S5 : Sta Z Z.heap "com/example/gridclause/gridclause/core/RateUnit" "USD_PER_MONTH" "Lcom/example/gridclause/gridclause/core/RateUnit;" (.ref w5)) (SD : Sta Z Z.heap "java/time/temporal/ChronoUnit" "DAYS" "Ljava/time/temporal/ChronoUnit;" (.ref wd)) (Ea : Exa Z Z.heap (own_sel ((k &&& (2147483647 : Int32)) % (6 : Int32)) w0 w1 w2 w3 w4 w5) "com/example/gridclause/gridclause/core/RateUnit") (F : Fld Z Z.heap (own_sel ((k &&& (2147483647 : Int32)) % (6 : Int32)) w0 w1 w2 w3 w4 w5) "com/example/gridclause/gridclause/core/RateUnit" "capacityHeldFor" "Ljava/time/temporal/ChronoUnit;" fv) (hfr : fv.isRef = true) (hr : ((k &&& (2147483647 : Int32)) % (6 : Int32)) = (3 : Int32) ↔ fv = .ref wd) :
    ownMet l x code maxLocals ret ws room_1 Z #[(.int k)] h0 (fun v h L => v = some (.int 1) ∧ Fr Z.heap.size L) := by
  refine own_met (plainFor_of_name own_pn_com_example_gridclause_gridclause_core_RateUnitPricesCapacityByTheDayPinLaw) ?_
  intro p e s m below meth c s₁ hx hby hml hown hnm hret hlk hZ e0 X0
  refine own_cast (show _ = (mkF m 0 #[.val (.int k), .unset, .unset, .unset] []) by first | (simp [entryFrame, mkF, argsToLocals, Value.category, maxLocals]; done) | rfl) ?_
  refine own_st (s₁.setTop (mkF m 1 #[.val (.int k), .unset, .unset, .unset] [(.int k)])) (fun tq kq => XS.iloadN X0.here hx rfl (hb hby at_0) rfl kq) ?_
  refine own_st (s₁.setTop (mkF m 3 #[.val (.int k), .unset, .unset, .unset] [(.int (2147483647 : Int32)), (.int k)])) (X0.ldcInt hx hown (mvT hZ (hw _ (List.mem_of_getElem? (i := 0) rfl))) (g := (mkF m 1 #[.val (.int k), .unset, .unset, .unset] [(.int k)])) rfl (hb hby at_1)) ?_
  refine own_st (s₁.setTop (mkF m 4 #[.val (.int k), .unset, .unset, .unset] [(.int (k &&& (2147483647 : Int32)))])) (fun tq kq => XS.iand X0.here hx rfl (hb hby at_3) rfl kq) ?_
  refine own_st (s₁.setTop (mkF m 6 #[.val (.int k), .unset, .unset, .unset] [(.int (6 : Int32)), (.int (k &&& (2147483647 : Int32)))])) (fun tq kq => XS.bipush X0.here hx rfl (hb hby at_4) kq) ?_
  refine own_st (s₁.setTop (mkF m 7 #[.val (.int k), .unset, .unset, .unset] [(.int ((k &&& (2147483647 : Int32)) % (6 : Int32)))])) (fun tq kq => iremM (g := (mkF m 6 #[.val (.int k), .unset, .unset, .unset] [(.int (6 : Int32)), (.int (k &&& (2147483647 : Int32)))])) X0 hx rfl (hb hby at_6) rfl (by decide) kq) ?_
  refine own_st (s₁.setTop (mkF m 8 #[.val (.int k), .val (.int ((k &&& (2147483647 : Int32)) % (6 : Int32))), .unset, .unset] [])) (fun tq kq => XS.istoreN X0.here hx rfl (hb hby at_7) rfl (l' := #[.val (.int k), .val (.int ((k &&& (2147483647 : Int32)) % (6 : Int32))), .unset, .unset]) rfl kq) ?_
  refine own_st (s₁.setTop (mkF m 9 #[.val (.int k), .val (.int ((k &&& (2147483647 : Int32)) % (6 : Int32))), .unset, .unset] [(.int ((k &&& (2147483647 : Int32)) % (6 : Int32)))])) (fun tq kq => XS.iloadN X0.here hx rfl (hb hby at_8) rfl kq) ?_
  obtain ⟨v1, T1, L1, X1, q1, st1⟩ := own_callS X0 hx hZ hown (hw _ (List.mem_of_getElem? (i := 1) rfl)) (hw _ (List.mem_of_getElem? (i := 2) rfl)) (hw _ (List.mem_of_getElem? (i := 3) rfl)) (hw _ (List.mem_of_getElem? (i := 4) rfl)) (argsL := [(.int ((k &&& (2147483647 : Int32)) % (6 : Int32)))]) (own_pick l Z a0 hw [] ((k &&& (2147483647 : Int32)) % (6 : Int32)) w0 w1 w2 w3 w4 w5 h0 O0 S0 S1 S2 S3 S4 S5) 0 (by decide) (by decide) (by decide) (by decide) (by decide) e0 (g := (mkF m 9 #[.val (.int k), .val (.int ((k &&& (2147483647 : Int32)) % (6 : Int32))), .unset, .unset] [(.int ((k &&& (2147483647 : Int32)) % (6 : Int32)))])) rfl (by rw [hml]; rfl) [] (lenOf own_pd__28I_29Lcom_2fexample_2fgridclause_2fgridclause_2fcore_2fRateUnit_3b rfl) rfl (by show 2 * 0 + _ ≤ _; exact Nat.le_of_eq rfl) (hb hby at_9)
  obtain ⟨rfl, N1q, e1⟩ := q1
  have N1 := Fr.app (Fr.nil _) N1q
  refine own_st (T1.setTop (mkF m 12 #[.val (.int k), .val (.int ((k &&& (2147483647 : Int32)) % (6 : Int32))), .unset, .unset] [(.ref (own_sel ((k &&& (2147483647 : Int32)) % (6 : Int32)) w0 w1 w2 w3 w4 w5))])) st1 ?_
  refine own_st (T1.setTop (mkF m 13 #[.val (.int k), .val (.int ((k &&& (2147483647 : Int32)) % (6 : Int32))), .val (.ref (own_sel ((k &&& (2147483647 : Int32)) % (6 : Int32)) w0 w1 w2 w3 w4 w5)), .unset] [])) (fun tq kq => XS.astoreN X1.here hx rfl (hb hby at_12) rfl (by rfl) (l' := #[.val (.int k), .val (.int ((k &&& (2147483647 : Int32)) % (6 : Int32))), .val (.ref (own_sel ((k &&& (2147483647 : Int32)) % (6 : Int32)) w0 w1 w2 w3 w4 w5)), .unset]) rfl kq) ?_
  refine own_st (T1.setTop (mkF m 14 #[.val (.int k), .val (.int ((k &&& (2147483647 : Int32)) % (6 : Int32))), .val (.ref (own_sel ((k &&& (2147483647 : Int32)) % (6 : Int32)) w0 w1 w2 w3 w4 w5)), .unset] [(.int ((k &&& (2147483647 : Int32)) % (6 : Int32)))])) (fun tq kq => XS.iloadN X1.here hx rfl (hb hby at_13) rfl kq) ?_
  refine own_st (T1.setTop (mkF m 15 #[.val (.int k), .val (.int ((k &&& (2147483647 : Int32)) % (6 : Int32))), .val (.ref (own_sel ((k &&& (2147483647 : Int32)) % (6 : Int32)) w0 w1 w2 w3 w4 w5)), .unset] [(.int (3 : Int32)), (.int ((k &&& (2147483647 : Int32)) % (6 : Int32)))])) (fun tq kq => XS.iconst X1.here hx rfl (hb hby at_14) kq) ?_
  by_cases c15_2 : ((k &&& (2147483647 : Int32)) % (6 : Int32)) = (3 : Int32)
  · skip
    refine own_st (T1.setTop (mkF m 18 #[.val (.int k), .val (.int ((k &&& (2147483647 : Int32)) % (6 : Int32))), .val (.ref (own_sel ((k &&& (2147483647 : Int32)) % (6 : Int32)) w0 w1 w2 w3 w4 w5)), .unset] [])) (fun tq kq => XS.icmpNo X1.here hx rfl (hb hby at_15) rfl (teq (c15_2 : ((k &&& (2147483647 : Int32)) % (6 : Int32)) = (3 : Int32))).2 kq) ?_
    refine own_st (T1.setTop (mkF m 19 #[.val (.int k), .val (.int ((k &&& (2147483647 : Int32)) % (6 : Int32))), .val (.ref (own_sel ((k &&& (2147483647 : Int32)) % (6 : Int32)) w0 w1 w2 w3 w4 w5)), .unset] [(.int (1 : Int32))])) (fun tq kq => XS.iconst X1.here hx rfl (hb hby at_18) kq) ?_
    refine own_st (T1.setTop (mkF m 23 #[.val (.int k), .val (.int ((k &&& (2147483647 : Int32)) % (6 : Int32))), .val (.ref (own_sel ((k &&& (2147483647 : Int32)) % (6 : Int32)) w0 w1 w2 w3 w4 w5)), .unset] [(.int (1 : Int32))])) (fun tq kq => XS.goto X1.here hx rfl (pc0 := 19) (pc' := 23) rfl (hb hby at_19) (by decide) (by decide) kq) ?_
    refine own_st (T1.setTop (mkF m 24 #[.val (.int k), .val (.int ((k &&& (2147483647 : Int32)) % (6 : Int32))), .val (.ref (own_sel ((k &&& (2147483647 : Int32)) % (6 : Int32)) w0 w1 w2 w3 w4 w5)), .val (.int (1 : Int32))] [])) (fun tq kq => XS.istoreN X1.here hx rfl (hb hby at_23) rfl (l' := #[.val (.int k), .val (.int ((k &&& (2147483647 : Int32)) % (6 : Int32))), .val (.ref (own_sel ((k &&& (2147483647 : Int32)) % (6 : Int32)) w0 w1 w2 w3 w4 w5)), .val (.int (1 : Int32))]) rfl kq) ?_
    refine own_st (T1.setTop (mkF m 25 #[.val (.int k), .val (.int ((k &&& (2147483647 : Int32)) % (6 : Int32))), .val (.ref (own_sel ((k &&& (2147483647 : Int32)) % (6 : Int32)) w0 w1 w2 w3 w4 w5)), .val (.int (1 : Int32))] [(.ref (own_sel ((k &&& (2147483647 : Int32)) % (6 : Int32)) w0 w1 w2 w3 w4 w5))])) (fun tq kq => XS.aloadN X1.here hx rfl (hb hby at_24) rfl (by rfl) kq) ?_
    obtain ⟨v3, T3, L3, X3, q3, st3⟩ := own_callV X1 hx hZ hown (y := (⟨"com/example/gridclause/gridclause/core/RateUnit", "pricesCapacityByTheDay", "()Z"⟩ : MethodName)) (z := (⟨"com/example/gridclause/gridclause/core/RateUnit", "pricesCapacityByTheDay", "()Z"⟩ : MethodName)) (hw _ (List.mem_of_getElem? (i := 8) rfl)) (hw _ (List.mem_of_getElem? (i := 9) rfl)) (notFace_of_selects (args := a0) (hw _ (List.mem_of_getElem? (i := 11) rfl))) (hw _ (List.mem_of_getElem? (i := 11) rfl)) (hw _ (List.mem_of_getElem? (i := 10) rfl)) (hw _ (List.mem_of_getElem? (i := 6) rfl)) (hw _ (List.mem_of_getElem? (i := 12) rfl)) (Ea.ext O0.2) (b := (own_sel ((k &&& (2147483647 : Int32)) % (6 : Int32)) w0 w1 w2 w3 w4 w5)) (argsL := []) (own_day l Z a0 hw [] (own_sel ((k &&& (2147483647 : Int32)) % (6 : Int32)) w0 w1 w2 w3 w4 w5) wd fv h0 O0 SD F hfr) 0 (by decide) (by decide) (by decide) (by decide) (by decide) e1 (g := (mkF m 25 #[.val (.int k), .val (.int ((k &&& (2147483647 : Int32)) % (6 : Int32))), .val (.ref (own_sel ((k &&& (2147483647 : Int32)) % (6 : Int32)) w0 w1 w2 w3 w4 w5)), .val (.int (1 : Int32))] [(.ref (own_sel ((k &&& (2147483647 : Int32)) % (6 : Int32)) w0 w1 w2 w3 w4 w5))])) rfl (by rw [hml]; rfl) [] (lenOf own_pd__28_29Z rfl) rfl (by show 2 * 0 + _ ≤ _; exact Nat.le_of_eq rfl) (hb hby at_25)
    obtain ⟨rfl, N3q, e3⟩ := q3
    have N3 := Fr.app N1 N3q
    refine own_st (T3.setTop (mkF m 28 #[.val (.int k), .val (.int ((k &&& (2147483647 : Int32)) % (6 : Int32))), .val (.ref (own_sel ((k &&& (2147483647 : Int32)) % (6 : Int32)) w0 w1 w2 w3 w4 w5)), .val (.int (1 : Int32))] [(.int (if fv = .ref wd then (1 : Int32) else 0))])) st3 ?_
    refine own_st (T3.setTop (mkF m 29 #[.val (.int k), .val (.int ((k &&& (2147483647 : Int32)) % (6 : Int32))), .val (.ref (own_sel ((k &&& (2147483647 : Int32)) % (6 : Int32)) w0 w1 w2 w3 w4 w5)), .val (.int (1 : Int32))] [(.int (1 : Int32)), (.int (if fv = .ref wd then (1 : Int32) else 0))])) (fun tq kq => XS.iloadN X3.here hx rfl (hb hby at_28) rfl kq) ?_
    refine own_st (T3.setTop (mkF m 32 #[.val (.int k), .val (.int ((k &&& (2147483647 : Int32)) % (6 : Int32))), .val (.ref (own_sel ((k &&& (2147483647 : Int32)) % (6 : Int32)) w0 w1 w2 w3 w4 w5)), .val (.int (1 : Int32))] [])) (fun tq kq => XS.icmpNo X3.here hx rfl (hb hby at_29) rfl (teq ((if_pos (hr.mp c15_2)) : (if fv = .ref wd then (1 : Int32) else 0) = (1 : Int32))).2 kq) ?_
    refine own_st (T3.setTop (mkF m 33 #[.val (.int k), .val (.int ((k &&& (2147483647 : Int32)) % (6 : Int32))), .val (.ref (own_sel ((k &&& (2147483647 : Int32)) % (6 : Int32)) w0 w1 w2 w3 w4 w5)), .val (.int (1 : Int32))] [(.int (1 : Int32))])) (fun tq kq => XS.iconst X3.here hx rfl (hb hby at_32) kq) ?_
    refine own_st (T3.setTop (mkF m 37 #[.val (.int k), .val (.int ((k &&& (2147483647 : Int32)) % (6 : Int32))), .val (.ref (own_sel ((k &&& (2147483647 : Int32)) % (6 : Int32)) w0 w1 w2 w3 w4 w5)), .val (.int (1 : Int32))] [(.int (1 : Int32))])) (fun tq kq => XS.goto X3.here hx rfl (pc0 := 33) (pc' := 37) rfl (hb hby at_33) (by decide) (by decide) kq) ?_
    exact own_ret X3 hlk (v := some (.int (1 : Int32))) (fun h => by rw [hret] at h; cases h) e3 (⟨rfl, N3⟩) (by decide) (by decide) (fun fs hr => own_retN X3 hx (t := .boolean) hret (by simp) (hb hby at_37) rfl hr)
  · skip
    refine own_st (T1.setTop (mkF m 22 #[.val (.int k), .val (.int ((k &&& (2147483647 : Int32)) % (6 : Int32))), .val (.ref (own_sel ((k &&& (2147483647 : Int32)) % (6 : Int32)) w0 w1 w2 w3 w4 w5)), .unset] [])) (fun tq kq => XS.icmpYes X1.here hx rfl (pc0 := 15) (pc' := 22) rfl (hb hby at_15) rfl (feq (c15_2 : ¬ (((k &&& (2147483647 : Int32)) % (6 : Int32)) = (3 : Int32)))).2 (by decide) (by decide) kq) ?_
    refine own_st (T1.setTop (mkF m 23 #[.val (.int k), .val (.int ((k &&& (2147483647 : Int32)) % (6 : Int32))), .val (.ref (own_sel ((k &&& (2147483647 : Int32)) % (6 : Int32)) w0 w1 w2 w3 w4 w5)), .unset] [(.int (0 : Int32))])) (fun tq kq => XS.iconst X1.here hx rfl (hb hby at_22) kq) ?_
    refine own_st (T1.setTop (mkF m 24 #[.val (.int k), .val (.int ((k &&& (2147483647 : Int32)) % (6 : Int32))), .val (.ref (own_sel ((k &&& (2147483647 : Int32)) % (6 : Int32)) w0 w1 w2 w3 w4 w5)), .val (.int (0 : Int32))] [])) (fun tq kq => XS.istoreN X1.here hx rfl (hb hby at_23) rfl (l' := #[.val (.int k), .val (.int ((k &&& (2147483647 : Int32)) % (6 : Int32))), .val (.ref (own_sel ((k &&& (2147483647 : Int32)) % (6 : Int32)) w0 w1 w2 w3 w4 w5)), .val (.int (0 : Int32))]) rfl kq) ?_
    refine own_st (T1.setTop (mkF m 25 #[.val (.int k), .val (.int ((k &&& (2147483647 : Int32)) % (6 : Int32))), .val (.ref (own_sel ((k &&& (2147483647 : Int32)) % (6 : Int32)) w0 w1 w2 w3 w4 w5)), .val (.int (0 : Int32))] [(.ref (own_sel ((k &&& (2147483647 : Int32)) % (6 : Int32)) w0 w1 w2 w3 w4 w5))])) (fun tq kq => XS.aloadN X1.here hx rfl (hb hby at_24) rfl (by rfl) kq) ?_
    obtain ⟨v4, T4, L4, X4, q4, st4⟩ := own_callV X1 hx hZ hown (y := (⟨"com/example/gridclause/gridclause/core/RateUnit", "pricesCapacityByTheDay", "()Z"⟩ : MethodName)) (z := (⟨"com/example/gridclause/gridclause/core/RateUnit", "pricesCapacityByTheDay", "()Z"⟩ : MethodName)) (hw _ (List.mem_of_getElem? (i := 8) rfl)) (hw _ (List.mem_of_getElem? (i := 9) rfl)) (notFace_of_selects (args := a0) (hw _ (List.mem_of_getElem? (i := 11) rfl))) (hw _ (List.mem_of_getElem? (i := 11) rfl)) (hw _ (List.mem_of_getElem? (i := 10) rfl)) (hw _ (List.mem_of_getElem? (i := 6) rfl)) (hw _ (List.mem_of_getElem? (i := 12) rfl)) (Ea.ext O0.2) (b := (own_sel ((k &&& (2147483647 : Int32)) % (6 : Int32)) w0 w1 w2 w3 w4 w5)) (argsL := []) (own_day l Z a0 hw [] (own_sel ((k &&& (2147483647 : Int32)) % (6 : Int32)) w0 w1 w2 w3 w4 w5) wd fv h0 O0 SD F hfr) 0 (by decide) (by decide) (by decide) (by decide) (by decide) e1 (g := (mkF m 25 #[.val (.int k), .val (.int ((k &&& (2147483647 : Int32)) % (6 : Int32))), .val (.ref (own_sel ((k &&& (2147483647 : Int32)) % (6 : Int32)) w0 w1 w2 w3 w4 w5)), .val (.int (0 : Int32))] [(.ref (own_sel ((k &&& (2147483647 : Int32)) % (6 : Int32)) w0 w1 w2 w3 w4 w5))])) rfl (by rw [hml]; rfl) [] (lenOf own_pd__28_29Z rfl) rfl (by show 2 * 0 + _ ≤ _; exact Nat.le_of_eq rfl) (hb hby at_25)
    obtain ⟨rfl, N4q, e4⟩ := q4
    have N4 := Fr.app N1 N4q
    refine own_st (T4.setTop (mkF m 28 #[.val (.int k), .val (.int ((k &&& (2147483647 : Int32)) % (6 : Int32))), .val (.ref (own_sel ((k &&& (2147483647 : Int32)) % (6 : Int32)) w0 w1 w2 w3 w4 w5)), .val (.int (0 : Int32))] [(.int (if fv = .ref wd then (1 : Int32) else 0))])) st4 ?_
    refine own_st (T4.setTop (mkF m 29 #[.val (.int k), .val (.int ((k &&& (2147483647 : Int32)) % (6 : Int32))), .val (.ref (own_sel ((k &&& (2147483647 : Int32)) % (6 : Int32)) w0 w1 w2 w3 w4 w5)), .val (.int (0 : Int32))] [(.int (0 : Int32)), (.int (if fv = .ref wd then (1 : Int32) else 0))])) (fun tq kq => XS.iloadN X4.here hx rfl (hb hby at_28) rfl kq) ?_
    refine own_st (T4.setTop (mkF m 32 #[.val (.int k), .val (.int ((k &&& (2147483647 : Int32)) % (6 : Int32))), .val (.ref (own_sel ((k &&& (2147483647 : Int32)) % (6 : Int32)) w0 w1 w2 w3 w4 w5)), .val (.int (0 : Int32))] [])) (fun tq kq => XS.icmpNo X4.here hx rfl (hb hby at_29) rfl (teq ((if_neg (fun q => c15_2 (hr.mpr q))) : (if fv = .ref wd then (1 : Int32) else 0) = (0 : Int32))).2 kq) ?_
    refine own_st (T4.setTop (mkF m 33 #[.val (.int k), .val (.int ((k &&& (2147483647 : Int32)) % (6 : Int32))), .val (.ref (own_sel ((k &&& (2147483647 : Int32)) % (6 : Int32)) w0 w1 w2 w3 w4 w5)), .val (.int (0 : Int32))] [(.int (1 : Int32))])) (fun tq kq => XS.iconst X4.here hx rfl (hb hby at_32) kq) ?_
    refine own_st (T4.setTop (mkF m 37 #[.val (.int k), .val (.int ((k &&& (2147483647 : Int32)) % (6 : Int32))), .val (.ref (own_sel ((k &&& (2147483647 : Int32)) % (6 : Int32)) w0 w1 w2 w3 w4 w5)), .val (.int (0 : Int32))] [(.int (1 : Int32))])) (fun tq kq => XS.goto X4.here hx rfl (pc0 := 33) (pc' := 37) rfl (hb hby at_33) (by decide) (by decide) kq) ?_
    exact own_ret X4 hlk (v := some (.int (1 : Int32))) (fun h => by rw [hret] at h; cases h) e4 (⟨rfl, N4⟩) (by decide) (by decide) (fun fs hr => own_retN X4 hx (t := .boolean) hret (by simp) (hb hby at_37) rfl hr)
theorem own_mod6 (k : Int32) : (k &&& (2147483647 : Int32)) % (6 : Int32) = 0 ∨ (k &&& (2147483647 : Int32)) % (6 : Int32) = 1 ∨ (k &&& (2147483647 : Int32)) % (6 : Int32) = 2 ∨ (k &&& (2147483647 : Int32)) % (6 : Int32) = 3 ∨ (k &&& (2147483647 : Int32)) % (6 : Int32) = 4 ∨ (k &&& (2147483647 : Int32)) % (6 : Int32) = 5 := by
  have h1 := c_and k 2147483647 (by decide)
  have h2 := (c_irem (k &&& 2147483647) 6 6 rfl).1 h1.1
  generalize (k &&& (2147483647 : Int32)) % (6 : Int32) = i at h2 ⊢
  generalize (k &&& (2147483647 : Int32)).toInt = j at h2
  have h3 : i.toInt = 0 ∨ i.toInt = 1 ∨ i.toInt = 2 ∨ i.toInt = 3 ∨ i.toInt = 4 ∨ i.toInt = 5 := by omega
  rcases h3 with h | h | h | h | h | h
  · exact Or.inl (Int32.toInt_inj.mp h)
  · exact Or.inr (Or.inl (Int32.toInt_inj.mp h))
  · exact Or.inr (Or.inr (Or.inl (Int32.toInt_inj.mp h)))
  · exact Or.inr (Or.inr (Or.inr (Or.inl (Int32.toInt_inj.mp h))))
  · exact Or.inr (Or.inr (Or.inr (Or.inr (Or.inl (Int32.toInt_inj.mp h)))))
  · exact Or.inr (Or.inr (Or.inr (Or.inr (Or.inr (Int32.toInt_inj.mp h)))))
set_option maxRecDepth 65536 in
set_option maxHeartbeats 40000000 in
theorem comes_1 {Post : Tables → Env → Array Value → State → Outcome → State → Prop} (hpost : ∀ tb e args s v u, (limb_1_1.after args s (.returned v) u = true ∧ limb_1_2.after args s (.returned v) u = true ∧ True) → FrameEnd s (.returned v) u (Jvm.fieldLocs frame_1_writes args s ++ Jvm.arrayLocs frame_1_arrays args s ++ Jvm.staticLocs frame_1_statics s) 0 0 → Post tb e args s (.returned v) u) :
    ArmFor flags0 classFile x code maxLocals ret World_1 tables_1 room_1 Calls_1 rest_1 Pre_1 Post := by
  intro l hfl _ _ p e ha hc hk s m args below hf hA hF happ hP
  obtain ⟨hcalls, hrest, hpre⟩ := hP
  obtain ⟨-, -, -, hnamed, -, -, -, hat⟩ := (Spec.applies_iff hf).mp happ
  obtain ⟨hg, hn⟩ := and_e (Cond.before_iff.mp (show (Jvm.Cond.and given_1 narrow_1).before args s = true from hpre))
  obtain ⟨g1, g2⟩ := and_e hg
  obtain ⟨g3, g4⟩ := and_e hn
  obtain ⟨g5, g6⟩ := and_e g4
  obtain ⟨g7, g8⟩ := and_e g6
  obtain ⟨g9, g10⟩ := and_e g8
  obtain ⟨g11, g12⟩ := and_e g10
  obtain ⟨g13, g14⟩ := and_e g12
  obtain ⟨g15, g16⟩ := and_e g14
  obtain ⟨g17, g18⟩ := and_e g16
  obtain ⟨g19, g20⟩ := and_e g18
  obtain ⟨g21, g22⟩ := and_e g20
  obtain ⟨g23, g24⟩ := and_e g22
  obtain ⟨g25, g26⟩ := and_e g24
  obtain ⟨w0, rfl⟩ : ∃ w0 : Value, args = #[w0] := by
    have hs : args.size = 1 := by simpa [Cond.value, given_1] using g1
    obtain ⟨L⟩ := args
    match L, hs with
    | [w0], _ => exact ⟨w0, rfl⟩
  have hw := fun d (hd : d ∈ tables_1) => atoms_spec (ws := Jvm.Cond.code x code maxLocals ret :: tables_1) hat d (List.mem_cons_of_mem _ hd)
  have hfit : Fit s := fun {y c} hc i hi => by
    obtain ⟨ha, rfl⟩ := Array.getElem?_eq_some_iff.mp hc
    have q := List.all_eq_true.mp ((Array.all_eq_true_iff_forall_mem.mp hF) _ (Array.getElem_mem ha)) i (List.mem_range.mpr hi)
    simpa [Array.getElem?_eq_getElem hi] using q
  obtain ⟨hsets, hown0⟩ := atoms_of _ (rest_1_c_eq ▸ (show rest_1_c.before _ s = true from hrest))
  have hr0 := Cond.before_iff.mp hown0
  obtain ⟨i0, ei0⟩ := is_v g2
  obtain rfl : w0 = (.int i0) := Option.some.inj ei0
  obtain ⟨sa27, se28⟩ := exa_v g3
  have E29 : Exa s s.heap sa27 "com/example/gridclause/gridclause/core/RateUnit" := Exa.start se28 g3
  have S30 : Sta s s.heap "com/example/gridclause/gridclause/core/RateUnit" "USD_PER_MWH" "Lcom/example/gridclause/gridclause/core/RateUnit;" (.ref sa27) := Sta.start se28 (Or.inr ⟨(hw _ (List.mem_of_getElem? (i := 6) rfl)), (hw _ (List.mem_of_getElem? (i := 7) rfl))⟩)
  have se31 := null_v g5
  have F32 : Fld s s.heap sa27 "com/example/gridclause/gridclause/core/RateUnit" "capacityHeldFor" "Ljava/time/temporal/ChronoUnit;" .null := Fld.start ((fld_at se28).symm.trans se31)
  obtain ⟨sa33, se34⟩ := exa_v g7
  have E35 : Exa s s.heap sa33 "com/example/gridclause/gridclause/core/RateUnit" := Exa.start se34 g7
  have S36 : Sta s s.heap "com/example/gridclause/gridclause/core/RateUnit" "USD_PER_MW_DAY" "Lcom/example/gridclause/gridclause/core/RateUnit;" (.ref sa33) := Sta.start se34 (Or.inr ⟨(hw _ (List.mem_of_getElem? (i := 6) rfl)), (hw _ (List.mem_of_getElem? (i := 18) rfl))⟩)
  obtain ⟨sa37, se38⟩ := exa_v g11
  have E39 : Exa s s.heap sa37 "com/example/gridclause/gridclause/core/RateUnit" := Exa.start se38 g11
  have S40 : Sta s s.heap "com/example/gridclause/gridclause/core/RateUnit" "USD_PER_MW_MONTH" "Lcom/example/gridclause/gridclause/core/RateUnit;" (.ref sa37) := Sta.start se38 (Or.inr ⟨(hw _ (List.mem_of_getElem? (i := 6) rfl)), (hw _ (List.mem_of_getElem? (i := 20) rfl))⟩)
  obtain ⟨sa41, se42⟩ := exa_v g13
  have E43 : Exa s s.heap sa41 "java/time/temporal/ChronoUnit" := Exa.start se42 g13
  have F44 : Fld s s.heap sa37 "com/example/gridclause/gridclause/core/RateUnit" "capacityHeldFor" "Ljava/time/temporal/ChronoUnit;" (.ref sa41) := Fld.start ((fld_at se38).symm.trans se42)
  obtain ⟨sa45, se46⟩ := exa_v g17
  have E47 : Exa s s.heap sa45 "com/example/gridclause/gridclause/core/RateUnit" := Exa.start se46 g17
  have S48 : Sta s s.heap "com/example/gridclause/gridclause/core/RateUnit" "CENTS_PER_KWH" "Lcom/example/gridclause/gridclause/core/RateUnit;" (.ref sa45) := Sta.start se46 (Or.inr ⟨(hw _ (List.mem_of_getElem? (i := 6) rfl)), (hw _ (List.mem_of_getElem? (i := 22) rfl))⟩)
  have se49 := null_v g19
  have F50 : Fld s s.heap sa45 "com/example/gridclause/gridclause/core/RateUnit" "capacityHeldFor" "Ljava/time/temporal/ChronoUnit;" .null := Fld.start ((fld_at se46).symm.trans se49)
  obtain ⟨sa51, se52⟩ := exa_v g21
  have E53 : Exa s s.heap sa51 "com/example/gridclause/gridclause/core/RateUnit" := Exa.start se52 g21
  have S54 : Sta s s.heap "com/example/gridclause/gridclause/core/RateUnit" "USD_PER_MONTH" "Lcom/example/gridclause/gridclause/core/RateUnit;" (.ref sa51) := Sta.start se52 (Or.inr ⟨(hw _ (List.mem_of_getElem? (i := 6) rfl)), (hw _ (List.mem_of_getElem? (i := 24) rfl))⟩)
  have se55 := null_v g23
  have F56 : Fld s s.heap sa51 "com/example/gridclause/gridclause/core/RateUnit" "capacityHeldFor" "Ljava/time/temporal/ChronoUnit;" .null := Fld.start ((fld_at se52).symm.trans se55)
  obtain ⟨sa57, se58⟩ := exa_v g25
  have E59 : Exa s s.heap sa57 "com/example/gridclause/gridclause/core/RateUnit" := Exa.start se58 g25
  have S60 : Sta s s.heap "com/example/gridclause/gridclause/core/RateUnit" "USD_PER_YEAR" "Lcom/example/gridclause/gridclause/core/RateUnit;" (.ref sa57) := Sta.start se58 (Or.inr ⟨(hw _ (List.mem_of_getElem? (i := 6) rfl)), (hw _ (List.mem_of_getElem? (i := 26) rfl))⟩)
  have se61 := null_v g26
  have F62 : Fld s s.heap sa57 "com/example/gridclause/gridclause/core/RateUnit" "capacityHeldFor" "Ljava/time/temporal/ChronoUnit;" .null := Fld.start ((fld_at se58).symm.trans se61)
  obtain ⟨sa63, se64⟩ := exa_v (Cond.before_iff.mp (hsets _ (List.mem_of_getElem? (i := 2) rfl)))
  have E65 : Exa s s.heap sa63 "java/time/temporal/ChronoUnit" := Exa.start se64 (Cond.before_iff.mp (hsets _ (List.mem_of_getElem? (i := 2) rfl)))
  have S66 : Sta s s.heap "java/time/temporal/ChronoUnit" "DAYS" "Ljava/time/temporal/ChronoUnit;" (.ref sa63) := Sta.start se64 (Or.inl (Cond.before_iff.mpr (Cond.before_iff.mp (hsets _ (List.mem_of_getElem? (i := 1) rfl)))))
  obtain ⟨sa67, se68⟩ := exa_v (Cond.before_iff.mp (hsets _ (List.mem_of_getElem? (i := 3) rfl)))
  have E69 : Exa s s.heap sa67 "java/lang/String" := Exa.start se68 (Cond.before_iff.mp (hsets _ (List.mem_of_getElem? (i := 3) rfl)))
  have F70 : Fld s s.heap sa63 "java/lang/Enum" "name" "Ljava/lang/String;" (.ref sa67) := Fld.start ((fld_at se64).symm.trans se68)
  have se71 := own_eqI (Cond.before_iff.mp (hsets _ (List.mem_of_getElem? (i := 4) rfl))) (Term.int_eval _)
  have F72 : Fld s s.heap sa63 "java/lang/Enum" "ordinal" "I" (.int (7 : Int32)) := Fld.start ((fld_at se64).symm.trans se71)
  obtain ⟨sa73, se74⟩ := exa_v (Cond.before_iff.mp (hsets _ (List.mem_of_getElem? (i := 5) rfl)))
  have E75 : Exa s s.heap sa73 "java/lang/String" := Exa.start se74 (Cond.before_iff.mp (hsets _ (List.mem_of_getElem? (i := 5) rfl)))
  have F76 : Fld s s.heap sa63 "java/time/temporal/ChronoUnit" "name" "Ljava/lang/String;" (.ref sa73) := Fld.start ((fld_at se64).symm.trans se74)
  obtain ⟨sa77, se78⟩ := exa_v (Cond.before_iff.mp (hsets _ (List.mem_of_getElem? (i := 6) rfl)))
  have E79 : Exa s s.heap sa77 "java/time/Duration" := Exa.start se78 (Cond.before_iff.mp (hsets _ (List.mem_of_getElem? (i := 6) rfl)))
  have F80 : Fld s s.heap sa63 "java/time/temporal/ChronoUnit" "duration" "Ljava/time/Duration;" (.ref sa77) := Fld.start ((fld_at se64).symm.trans se78)
  have se81 := own_eqI (Cond.before_iff.mp (hsets _ (List.mem_of_getElem? (i := 8) rfl))) (Term.int_eval _)
  have F82 : Fld s s.heap sa77 "java/time/Duration" "nanos" "I" (.int (0 : Int32)) := Fld.start ((fld_at se78).symm.trans se81)
  have se83 := own_eqR g9 se64
  have F84 : Fld s s.heap sa33 "com/example/gridclause/gridclause/core/RateUnit" "capacityHeldFor" "Ljava/time/temporal/ChronoUnit;" (.ref sa63) := Fld.start ((fld_at se34).symm.trans se83)
  have ne85 : sa41 ≠ sa63 := fun q => gotF (eq_R se42 se64 rfl rfl) (not_v g15) (congrArg Value.ref q)
  have key : ∃ fv : Value, Exa s s.heap (own_sel ((i0 &&& (2147483647 : Int32)) % (6 : Int32)) sa27 sa45 sa37 sa33 sa57 sa51) "com/example/gridclause/gridclause/core/RateUnit" ∧ Fld s s.heap (own_sel ((i0 &&& (2147483647 : Int32)) % (6 : Int32)) sa27 sa45 sa37 sa33 sa57 sa51) "com/example/gridclause/gridclause/core/RateUnit" "capacityHeldFor" "Ljava/time/temporal/ChronoUnit;" fv ∧ fv.isRef = true ∧ (((i0 &&& (2147483647 : Int32)) % (6 : Int32)) = 3 ↔ fv = .ref sa63) := by
    rcases own_mod6 i0 with q | q | q | q | q | q <;> rw [q]
    · exact ⟨.null, (by simpa [own_sel] using E29), (by simpa [own_sel] using F32), rfl, ⟨fun q => absurd q (by decide), fun q => nomatch q⟩⟩
    · exact ⟨.null, (by simpa [own_sel] using E47), (by simpa [own_sel] using F50), rfl, ⟨fun q => absurd q (by decide), fun q => nomatch q⟩⟩
    · exact ⟨(.ref sa41), (by simpa [own_sel] using E39), (by simpa [own_sel] using F44), rfl, ⟨fun q => absurd q (by decide), fun q => absurd (Value.ref.inj q) ne85⟩⟩
    · exact ⟨(.ref sa63), (by simpa [own_sel] using E35), (by simpa [own_sel] using F84), rfl, ⟨fun _ => rfl, fun _ => rfl⟩⟩
    · exact ⟨.null, (by simpa [own_sel] using E59), (by simpa [own_sel] using F62), rfl, ⟨fun q => absurd q (by decide), fun q => nomatch q⟩⟩
    · exact ⟨.null, (by simpa [own_sel] using E53), (by simpa [own_sel] using F56), rfl, ⟨fun q => absurd q (by decide), fun q => nomatch q⟩⟩
  obtain ⟨fv, Ea, F, hfr, hr⟩ := key
  obtain ⟨n, o, h1, h2, h3, _, L, rfl, ⟨rfl, N⟩, hq⟩ := own_law l s _ hw tables_1 i0 sa27 sa45 sa37 sa33 sa57 sa51 sa63 fv s.heap (Old.start s) S30 S48 S40 S36 S60 S54 S66 Ea F hfr hr p e ha hc hk s m _ below hf ((Spec.applies_iff_loose hf).mp happ).1 ⟨rfl, State.Warmed39.refl s, rfl⟩ trivial
  refine ⟨n, _, h1, h2, h3, hpost _ _ _ _ _ _ ⟨Cond.after_iff.mpr rfl, Cond.after_iff.mpr (eq_i res_at (Term.int_eval (1)) rfl), trivial⟩ ⟨hq.1, hq.2.1, (hq.2.2.sift fun y hy => Or.inr (N y hy)).mono (by decide) (by decide)⟩⟩
theorem main_1_1 : Claimed_1_1 := comes_1 fun _ _ _ _ _ _ h hF => ⟨h.1, hF⟩
theorem main_1_2 : Claimed_1_2 := comes_1 fun _ _ _ _ _ _ h hF => ⟨h.2.1, hF⟩
end Jvm.Pilot.@@N@@
namespace Jvm.Pilot.@@N@@
open Jvm Jvm.ClassFile Sem Op Lib Jvm.Free Jvm.Stand Jvm.Pilot.@@N@@.Jvm.D
/-! MADE BY PROGRAM (witnessworld.py) out of the Statement's table words and the real class files: 19 classes; the members and pool entries that the words name. The judged class is class 1, her method 2. -/
namespace start1
open Jvm.ClassFile
def u (s : String) : CpInfo := .utf8 (stringToUtf16 s)
/-- a pool by its gaps: so many unusable entries, then the entry; so many at the end -/
def gap : Nat → List CpInfo → List CpInfo
  | 0, r => r
  | n + 1, r => .unusable :: gap n r
def poolList (es : List (Nat × CpInfo)) (last : Nat) : List CpInfo := es.foldr (fun e r => gap e.1 (e.2 :: r)) (gap last [])
def pool (es : List (Nat × CpInfo)) (last : Nat) : Array CpInfo := ⟨poolList es last⟩
def fileOf (pool : Array CpInfo) (this : Nat) (attrs : Array Attribute := #[]) (ms : Array MethodInfo := #[]) (fl : Nat := 33) (sup : Nat := 0) (ifs : Array Nat := #[]) (fds : Array FieldInfo := #[]) : ClassFile where
  minorVersion := 0
  majorVersion := 65
  constantPool := pool
  accessFlags := fl
  thisClass := this
  superClass := sup
  interfaces := ifs
  fields := fds
  methods := ms
  attributes := attrs
def plain (name : String) (sup : Option ClassId) : Class where
  name := name
  kind := .ordinary
  loader := none
  accessFlags := 33
  super := sup
  interfaces := #[]
  cf := none
  fields := #[]
  methods := #[]
  instanceTypes := #[]
  staticTypes := #[]
  resolved := #[]
  callSites := []
  init := .initialized
  statics := none
  mirror := none

def pool0 : Array CpInfo := pool [(5, u "<init>"), (0, u "()V"), (1, .class_ 10), (1, u "java/lang/Object")] 113

def k0m0 : Method := { name := "<init>", desc := "()V", sig := { parameters := [], returnType := none }, accessFlags := 1, code := none }
/-- java/lang/Object -/
def k0 : Class := { plain "java/lang/Object" none with
  accessFlags := 33
  interfaces := #[]
  cf := some (fileOf pool0 8 #[] #[{ accessFlags := 1, nameIndex := 5, descriptorIndex := 6, attributes := #[] }] 33 0 #[] #[])
  fields := #[]
  methods := #[k0m0]
  instanceTypes := #[]
  staticTypes := #[]
  resolved := Array.replicate 124 none
  statics := none }

def pool1 : Array CpInfo := pool [(2, .class_ 4), (1, u "java/lang/Object"), (0, u "<init>"), (0, u "()V"), (0, .fieldref 8 9), (0, .class_ 10), (0, .nameAndType 11 12), (0, u "com/example/gridclause/gridclause/core/RateUnit"), (0, u "USD_PER_MWH"), (0, u "Lcom/example/gridclause/gridclause/core/RateUnit;"), (0, .fieldref 8 14), (0, .nameAndType 15 12), (0, u "CENTS_PER_KWH"), (0, .fieldref 8 17), (0, .nameAndType 18 12), (0, u "USD_PER_MW_MONTH"), (0, .fieldref 8 20), (0, .nameAndType 21 12), (0, u "USD_PER_MW_DAY"), (0, .fieldref 8 23), (0, .nameAndType 24 12), (0, u "USD_PER_YEAR"), (0, .fieldref 8 26), (0, .nameAndType 27 12), (0, u "USD_PER_MONTH"), (0, .integer 2147483647), (0, .methodref 30 31), (0, .class_ 32), (0, .nameAndType 33 34), (0, u "com/example/gridclause/gridclause/core/RateUnitPricesCapacityByTheDayPinLaw"), (0, u "pick"), (0, u "(I)Lcom/example/gridclause/gridclause/core/RateUnit;"), (0, .methodref 8 36), (0, .nameAndType 37 38), (0, u "pricesCapacityByTheDay"), (0, u "()Z"), (3, u "law"), (0, u "(I)Z")] 2

def k1m0 : Method := { name := "<init>", desc := "()V", sig := { parameters := [], returnType := none }, accessFlags := 2, code := none }
def k1c1 : Code := { maxStack := 2, maxLocals := 1, code := method_2_code, exceptionTable := #[], attributes := #[] }
def k1m1 : Method := { name := "pick", desc := "(I)Lcom/example/gridclause/gridclause/core/RateUnit;", sig := { parameters := [.int], returnType := some (.object "com/example/gridclause/gridclause/core/RateUnit") }, accessFlags := 10, code := some k1c1 }
def k1c2 : Code := { maxStack := 2, maxLocals := 4, code := code, exceptionTable := #[], attributes := #[] }
def k1m2 : Method := { name := "law", desc := "(I)Z", sig := { parameters := [.int], returnType := some .boolean }, accessFlags := 9, code := some k1c2 }
/-- com/example/gridclause/gridclause/core/RateUnitPricesCapacityByTheDayPinLaw -/
def k1 : Class := { plain "com/example/gridclause/gridclause/core/RateUnitPricesCapacityByTheDayPinLaw" (some 0) with
  accessFlags := 49
  interfaces := #[]
  cf := some (fileOf pool1 30 #[] #[{ accessFlags := 2, nameIndex := 5, descriptorIndex := 6, attributes := #[] }, { accessFlags := 10, nameIndex := 33, descriptorIndex := 34, attributes := #[] }, { accessFlags := 9, nameIndex := 42, descriptorIndex := 43, attributes := #[] }] 49 2 #[] #[])
  fields := #[]
  methods := #[k1m0, k1m1, k1m2]
  instanceTypes := #[]
  staticTypes := #[]
  resolved := Array.replicate 46 none
  statics := none }

def pool2 : Array CpInfo := pool [(1, .class_ 2), (0, u "java/lang/constant/Constable"), (0, .class_ 4), (0, u "java/lang/Object")] 6

/-- java/lang/constant/Constable -/
def k2 : Class := { plain "java/lang/constant/Constable" (some 0) with
  accessFlags := 1537
  interfaces := #[]
  cf := some (fileOf pool2 1 #[] #[] 1537 3 #[] #[])
  fields := #[]
  methods := #[]
  instanceTypes := #[]
  staticTypes := #[]
  resolved := Array.replicate 11 none
  statics := none }

def pool3 : Array CpInfo := pool [(1, .class_ 2), (0, u "java/lang/Comparable"), (0, .class_ 4), (0, u "java/lang/Object")] 7

/-- java/lang/Comparable -/
def k3 : Class := { plain "java/lang/Comparable" (some 0) with
  accessFlags := 1537
  interfaces := #[]
  cf := some (fileOf pool3 1 #[] #[] 1537 3 #[] #[])
  fields := #[]
  methods := #[]
  instanceTypes := #[]
  staticTypes := #[]
  resolved := Array.replicate 12 none
  statics := none }

def pool4 : Array CpInfo := pool [(1, .class_ 2), (0, u "java/io/Serializable"), (0, .class_ 4), (0, u "java/lang/Object")] 2

/-- java/io/Serializable -/
def k4 : Class := { plain "java/io/Serializable" (some 0) with
  accessFlags := 1537
  interfaces := #[]
  cf := some (fileOf pool4 1 #[] #[] 1537 3 #[] #[])
  fields := #[]
  methods := #[]
  instanceTypes := #[]
  staticTypes := #[]
  resolved := Array.replicate 7 none
  statics := none }

def pool5 : Array CpInfo := pool [(2, .class_ 4), (1, u "java/lang/Enum"), (0, u "name"), (0, u "Ljava/lang/String;"), (2, u "ordinal"), (0, u "I"), (1, .class_ 14), (1, u "java/lang/Object"), (4, u "hash"), (86, .class_ 108), (1, u "java/lang/Enum$EnumDesc"), (2, .class_ 112), (0, u "java/lang/constant/Constable"), (0, .class_ 114), (0, u "java/lang/Comparable"), (0, .class_ 116), (0, u "java/io/Serializable")] 87

/-- java/lang/Enum -/
def k5 : Class := { plain "java/lang/Enum" (some 0) with
  accessFlags := 1057
  interfaces := #[2, 3, 4]
  cf := some (fileOf pool5 2 #[.nestMembers #[106]] #[] 1057 12 #[111, 113, 115] #[{ accessFlags := 18, nameIndex := 5, descriptorIndex := 6, attributes := #[] }, { accessFlags := 18, nameIndex := 9, descriptorIndex := 10, attributes := #[] }, { accessFlags := 2, nameIndex := 19, descriptorIndex := 10, attributes := #[] }])
  fields := #[{ name := "name", type := (.object "java/lang/String"), accessFlags := 18, slot := 0, constantValue := 0 }, { name := "ordinal", type := .int, accessFlags := 18, slot := 1, constantValue := 0 }, { name := "hash", type := .int, accessFlags := 2, slot := 2, constantValue := 0 }]
  methods := #[]
  instanceTypes := #[(.object "java/lang/String"), .int, .int]
  staticTypes := #[]
  resolved := Array.replicate 204 none
  statics := none }

def pool6 : Array CpInfo := pool [(1, .class_ 2), (0, u "com/example/gridclause/gridclause/core/RateUnit"), (2, u "USD_PER_MWH"), (0, u "Lcom/example/gridclause/gridclause/core/RateUnit;"), (2, u "CENTS_PER_KWH"), (2, u "USD_PER_MW_MONTH"), (2, u "USD_PER_MW_DAY"), (2, u "USD_PER_YEAR"), (2, u "USD_PER_MONTH"), (2, u "$VALUES"), (0, u "[Lcom/example/gridclause/gridclause/core/RateUnit;"), (6, .class_ 34), (1, u "java/lang/Enum"), (8, u "symbol"), (0, u "Ljava/lang/String;"), (2, u "quantityUnit"), (2, u "measure"), (0, u "Lcom/example/gridclause/gridclause/core/RateUnit$Measure;"), (2, u "quantityPerMwh"), (0, u "Ljava/math/BigDecimal;"), (2, u "dollarsPerRate"), (0, .fieldref 1 60), (0, .nameAndType 61 62), (0, u "capacityHeldFor"), (0, u "Ljava/time/temporal/ChronoUnit;"), (23, .fieldref 87 88), (0, .class_ 89), (0, .nameAndType 90 62), (0, u "java/time/temporal/ChronoUnit"), (0, u "DAYS"), (26, .class_ 119), (1, u "com/example/gridclause/gridclause/core/RateUnit$Measure"), (63, u "pricesCapacityByTheDay"), (0, u "()Z")] 44

def k6c0 : Code := { maxStack := 2, maxLocals := 1, code := prog_99_method_9_code, exceptionTable := #[], attributes := #[] }
def k6m0 : Method := { name := "pricesCapacityByTheDay", desc := "()Z", sig := { parameters := [], returnType := some .boolean }, accessFlags := 1, code := some k6c0 }
/-- com/example/gridclause/gridclause/core/RateUnit -/
def k6 : Class := { plain "com/example/gridclause/gridclause/core/RateUnit" (some 5) with
  accessFlags := 16433
  interfaces := #[]
  cf := some (fileOf pool6 1 #[.nestMembers #[117]] #[{ accessFlags := 1, nameIndex := 183, descriptorIndex := 184, attributes := #[] }] 16433 32 #[] #[{ accessFlags := 16409, nameIndex := 5, descriptorIndex := 6, attributes := #[] }, { accessFlags := 16409, nameIndex := 9, descriptorIndex := 6, attributes := #[] }, { accessFlags := 16409, nameIndex := 12, descriptorIndex := 6, attributes := #[] }, { accessFlags := 16409, nameIndex := 15, descriptorIndex := 6, attributes := #[] }, { accessFlags := 16409, nameIndex := 18, descriptorIndex := 6, attributes := #[] }, { accessFlags := 16409, nameIndex := 21, descriptorIndex := 6, attributes := #[] }, { accessFlags := 18, nameIndex := 43, descriptorIndex := 44, attributes := #[] }, { accessFlags := 18, nameIndex := 47, descriptorIndex := 44, attributes := #[] }, { accessFlags := 18, nameIndex := 50, descriptorIndex := 51, attributes := #[] }, { accessFlags := 18, nameIndex := 54, descriptorIndex := 55, attributes := #[] }, { accessFlags := 18, nameIndex := 58, descriptorIndex := 55, attributes := #[] }, { accessFlags := 18, nameIndex := 61, descriptorIndex := 62, attributes := #[] }, { accessFlags := 4122, nameIndex := 24, descriptorIndex := 25, attributes := #[] }])
  fields := #[{ name := "USD_PER_MWH", type := (.object "com/example/gridclause/gridclause/core/RateUnit"), accessFlags := 16409, slot := 0, constantValue := 0 }, { name := "CENTS_PER_KWH", type := (.object "com/example/gridclause/gridclause/core/RateUnit"), accessFlags := 16409, slot := 1, constantValue := 0 }, { name := "USD_PER_MW_MONTH", type := (.object "com/example/gridclause/gridclause/core/RateUnit"), accessFlags := 16409, slot := 2, constantValue := 0 }, { name := "USD_PER_MW_DAY", type := (.object "com/example/gridclause/gridclause/core/RateUnit"), accessFlags := 16409, slot := 3, constantValue := 0 }, { name := "USD_PER_YEAR", type := (.object "com/example/gridclause/gridclause/core/RateUnit"), accessFlags := 16409, slot := 4, constantValue := 0 }, { name := "USD_PER_MONTH", type := (.object "com/example/gridclause/gridclause/core/RateUnit"), accessFlags := 16409, slot := 5, constantValue := 0 }, { name := "symbol", type := (.object "java/lang/String"), accessFlags := 18, slot := 3, constantValue := 0 }, { name := "quantityUnit", type := (.object "java/lang/String"), accessFlags := 18, slot := 4, constantValue := 0 }, { name := "measure", type := (.object "com/example/gridclause/gridclause/core/RateUnit$Measure"), accessFlags := 18, slot := 5, constantValue := 0 }, { name := "quantityPerMwh", type := (.object "java/math/BigDecimal"), accessFlags := 18, slot := 6, constantValue := 0 }, { name := "dollarsPerRate", type := (.object "java/math/BigDecimal"), accessFlags := 18, slot := 7, constantValue := 0 }, { name := "capacityHeldFor", type := (.object "java/time/temporal/ChronoUnit"), accessFlags := 18, slot := 8, constantValue := 0 }, { name := "$VALUES", type := (.array (.object "com/example/gridclause/gridclause/core/RateUnit")), accessFlags := 4122, slot := 6, constantValue := 0 }]
  methods := #[k6m0]
  instanceTypes := #[(.object "java/lang/String"), .int, .int, (.object "java/lang/String"), (.object "java/lang/String"), (.object "com/example/gridclause/gridclause/core/RateUnit$Measure"), (.object "java/math/BigDecimal"), (.object "java/math/BigDecimal"), (.object "java/time/temporal/ChronoUnit")]
  staticTypes := #[(.object "com/example/gridclause/gridclause/core/RateUnit"), (.object "com/example/gridclause/gridclause/core/RateUnit"), (.object "com/example/gridclause/gridclause/core/RateUnit"), (.object "com/example/gridclause/gridclause/core/RateUnit"), (.object "com/example/gridclause/gridclause/core/RateUnit"), (.object "com/example/gridclause/gridclause/core/RateUnit"), (.array (.object "com/example/gridclause/gridclause/core/RateUnit"))]
  resolved := Array.replicate 229 none
  statics := some 0 }

def pool7 : Array CpInfo := pool [(4, .class_ 6), (1, u "java/time/temporal/TemporalUnit"), (23, .class_ 31), (0, u "java/lang/Object")] 27

/-- java/time/temporal/TemporalUnit -/
def k7 : Class := { plain "java/time/temporal/TemporalUnit" (some 0) with
  accessFlags := 1537
  interfaces := #[]
  cf := some (fileOf pool7 4 #[] #[] 1537 30 #[] #[])
  fields := #[]
  methods := #[]
  instanceTypes := #[]
  staticTypes := #[]
  resolved := Array.replicate 59 none
  statics := none }

def pool8 : Array CpInfo := pool [(1, .class_ 2), (0, u "java/time/temporal/ChronoUnit"), (2, u "NANOS"), (0, u "Ljava/time/temporal/ChronoUnit;"), (2, u "MICROS"), (2, u "MILLIS"), (2, u "SECONDS"), (2, u "MINUTES"), (2, u "HOURS"), (2, u "HALF_DAYS"), (2, u "DAYS"), (2, u "WEEKS"), (2, u "MONTHS"), (2, u "YEARS"), (2, u "DECADES"), (2, u "CENTURIES"), (2, u "MILLENNIA"), (2, u "ERAS"), (2, u "FOREVER"), (2, u "$VALUES"), (0, u "[Ljava/time/temporal/ChronoUnit;"), (6, .class_ 64), (1, u "java/lang/Enum"), (8, u "name"), (0, u "Ljava/lang/String;"), (2, u "duration"), (0, u "Ljava/time/Duration;"), (117, .class_ 197), (0, u "java/time/temporal/TemporalUnit")] 39

/-- java/time/temporal/ChronoUnit -/
def k8 : Class := { plain "java/time/temporal/ChronoUnit" (some 5) with
  accessFlags := 16433
  interfaces := #[7]
  cf := some (fileOf pool8 1 #[] #[] 16433 62 #[196] #[{ accessFlags := 16409, nameIndex := 5, descriptorIndex := 6, attributes := #[] }, { accessFlags := 16409, nameIndex := 9, descriptorIndex := 6, attributes := #[] }, { accessFlags := 16409, nameIndex := 12, descriptorIndex := 6, attributes := #[] }, { accessFlags := 16409, nameIndex := 15, descriptorIndex := 6, attributes := #[] }, { accessFlags := 16409, nameIndex := 18, descriptorIndex := 6, attributes := #[] }, { accessFlags := 16409, nameIndex := 21, descriptorIndex := 6, attributes := #[] }, { accessFlags := 16409, nameIndex := 24, descriptorIndex := 6, attributes := #[] }, { accessFlags := 16409, nameIndex := 27, descriptorIndex := 6, attributes := #[] }, { accessFlags := 16409, nameIndex := 30, descriptorIndex := 6, attributes := #[] }, { accessFlags := 16409, nameIndex := 33, descriptorIndex := 6, attributes := #[] }, { accessFlags := 16409, nameIndex := 36, descriptorIndex := 6, attributes := #[] }, { accessFlags := 16409, nameIndex := 39, descriptorIndex := 6, attributes := #[] }, { accessFlags := 16409, nameIndex := 42, descriptorIndex := 6, attributes := #[] }, { accessFlags := 16409, nameIndex := 45, descriptorIndex := 6, attributes := #[] }, { accessFlags := 16409, nameIndex := 48, descriptorIndex := 6, attributes := #[] }, { accessFlags := 16409, nameIndex := 51, descriptorIndex := 6, attributes := #[] }, { accessFlags := 18, nameIndex := 73, descriptorIndex := 74, attributes := #[] }, { accessFlags := 18, nameIndex := 77, descriptorIndex := 78, attributes := #[] }, { accessFlags := 4122, nameIndex := 54, descriptorIndex := 55, attributes := #[] }])
  fields := #[{ name := "NANOS", type := (.object "java/time/temporal/ChronoUnit"), accessFlags := 16409, slot := 0, constantValue := 0 }, { name := "MICROS", type := (.object "java/time/temporal/ChronoUnit"), accessFlags := 16409, slot := 1, constantValue := 0 }, { name := "MILLIS", type := (.object "java/time/temporal/ChronoUnit"), accessFlags := 16409, slot := 2, constantValue := 0 }, { name := "SECONDS", type := (.object "java/time/temporal/ChronoUnit"), accessFlags := 16409, slot := 3, constantValue := 0 }, { name := "MINUTES", type := (.object "java/time/temporal/ChronoUnit"), accessFlags := 16409, slot := 4, constantValue := 0 }, { name := "HOURS", type := (.object "java/time/temporal/ChronoUnit"), accessFlags := 16409, slot := 5, constantValue := 0 }, { name := "HALF_DAYS", type := (.object "java/time/temporal/ChronoUnit"), accessFlags := 16409, slot := 6, constantValue := 0 }, { name := "DAYS", type := (.object "java/time/temporal/ChronoUnit"), accessFlags := 16409, slot := 7, constantValue := 0 }, { name := "WEEKS", type := (.object "java/time/temporal/ChronoUnit"), accessFlags := 16409, slot := 8, constantValue := 0 }, { name := "MONTHS", type := (.object "java/time/temporal/ChronoUnit"), accessFlags := 16409, slot := 9, constantValue := 0 }, { name := "YEARS", type := (.object "java/time/temporal/ChronoUnit"), accessFlags := 16409, slot := 10, constantValue := 0 }, { name := "DECADES", type := (.object "java/time/temporal/ChronoUnit"), accessFlags := 16409, slot := 11, constantValue := 0 }, { name := "CENTURIES", type := (.object "java/time/temporal/ChronoUnit"), accessFlags := 16409, slot := 12, constantValue := 0 }, { name := "MILLENNIA", type := (.object "java/time/temporal/ChronoUnit"), accessFlags := 16409, slot := 13, constantValue := 0 }, { name := "ERAS", type := (.object "java/time/temporal/ChronoUnit"), accessFlags := 16409, slot := 14, constantValue := 0 }, { name := "FOREVER", type := (.object "java/time/temporal/ChronoUnit"), accessFlags := 16409, slot := 15, constantValue := 0 }, { name := "name", type := (.object "java/lang/String"), accessFlags := 18, slot := 3, constantValue := 0 }, { name := "duration", type := (.object "java/time/Duration"), accessFlags := 18, slot := 4, constantValue := 0 }, { name := "$VALUES", type := (.array (.object "java/time/temporal/ChronoUnit")), accessFlags := 4122, slot := 16, constantValue := 0 }]
  methods := #[]
  instanceTypes := #[(.object "java/lang/String"), .int, .int, (.object "java/lang/String"), (.object "java/time/Duration")]
  staticTypes := #[(.object "java/time/temporal/ChronoUnit"), (.object "java/time/temporal/ChronoUnit"), (.object "java/time/temporal/ChronoUnit"), (.object "java/time/temporal/ChronoUnit"), (.object "java/time/temporal/ChronoUnit"), (.object "java/time/temporal/ChronoUnit"), (.object "java/time/temporal/ChronoUnit"), (.object "java/time/temporal/ChronoUnit"), (.object "java/time/temporal/ChronoUnit"), (.object "java/time/temporal/ChronoUnit"), (.object "java/time/temporal/ChronoUnit"), (.object "java/time/temporal/ChronoUnit"), (.object "java/time/temporal/ChronoUnit"), (.object "java/time/temporal/ChronoUnit"), (.object "java/time/temporal/ChronoUnit"), (.object "java/time/temporal/ChronoUnit"), (.array (.object "java/time/temporal/ChronoUnit"))]
  resolved := Array.replicate 237 none
  statics := some 1 }

def pool9 : Array CpInfo := pool [(2, .class_ 4), (1, u "java/lang/CharSequence"), (42, .class_ 48), (0, u "java/lang/CharSequence$1CodePointIterator"), (10, .class_ 60), (0, u "java/lang/CharSequence$1CharIterator"), (5, .class_ 67), (0, u "java/lang/Object")] 63

/-- java/lang/CharSequence -/
def k9 : Class := { plain "java/lang/CharSequence" (some 0) with
  accessFlags := 1537
  interfaces := #[]
  cf := some (fileOf pool9 2 #[.nestMembers #[47, 59]] #[] 1537 66 #[] #[])
  fields := #[]
  methods := #[]
  instanceTypes := #[]
  staticTypes := #[]
  resolved := Array.replicate 131 none
  statics := none }

def pool10 : Array CpInfo := pool [(1, .class_ 2), (0, u "java/lang/constant/ConstantDesc"), (0, .class_ 4), (0, u "java/lang/Object")] 32

/-- java/lang/constant/ConstantDesc -/
def k10 : Class := { plain "java/lang/constant/ConstantDesc" (some 0) with
  accessFlags := 1537
  interfaces := #[]
  cf := some (fileOf pool10 1 #[] #[] 1537 3 #[] #[])
  fields := #[]
  methods := #[]
  instanceTypes := #[]
  staticTypes := #[]
  resolved := Array.replicate 37 none
  statics := none }

def pool11 : Array CpInfo := pool [(2, .class_ 4), (1, u "java/lang/Object"), (0, u "<init>"), (0, u "()V"), (3, .class_ 12), (1, u "java/lang/String"), (0, u "value"), (0, u "[B"), (2, u "coder"), (0, u "B"), (2, u "hash"), (0, u "I"), (2, u "hashIsZero"), (0, u "Z"), (13, u "COMPACT_STRINGS"), (534, .class_ 576), (0, u "java/lang/CharSequence"), (22, u "CASE_INSENSITIVE_ORDER"), (0, u "Ljava/util/Comparator;"), (500, u "serialPersistentFields"), (0, u "[Ljava/io/ObjectStreamField;"), (0, .class_ 1104), (0, u "java/lang/String$CaseInsensitiveComparator"), (1, .class_ 1107), (0, u "java/io/Serializable"), (0, .class_ 1109), (0, u "java/lang/Comparable"), (0, .class_ 1111), (0, u "java/lang/constant/Constable"), (0, .class_ 1113), (0, u "java/lang/constant/ConstantDesc"), (2, u "serialVersionUID"), (0, u "J"), (3, u "REPL"), (0, u "C"), (2, u "LATIN1"), (1, u "UTF16")] 323

def k11m0 : Method := { name := "<init>", desc := "()V", sig := { parameters := [], returnType := none }, accessFlags := 1, code := none }
/-- java/lang/String -/
def k11 : Class := { plain "java/lang/String" (some 0) with
  accessFlags := 49
  interfaces := #[4, 3, 9, 2, 10]
  cf := some (fileOf pool11 10 #[.nestMembers #[1103]] #[{ accessFlags := 1, nameIndex := 5, descriptorIndex := 6, attributes := #[] }] 49 2 #[1106, 1108, 575, 1110, 1112] #[{ accessFlags := 18, nameIndex := 13, descriptorIndex := 14, attributes := #[] }, { accessFlags := 18, nameIndex := 17, descriptorIndex := 18, attributes := #[] }, { accessFlags := 2, nameIndex := 21, descriptorIndex := 22, attributes := #[] }, { accessFlags := 2, nameIndex := 25, descriptorIndex := 26, attributes := #[] }, { accessFlags := 26, nameIndex := 1116, descriptorIndex := 1117, attributes := #[] }, { accessFlags := 24, nameIndex := 40, descriptorIndex := 26, attributes := #[] }, { accessFlags := 26, nameIndex := 1101, descriptorIndex := 1102, attributes := #[] }, { accessFlags := 26, nameIndex := 1121, descriptorIndex := 1122, attributes := #[] }, { accessFlags := 25, nameIndex := 599, descriptorIndex := 600, attributes := #[] }, { accessFlags := 24, nameIndex := 1125, descriptorIndex := 18, attributes := #[] }, { accessFlags := 24, nameIndex := 1127, descriptorIndex := 18, attributes := #[] }])
  fields := #[{ name := "value", type := (.array .byte), accessFlags := 18, slot := 0, constantValue := 0 }, { name := "coder", type := .byte, accessFlags := 18, slot := 1, constantValue := 0 }, { name := "hash", type := .int, accessFlags := 2, slot := 2, constantValue := 0 }, { name := "hashIsZero", type := .boolean, accessFlags := 2, slot := 3, constantValue := 0 }, { name := "serialVersionUID", type := .long, accessFlags := 26, slot := 0, constantValue := 0 }, { name := "COMPACT_STRINGS", type := .boolean, accessFlags := 24, slot := 1, constantValue := 0 }, { name := "serialPersistentFields", type := (.array (.object "java/io/ObjectStreamField")), accessFlags := 26, slot := 2, constantValue := 0 }, { name := "REPL", type := .char, accessFlags := 26, slot := 3, constantValue := 0 }, { name := "CASE_INSENSITIVE_ORDER", type := (.object "java/util/Comparator"), accessFlags := 25, slot := 4, constantValue := 0 }, { name := "LATIN1", type := .byte, accessFlags := 24, slot := 5, constantValue := 0 }, { name := "UTF16", type := .byte, accessFlags := 24, slot := 6, constantValue := 0 }]
  methods := #[k11m0]
  instanceTypes := #[(.array .byte), .byte, .int, .boolean]
  staticTypes := #[.long, .boolean, (.array (.object "java/io/ObjectStreamField")), .char, (.object "java/util/Comparator"), .byte, .byte]
  resolved := Array.replicate 1451 none
  statics := none }

def pool12 : Array CpInfo := pool [(1, .class_ 2), (0, u "java/time/temporal/TemporalAmount"), (0, .class_ 4), (0, u "java/lang/Object")] 11

/-- java/time/temporal/TemporalAmount -/
def k12 : Class := { plain "java/time/temporal/TemporalAmount" (some 0) with
  accessFlags := 1537
  interfaces := #[]
  cf := some (fileOf pool12 1 #[] #[] 1537 3 #[] #[])
  fields := #[]
  methods := #[]
  instanceTypes := #[]
  staticTypes := #[]
  resolved := Array.replicate 16 none
  statics := none }

def pool13 : Array CpInfo := pool [(11, .class_ 13), (1, u "java/time/Duration"), (20, u "ZERO"), (0, u "Ljava/time/Duration;"), (13, .class_ 51), (1, u "java/time/temporal/TemporalAmount"), (27, .class_ 81), (1, u "java/time/Duration$Lazy"), (35, u "seconds"), (101, .class_ 220), (0, u "java/lang/Object"), (2, u "J"), (2, u "nanos"), (0, u "I"), (11, .class_ 241), (1, u "java/time/Duration$DurationUnits"), (27, .class_ 271), (1, u "java/time/Duration$1"), (91, u "BI_NANOS_PER_SECOND"), (0, u "Ljava/math/BigInteger;"), (120, .class_ 486), (0, u "java/lang/Comparable"), (0, .class_ 488), (0, u "java/io/Serializable"), (0, u "serialVersionUID")] 166

/-- java/time/Duration -/
def k13 : Class := { plain "java/time/Duration" (some 0) with
  accessFlags := 49
  interfaces := #[12, 3, 4]
  cf := some (fileOf pool13 11 #[.nestMembers #[269, 239, 79]] #[] 49 219 #[49, 485, 487] #[{ accessFlags := 25, nameIndex := 34, descriptorIndex := 35, attributes := #[] }, { accessFlags := 26, nameIndex := 489, descriptorIndex := 223, attributes := #[] }, { accessFlags := 26, nameIndex := 363, descriptorIndex := 364, attributes := #[] }, { accessFlags := 18, nameIndex := 117, descriptorIndex := 223, attributes := #[] }, { accessFlags := 18, nameIndex := 226, descriptorIndex := 227, attributes := #[] }])
  fields := #[{ name := "ZERO", type := (.object "java/time/Duration"), accessFlags := 25, slot := 0, constantValue := 0 }, { name := "serialVersionUID", type := .long, accessFlags := 26, slot := 1, constantValue := 0 }, { name := "BI_NANOS_PER_SECOND", type := (.object "java/math/BigInteger"), accessFlags := 26, slot := 2, constantValue := 0 }, { name := "seconds", type := .long, accessFlags := 18, slot := 0, constantValue := 0 }, { name := "nanos", type := .int, accessFlags := 18, slot := 1, constantValue := 0 }]
  methods := #[]
  instanceTypes := #[.long, .int]
  staticTypes := #[(.object "java/time/Duration"), .long, (.object "java/math/BigInteger")]
  resolved := Array.replicate 656 none
  statics := none }

def pool14 : Array CpInfo := pool [(1, u "java/lang/Cloneable"), (0, .class_ 1), (0, u "java/lang/Object"), (0, .class_ 3)] 3

/-- java/lang/Cloneable -/
def k14 : Class := { plain "java/lang/Cloneable" (some 0) with
  accessFlags := 1537
  interfaces := #[]
  cf := some (fileOf pool14 2 #[] #[] 1537 4 #[] #[])
  fields := #[]
  methods := #[]
  instanceTypes := #[]
  staticTypes := #[]
  resolved := Array.replicate 8 none
  statics := none }

/-- the primitive byte -/
def k15 : Class := { plain "byte" none with kind := .primitive 'B', accessFlags := 0x411 }
/-- [B -/
def k16 : Class := { plain "[B" (some 0) with kind := .array 15 .byte, interfaces := #[14, 4], accessFlags := 1041 }

/-- the primitive int -/
def k17 : Class := { plain "int" none with kind := .primitive 'I', accessFlags := 0x411 }
/-- [I -/
def k18 : Class := { plain "[I" (some 0) with kind := .array 17 .int, interfaces := #[14, 4], accessFlags := 1041 }

def heap : Heap := #[{ cls := 6, slots := #[.ref 7, .ref 8, .ref 9, .ref 10, .ref 11, .ref 12, .null], vm := .statics 6 },
  { cls := 8, slots := #[.null, .null, .null, .null, .null, .null, .null, .ref 5, .null, .null, .null, .null, .null, .null, .null, .null, .null], vm := .statics 8 },
  { cls := 16, slots := #[.int 48], vm := .none },
  { cls := 11, slots := #[.ref 2, .int 0, .int 0, .int 0], vm := .none },
  { cls := 13, slots := #[.long 86400, .int 0], vm := .none },
  { cls := 8, slots := #[.ref 3, .int 7, .int 0, .ref 3, .ref 4], vm := .none },
  { cls := 8, slots := #[.null, .int 9, .int 0, .null, .null], vm := .none },
  { cls := 6, slots := #[.null, .int 0, .int 0, .null, .null, .null, .null, .null, .null], vm := .none },
  { cls := 6, slots := #[.null, .int 1, .int 0, .null, .null, .null, .null, .null, .null], vm := .none },
  { cls := 6, slots := #[.null, .int 2, .int 0, .null, .null, .null, .null, .null, .ref 6], vm := .none },
  { cls := 6, slots := #[.null, .int 3, .int 0, .null, .null, .null, .null, .null, .ref 5], vm := .none },
  { cls := 6, slots := #[.null, .int 4, .int 0, .null, .null, .null, .null, .null, .null], vm := .none },
  { cls := 6, slots := #[.null, .int 5, .int 0, .null, .null, .null, .null, .null, .null], vm := .none }]
def classes : Array Class := #[k0, k1, k2, k3, k4, k5, k6, k7, k8, k9, k10, k11, k12, k13, k14, k15, k16, k17, k18]
def interned : List (Array UInt16 × Addr) := []
def slotsUsed : Nat := 95
def theMethod : MethodId := ⟨1, 2⟩
def args0 : Array Value := #[.int 5]
def aboutOver (below : List Frame) : State where
  vm := { classes := classes, interned := interned.toArray }
  heap := heap
  slotsUsed := slotsUsed
  threads := #[{ frames := .invoking theMethod args0 :: below }]
def below0 : List Frame := [.native { method := ⟨0, 0⟩, args := #[] }]
def about1 : State := aboutOver below0
def p0 : Program := .bare "" "" ""
def e0 : Env := launch0.env 0 0 0
theorem w_frames : about1.frames = Frame.invoking theMethod args0 :: below0 := rfl
set_option maxRecDepth 65536 in
theorem w_args : argsFit about1.vm theMethod args0 = true := by decide +kernel
set_option maxRecDepth 65536 in
theorem w_heap : heapFits about1 = true := by decide +kernel
set_option maxRecDepth 65536 in
theorem w_runnable : about1.curStatus? = some .runnable := by decide +kernel
set_option maxRecDepth 65536 in
theorem w_alone : about1.alone = true := by decide +kernel
set_option maxRecDepth 65536 in
theorem w_named : about1.methodNamed? x = some theMethod := by decide +kernel
set_option maxRecDepth 65536 in
theorem w_hears : about1.hears theMethod below0 = true := by decide +kernel
set_option maxRecDepth 65536 in
theorem w_ripe : about1.ripe theMethod args0 below0 = true := by decide +kernel
theorem w_running : about1.status = .running := rfl
set_option maxRecDepth 65536 in
theorem w_room : about1.hasRoom e0.platform room_1 = true :=
  launch0.hasRoom_least _ room_1 (by decide +kernel) (by decide +kernel) (by decide +kernel) (by decide +kernel) (by decide +kernel) (by decide +kernel)
theorem allAtoms_all (ts : List Jvm.Cond) (a : Array Jvm.Value) (st : Jvm.State) : (allAtoms ts).before a st = ts.all (fun c => c.before a st) := by
  induction ts with
  | nil => rfl
  | cons c t ih =>
    show (Jvm.Cond.and c (allAtoms t)).before a st = _
    rw [Jvm.Cond.before_and, ih, List.all_cons]
def words1 : List Jvm.Cond := Jvm.Cond.code x code maxLocals ret :: tables_1
/-- a 'code' word, met by the world's own term for the bytes: nothing is compared byte by byte -/
theorem code_word {y : MethodName} {bytes : ByteArray} {mx : Nat} {rt : Option FieldType} {a : Array Value} {s : State} {m : MethodId} {meth : Method} {c : Code} (h1 : s.methodNamed? y = some m) (h2 : s.vm.method? m = some meth) (h3 : meth.code = some c) (h4 : c.code = bytes)
    (h5 : (c.maxLocals == mx && c.exceptionTable.isEmpty && decide (c.maxStack ≤ mostOperands) && decide (meth.sig.returnType = rt) && !meth.locks && decide (parseMethodDescriptor y.desc = some meth.sig)) = true) : (Jvm.Cond.code y bytes mx rt).before a s = true := by
  simp only [Bool.and_eq_true, beq_iff_eq, Bool.not_eq_true', decide_eq_true_eq] at h5
  obtain ⟨⟨⟨⟨⟨g1, g2⟩, g3⟩, g4⟩, g5⟩, g6⟩ := h5
  simp [Cond.before, Cond.holds, Cond.value, h1, h2, h3, h4, g1, g2, g3, g4, g5, g6]
def isCode : Jvm.Cond → Bool
  | .code _ _ _ _ => true
  | _ => false
theorem all_split {L : List Jvm.Cond} {P : Jvm.Cond → Bool} (h1 : L.all (fun c => isCode c || P c) = true) (h2 : ∀ c ∈ L.filter isCode, P c = true) : L.all P = true := by
  refine List.all_eq_true.mpr fun c hc => ?_
  have h := List.all_eq_true.mp h1 c hc
  rcases Bool.eq_false_or_eq_true (isCode c) with hi | hi
  · exact h2 c (List.mem_filter.mpr ⟨hc, hi⟩)
  · simpa [hi] using h
set_option maxRecDepth 65536 in
theorem w_c0 : (Jvm.Cond.code x code maxLocals ret).before args0 about1 = true := code_word (m := ⟨1, 2⟩) (meth := k1m2) (c := k1c2) (by decide +kernel) rfl rfl rfl (by decide +kernel)
set_option maxRecDepth 65536 in
theorem w_c1 : (Jvm.Cond.code ({ cls := "com/example/gridclause/gridclause/core/RateUnitPricesCapacityByTheDayPinLaw", name := "pick", desc := "(I)Lcom/example/gridclause/gridclause/core/RateUnit;" } : Jvm.MethodName) method_2_code (1 : Nat) (Option.some (Jvm.ClassFile.FieldType.object "com/example/gridclause/gridclause/core/RateUnit"))).before args0 about1 = true := code_word (m := ⟨1, 1⟩) (meth := k1m1) (c := k1c1) (by decide +kernel) rfl rfl rfl (by decide +kernel)
set_option maxRecDepth 65536 in
theorem w_c2 : (Jvm.Cond.code ({ cls := "com/example/gridclause/gridclause/core/RateUnit", name := "pricesCapacityByTheDay", desc := "()Z" } : Jvm.MethodName) prog_99_method_9_code (1 : Nat) (Option.some Jvm.ClassFile.FieldType.boolean)).before args0 about1 = true := code_word (m := ⟨6, 0⟩) (meth := k6m0) (c := k6c0) (by decide +kernel) rfl rfl rfl (by decide +kernel)
def codes1 : List Jvm.Cond := [Jvm.Cond.code x code maxLocals ret, Jvm.Cond.code ({ cls := "com/example/gridclause/gridclause/core/RateUnitPricesCapacityByTheDayPinLaw", name := "pick", desc := "(I)Lcom/example/gridclause/gridclause/core/RateUnit;" } : Jvm.MethodName) method_2_code (1 : Nat) (Option.some (Jvm.ClassFile.FieldType.object "com/example/gridclause/gridclause/core/RateUnit")), Jvm.Cond.code ({ cls := "com/example/gridclause/gridclause/core/RateUnit", name := "pricesCapacityByTheDay", desc := "()Z" } : Jvm.MethodName) prog_99_method_9_code (1 : Nat) (Option.some Jvm.ClassFile.FieldType.boolean)]
set_option maxRecDepth 65536 in
theorem codes_eq : words1.filter isCode = codes1 := rfl
theorem w_codes : ∀ c ∈ words1.filter isCode, c.before args0 about1 = true := by
  rw [codes_eq]
  intro c hc
  simp only [codes1, List.mem_cons, List.not_mem_nil, or_false] at hc
  rcases hc with rfl | rfl | rfl
  · exact w_c0
  · exact w_c1
  · exact w_c2
set_option maxRecDepth 65536 in
theorem w_t1 : (words1.take 24).all (fun c => isCode c || c.before args0 about1) = true := by decide +kernel
set_option maxRecDepth 65536 in
theorem w_t2 : (words1.drop 24).all (fun c => isCode c || c.before args0 about1) = true := by decide +kernel
theorem w_tables : (allAtoms (Jvm.Cond.code x code maxLocals ret :: tables_1)).before args0 about1 = true := by
  rw [allAtoms_all]
  show words1.all (fun c => c.before args0 about1) = true
  refine all_split ?_ w_codes
  rw [← List.take_append_drop 24 words1, List.all_append, w_t1, w_t2]
  rfl
set_option maxRecDepth 65536 in
theorem w_rest : rest_1_c.before args0 about1 = true := by decide +kernel
set_option maxRecDepth 65536 in
theorem w_case : (Jvm.Cond.and given_1 narrow_1).before args0 about1 = true := by decide +kernel
theorem w_applies : (headSpec (Jvm.Cond.code x code maxLocals ret :: tables_1) room_1).applies x e0.platform about1 = true :=
  (Spec.applies_iff w_frames).mpr ⟨w_running, w_runnable, w_alone, w_named, w_hears, w_ripe, w_room, w_tables⟩
theorem atStart : AtStart classFile x code maxLocals ret World_1 tables_1 room_1 Calls_1 rest_1 Pre_1 launch0 p0 e0 about1 theMethod args0 below0 :=
  ⟨lists_1, trivial, launch0.admits_env _ _ _, launch0.least_env, fairChoices_fair.cas, fairChoices_fair.clock, w_frames, w_args, w_heap, w_applies, trivial, w_rest, w_case⟩
end start1
theorem witness_1 : WitnessClaimed_1 := ⟨start1.p0, start1.e0, start1.about1, start1.theMethod, start1.args0, start1.below0, start1.atStart⟩
end Jvm.Pilot.@@N@@
