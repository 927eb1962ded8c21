import JvmDerived
import JvmDerived.Pilot.@@N@@Statement
import JvmDerived.Pilot.@@N@@Code
set_option linter.unusedVariables false
set_option linter.unusedSimpArgs false
namespace Jvm.RoadKit
open Sem ClassFile Op Lib Jvm.Stand Jvm.Free Jvm.LawKit
section Own
variable {p : Program} {l : Launch} {e : Env} {R : Room} {s : State} {m : MethodId} {args : Array Value} {below : List Frame} {meth : Method} {c : Code} {T : State} {locs : List Loc} {cells slots : Nat} {Z : State} {a0 : Array Value} {h : Heap}
theorem retI (X : Stand p l e R s m args below meth c T locs cells slots) (hx : p.tables.exec = Jvm.exec) {pc : Nat} {Ls : Array Slot} {z : Int32} {rest : List Value} (hret : meth.sig.returnType = some .int) (hd : decode c.code pc = .ok (.ireturn, 1)) {fs : List Frame}
    (hl : ∀ (f : JFrame) (acts : List Action), f.method = m → f.locked = none → f.entered = [] → (doReturn e (T.setTop f) acts (some (.int z))).1 = T.setFrames fs) : Steps p.tables e below (T.setTop (mkF m pc Ls (.int z :: rest))) (T.setFrames fs) := by
  have hm' : T.vm.method? m = some meth := X.method'
  have hn : narrow .int (.int z) = .int z := rfl
  show Steps p.tables e below (T.setTop { method := m, pc := pc, locals := Ls, stack := _ :: rest, locked := none }) _
  jvm_step X.here [X.here.top, hx, hd, hm', hret, hn]
  first | (intro acts; rw [hl _ acts rfl rfl rfl]) | rw [hl _ _ rfl rfl rfl]
  exact Steps.refl _
theorem own_retN (X : Stand p l e R s m args below meth c T locs cells slots) (hx : p.tables.exec = Jvm.exec) {pc : Nat} {Ls : Array Slot} {z z' : Int32} {t : FieldType} {rest : List Value} (hret : meth.sig.returnType = some t) (ht : t = .boolean ∨ t = .byte ∨ t = .char ∨ t = .short)
    (hd : decode c.code pc = .ok (.ireturn, 1)) (eq : nar t z = z') {fs : List Frame} (hl : ∀ (f : JFrame) (acts : List Action), f.method = m → f.locked = none → f.entered = [] → (doReturn e (T.setTop f) acts (some (.int z'))).1 = T.setFrames fs) :
    Steps p.tables e below (T.setTop (mkF m pc Ls (.int z :: rest))) (T.setFrames fs) := retN X hx hret ht hd (by rw [eq]; exact hl)
/-- the run comes from S to an end of which Q holds -/
def ownGo (p : Program) (e : Env) (below : List Frame) (Q : Outcome → State → Prop) (S : State) : Prop := ∃ s₂ o, Steps p.tables e below S s₂ ∧ s₂.status = .running ∧ Ended s₂ below o ∧ Q o s₂
theorem own_st {Q : Outcome → State → Prop} {S : State} (S' : State) (h : ∀ t, Steps p.tables e below S' t → Steps p.tables e below S t) (k : ownGo p e below Q S') : ownGo p e below Q S := by
  obtain ⟨a, b, h1, h2⟩ := k; exact ⟨a, b, h _ h1, h2⟩
theorem own_cast {Q : Outcome → State → Prop} {g g' : JFrame} (q : g = g') (k : ownGo p e below Q (T.setTop g')) : ownGo p e below Q (T.setTop g) := q ▸ k
def ownQ (s : State) (QQ : Option Value → Heap → List Loc → Prop) (C N : Nat) : Outcome → State → Prop := fun o U' => ∃ v L, o = .returned v ∧ QQ v U'.heap L ∧ FrameEnd s o U' L C N
theorem own_ret (X : Stand p l e R s m args below meth c T locs cells slots) (hlk : meth.locks = false) {v : Option Value} (hv : meth.sig.returnType = none → v = none) {QQ : Option Value → Heap → List Loc → Prop} {C N : Nat} (eT : T.heap = h) (hq : QQ v h locs) (hC : cells ≤ C) (hN : slots ≤ N) {S : State}
    (hs : ∀ fs, (∀ (f : JFrame) (acts : List Action), f.method = m → f.locked = none → f.entered = [] → (doReturn e (T.setTop f) acts v).1 = T.setFrames fs) → Steps p.tables e below S (T.setFrames fs)) : ownGo p e below (ownQ s QQ C N) S := by
  obtain ⟨fs, hr, hrun, hended, hW, hsame⟩ := X.leave (v := v) hv hlk
  exact ⟨_, _, hs fs hr, hrun, hended, v, locs, rfl, (by show QQ v T.heap locs; rw [eT]; exact hq), ⟨_, rfl⟩, hW, hsame.mono hC hN⟩
/-- a body's contract -/
abbrev ownMet (l : Launch) (y : MethodName) (bytes : ByteArray) (maxL : Nat) (ret : Option FieldType) (ws : List Jvm.Cond) (rm : Room) (Z : State) (as : Array Value) (h0 : Heap) (QQ : Option Value → Heap → List Loc → Prop) : Prop :=
  MetFree l y (head1 (Jvm.Cond.code y bytes maxL ret :: ws) rm) (fun a U => a = as ∧ Z.Warmed39 U.vm ∧ U.heap = h0) (fun _ _ _ _ _ => True) (fun _ U o U' => ∃ v L, o = .returned v ∧ QQ v U'.heap L ∧ FrameEnd U o U' L rm.cells rm.slots)
theorem own_met {y : MethodName} {bytes : ByteArray} {maxL : Nat} {ret : Option FieldType} {ws : List Jvm.Cond} {rm : Room} {as : Array Value} {h0 : Heap} {QQ : Option Value → Heap → List Loc → Prop} (hpl : plainFor y = true)
    (body : ∀ (p : Program) (e : Env) (s : State) (m : MethodId) (below : List Frame) (meth : Method) (c : Code) (s₁ : State), p.tables.exec = Jvm.exec → c.code = bytes → c.maxLocals = maxL → s.vm.findClass y.cls = some m.cls → meth.name = y.name → meth.sig.returnType = ret → meth.locks = false → Z.Warmed39 s.vm → s₁.heap = h0 → Stand p l e rm s m as below meth c s₁ [] 0 0 →
      ownGo p e below (ownQ s QQ rm.cells rm.slots) (s₁.setTop (entryFrame m as maxL))) : ownMet l y bytes maxL ret ws rm Z as h0 QQ := by
  refine MetFree.of_bodySF hpl hisR ?_
  intro p e s m args below meth c s₁ Bd hml0 hP hK
  obtain ⟨rfl, hZ, hh⟩ := hP
  exact body p e s m below meth c s₁ Bd.exec Bd.bytes hml0 (findClass_of_methodNamed Bd.named) (name_of_methodNamed Bd.named Bd.method).1 Bd.returns Bd.notSynchronized hZ (by rw [← hh, Bd.state]; rfl) (Stand.of_body Bd)
theorem own_callS (X : Stand p l e R s m args below meth c T locs cells slots) (hx : p.tables.exec = Jvm.exec) (hZ : Z.Warmed39 s.vm) {own : String} {index : Nat} {y : MethodName} {bytes : ByteArray} {maxL : Nat} {ret : Option FieldType} (hown : s.vm.findClass own = some m.cls)
    (w1 : (Jvm.Cond.methodLink own index y).before a0 Z = true) (w2 : (Jvm.Cond.static y).before a0 Z = true) (w3 : (Jvm.Cond.initialized y.cls).before a0 Z = true) (w4 : (Jvm.Cond.code y bytes maxL ret).before a0 Z = true)
    {rm : Room} {QQ : Option Value → Heap → List Loc → Prop} {argsL : List Value} (hM : ownMet l y bytes maxL ret [] rm Z argsL.toArray h QQ) (W : Nat)
    (hy : y.cls ≠ "java/lang/invoke/MethodHandle" ∧ y.cls ≠ "java/lang/invoke/VarHandle") (hf : rm.frames + 1 ≤ R.frames) (hl : W + (maxL + 11) + rm.locals ≤ R.locals) (hc : cells + rm.cells ≤ R.cells) (hs : slots + rm.slots ≤ R.slots)
    (eT : T.heap = h) {g : JFrame} (hg : g.method = m) (hsize : g.locals.size = c.maxLocals) (rest : List Value) (hlen : ∀ sig, parseMethodDescriptor y.desc = some sig → argsL.length = sig.parameters.length) (hstack : g.stack = argsL.reverse ++ rest) (hW : 2 * g.monitorRoom + (rest.map fun v => v.category).sum ≤ W) (hdg : decode c.code g.pc = .ok (.invokestatic index, 3)) :
    ∃ v T' L, Stand p l e R s m args below meth c T' (locs ++ L) (cells + rm.cells) (slots + rm.slots) ∧ QQ v T'.heap L ∧ ∀ target, Steps p.tables e below (T'.setTop { g with pc := g.pc + 3, stack := v.toList ++ rest }) target → Steps p.tables e below (T.setTop g) target := by
  obtain ⟨v, _, ⟨T1, L1, k1, n1⟩, -, X1, ⟨Lc, hQ, l1, y1, z1⟩, st⟩ := Jvm.LawKit.callS X hx (y := y) hown (mvT hZ w1) (mvT hZ w2) (mvT hZ w3) (mvT hZ w4) hy (backOf (W := W) hM hZ w4 w3 hf hl) hg hsize (argsL := argsL) (rest := rest) hlen hstack hW hdg (fun _ _ => ⟨rfl, eT, hc, hs⟩)
  dsimp only [Pt.U, Pt.locs, Pt.cells, Pt.slots] at X1 l1 y1 z1 st hQ
  subst l1 y1 z1
  exact ⟨v, T1, Lc, X1, hQ, st⟩
theorem own_callI (X : Stand p l e R s m args below meth c T locs cells slots) (hx : p.tables.exec = Jvm.exec) (hZ : Z.Warmed39 s.vm) {own : String} {index : Nat} {y : MethodName} {bytes : ByteArray} {maxL : Nat} (hown : s.vm.findClass own = some m.cls) (hy1 : y.name = "<init>")
    (w1 : (Jvm.Cond.methodLink own index y).before a0 Z = true) (w2 : (Jvm.Cond.instanceMethod y).before a0 Z = true) (w3 : (Jvm.Cond.initialized y.cls).before a0 Z = true) (w4 : (Jvm.Cond.code y bytes maxL none).before a0 Z = true)
    {rm : Room} {QQ : Option Value → Heap → List Loc → Prop} {a : Addr} {argsL : List Value} (hM : ownMet l y bytes maxL none [] rm Z (.ref a :: argsL).toArray h QQ) (W : Nat)
    (hy : y.cls ≠ "java/lang/invoke/MethodHandle" ∧ y.cls ≠ "java/lang/invoke/VarHandle") (hf : rm.frames + 1 ≤ R.frames) (hl : W + (maxL + 11) + rm.locals ≤ R.locals) (hc : cells + rm.cells ≤ R.cells) (hs : slots + rm.slots ≤ R.slots)
    (eT : T.heap = h) {g : JFrame} (hg : g.method = m) (hsize : g.locals.size = c.maxLocals) (rest : List Value) (hlen : ∀ sig, parseMethodDescriptor y.desc = some sig → argsL.length = sig.parameters.length) (hstack : g.stack = argsL.reverse ++ .ref a :: rest) (hW : 2 * g.monitorRoom + (rest.map fun v => v.category).sum ≤ W) (hdg : decode c.code g.pc = .ok (.invokespecial index, 3)) :
    ∃ v T' L, Stand p l e R s m args below meth c T' (locs ++ L) (cells + rm.cells) (slots + rm.slots) ∧ QQ v T'.heap L ∧ ∀ target, Steps p.tables e below (T'.setTop { g with pc := g.pc + 3, stack := v.toList ++ rest }) target → Steps p.tables e below (T.setTop g) target := by
  obtain ⟨v, _, ⟨T1, L1, k1, n1⟩, -, X1, ⟨Lc, hQ, l1, y1, z1⟩, st⟩ := X.specialBack hx (y := y) hy1 hown (mvT hZ w1) (mvT hZ w2) (mvT hZ w4) hy (backOf (W := W) hM hZ w4 w3 hf hl) hg hsize (Steps.refl _) (a := a) (argsL := argsL) (rest := rest) hlen hstack hW hdg (fun _ _ => ⟨rfl, eT, hc, hs⟩)
  dsimp only [Pt.U, Pt.locs, Pt.cells, Pt.slots] at X1 l1 y1 z1 st hQ
  subst l1 y1 z1
  exact ⟨v, T1, Lc, X1, hQ, fun t k => st.trans k⟩
theorem own_nfz {y : MethodName} (hZ : Z.Warmed39 s.vm) (nf : NotFace Z y) : NotFace s y := fun r0 h0 => by
  have e : (Z.setVm s.vm).methodNamed? y = some r0 := h0
  rw [State.methodNamed?_setVm hZ.alike] at e
  obtain ⟨kr, a1, a2⟩ := nf r0 e
  obtain ⟨k', q1, q2⟩ := hZ.alike.2.2 _ _ a1
  exact ⟨k', q1, by rw [q2]; exact a2⟩
theorem own_callV (X : Stand p l e R s m args below meth c T locs cells slots) (hx : p.tables.exec = Jvm.exec) (hZ : Z.Warmed39 s.vm) {own C : String} {index : Nat} {y z : MethodName} {bytes : ByteArray} {maxL : Nat} {ret : Option FieldType} (hown : s.vm.findClass own = some m.cls)
    (w1 : (Jvm.Cond.methodLink own index y).before a0 Z = true) (wd : (Jvm.Cond.declares y).before a0 Z = true) (nf : NotFace Z y) (wsel : (Jvm.Cond.selects C y z).before a0 Z = true) (w2 : (Jvm.Cond.instanceMethod z).before a0 Z = true) (w3 : (Jvm.Cond.initialized z.cls).before a0 Z = true) (w4 : (Jvm.Cond.code z bytes maxL ret).before a0 Z = true)
    {b : Addr} (E : Exa Z h b C) {rm : Room} {QQ : Option Value → Heap → List Loc → Prop} {argsL : List Value} (hM : ownMet l z bytes maxL ret [] rm Z (.ref b :: argsL).toArray h QQ) (W : Nat)
    (hy : y.cls ≠ "java/lang/invoke/MethodHandle" ∧ y.cls ≠ "java/lang/invoke/VarHandle") (hf : rm.frames + 1 ≤ R.frames) (hl : W + (maxL + 11) + rm.locals ≤ R.locals) (hc : cells + rm.cells ≤ R.cells) (hs : slots + rm.slots ≤ R.slots)
    (eT : T.heap = h) {g : JFrame} (hg : g.method = m) (hsize : g.locals.size = c.maxLocals) (rest : List Value) (hlen : ∀ sig, parseMethodDescriptor y.desc = some sig → argsL.length = sig.parameters.length) (hstack : g.stack = argsL.reverse ++ .ref b :: rest) (hW : 2 * g.monitorRoom + (rest.map fun v => v.category).sum ≤ W) (hdg : decode c.code g.pc = .ok (.invokevirtual index, 3)) :
    ∃ v T' L, Stand p l e R s m args below meth c T' (locs ++ L) (cells + rm.cells) (slots + rm.slots) ∧ QQ v T'.heap L ∧ ∀ target, Steps p.tables e below (T'.setTop { g with pc := g.pc + 3, stack := v.toList ++ rest }) target → Steps p.tables e below (T.setTop g) target := by
  obtain ⟨cq, kq, qa, qb, qc⟩ := isOf (T := T) hZ eT E
  obtain ⟨v, _, ⟨T1, L1, k1, n1⟩, -, X1, ⟨Lc, hQ, l1, y1, z1⟩, st⟩ := X.virtualBack hx (y := y) (z := z) hown (mvT hZ w1) (mvT hZ wd) (own_nfz hZ nf) (mvT hZ wsel) (mvT hZ w2) hy (backOf (W := W) hM hZ w4 w3 hf hl) qa qc hg hsize (Steps.refl _) (argsL := argsL) (rest := rest) hlen hstack hW hdg (fun _ _ => ⟨rfl, eT, hc, hs⟩)
  dsimp only [Pt.U, Pt.locs, Pt.cells, Pt.slots] at X1 l1 y1 z1 st hQ
  subst l1 y1 z1
  exact ⟨v, T1, Lc, X1, hQ, fun t k => st.trans k⟩
theorem own_eqI {first : State} {o : Option Outcome} {idx : List Nat} {a b : Term} {n : Int32} (h : (Jvm.Cond.eq a b).value args first o s idx = some true) (hb : b.eval args first o idx s = some (.int n)) : a.eval args first o idx s = some (.int n) := by
  obtain ⟨x, y, ex, ey, k1, k2⟩ := cmp_v (Or.inl h)
  cases ey.symm.trans hb
  obtain ⟨z, rfl⟩ := k2
  rw [ex, gotT (Jvm.Cond.eq_ints ex hb) h]
theorem own_eqR {first : State} {o : Option Outcome} {idx : List Nat} {a b : Term} {y : Addr} (h : (Jvm.Cond.eq a b).value args first o s idx = some true) (hb : b.eval args first o idx s = some (.ref y)) : a.eval args first o idx s = some (.ref y) := by
  obtain ⟨x, y', ex, ey, k1, k2⟩ := cmp_v (Or.inl h)
  cases ey.symm.trans hb
  have q := gotT (eq_R ex hb k2.2 rfl) h
  rw [ex, q]
theorem own_arv {t : Term} {a : Addr} {cl : Cell} {ty : FieldType} {z : Int32} {vs : List Value} {dv : Value} (hf : Fit s) (A : Arr s s.heap a cl ty) (ev : t.eval args s none [] s = some (.ref a)) (hl : (Term.length t).eval args s none [] s = some (.int z)) (hz : ¬ z < 0) (hn : z.toNatClampNeg = vs.length) (H : HasL cl 0 vs) : Arv s s.heap a cl.cls ty z vs dv := by
  have harr := A.fin (Vm.Alike.refl _)
  have h31 := SBG.length_lt ev harr hl
  have e := Option.some.inj ((len_f ev harr h31).symm.trans hl)
  exact Arv.start hf A h31 (Value.int.inj e) hz hn H
theorem own_nfc {y y' : MethodName} {r : MethodId} (h : NotFace s y') (hr : s.methodNamed? y' = some r) (hc : y.cls = y'.cls) : NotFace s y := fun r0 h0 => by
  obtain ⟨kr, a1, a2⟩ := h r hr
  have q1 := findClass_of_methodNamed h0
  have q2 := findClass_of_methodNamed hr
  rw [hc] at q1
  have e : r0.cls = r.cls := Option.some.inj (q1.symm.trans q2)
  exact ⟨kr, by rw [e]; exact a1, a2⟩
theorem own_named {y : MethodName} (w : (Jvm.Cond.instanceMethod y).before a0 s = true) : ∃ r, s.methodNamed? y = some r := by
  obtain ⟨mk, methM, hnamed, -⟩ := Jvm.Cond.instanceMethod_spec w
  exact ⟨mk, hnamed⟩
theorem own_same {y : MethodName} (nf : NotFace s y) (w : (Jvm.Cond.instanceMethod y).before a0 s = true) (hy : y.cls ≠ "java/lang/invoke/MethodHandle" ∧ y.cls ≠ "java/lang/invoke/VarHandle") : (Jvm.Cond.sameMethod y.cls y.cls y.name y.desc).before args s = true := by
  obtain ⟨r, hr⟩ := own_named w
  obtain ⟨kr, a1, a2⟩ := nf r hr
  have q1 := findClass_of_methodNamed hr
  have q2 := State.methodFound?_of_named hr hy
  have hr' : s.methodNamed? ⟨y.cls, y.name, y.desc⟩ = some r := hr
  simp [Jvm.Cond.before, Jvm.Cond.holds, Jvm.Cond.value, q1, q2, hr', a1, a2]
theorem own_callP (X : Stand p l e R s m args below meth c T locs cells slots) (hx : p.tables.exec = Jvm.exec) (hZ : Z.Warmed39 s.vm) {own C : String} {index : Nat} {y : MethodName} {bytes : ByteArray} {maxL : Nat} {ret : Option FieldType} (hown : s.vm.findClass own = some m.cls)
    (w1 : (Jvm.Cond.methodLink own index y).before a0 Z = true) (wp : (Jvm.Cond.privateMethod y).before a0 Z = true) (nf : NotFace Z y) (w2 : (Jvm.Cond.instanceMethod y).before a0 Z = true) (w3 : (Jvm.Cond.initialized y.cls).before a0 Z = true) (w4 : (Jvm.Cond.code y bytes maxL ret).before a0 Z = true)
    {b : Addr} (E : Exa Z h b C) {rm : Room} {QQ : Option Value → Heap → List Loc → Prop} {argsL : List Value} (hM : ownMet l y bytes maxL ret [] rm Z (.ref b :: argsL).toArray h QQ) (W : Nat)
    (hy : y.cls ≠ "java/lang/invoke/MethodHandle" ∧ y.cls ≠ "java/lang/invoke/VarHandle") (hf : rm.frames + 1 ≤ R.frames) (hl : W + (maxL + 11) + rm.locals ≤ R.locals) (hc : cells + rm.cells ≤ R.cells) (hs : slots + rm.slots ≤ R.slots)
    (eT : T.heap = h) {g : JFrame} (hg : g.method = m) (hsize : g.locals.size = c.maxLocals) (rest : List Value) (hlen : ∀ sig, parseMethodDescriptor y.desc = some sig → argsL.length = sig.parameters.length) (hstack : g.stack = argsL.reverse ++ .ref b :: rest) (hW : 2 * g.monitorRoom + (rest.map fun v => v.category).sum ≤ W) (hdg : decode c.code g.pc = .ok (.invokevirtual index, 3)) :
    ∃ v T' L, Stand p l e R s m args below meth c T' (locs ++ L) (cells + rm.cells) (slots + rm.slots) ∧ QQ v T'.heap L ∧ ∀ target, Steps p.tables e below (T'.setTop { g with pc := g.pc + 3, stack := v.toList ++ rest }) target → Steps p.tables e below (T.setTop g) target := by
  obtain ⟨cell, hcell, hobj⟩ := E.cell
  obtain ⟨mk, methM, hnamed, hmethM, hstM, habM⟩ := Jvm.Cond.instanceMethod_spec (mvT (args := args) hZ w2)
  obtain ⟨methM', cM, hmethM', -, -, -, -, -, -, hsigM⟩ := Jvm.Cond.code_spec hnamed (mvT (args := args) hZ w4)
  cases hmethM.symm.trans hmethM'
  obtain ⟨kP, hkP, hkPi⟩ := own_nfz hZ nf mk hnamed
  have hselP : selectMethod e.platform s.vm cell.cls mk = .method mk := selectMethod_private hmethM ((Jvm.Cond.privateMethod_at (mvP (args := #[]) hZ wp)) mk methM hnamed hmethM)
  obtain ⟨vm₁, X₁, hstep₁⟩ := X.invokevirtual hx hown (mvT hZ w1) hnamed hmethM hstM hkP hkPi hy (a := b) (cell := cell) (by rw [eT]; exact hcell) hobj hselP hmethM habM hkP hkPi (g := g) hg (argsL := argsL) (rest := rest) (hlen _ hsigM) hstack hdg
  obtain ⟨v, ⟨T1, L1, k1, n1⟩, X1, ⟨Lc, hQ, l1, y1, z1⟩, st⟩ := (backOf (len := 3) (W := W) (p := p) (e := e) (below := below) (args := args) (R := R) hM hZ w4 w3 hf hl) m meth c ⟨T.setVm vm₁, locs, cells, slots⟩ { g with stack := rest } (.invokevirtual index) mk (.ref b :: argsL).toArray X₁ hg hsize hdg hW (X₁.named hnamed) ⟨rfl, eT, hc, hs⟩
  dsimp only [Pt.U, Pt.locs, Pt.cells, Pt.slots] at X1 l1 y1 z1 st hQ
  subst l1 y1 z1
  exact ⟨v, T1, Lc, X1, hQ, fun t k => hstep₁ _ fun acts => by rw [doInvoke_state]; exact st.trans k⟩
theorem own_callU (X : Stand p l e R s m args below meth c T locs cells slots) (hx : p.tables.exec = Jvm.exec) (hZ : Z.Warmed39 s.vm) {own C owner : String} {index : Nat} {y z : MethodName} {bytes : ByteArray} {maxL : Nat} {ret : Option FieldType} (hown : s.vm.findClass own = some m.cls)
    (w1 : (Jvm.Cond.methodLink own index y).before a0 Z = true) (wsm : (Jvm.Cond.sameMethod y.cls owner y.name y.desc).before a0 Z = true) (wd : (Jvm.Cond.declares ⟨owner, y.name, y.desc⟩).before a0 Z = true) (hyo : owner ≠ "java/lang/invoke/MethodHandle" ∧ owner ≠ "java/lang/invoke/VarHandle") (wsel : (Jvm.Cond.selects C y z).before a0 Z = true) (w2 : (Jvm.Cond.instanceMethod z).before a0 Z = true) (w3 : (Jvm.Cond.initialized z.cls).before a0 Z = true) (w4 : (Jvm.Cond.code z bytes maxL ret).before a0 Z = true)
    {b : Addr} (E : Exa Z h b C) {rm : Room} {QQ : Option Value → Heap → List Loc → Prop} {argsL : List Value} (hM : ownMet l z bytes maxL ret [] rm Z (.ref b :: argsL).toArray h QQ) (W : Nat)
    (hf : rm.frames + 1 ≤ R.frames) (hl : W + (maxL + 11) + rm.locals ≤ R.locals) (hc : cells + rm.cells ≤ R.cells) (hs : slots + rm.slots ≤ R.slots)
    (eT : T.heap = h) {g : JFrame} (hg : g.method = m) (hsize : g.locals.size = c.maxLocals) (rest : List Value) (hlen : ∀ sig, parseMethodDescriptor y.desc = some sig → argsL.length = sig.parameters.length) (hstack : g.stack = argsL.reverse ++ .ref b :: rest) (hW : 2 * g.monitorRoom + (rest.map fun v => v.category).sum ≤ W) (hdg : decode c.code g.pc = .ok (.invokevirtual index, 3)) :
    ∃ v T' L, Stand p l e R s m args below meth c T' (locs ++ L) (cells + rm.cells) (slots + rm.slots) ∧ QQ v T'.heap L ∧ ∀ target, Steps p.tables e below (T'.setTop { g with pc := g.pc + 3, stack := v.toList ++ rest }) target → Steps p.tables e below (T.setTop g) target := by
  obtain ⟨cq, kq, qa, qb, qc⟩ := isOf (T := T) hZ eT E
  obtain ⟨v, _, ⟨T1, L1, k1, n1⟩, -, X1, ⟨Lc, hQ, l1, y1, z1⟩, st⟩ := X.virtualBackUp hx (x := y) (y := z) (owner := owner) hown (mvT hZ w1) (mvT hZ wsm) (mvT hZ wd) hyo (mvT hZ wsel) (mvT hZ w2) (backOf (W := W) hM hZ w4 w3 hf hl) qa qc hg hsize (Steps.refl _) (argsL := argsL) (rest := rest) hlen hstack hW hdg (fun _ _ => ⟨rfl, eT, hc, hs⟩)
  dsimp only [Pt.U, Pt.locs, Pt.cells, Pt.slots] at X1 l1 y1 z1 st hQ
  subst l1 y1 z1
  exact ⟨v, T1, Lc, X1, hQ, fun t k => st.trans k⟩
theorem own_callSup (X : Stand p l e R s m args below meth c T locs cells slots) (hx : p.tables.exec = Jvm.exec) (hZ : Z.Warmed39 s.vm) {own C : String} {index : Nat} {y : MethodName} {bytes : ByteArray} {maxL : Nat} {ret : Option FieldType} (hown : s.vm.findClass own = some m.cls)
    (w1 : (Jvm.Cond.methodLink own index y).before a0 Z = true) (nf : NotFace Z y) (w2 : (Jvm.Cond.instanceMethod y).before a0 Z = true) (wsu : (Jvm.Cond.superclass own y.cls).before a0 Z = true) (hn : y.name ≠ "<init>") (w3 : (Jvm.Cond.initialized y.cls).before a0 Z = true) (w4 : (Jvm.Cond.code y bytes maxL ret).before a0 Z = true)
    {b : Addr} (E : Exa Z h b C) {rm : Room} {QQ : Option Value → Heap → List Loc → Prop} {argsL : List Value} (hM : ownMet l y bytes maxL ret [] rm Z (.ref b :: argsL).toArray h QQ) (W : Nat)
    (hy : y.cls ≠ "java/lang/invoke/MethodHandle" ∧ y.cls ≠ "java/lang/invoke/VarHandle") (hf : rm.frames + 1 ≤ R.frames) (hl : W + (maxL + 11) + rm.locals ≤ R.locals) (hc : cells + rm.cells ≤ R.cells) (hs : slots + rm.slots ≤ R.slots)
    (eT : T.heap = h) {g : JFrame} (hg : g.method = m) (hsize : g.locals.size = c.maxLocals) (rest : List Value) (hlen : ∀ sig, parseMethodDescriptor y.desc = some sig → argsL.length = sig.parameters.length) (hstack : g.stack = argsL.reverse ++ .ref b :: rest) (hW : 2 * g.monitorRoom + (rest.map fun v => v.category).sum ≤ W) (hdg : decode c.code g.pc = .ok (.invokespecial index, 3)) :
    ∃ v T' L, Stand p l e R s m args below meth c T' (locs ++ L) (cells + rm.cells) (slots + rm.slots) ∧ QQ v T'.heap L ∧ ∀ target, Steps p.tables e below (T'.setTop { g with pc := g.pc + 3, stack := v.toList ++ rest }) target → Steps p.tables e below (T.setTop g) target := by
  obtain ⟨v, _, ⟨T1, L1, k1, n1⟩, -, X1, ⟨Lc, hQ, l1, y1, z1⟩, st⟩ := superBack X hx hZ (y := y) hown w1 (own_same nf w2 hy) w2 wsu hn (backOf (W := W) hM hZ w4 w3 hf hl) eT (Ins.self E) hg hsize w4 (argsL := argsL) (rest := rest) hlen hstack hW hdg (fun _ _ => ⟨rfl, eT, hc, hs⟩)
  dsimp only [Pt.U, Pt.locs, Pt.cells, Pt.slots] at X1 l1 y1 z1 st hQ
  subst l1 y1 z1
  exact ⟨v, T1, Lc, X1, hQ, fun t k => st.trans k⟩
end Own
end Jvm.RoadKit
namespace Jvm.RoadKit
open Sem ClassFile Op Lib Bundle Jvm.Stand Jvm.Free Jvm.LawKit
section OwnW
variable {p : Program} {l : Launch} {e : Env} {R : Room} {s : State} {m : MethodId} {args : Array Value} {below : List Frame} {meth : Method} {c : Code} {T : State} {locs : List Loc} {cells slots : Nat} {Z : State} {a0 : Array Value} {h h0 : Heap} {EL : List (String × Nat)} {vm0 : Vm} {k0 : Nat}
def ownQW (s Z : State) (EL : List (String × Nat)) (h0 : Heap) (QQ : Option Value → Vm → Heap → List Loc → Prop) (C N : Nat) : Outcome → State → Prop := fun o U' => ∃ v L, o = .returned v ∧ QQ v U'.vm U'.heap L ∧ CHr Z EL s.vm h0 U'.vm U'.heap ∧ ReturnedEndW s o U' L C N
theorem own_retW (X : Stand p l e R (s.setVm vm0) m args below meth c T locs cells slots) (hlk : meth.locks = false) (hS : s.Since vm0 k0) (hk : k0 ≤ h.size) (hZ : Z.Warmed39 vm0) (hEL : EW Z a0 EL) (RR : CHr Z EL s.vm h0 vm0 h) {v : Option Value} (hv : meth.sig.returnType = none → v = none) {QQ : Option Value → Vm → Heap → List Loc → Prop} {C N : Nat} (eT : T.heap = h) (hq : ∀ vm1, CHr Z EL vm0 h vm1 h → QQ v vm1 h locs) (hC : cells ≤ C) (hN : slots ≤ N) {S : State}
    (hs : ∀ fs, (∀ (f : JFrame) (acts : List Action), f.method = m → f.locked = none → f.entered = [] → (doReturn e (T.setTop f) acts v).1 = T.setFrames fs) → Steps p.tables e below S (T.setFrames fs)) : ownGo p e below (ownQW s Z EL h0 QQ C N) S := by
  subst eT
  obtain ⟨fs, hr, hrun, hended, hW⟩ := X.leaveW hS hk (v := v) hv hlk
  have A := CHv.at X hZ hEL RR.1
  exact ⟨_, _, hs fs hr, hrun, hended, v, locs, rfl, hq T.vm A, RR.trans A, hW.1, hW.2.1, hW.2.2.1, hW.2.2.2.mono hC hN⟩
/-- the contract of a body that may load String constants -/
abbrev ownMetW (l : Launch) (y : MethodName) (bytes : ByteArray) (maxL : Nat) (ret : Option FieldType) (ws : List Jvm.Cond) (rm : Room) (Z : State) (EL : List (String × Nat)) (sf : List Addr) (as : Array Value) (h0 : Heap) (QQ : Option Value → Vm → Heap → List Loc → Prop) : Prop :=
  MetFree l y (head1 (Jvm.Cond.code y bytes maxL ret :: ws) rm) (fun a U => a = as ∧ Z.Warmed39 U.vm ∧ U.heap = h0 ∧ CHv Z EL U.vm h0 ∧ ∀ x ∈ sf, Safe Z EL U.vm h0 x) (fun _ _ _ _ _ => True) (fun _ U o U' => ∃ v L, o = .returned v ∧ QQ v U'.vm U'.heap L ∧ CHr Z EL U.vm h0 U'.vm U'.heap ∧ ReturnedEndW U o U' L rm.cells rm.slots)
theorem own_metW {y : MethodName} {bytes : ByteArray} {maxL : Nat} {ret : Option FieldType} {ws : List Jvm.Cond} {rm : Room} {sf : List Addr} {as : Array Value} {QQ : Option Value → Vm → Heap → List Loc → Prop} (hpl : plainFor y = true)
    (body : ∀ (p : Program) (e : Env) (s : State) (m : MethodId) (below : List Frame) (meth : Method) (c : Code) (s₁ : State), p.tables.exec = Jvm.exec → c.code = bytes → c.maxLocals = maxL → s.vm.findClass y.cls = some m.cls → meth.name = y.name → meth.sig.returnType = ret → meth.locks = false → Z.Warmed39 s.vm → s₁.heap = h0 → Stand p l e rm (s.setVm s.vm) m as below meth c s₁ [] 0 0 → s.Since s.vm 0 → CHr Z EL s.vm h0 s.vm h0 → (∀ x ∈ sf, Safe Z EL s.vm h0 x) →
      ownGo p e below (ownQW s Z EL h0 QQ rm.cells rm.slots) (s₁.setTop (entryFrame m as maxL))) : ownMetW l y bytes maxL ret ws rm Z EL sf as h0 QQ := by
  refine MetFree.of_bodySF hpl hisR ?_
  intro p e s m args below meth c s₁ Bd hml0 hP hK
  obtain ⟨rfl, hZ, hh, hC, hs⟩ := hP
  exact body p e s m below meth c s₁ Bd.exec Bd.bytes hml0 (findClass_of_methodNamed Bd.named) (name_of_methodNamed Bd.named Bd.method).1 Bd.returns Bd.notSynchronized hZ (by rw [← hh, Bd.state]; rfl) (Stand.of_body Bd) ((State.WarmedH.refl s).since 0) (CHr.refl hC) hs
theorem own_backW {y : MethodName} {bytes : ByteArray} {maxL : Nat} {ret : Option FieldType} {rm : Room} {len W : Nat} {as' : Array Value} {sf : List Addr} {QQ : Option Value → Vm → Heap → List Loc → Prop} (hM : ownMetW l y bytes maxL ret [] rm Z EL sf as' h QQ)
    (hZ : Z.Warmed39 vm0) (wc : (Jvm.Cond.code y bytes maxL ret).before a0 Z = true) (wz : (Jvm.Cond.initialized y.cls).before a0 Z = true) (hf : rm.frames + 1 ≤ R.frames) (hl : W + (maxL + 11) + rm.locals ≤ R.locals) (hEL : EW Z a0 EL) (H : CHv Z EL vm0 h) (hsf : ∀ x ∈ sf, x < h.size ∧ Safe Z EL vm0 h x) :
    BackS l R p e below (s.setVm vm0) args y len W (fun A a => a = as' ∧ A.U.heap = h ∧ A.cells + rm.cells ≤ R.cells ∧ A.slots + rm.slots ≤ R.slots)
      (fun A _ v B => ∃ L, QQ v B.U.vm B.U.heap L ∧ B.locs = A.locs ++ L ∧ B.cells = A.cells + rm.cells ∧ B.slots = A.slots + rm.slots ∧ CHr Z EL vm0 h B.U.vm B.U.heap) :=
  BackS.of_freeW (bytes := bytes) (maxL := maxL) (ret := ret) (E := fun _ first o t L k n => k = rm.cells ∧ n = rm.slots ∧ (∃ v, o = .returned v ∧ QQ v t.vm t.heap L) ∧ CHr Z EL first.vm h t.vm t.heap) hM hf hl
    (fun m meth c A a Y hp => have hU : Z.Warmed39 A.U.vm := wtrans (s := s.setVm vm0) hZ Y.warmed
      ⟨by show (Jvm.Cond.and _ .tt).before a A.U = true; rw [Jvm.Cond.before_and, mv hU wc]; rfl, mv hU wc, mv hU wz, hp.2.2.1, hp.2.2.2⟩)
    (fun m meth c A a g mk Y hp => ⟨hp.1, wtrans (s := s.setVm vm0) hZ Y.warmed, hp.2.1, (CHv.at Y hZ hEL H).1, fun x hx => (CHv.at Y hZ hEL H).safe (hsf x hx).1 (hsf x hx).2⟩) (fun _ _ _ _ _ _ _ _ _ => trivial)
    (fun _ _ _ _ ⟨v, L, h1, h2, h3, h4⟩ => ⟨L, _, _, h4, rfl, rfl, ⟨v, h1, h2⟩, h3⟩)
    (fun m meth c A a g mk v t L k n Y hp _ _ ⟨e1, e2, ⟨v', e3, e4⟩, e5⟩ => by
      cases e3; subst e1 e2
      exact ⟨L, e4, rfl, rfl, rfl, (CHv.at Y hZ hEL H).trans e5⟩)
theorem own_callSW (X : Stand p l e R (s.setVm vm0) m args below meth c T locs cells slots) (hx : p.tables.exec = Jvm.exec) (hZ : Z.Warmed39 vm0) {own : String} {index : Nat} {y : MethodName} {bytes : ByteArray} {maxL : Nat} {ret : Option FieldType} (hown : vm0.findClass own = some m.cls)
    (w1 : (Jvm.Cond.methodLink own index y).before a0 Z = true) (w2 : (Jvm.Cond.static y).before a0 Z = true) (w3 : (Jvm.Cond.initialized y.cls).before a0 Z = true) (w4 : (Jvm.Cond.code y bytes maxL ret).before a0 Z = true)
    {rm : Room} {sf : List Addr} {QQ : Option Value → Vm → Heap → List Loc → Prop} {argsL : List Value} (hM : ownMetW l y bytes maxL ret [] rm Z EL sf argsL.toArray h QQ) (W : Nat)
    (hy : y.cls ≠ "java/lang/invoke/MethodHandle" ∧ y.cls ≠ "java/lang/invoke/VarHandle") (hf : rm.frames + 1 ≤ R.frames) (hl : W + (maxL + 11) + rm.locals ≤ R.locals) (hc : cells + rm.cells ≤ R.cells) (hs : slots + rm.slots ≤ R.slots)
    (hS : s.Since vm0 k0) (hk : k0 ≤ h.size) (hEL : EW Z a0 EL) (RR : CHr Z EL s.vm h0 vm0 h) (hsf : ∀ x ∈ sf, x < h.size ∧ Safe Z EL vm0 h x)
    (eT : T.heap = h) {g : JFrame} (hg : g.method = m) (hsize : g.locals.size = c.maxLocals) (rest : List Value) (hlen : ∀ sig, parseMethodDescriptor y.desc = some sig → argsL.length = sig.parameters.length) (hstack : g.stack = argsL.reverse ++ rest) (hW : 2 * g.monitorRoom + (rest.map fun v => v.category).sum ≤ W) (hdg : decode c.code g.pc = .ok (.invokestatic index, 3)) :
    ∃ v T' L, Stand p l e R (s.setVm T'.vm) m args below meth c T' (locs ++ L) (cells + rm.cells) (slots + rm.slots) ∧ s.Since T'.vm T'.heap.size ∧ Z.Warmed39 T'.vm ∧ T'.vm.findClass own = some m.cls ∧ CHr Z EL vm0 h T'.vm T'.heap ∧ CHr Z EL s.vm h0 T'.vm T'.heap ∧ QQ v T'.vm T'.heap L ∧
      ∀ target, Steps p.tables e below (T'.setTop { g with pc := g.pc + 3, stack := v.toList ++ rest }) target → Steps p.tables e below (T.setTop g) target := by
  obtain ⟨v, _, ⟨T1, L1, k1, n1⟩, -, X1, hS1, hg1, ⟨Lc, hQ, l1, y1, z1, hr⟩, st⟩ := callSS X hx (y := y) hown (mvT (s := s.setVm vm0) hZ w1) (mvT (s := s.setVm vm0) hZ w2) (mvT (s := s.setVm vm0) hZ w3) (mvT (s := s.setVm vm0) hZ w4) hy (own_backW (s := s) (W := W) hM hZ w4 w3 hf hl hEL RR.1 hsf) hg hsize (argsL := argsL) (rest := rest) hlen hstack hW hdg (fun _ _ => ⟨rfl, eT, hc, hs⟩)
  dsimp only [Pt.U, Pt.locs, Pt.cells, Pt.slots] at X1 hS1 hg1 l1 y1 z1 st hQ hr
  subst l1 y1 z1
  obtain ⟨X2, hS2, hZ2, ho2⟩ := rebS hS (Nat.le_trans hk (Nat.le_of_eq (by rw [eT]))) X1 hS1 hg1 (show Z.Warmed39 (s.setVm vm0).vm from hZ) (own := own) hown
  exact ⟨v, T1, Lc, X2, hS2, hZ2, ho2, hr, RR.trans hr, hQ, fun t k => st.trans k⟩
theorem own_callIW (X : Stand p l e R (s.setVm vm0) m args below meth c T locs cells slots) (hx : p.tables.exec = Jvm.exec) (hZ : Z.Warmed39 vm0) {own : String} {index : Nat} {y : MethodName} {bytes : ByteArray} {maxL : Nat} (hown : vm0.findClass own = some m.cls) (hy1 : y.name = "<init>")
    (w1 : (Jvm.Cond.methodLink own index y).before a0 Z = true) (w2 : (Jvm.Cond.instanceMethod y).before a0 Z = true) (w3 : (Jvm.Cond.initialized y.cls).before a0 Z = true) (w4 : (Jvm.Cond.code y bytes maxL none).before a0 Z = true)
    {rm : Room} {sf : List Addr} {QQ : Option Value → Vm → Heap → List Loc → Prop} {a : Addr} {argsL : List Value} (hM : ownMetW l y bytes maxL none [] rm Z EL sf (.ref a :: argsL).toArray h QQ) (W : Nat)
    (hy : y.cls ≠ "java/lang/invoke/MethodHandle" ∧ y.cls ≠ "java/lang/invoke/VarHandle") (hf : rm.frames + 1 ≤ R.frames) (hl : W + (maxL + 11) + rm.locals ≤ R.locals) (hc : cells + rm.cells ≤ R.cells) (hs : slots + rm.slots ≤ R.slots)
    (hS : s.Since vm0 k0) (hk : k0 ≤ h.size) (hEL : EW Z a0 EL) (RR : CHr Z EL s.vm h0 vm0 h) (hsf : ∀ x ∈ sf, x < h.size ∧ Safe Z EL vm0 h x)
    (eT : T.heap = h) {g : JFrame} (hg : g.method = m) (hsize : g.locals.size = c.maxLocals) (rest : List Value) (hlen : ∀ sig, parseMethodDescriptor y.desc = some sig → argsL.length = sig.parameters.length) (hstack : g.stack = argsL.reverse ++ .ref a :: rest) (hW : 2 * g.monitorRoom + (rest.map fun v => v.category).sum ≤ W) (hdg : decode c.code g.pc = .ok (.invokespecial index, 3)) :
    ∃ v T' L, Stand p l e R (s.setVm T'.vm) m args below meth c T' (locs ++ L) (cells + rm.cells) (slots + rm.slots) ∧ s.Since T'.vm T'.heap.size ∧ Z.Warmed39 T'.vm ∧ T'.vm.findClass own = some m.cls ∧ CHr Z EL vm0 h T'.vm T'.heap ∧ CHr Z EL s.vm h0 T'.vm T'.heap ∧ QQ v T'.vm T'.heap L ∧
      ∀ target, Steps p.tables e below (T'.setTop { g with pc := g.pc + 3, stack := v.toList ++ rest }) target → Steps p.tables e below (T.setTop g) target := by
  obtain ⟨v, _, ⟨T1, L1, k1, n1⟩, -, X1, hS1, hg1, ⟨Lc, hQ, l1, y1, z1, hr⟩, st⟩ := X.specialBackS hx (y := y) hy1 hown (mvT (s := s.setVm vm0) hZ w1) (mvT (s := s.setVm vm0) hZ w2) (mvT (s := s.setVm vm0) hZ w4) hy (own_backW (s := s) (W := W) hM hZ w4 w3 hf hl hEL RR.1 hsf) hg hsize (Steps.refl _) (a := a) (argsL := argsL) (rest := rest) hlen hstack hW hdg (fun _ _ => ⟨rfl, eT, hc, hs⟩)
  dsimp only [Pt.U, Pt.locs, Pt.cells, Pt.slots] at X1 hS1 hg1 l1 y1 z1 st hQ hr
  subst l1 y1 z1
  obtain ⟨X2, hS2, hZ2, ho2⟩ := rebS hS (Nat.le_trans hk (Nat.le_of_eq (by rw [eT]))) X1 hS1 hg1 (show Z.Warmed39 (s.setVm vm0).vm from hZ) (own := own) hown
  exact ⟨v, T1, Lc, X2, hS2, hZ2, ho2, hr, RR.trans hr, hQ, fun t k => st.trans k⟩
theorem own_callVW (X : Stand p l e R (s.setVm vm0) m args below meth c T locs cells slots) (hx : p.tables.exec = Jvm.exec) (hZ : Z.Warmed39 vm0) {own C : String} {index : Nat} {y z : MethodName} {bytes : ByteArray} {maxL : Nat} {ret : Option FieldType} (hown : vm0.findClass own = some m.cls)
    (w1 : (Jvm.Cond.methodLink own index y).before a0 Z = true) (wd : (Jvm.Cond.declares y).before a0 Z = true) (nf : NotFace Z y) (wsel : (Jvm.Cond.selects C y z).before a0 Z = true) (w2 : (Jvm.Cond.instanceMethod z).before a0 Z = true) (w3 : (Jvm.Cond.initialized z.cls).before a0 Z = true) (w4 : (Jvm.Cond.code z bytes maxL ret).before a0 Z = true)
    {b : Addr} (E : Exa Z h b C) {rm : Room} {sf : List Addr} {QQ : Option Value → Vm → Heap → List Loc → Prop} {argsL : List Value} (hM : ownMetW l z bytes maxL ret [] rm Z EL sf (.ref b :: argsL).toArray h QQ) (W : Nat)
    (hy : y.cls ≠ "java/lang/invoke/MethodHandle" ∧ y.cls ≠ "java/lang/invoke/VarHandle") (hf : rm.frames + 1 ≤ R.frames) (hl : W + (maxL + 11) + rm.locals ≤ R.locals) (hc : cells + rm.cells ≤ R.cells) (hs : slots + rm.slots ≤ R.slots)
    (hS : s.Since vm0 k0) (hk : k0 ≤ h.size) (hEL : EW Z a0 EL) (RR : CHr Z EL s.vm h0 vm0 h) (hsf : ∀ x ∈ sf, x < h.size ∧ Safe Z EL vm0 h x)
    (eT : T.heap = h) {g : JFrame} (hg : g.method = m) (hsize : g.locals.size = c.maxLocals) (rest : List Value) (hlen : ∀ sig, parseMethodDescriptor y.desc = some sig → argsL.length = sig.parameters.length) (hstack : g.stack = argsL.reverse ++ .ref b :: rest) (hW : 2 * g.monitorRoom + (rest.map fun v => v.category).sum ≤ W) (hdg : decode c.code g.pc = .ok (.invokevirtual index, 3)) :
    ∃ v T' L, Stand p l e R (s.setVm T'.vm) m args below meth c T' (locs ++ L) (cells + rm.cells) (slots + rm.slots) ∧ s.Since T'.vm T'.heap.size ∧ Z.Warmed39 T'.vm ∧ T'.vm.findClass own = some m.cls ∧ CHr Z EL vm0 h T'.vm T'.heap ∧ CHr Z EL s.vm h0 T'.vm T'.heap ∧ QQ v T'.vm T'.heap L ∧
      ∀ target, Steps p.tables e below (T'.setTop { g with pc := g.pc + 3, stack := v.toList ++ rest }) target → Steps p.tables e below (T.setTop g) target := by
  obtain ⟨cq, kq, qa, qb, qc⟩ := isOf (s := s.setVm vm0) (T := T) hZ eT E
  obtain ⟨v, _, ⟨T1, L1, k1, n1⟩, -, X1, hS1, hg1, ⟨Lc, hQ, l1, y1, z1, hr⟩, st⟩ := X.virtualBackS hx (y := y) (z := z) hown (mvT (s := s.setVm vm0) hZ w1) (mvT (s := s.setVm vm0) hZ wd) (own_nfz (s := s.setVm vm0) hZ nf) (mvT (s := s.setVm vm0) hZ wsel) (mvT (s := s.setVm vm0) hZ w2) hy (own_backW (s := s) (W := W) hM hZ w4 w3 hf hl hEL RR.1 hsf) qa qc hg hsize (Steps.refl _) (argsL := argsL) (rest := rest) hlen hstack hW hdg (fun _ _ => ⟨rfl, eT, hc, hs⟩)
  dsimp only [Pt.U, Pt.locs, Pt.cells, Pt.slots] at X1 hS1 hg1 l1 y1 z1 st hQ hr
  subst l1 y1 z1
  obtain ⟨X2, hS2, hZ2, ho2⟩ := rebS hS (Nat.le_trans hk (Nat.le_of_eq (by rw [eT]))) X1 hS1 hg1 (show Z.Warmed39 (s.setVm vm0).vm from hZ) (own := own) hown
  exact ⟨v, T1, Lc, X2, hS2, hZ2, ho2, hr, RR.trans hr, hQ, fun t k => st.trans k⟩
theorem own_narC {x : Int32} (h0 : ¬ x < (0 : Int32)) (h1 : ¬ (255 : Int32) < x) : nar .char x = x := by
  have a := c_i2c x
  have b0 : (0 : Int32).toInt = 0 := rfl
  have b1 : (255 : Int32).toInt = 255 := rfl
  rw [Int32.lt_iff_toInt_lt, b0] at h0
  rw [Int32.lt_iff_toInt_lt, b1] at h1
  refine Int32.toInt_inj.mp ?_
  show x.toUInt32.toUInt16.toUInt32.toInt32.toInt = x.toInt
  omega
theorem own_narB (x : Int32) : nar .byte x.toInt8.toInt32 = x.toInt8.toInt32 := by
  show x.toInt8.toInt32.toInt8.toInt32 = _
  rw [Int8.toInt8_toInt32]
theorem own_m0 (x : Int32) : ¬ (x &&& (255 : Int32)) < (0 : Int32) := by
  have h := (c_and x 255 (by decide)).1
  have b0 : (0 : Int32).toInt = 0 := rfl
  rw [Int32.lt_iff_toInt_lt, b0]; omega
theorem own_m1 (x : Int32) : ¬ (255 : Int32) < (x &&& (255 : Int32)) := by
  have h := (c_and x 255 (by decide)).2
  rw [Int32.lt_iff_toInt_lt]; omega
theorem own_ub {x : Int32} (h0 : ¬ x < (0 : Int32)) (h1 : ¬ (255 : Int32) < x) : (x.toInt8.toInt32 &&& (255 : Int32)).toUInt32.toUInt16.toUInt32.toInt32 = x := by
  have b0 : (0 : Int32).toInt = 0 := rfl
  have b1 : (255 : Int32).toInt = 255 := rfl
  rw [Int32.lt_iff_toInt_lt, b0] at h0
  rw [Int32.lt_iff_toInt_lt, b1] at h1
  have a := c_i2b x
  have b := c_mask x.toInt8.toInt32 255 8 (by decide) (by decide)
  rw [i2c_mask]
  refine Int32.toInt_inj.mp ?_
  have k : ((2 ^ 8 : Nat) : Int) = 256 := rfl
  rw [b, k]
  omega
end OwnW
end Jvm.RoadKit
namespace Jvm.Pilot.@@N@@
open Jvm Jvm.ClassFile Sem Op Lib Jvm.Free Jvm.Stand Jvm.LawKit Jvm.RoadKit Bundle Jvm.Pilot.@@N@@.Jvm.D
def own_EL : List (String × Nat) := [("java/lang/String", 7)]
theorem own_hEL {Z : State} {a0 : Array Value} (hw : ∀ d ∈ tables_1, d.before a0 Z = true) : EW Z a0 own_EL := (EW.cons (hw _ (List.mem_of_getElem? (i := 18) rfl)) (by decide) EW.nil)
theorem own_wS {Z : State} {a0 : Array Value} (hw : ∀ d ∈ tables_1, d.before a0 Z = true) : ∀ a ∈ Bundle.stringAtoms, a.before a0 Z = true := fun d hd => by
  simp only [Bundle.stringAtoms, List.mem_cons, List.not_mem_nil, or_false] at hd
  rcases hd with rfl | rfl | rfl | rfl | rfl | rfl | rfl
  · exact hw _ (List.mem_of_getElem? (i := 6) rfl)
  · exact hw _ (List.mem_of_getElem? (i := 5) rfl)
  · exact hw _ (List.mem_of_getElem? (i := 19) rfl)
  · exact hw _ (List.mem_of_getElem? (i := 20) rfl)
  · exact hw _ (List.mem_of_getElem? (i := 21) rfl)
  · exact hw _ (List.mem_of_getElem? (i := 22) rfl)
  · exact hw _ (List.mem_of_getElem? (i := 23) rfl)
theorem own_d7_0 : decode jdk_30_method_1_code 0 = .ok (.aload_n 0, 1) := by decide +kernel
theorem own_d7_1 : decode jdk_30_method_1_code 1 = .ok (.invokespecial 1, 3) := by decide +kernel
theorem own_d7_4 : decode jdk_30_method_1_code 4 = .ok (.return_, 1) := by decide +kernel
theorem own_pn_java_lang_Record : plainName "java/lang/Record" = true := by first | (simp [plainName, overriddenIn]; done) | decide +kernel
set_option maxRecDepth 65536 in
set_option maxHeartbeats 40000000 in
theorem own_sup_Record (l : Launch) (Z : State) (a0 : Array Value) (hw : ∀ d ∈ tables_1, d.before a0 Z = true) (ws : List Jvm.Cond) (a : Addr) (h0 : Heap) (O0 : Old Z Z.heap.size h0) :
    ownMet l (⟨"java/lang/Record", "<init>", "()V"⟩ : MethodName) jdk_30_method_1_code 1 none ws ({ frames := 1, cells := 0, slots := 0, locals := 12 } : Room) Z #[(.ref a)] h0 (fun v h L => v = none ∧ Fr Z.heap.size L ∧ h = h0) := by
  refine own_met (plainFor_of_name own_pn_java_lang_Record) ?_
  intro p e s m below meth c s₁ hx hby hml hown hnm hret hlk hZ e0 X0
  refine own_cast (show _ = (mkF m 0 #[.val (.ref a)] []) by first | (simp [entryFrame, mkF, argsToLocals, Value.category]; done) | rfl) ?_
  refine own_st (s₁.setTop (mkF m 1 #[.val (.ref a)] [(.ref a)])) (fun tq kq => XS.aloadN X0.here hx rfl (hb hby own_d7_0) rfl (by rfl) kq) ?_
  obtain ⟨T1, X1, e1, st1⟩ := initO X0 hx hZ hown (hw _ (List.mem_of_getElem? (i := 43) rfl)) (hw _ (List.mem_of_getElem? (i := 16) rfl)) (hw _ (List.mem_of_getElem? (i := 17) rfl)) e0 (g := (mkF m 1 #[.val (.ref a)] [(.ref a)])) rfl (by rw [hml]; rfl) rfl (hb hby own_d7_1) (by decide) (W := 0) (by show 2 * 0 + _ ≤ _; exact Nat.le_of_eq rfl) (by decide)
  refine own_st (T1.setTop (mkF m 4 #[.val (.ref a)] [])) st1 ?_
  exact own_ret X1 hlk (v := none) (fun _ => rfl) e1 (⟨rfl, (Fr.nil _), rfl⟩) (by decide) (by decide) (fun fs hr => X1.returnOut hx hret (hb hby own_d7_4) hr)
theorem own_d6_0 : decode prog_2_method_1_code 0 = .ok (.aload_n 0, 1) := by decide +kernel
theorem own_pd__28_29V : parseMethodDescriptor "()V" = some ⟨[], none⟩ := by decide +kernel
theorem own_d6_1 : decode prog_2_method_1_code 1 = .ok (.invokespecial 1, 3) := by decide +kernel
theorem own_d6_4 : decode prog_2_method_1_code 4 = .ok (.aload_n 0, 1) := by decide +kernel
theorem own_d6_5 : decode prog_2_method_1_code 5 = .ok (.aload_n 1, 1) := by decide +kernel
theorem own_d6_6 : decode prog_2_method_1_code 6 = .ok (.putfield 7, 3) := by decide +kernel
theorem own_d6_9 : decode prog_2_method_1_code 9 = .ok (.aload_n 0, 1) := by decide +kernel
theorem own_d6_10 : decode prog_2_method_1_code 10 = .ok (.aload_n 2, 1) := by decide +kernel
theorem own_d6_11 : decode prog_2_method_1_code 11 = .ok (.putfield 13, 3) := by decide +kernel
theorem own_d6_14 : decode prog_2_method_1_code 14 = .ok (.aload_n 0, 1) := by decide +kernel
theorem own_d6_15 : decode prog_2_method_1_code 15 = .ok (.aload_n 3, 1) := by decide +kernel
theorem own_d6_16 : decode prog_2_method_1_code 16 = .ok (.putfield 16, 3) := by decide +kernel
theorem own_d6_19 : decode prog_2_method_1_code 19 = .ok (.return_, 1) := by decide +kernel
theorem own_pn_com_example_gridclause_gridclause_cli_Option : plainName "com/example/gridclause/gridclause/cli/Option" = true := by first | (simp [plainName, overriddenIn]; done) | decide +kernel
set_option maxRecDepth 65536 in
set_option maxHeartbeats 40000000 in
theorem own_ctor_Option (l : Launch) (Z : State) (a0 : Array Value) (hw : ∀ d ∈ tables_1, d.before a0 Z = true) (ws : List Jvm.Cond) (a : Addr) (x0 : Addr) (x1 : Addr) (x2 : Addr) (h0 : Heap) (O0 : Old Z Z.heap.size h0) (E0 : Exa Z h0 a "com/example/gridclause/gridclause/cli/Option") (g0 : Z.heap.size ≤ a) (F0 : Fld Z h0 a "com/example/gridclause/gridclause/cli/Option" "name" "Ljava/lang/String;" .null) (F1 : Fld Z h0 a "com/example/gridclause/gridclause/cli/Option" "label" "Ljava/lang/String;" .null) (F2 : Fld Z h0 a "com/example/gridclause/gridclause/cli/Option" "use" "Lcom/example/gridclause/gridclause/cli/Option$Use;" .null) :
    ownMet l (⟨"com/example/gridclause/gridclause/cli/Option", "<init>", "(Ljava/lang/String;Ljava/lang/String;Lcom/example/gridclause/gridclause/cli/Option$Use;)V"⟩ : MethodName) prog_2_method_1_code 4 none ws ({ frames := 2, cells := 0, slots := 0, locals := 24 } : Room) Z #[(.ref a), (.ref x0), (.ref x1), (.ref x2)] h0 (fun v h L => v = none ∧ Fr Z.heap.size L ∧ Keep h0 h [a] ∧ Fld Z h a "com/example/gridclause/gridclause/cli/Option" "name" "Ljava/lang/String;" (.ref x0) ∧ Fld Z h a "com/example/gridclause/gridclause/cli/Option" "label" "Ljava/lang/String;" (.ref x1) ∧ Fld Z h a "com/example/gridclause/gridclause/cli/Option" "use" "Lcom/example/gridclause/gridclause/cli/Option$Use;" (.ref x2)) := by
  refine own_met (plainFor_of_name own_pn_com_example_gridclause_gridclause_cli_Option) ?_
  intro p e s m below meth c s₁ hx hby hml hown hnm hret hlk hZ e0 X0
  refine own_cast (show _ = (mkF m 0 #[.val (.ref a), .val (.ref x0), .val (.ref x1), .val (.ref x2)] []) by first | (simp [entryFrame, mkF, argsToLocals, Value.category]; done) | rfl) ?_
  refine own_st (s₁.setTop (mkF m 1 #[.val (.ref a), .val (.ref x0), .val (.ref x1), .val (.ref x2)] [(.ref a)])) (fun tq kq => XS.aloadN X0.here hx rfl (hb hby own_d6_0) rfl (by rfl) kq) ?_
  obtain ⟨v1, T1, L1, X1, q1, st1⟩ := own_callI X0 hx hZ hown (y := (⟨"java/lang/Record", "<init>", "()V"⟩ : MethodName)) rfl (hw _ (List.mem_of_getElem? (i := 38) rfl)) (hw _ (List.mem_of_getElem? (i := 39) rfl)) (hw _ (List.mem_of_getElem? (i := 41) rfl)) (hw _ (List.mem_of_getElem? (i := 42) rfl)) (a := a) (argsL := []) (own_sup_Record l Z a0 hw [] a h0 O0) 0 (by decide) (by decide) (by decide) (by decide) (by decide) e0 (g := (mkF m 1 #[.val (.ref a), .val (.ref x0), .val (.ref x1), .val (.ref x2)] [(.ref a)])) rfl (by rw [hml]; rfl) [] (lenOf own_pd__28_29V rfl) rfl (by show 2 * 0 + _ ≤ _; exact Nat.le_of_eq rfl) (hb hby own_d6_1)
  obtain ⟨rfl, N1q, e1⟩ := q1
  have N1 := Fr.app (Fr.nil _) N1q
  refine own_st (T1.setTop (mkF m 4 #[.val (.ref a), .val (.ref x0), .val (.ref x1), .val (.ref x2)] [])) st1 ?_
  refine own_st (T1.setTop (mkF m 5 #[.val (.ref a), .val (.ref x0), .val (.ref x1), .val (.ref x2)] [(.ref a)])) (fun tq kq => XS.aloadN X1.here hx rfl (hb hby own_d6_4) rfl (by rfl) kq) ?_
  refine own_st (T1.setTop (mkF m 6 #[.val (.ref a), .val (.ref x0), .val (.ref x1), .val (.ref x2)] [(.ref x0), (.ref a)])) (fun tq kq => XS.aloadN X1.here hx rfl (hb hby own_d6_5) rfl (by rfl) kq) ?_
  obtain ⟨T2, h2, X2, e2, W2, st2⟩ := putF X1 hx hZ hown (host := "") (Or.inl (hw _ (List.mem_of_getElem? (i := 44) rfl))) Via.refl e1 F0 E0 (Or.inr ⟨(hw _ (List.mem_of_getElem? (i := 45) rfl)), rfl, hnm⟩) (hw _ (List.mem_of_getElem? (i := 31) rfl)) (ty := (.object "java/lang/String")) (by decide) (by rfl) (by rfl) (g := (mkF m 6 #[.val (.ref a), .val (.ref x0), .val (.ref x1), .val (.ref x2)] [(.ref x0), (.ref a)])) rfl rfl (hb hby own_d6_6)
  have N2 := Fr.snoc X2 N1 g0
  have O2 := O0.wr W2 g0
  have K2 := (Keep.refl h0 [a]).wr W2 (Or.inl (List.mem_of_getElem? (i := 0) rfl))
  have f3 := (E0.wr W2)
  have f5 := (F1.other W2 (Or.inr (slot_ne (Or.inr (hw _ (List.mem_of_getElem? (i := 47) rfl))) (Or.inr (hw _ (List.mem_of_getElem? (i := 45) rfl))) (by decide) (t := (.object "java/lang/String")) (t' := (.object "java/lang/String")) (by decide) (by decide))))
  have f6 := (F2.other W2 (Or.inr (slot_ne (Or.inr (hw _ (List.mem_of_getElem? (i := 49) rfl))) (Or.inr (hw _ (List.mem_of_getElem? (i := 45) rfl))) (by decide) (t := (.object "com/example/gridclause/gridclause/cli/Option$Use")) (t' := (.object "java/lang/String")) (by decide) (by decide))))
  have f7 := (F0.same W2)
  refine own_st (T2.setTop (mkF m 9 #[.val (.ref a), .val (.ref x0), .val (.ref x1), .val (.ref x2)] [])) st2 ?_
  refine own_st (T2.setTop (mkF m 10 #[.val (.ref a), .val (.ref x0), .val (.ref x1), .val (.ref x2)] [(.ref a)])) (fun tq kq => XS.aloadN X2.here hx rfl (hb hby own_d6_9) rfl (by rfl) kq) ?_
  refine own_st (T2.setTop (mkF m 11 #[.val (.ref a), .val (.ref x0), .val (.ref x1), .val (.ref x2)] [(.ref x1), (.ref a)])) (fun tq kq => XS.aloadN X2.here hx rfl (hb hby own_d6_10) rfl (by rfl) kq) ?_
  obtain ⟨T8, h8, X8, e8, W8, st8⟩ := putF X2 hx hZ hown (host := "") (Or.inl (hw _ (List.mem_of_getElem? (i := 46) rfl))) Via.refl e2 f5 f3 (Or.inr ⟨(hw _ (List.mem_of_getElem? (i := 47) rfl)), rfl, hnm⟩) (hw _ (List.mem_of_getElem? (i := 31) rfl)) (ty := (.object "java/lang/String")) (by decide) (by rfl) (by rfl) (g := (mkF m 11 #[.val (.ref a), .val (.ref x0), .val (.ref x1), .val (.ref x2)] [(.ref x1), (.ref a)])) rfl rfl (hb hby own_d6_11)
  have N8 := Fr.snoc X8 N2 g0
  have O8 := O2.wr W8 g0
  have K8 := K2.wr W8 (Or.inl (List.mem_of_getElem? (i := 0) rfl))
  have f9 := (f3.wr W8)
  have f10 := (f7.other W8 (Or.inr (slot_ne (Or.inr (hw _ (List.mem_of_getElem? (i := 45) rfl))) (Or.inr (hw _ (List.mem_of_getElem? (i := 47) rfl))) (by decide) (t := (.object "java/lang/String")) (t' := (.object "java/lang/String")) (by decide) (by decide))))
  have f12 := (f6.other W8 (Or.inr (slot_ne (Or.inr (hw _ (List.mem_of_getElem? (i := 49) rfl))) (Or.inr (hw _ (List.mem_of_getElem? (i := 47) rfl))) (by decide) (t := (.object "com/example/gridclause/gridclause/cli/Option$Use")) (t' := (.object "java/lang/String")) (by decide) (by decide))))
  have f13 := (f5.same W8)
  refine own_st (T8.setTop (mkF m 14 #[.val (.ref a), .val (.ref x0), .val (.ref x1), .val (.ref x2)] [])) st8 ?_
  refine own_st (T8.setTop (mkF m 15 #[.val (.ref a), .val (.ref x0), .val (.ref x1), .val (.ref x2)] [(.ref a)])) (fun tq kq => XS.aloadN X8.here hx rfl (hb hby own_d6_14) rfl (by rfl) kq) ?_
  refine own_st (T8.setTop (mkF m 16 #[.val (.ref a), .val (.ref x0), .val (.ref x1), .val (.ref x2)] [(.ref x2), (.ref a)])) (fun tq kq => XS.aloadN X8.here hx rfl (hb hby own_d6_15) rfl (by rfl) kq) ?_
  obtain ⟨T14, h14, X14, e14, W14, st14⟩ := putF X8 hx hZ hown (host := "") (Or.inl (hw _ (List.mem_of_getElem? (i := 48) rfl))) Via.refl e8 f12 f9 (Or.inr ⟨(hw _ (List.mem_of_getElem? (i := 49) rfl)), rfl, hnm⟩) (hw _ (List.mem_of_getElem? (i := 31) rfl)) (ty := (.object "com/example/gridclause/gridclause/cli/Option$Use")) (by decide) (by rfl) (by rfl) (g := (mkF m 16 #[.val (.ref a), .val (.ref x0), .val (.ref x1), .val (.ref x2)] [(.ref x2), (.ref a)])) rfl rfl (hb hby own_d6_16)
  have N14 := Fr.snoc X14 N8 g0
  have O14 := O8.wr W14 g0
  have K14 := K8.wr W14 (Or.inl (List.mem_of_getElem? (i := 0) rfl))
  have f15 := (f9.wr W14)
  have f16 := (f10.other W14 (Or.inr (slot_ne (Or.inr (hw _ (List.mem_of_getElem? (i := 45) rfl))) (Or.inr (hw _ (List.mem_of_getElem? (i := 49) rfl))) (by decide) (t := (.object "java/lang/String")) (t' := (.object "com/example/gridclause/gridclause/cli/Option$Use")) (by decide) (by decide))))
  have f17 := (f13.other W14 (Or.inr (slot_ne (Or.inr (hw _ (List.mem_of_getElem? (i := 47) rfl))) (Or.inr (hw _ (List.mem_of_getElem? (i := 49) rfl))) (by decide) (t := (.object "java/lang/String")) (t' := (.object "com/example/gridclause/gridclause/cli/Option$Use")) (by decide) (by decide))))
  have f19 := (f12.same W14)
  refine own_st (T14.setTop (mkF m 19 #[.val (.ref a), .val (.ref x0), .val (.ref x1), .val (.ref x2)] [])) st14 ?_
  exact own_ret X14 hlk (v := none) (fun _ => rfl) e14 (⟨rfl, N14, K14, f16, f17, f19⟩) (by decide) (by decide) (fun fs hr => X14.returnOut hx hret (hb hby own_d6_19) hr)
theorem own_d8_0 : decode prog_2_method_12_code 0 = .ok (.aload_n 0, 1) := by decide +kernel
theorem own_d8_1 : decode prog_2_method_12_code 1 = .ok (.getfield 7, 3) := by decide +kernel
theorem own_d8_4 : decode prog_2_method_12_code 4 = .ok (.areturn, 1) := by decide +kernel
set_option maxRecDepth 65536 in
set_option maxHeartbeats 40000000 in
theorem own_get_Option_name (l : Launch) (Z : State) (a0 : Array Value) (hw : ∀ d ∈ tables_1, d.before a0 Z = true) (ws : List Jvm.Cond) (a : Addr) (x : Addr) (h0 : Heap) (O0 : Old Z Z.heap.size h0) (F : Fld Z h0 a "com/example/gridclause/gridclause/cli/Option" "name" "Ljava/lang/String;" (.ref x)) :
    ownMet l (⟨"com/example/gridclause/gridclause/cli/Option", "name", "()Ljava/lang/String;"⟩ : MethodName) prog_2_method_12_code 1 (some (.object "java/lang/String")) ws ({ frames := 0, cells := 0, slots := 0, locals := 0 } : Room) Z #[(.ref a)] h0 (fun v h L => v = some (.ref x) ∧ Fr Z.heap.size L ∧ h = h0) := by
  refine own_met (plainFor_of_name own_pn_com_example_gridclause_gridclause_cli_Option) ?_
  intro p e s m below meth c s₁ hx hby hml hown hnm hret hlk hZ e0 X0
  refine own_cast (show _ = (mkF m 0 #[.val (.ref a)] []) by first | (simp [entryFrame, mkF, argsToLocals, Value.category]; done) | rfl) ?_
  refine own_st (s₁.setTop (mkF m 1 #[.val (.ref a)] [(.ref a)])) (fun tq kq => XS.aloadN X0.here hx rfl (hb hby own_d8_0) rfl (by rfl) kq) ?_
  obtain ⟨T1, X1, e1, st1⟩ := getF X0 hx hZ hown (host := "") (Or.inl (hw _ (List.mem_of_getElem? (i := 44) rfl))) Via.refl e0 F (g := (mkF m 1 #[.val (.ref a)] [(.ref a)])) rfl rfl (hb hby own_d8_1)
  refine own_st (T1.setTop (mkF m 4 #[.val (.ref a)] [(.ref x)])) st1 ?_
  exact own_ret X1 hlk (v := some (.ref x)) (fun h => by rw [hret] at h; cases h) e1 (⟨rfl, (Fr.nil _), rfl⟩) (by decide) (by decide) (fun fs hr => retOut X1 hx hret rfl (Or.inr (Or.inr (Or.inr (Or.inr ⟨rfl, rfl, rfl⟩)))) (hb hby own_d8_4) hr)
theorem own_d10_0 : decode prog_2_method_13_code 0 = .ok (.aload_n 0, 1) := by decide +kernel
theorem own_d10_1 : decode prog_2_method_13_code 1 = .ok (.getfield 13, 3) := by decide +kernel
theorem own_d10_4 : decode prog_2_method_13_code 4 = .ok (.areturn, 1) := by decide +kernel
set_option maxRecDepth 65536 in
set_option maxHeartbeats 40000000 in
theorem own_get_Option_label (l : Launch) (Z : State) (a0 : Array Value) (hw : ∀ d ∈ tables_1, d.before a0 Z = true) (ws : List Jvm.Cond) (a : Addr) (x : Addr) (h0 : Heap) (O0 : Old Z Z.heap.size h0) (F : Fld Z h0 a "com/example/gridclause/gridclause/cli/Option" "label" "Ljava/lang/String;" (.ref x)) :
    ownMet l (⟨"com/example/gridclause/gridclause/cli/Option", "label", "()Ljava/lang/String;"⟩ : MethodName) prog_2_method_13_code 1 (some (.object "java/lang/String")) ws ({ frames := 0, cells := 0, slots := 0, locals := 0 } : Room) Z #[(.ref a)] h0 (fun v h L => v = some (.ref x) ∧ Fr Z.heap.size L ∧ h = h0) := by
  refine own_met (plainFor_of_name own_pn_com_example_gridclause_gridclause_cli_Option) ?_
  intro p e s m below meth c s₁ hx hby hml hown hnm hret hlk hZ e0 X0
  refine own_cast (show _ = (mkF m 0 #[.val (.ref a)] []) by first | (simp [entryFrame, mkF, argsToLocals, Value.category]; done) | rfl) ?_
  refine own_st (s₁.setTop (mkF m 1 #[.val (.ref a)] [(.ref a)])) (fun tq kq => XS.aloadN X0.here hx rfl (hb hby own_d10_0) rfl (by rfl) kq) ?_
  obtain ⟨T1, X1, e1, st1⟩ := getF X0 hx hZ hown (host := "") (Or.inl (hw _ (List.mem_of_getElem? (i := 46) rfl))) Via.refl e0 F (g := (mkF m 1 #[.val (.ref a)] [(.ref a)])) rfl rfl (hb hby own_d10_1)
  refine own_st (T1.setTop (mkF m 4 #[.val (.ref a)] [(.ref x)])) st1 ?_
  exact own_ret X1 hlk (v := some (.ref x)) (fun h => by rw [hret] at h; cases h) e1 (⟨rfl, (Fr.nil _), rfl⟩) (by decide) (by decide) (fun fs hr => retOut X1 hx hret rfl (Or.inr (Or.inr (Or.inr (Or.inr ⟨rfl, rfl, rfl⟩)))) (hb hby own_d10_4) hr)
theorem own_d11_0 : decode prog_2_method_14_code 0 = .ok (.aload_n 0, 1) := by decide +kernel
theorem own_d11_1 : decode prog_2_method_14_code 1 = .ok (.getfield 16, 3) := by decide +kernel
theorem own_d11_4 : decode prog_2_method_14_code 4 = .ok (.areturn, 1) := by decide +kernel
set_option maxRecDepth 65536 in
set_option maxHeartbeats 40000000 in
theorem own_get_Option_use (l : Launch) (Z : State) (a0 : Array Value) (hw : ∀ d ∈ tables_1, d.before a0 Z = true) (ws : List Jvm.Cond) (a : Addr) (x : Addr) (h0 : Heap) (O0 : Old Z Z.heap.size h0) (F : Fld Z h0 a "com/example/gridclause/gridclause/cli/Option" "use" "Lcom/example/gridclause/gridclause/cli/Option$Use;" (.ref x)) :
    ownMet l (⟨"com/example/gridclause/gridclause/cli/Option", "use", "()Lcom/example/gridclause/gridclause/cli/Option$Use;"⟩ : MethodName) prog_2_method_14_code 1 (some (.object "com/example/gridclause/gridclause/cli/Option$Use")) ws ({ frames := 0, cells := 0, slots := 0, locals := 0 } : Room) Z #[(.ref a)] h0 (fun v h L => v = some (.ref x) ∧ Fr Z.heap.size L ∧ h = h0) := by
  refine own_met (plainFor_of_name own_pn_com_example_gridclause_gridclause_cli_Option) ?_
  intro p e s m below meth c s₁ hx hby hml hown hnm hret hlk hZ e0 X0
  refine own_cast (show _ = (mkF m 0 #[.val (.ref a)] []) by first | (simp [entryFrame, mkF, argsToLocals, Value.category]; done) | rfl) ?_
  refine own_st (s₁.setTop (mkF m 1 #[.val (.ref a)] [(.ref a)])) (fun tq kq => XS.aloadN X0.here hx rfl (hb hby own_d11_0) rfl (by rfl) kq) ?_
  obtain ⟨T1, X1, e1, st1⟩ := getF X0 hx hZ hown (host := "") (Or.inl (hw _ (List.mem_of_getElem? (i := 48) rfl))) Via.refl e0 F (g := (mkF m 1 #[.val (.ref a)] [(.ref a)])) rfl rfl (hb hby own_d11_1)
  refine own_st (T1.setTop (mkF m 4 #[.val (.ref a)] [(.ref x)])) st1 ?_
  exact own_ret X1 hlk (v := some (.ref x)) (fun h => by rw [hret] at h; cases h) e1 (⟨rfl, (Fr.nil _), rfl⟩) (by decide) (by decide) (fun fs hr => retOut X1 hx hret rfl (Or.inr (Or.inr (Or.inr (Or.inr ⟨rfl, rfl, rfl⟩)))) (hb hby own_d11_4) hr)
theorem own_d5_0 : decode prog_2_method_5_code 0 = .ok (.new 8, 3) := by decide +kernel
theorem own_d5_3 : decode prog_2_method_5_code 3 = .ok (.dup, 1) := by decide +kernel
theorem own_d5_4 : decode prog_2_method_5_code 4 = .ok (.aload_n 0, 1) := by decide +kernel
theorem own_d5_5 : decode prog_2_method_5_code 5 = .ok (.aload_n 1, 1) := by decide +kernel
theorem own_d5_6 : decode prog_2_method_5_code 6 = .ok (.getstatic 34, 3) := by decide +kernel
theorem own_pd__28Ljava_2flang_2fString_3bLjava_2flang_2fString_3bLcom_2fexample_2fgridclause_2fgridclause_2fcli_2fOption_24Use_3b_29V : parseMethodDescriptor "(Ljava/lang/String;Ljava/lang/String;Lcom/example/gridclause/gridclause/cli/Option$Use;)V" = some ⟨[(.object "java/lang/String"), (.object "java/lang/String"), (.object "com/example/gridclause/gridclause/cli/Option$Use")], none⟩ := by decide +kernel
theorem own_d5_9 : decode prog_2_method_5_code 9 = .ok (.invokespecial 25, 3) := by decide +kernel
theorem own_d5_12 : decode prog_2_method_5_code 12 = .ok (.areturn, 1) := by decide +kernel
set_option maxRecDepth 65536 in
set_option maxHeartbeats 40000000 in
theorem own_alone (l : Launch) (Z : State) (a0 : Array Value) (hw : ∀ d ∈ tables_1, d.before a0 Z = true) (ws : List Jvm.Cond) (x0 x1 u0 : Addr) (h0 : Heap) (O0 : Old Z Z.heap.size h0) (SU0 : Sta Z Z.heap "com/example/gridclause/gridclause/cli/Option$Use" "ALONE" "Lcom/example/gridclause/gridclause/cli/Option$Use;" (.ref u0)) :
    ownMet l (⟨"com/example/gridclause/gridclause/cli/Option", "alone", "(Ljava/lang/String;Ljava/lang/String;)Lcom/example/gridclause/gridclause/cli/Option;"⟩ : MethodName) prog_2_method_5_code 2 (some (.object "com/example/gridclause/gridclause/cli/Option")) ws ({ frames := 3, cells := 1, slots := 3, locals := 40 } : Room) Z #[(.ref x0), (.ref x1)] h0 (fun v h L => ∃ o : Addr, v = some (.ref o) ∧ Fr Z.heap.size L ∧ Keep h0 h [] ∧ Z.heap.size ≤ o ∧ Exa Z h o "com/example/gridclause/gridclause/cli/Option" ∧ Fld Z h o "com/example/gridclause/gridclause/cli/Option" "name" "Ljava/lang/String;" (.ref x0) ∧ Fld Z h o "com/example/gridclause/gridclause/cli/Option" "label" "Ljava/lang/String;" (.ref x1) ∧ Fld Z h o "com/example/gridclause/gridclause/cli/Option" "use" "Lcom/example/gridclause/gridclause/cli/Option$Use;" (.ref u0)) := by
  refine own_met (plainFor_of_name own_pn_com_example_gridclause_gridclause_cli_Option) ?_
  intro p e s m below meth c s₁ hx hby hml hown hnm hret hlk hZ e0 X0
  refine own_cast (show _ = (mkF m 0 #[.val (.ref x0), .val (.ref x1)] []) by first | (simp [entryFrame, mkF, argsToLocals, Value.category]; done) | rfl) ?_
  obtain ⟨T1, h1, X1, e1, E1, A1, D1, -, st1⟩ := newO X0 hx hZ hown (hw _ (List.mem_of_getElem? (i := 30) rfl)) (hw _ (List.mem_of_getElem? (i := 31) rfl)) (hw _ (List.mem_of_getElem? (i := 28) rfl)) e0 (g := (mkF m 0 #[.val (.ref x0), .val (.ref x1)] [])) rfl (hb hby own_d5_0) (by decide) (by decide)
  obtain ⟨b1, g1⟩ : ∃ z, z = h0.size := ⟨_, rfl⟩
  have z1 : Z.heap.size ≤ b1 := Nat.le_trans O0.2.1 (Nat.le_of_eq g1.symm)
  have s1 : h0.size ≤ b1 := Nat.le_trans (Keep.refl h0 []).1 (Nat.le_of_eq g1.symm)
  rw [← g1] at A1 D1 st1
  have O1 := O0.ext E1
  have K1 := (Keep.refl h0 []).ext E1
  have f2 : Fld Z h1 b1 "com/example/gridclause/gridclause/cli/Option" "name" "Ljava/lang/String;" .null := D1 (Or.inr (hw _ (List.mem_of_getElem? (i := 45) rfl))) (ty := (.object "java/lang/String")) (by decide)
  have f3 : Fld Z h1 b1 "com/example/gridclause/gridclause/cli/Option" "label" "Ljava/lang/String;" .null := D1 (Or.inr (hw _ (List.mem_of_getElem? (i := 47) rfl))) (ty := (.object "java/lang/String")) (by decide)
  have f4 : Fld Z h1 b1 "com/example/gridclause/gridclause/cli/Option" "use" "Lcom/example/gridclause/gridclause/cli/Option$Use;" .null := D1 (Or.inr (hw _ (List.mem_of_getElem? (i := 49) rfl))) (ty := (.object "com/example/gridclause/gridclause/cli/Option$Use")) (by decide)
  refine own_st (T1.setTop (mkF m 3 #[.val (.ref x0), .val (.ref x1)] [(.ref b1)])) st1 ?_
  refine own_st (T1.setTop (mkF m 4 #[.val (.ref x0), .val (.ref x1)] [(.ref b1), (.ref b1)])) (fun tq kq => XS.dup X1.here hx rfl (hb hby own_d5_3) rfl (by rfl) kq) ?_
  refine own_st (T1.setTop (mkF m 5 #[.val (.ref x0), .val (.ref x1)] [(.ref x0), (.ref b1), (.ref b1)])) (fun tq kq => XS.aloadN X1.here hx rfl (hb hby own_d5_4) rfl (by rfl) kq) ?_
  refine own_st (T1.setTop (mkF m 6 #[.val (.ref x0), .val (.ref x1)] [(.ref x1), (.ref x0), (.ref b1), (.ref b1)])) (fun tq kq => XS.aloadN X1.here hx rfl (hb hby own_d5_5) rfl (by rfl) kq) ?_
  obtain ⟨T5, X5, e5, st5⟩ := getS2 X1 hx hZ hown (host := "") (Or.inl (hw _ (List.mem_of_getElem? (i := 32) rfl))) Via.refl e1 (SU0.ext O1.2) (g := (mkF m 6 #[.val (.ref x0), .val (.ref x1)] [(.ref x1), (.ref x0), (.ref b1), (.ref b1)])) rfl (hb hby own_d5_6)
  refine own_st (T5.setTop (mkF m 9 #[.val (.ref x0), .val (.ref x1)] [(.ref u0), (.ref x1), (.ref x0), (.ref b1), (.ref b1)])) st5 ?_
  obtain ⟨v6, T6, L6, X6, q6, st6⟩ := own_callI X5 hx hZ hown (y := (⟨"com/example/gridclause/gridclause/cli/Option", "<init>", "(Ljava/lang/String;Ljava/lang/String;Lcom/example/gridclause/gridclause/cli/Option$Use;)V"⟩ : MethodName)) rfl (hw _ (List.mem_of_getElem? (i := 35) rfl)) (hw _ (List.mem_of_getElem? (i := 36) rfl)) (hw _ (List.mem_of_getElem? (i := 28) rfl)) (hw _ (List.mem_of_getElem? (i := 37) rfl)) (a := b1) (argsL := [(.ref x0), (.ref x1), (.ref u0)]) (own_ctor_Option l Z a0 hw [] b1 x0 x1 u0 h1 O1 A1 z1 f2 f3 f4) 1 (by decide) (by decide) (by decide) (by decide) (by decide) e5 (g := (mkF m 9 #[.val (.ref x0), .val (.ref x1)] [(.ref u0), (.ref x1), (.ref x0), (.ref b1), (.ref b1)])) rfl (by rw [hml]; rfl) [(.ref b1)] (lenOf own_pd__28Ljava_2flang_2fString_3bLjava_2flang_2fString_3bLcom_2fexample_2fgridclause_2fgridclause_2fcli_2fOption_24Use_3b_29V rfl) rfl (by show 2 * 0 + _ ≤ _; exact Nat.le_of_eq rfl) (hb hby own_d5_9)
  obtain ⟨rfl, N6q, K6q, f6_0, f6_1, f6_2⟩ := q6
  have N6 := Fr.app (Fr.nil _) N6q
  have f7 := (A1.keep K6q)
  have O6 := O1.keep K6q (allS z1 all0)
  have K6 := K1.trans K6q (allS (Or.inr s1) all0)
  refine own_st (T6.setTop (mkF m 12 #[.val (.ref x0), .val (.ref x1)] [(.ref b1)])) st6 ?_
  exact own_ret X6 hlk (v := some (.ref b1)) (fun h => by rw [hret] at h; cases h) rfl (⟨_, rfl, N6, K6, z1, f7, f6_0, f6_1, f6_2⟩) (by decide) (by decide) (fun fs hr => retOut X6 hx hret rfl (Or.inr (Or.inr (Or.inr (Or.inr ⟨rfl, rfl, rfl⟩)))) (hb hby own_d5_12) hr)
theorem own_d13_0 : decode jdk_52_method_21_code 0 = .ok (.iconst 0, 1) := by decide +kernel
theorem own_d13_1 : decode jdk_52_method_21_code 1 = .ok (.istore 5, 2) := by decide +kernel
theorem own_d13_3 : decode jdk_52_method_21_code 3 = .ok (.iload 5, 2) := by decide +kernel
theorem own_d13_5 : decode jdk_52_method_21_code 5 = .ok (.iload 4, 2) := by decide +kernel
theorem own_d13_7 : decode jdk_52_method_21_code 7 = .ok (.if_icmp .ge 37, 3) := by decide +kernel
theorem own_d13_10 : decode jdk_52_method_21_code 10 = .ok (.aload_n 0, 1) := by decide +kernel
theorem own_d13_11 : decode jdk_52_method_21_code 11 = .ok (.iload_n 1, 1) := by decide +kernel
theorem own_d13_12 : decode jdk_52_method_21_code 12 = .ok (.caload, 1) := by decide +kernel
theorem own_d13_13 : decode jdk_52_method_21_code 13 = .ok (.istore 6, 2) := by decide +kernel
theorem own_d13_15 : decode jdk_52_method_21_code 15 = .ok (.iload 6, 2) := by decide +kernel
theorem own_d13_17 : decode jdk_52_method_21_code 17 = .ok (.sipush 255, 3) := by decide +kernel
theorem own_d13_20 : decode jdk_52_method_21_code 20 = .ok (.if_icmp .le 6, 3) := by decide +kernel
theorem own_d13_26 : decode jdk_52_method_21_code 26 = .ok (.aload_n 2, 1) := by decide +kernel
theorem own_d13_27 : decode jdk_52_method_21_code 27 = .ok (.iload_n 3, 1) := by decide +kernel
theorem own_d13_28 : decode jdk_52_method_21_code 28 = .ok (.iload 6, 2) := by decide +kernel
theorem own_d13_30 : decode jdk_52_method_21_code 30 = .ok (.i2b, 1) := by decide +kernel
theorem own_d13_31 : decode jdk_52_method_21_code 31 = .ok (.bastore, 1) := by decide +kernel
theorem own_d13_32 : decode jdk_52_method_21_code 32 = .ok (.iinc 1 1, 3) := by decide +kernel
theorem own_d13_35 : decode jdk_52_method_21_code 35 = .ok (.iinc 3 1, 3) := by decide +kernel
theorem own_d13_38 : decode jdk_52_method_21_code 38 = .ok (.iinc 5 1, 3) := by decide +kernel
theorem own_d13_41 : decode jdk_52_method_21_code 41 = .ok (.goto (-38), 3) := by decide +kernel
theorem own_d13_44 : decode jdk_52_method_21_code 44 = .ok (.iload 4, 2) := by decide +kernel
theorem own_d13_46 : decode jdk_52_method_21_code 46 = .ok (.ireturn, 1) := by decide +kernel
theorem own_pn_java_lang_StringUTF16 : plainName "java/lang/StringUTF16" = true := by first | (simp [plainName, overriddenIn]; done) | decide +kernel
set_option maxRecDepth 65536 in
set_option maxHeartbeats 40000000 in
theorem own_comp5_2 (l : Launch) (Z : State) (a0 : Array Value) (hw : ∀ d ∈ tables_1, d.before a0 Z = true) (ws : List Jvm.Cond) (t b : Addr) (kt kb : ClassId) (c0 c1 : Int32) (h0 : Heap) (O0 : Old Z Z.heap.size h0) (Atx : Arv Z h0 t kt .char (2 : Int32) [(.int c0), (.int c1)] (.int (0 : Int32))) (Ab : Arv Z h0 b kb .byte (2 : Int32) [(.int (0 : Int32)), (.int (0 : Int32))] (.int (0 : Int32))) (tb : t ≠ b) (gb : Z.heap.size ≤ b) (r0a : ¬ (c0 < (0 : Int32))) (r0b : ¬ ((255 : Int32) < c0)) (r1a : ¬ (c1 < (0 : Int32))) (r1b : ¬ ((255 : Int32) < c1)) :
    ownMet l (⟨"java/lang/StringUTF16", "compress", "([CI[BII)I"⟩ : MethodName) jdk_52_method_21_code 7 (some .int) ws ({ frames := 0, cells := 0, slots := 0, locals := 0 } : Room) Z #[(.ref t), (.int (0 : Int32)), (.ref b), (.int (0 : Int32)), (.int (2 : Int32))] h0 (fun v h L => v = some (.int (2 : Int32)) ∧ Fr Z.heap.size L ∧ Keep h0 h [b] ∧ Arv Z h b kb .byte (2 : Int32) [(.int (c0.toInt8.toInt32)), (.int (c1.toInt8.toInt32))] (.int (0 : Int32))) := by
  refine own_met (plainFor_of_name own_pn_java_lang_StringUTF16) ?_
  intro p e s m below meth c s₁ hx hby hml hown hnm hret hlk hZ e0 X0
  refine own_cast (show _ = (mkF m 0 #[.val (.ref t), .val (.int (0 : Int32)), .val (.ref b), .val (.int (0 : Int32)), .val (.int (2 : Int32)), .unset, .unset] []) by first | (simp [entryFrame, mkF, argsToLocals, Value.category]; done) | rfl) ?_
  refine own_st (s₁.setTop (mkF m 1 #[.val (.ref t), .val (.int (0 : Int32)), .val (.ref b), .val (.int (0 : Int32)), .val (.int (2 : Int32)), .unset, .unset] [(.int (0 : Int32))])) (fun tq kq => XS.iconst X0.here hx rfl (hb hby own_d13_0) kq) ?_
  refine own_st (s₁.setTop (mkF m 3 #[.val (.ref t), .val (.int (0 : Int32)), .val (.ref b), .val (.int (0 : Int32)), .val (.int (2 : Int32)), .val (.int (0 : Int32)), .unset] [])) (fun tq kq => XS.istore X0.here hx rfl (hb hby own_d13_1) rfl (l' := #[.val (.ref t), .val (.int (0 : Int32)), .val (.ref b), .val (.int (0 : Int32)), .val (.int (2 : Int32)), .val (.int (0 : Int32)), .unset]) rfl kq) ?_
  refine own_st (s₁.setTop (mkF m 5 #[.val (.ref t), .val (.int (0 : Int32)), .val (.ref b), .val (.int (0 : Int32)), .val (.int (2 : Int32)), .val (.int (0 : Int32)), .unset] [(.int (0 : Int32))])) (fun tq kq => XS.iload X0.here hx rfl (hb hby own_d13_3) rfl kq) ?_
  refine own_st (s₁.setTop (mkF m 7 #[.val (.ref t), .val (.int (0 : Int32)), .val (.ref b), .val (.int (0 : Int32)), .val (.int (2 : Int32)), .val (.int (0 : Int32)), .unset] [(.int (2 : Int32)), (.int (0 : Int32))])) (fun tq kq => XS.iload X0.here hx rfl (hb hby own_d13_5) rfl kq) ?_
  refine own_st (s₁.setTop (mkF m 10 #[.val (.ref t), .val (.int (0 : Int32)), .val (.ref b), .val (.int (0 : Int32)), .val (.int (2 : Int32)), .val (.int (0 : Int32)), .unset] [])) (fun tq kq => XS.icmpNo X0.here hx rfl (hb hby own_d13_7) rfl (tlt ((by decide) : (0 : Int32) < (2 : Int32))).2.1 kq) ?_
  refine own_st (s₁.setTop (mkF m 11 #[.val (.ref t), .val (.int (0 : Int32)), .val (.ref b), .val (.int (0 : Int32)), .val (.int (2 : Int32)), .val (.int (0 : Int32)), .unset] [(.ref t)])) (fun tq kq => XS.aloadN X0.here hx rfl (hb hby own_d13_10) rfl (by rfl) kq) ?_
  refine own_st (s₁.setTop (mkF m 12 #[.val (.ref t), .val (.int (0 : Int32)), .val (.ref b), .val (.int (0 : Int32)), .val (.int (2 : Int32)), .val (.int (0 : Int32)), .unset] [(.int (0 : Int32)), (.ref t)])) (fun tq kq => XS.iloadN X0.here hx rfl (hb hby own_d13_11) rfl kq) ?_
  obtain ⟨cl1, q1a, q1b, q1c, q1d, q1e, q1f⟩ := id Atx
  refine own_st (s₁.setTop (mkF m 13 #[.val (.ref t), .val (.int (0 : Int32)), .val (.ref b), .val (.int (0 : Int32)), .val (.int (2 : Int32)), .val (.int (0 : Int32)), .unset] [(.int c0)])) (fun tq kq => X0.caload hx (j := (0 : Int32)) (v := (.int c0)) (by rw [e0]; exact q1a.1) (State.isArrayOf_alike hZ.alike q1a.2.1) q1a.2.2 (inb_of q1c ⟨by decide, by decide⟩) (q1e.at (inb_of q1c ⟨by decide, by decide⟩) rfl) (g := (mkF m 12 #[.val (.ref t), .val (.int (0 : Int32)), .val (.ref b), .val (.int (0 : Int32)), .val (.int (2 : Int32)), .val (.int (0 : Int32)), .unset] [(.int (0 : Int32)), (.ref t)])) rfl rfl (hb hby own_d13_12) tq kq) ?_
  refine own_st (s₁.setTop (mkF m 15 #[.val (.ref t), .val (.int (0 : Int32)), .val (.ref b), .val (.int (0 : Int32)), .val (.int (2 : Int32)), .val (.int (0 : Int32)), .val (.int c0)] [])) (fun tq kq => XS.istore X0.here hx rfl (hb hby own_d13_13) rfl (l' := #[.val (.ref t), .val (.int (0 : Int32)), .val (.ref b), .val (.int (0 : Int32)), .val (.int (2 : Int32)), .val (.int (0 : Int32)), .val (.int c0)]) rfl kq) ?_
  refine own_st (s₁.setTop (mkF m 17 #[.val (.ref t), .val (.int (0 : Int32)), .val (.ref b), .val (.int (0 : Int32)), .val (.int (2 : Int32)), .val (.int (0 : Int32)), .val (.int c0)] [(.int c0)])) (fun tq kq => XS.iload X0.here hx rfl (hb hby own_d13_15) rfl kq) ?_
  refine own_st (s₁.setTop (mkF m 20 #[.val (.ref t), .val (.int (0 : Int32)), .val (.ref b), .val (.int (0 : Int32)), .val (.int (2 : Int32)), .val (.int (0 : Int32)), .val (.int c0)] [(.int (255 : Int32)), (.int c0)])) (fun tq kq => XS.sipush X0.here hx rfl (hb hby own_d13_17) kq) ?_
  refine own_st (s₁.setTop (mkF m 26 #[.val (.ref t), .val (.int (0 : Int32)), .val (.ref b), .val (.int (0 : Int32)), .val (.int (2 : Int32)), .val (.int (0 : Int32)), .val (.int c0)] [])) (fun tq kq => XS.icmpYes X0.here hx rfl (pc0 := 20) (pc' := 26) rfl (hb hby own_d13_20) rfl (flt (r0b : ¬ ((255 : Int32) < c0))).2.2.2 (by decide) (by decide) kq) ?_
  refine own_st (s₁.setTop (mkF m 27 #[.val (.ref t), .val (.int (0 : Int32)), .val (.ref b), .val (.int (0 : Int32)), .val (.int (2 : Int32)), .val (.int (0 : Int32)), .val (.int c0)] [(.ref b)])) (fun tq kq => XS.aloadN X0.here hx rfl (hb hby own_d13_26) rfl (by rfl) kq) ?_
  refine own_st (s₁.setTop (mkF m 28 #[.val (.ref t), .val (.int (0 : Int32)), .val (.ref b), .val (.int (0 : Int32)), .val (.int (2 : Int32)), .val (.int (0 : Int32)), .val (.int c0)] [(.int (0 : Int32)), (.ref b)])) (fun tq kq => XS.iloadN X0.here hx rfl (hb hby own_d13_27) rfl kq) ?_
  refine own_st (s₁.setTop (mkF m 30 #[.val (.ref t), .val (.int (0 : Int32)), .val (.ref b), .val (.int (0 : Int32)), .val (.int (2 : Int32)), .val (.int (0 : Int32)), .val (.int c0)] [(.int c0), (.int (0 : Int32)), (.ref b)])) (fun tq kq => XS.iload X0.here hx rfl (hb hby own_d13_28) rfl kq) ?_
  refine own_st (s₁.setTop (mkF m 31 #[.val (.ref t), .val (.int (0 : Int32)), .val (.ref b), .val (.int (0 : Int32)), .val (.int (2 : Int32)), .val (.int (0 : Int32)), .val (.int c0)] [(.int (c0.toInt8.toInt32)), (.int (0 : Int32)), (.ref b)])) (fun tq kq => XS.i2b X0.here hx rfl (hb hby own_d13_30) rfl kq) ?_
  obtain ⟨cl2, q2a, q2b, q2c, q2d, q2e, q2f⟩ := id Ab
  obtain ⟨T2, h2, X2, e2, W2, st2⟩ := stB X0 hx hZ e0 q2a (j := (0 : Int32)) (inb_of q2c ⟨by decide, by decide⟩) (g := (mkF m 31 #[.val (.ref t), .val (.int (0 : Int32)), .val (.ref b), .val (.int (0 : Int32)), .val (.int (2 : Int32)), .val (.int (0 : Int32)), .val (.int c0)] [(.int (c0.toInt8.toInt32)), (.int (0 : Int32)), (.ref b)])) rfl rfl (hb hby own_d13_31)
  have N2 := Fr.snoc X2 (Fr.nil _) gb
  have O2 := O0.wr W2 gb
  have K2 := (Keep.refl h0 [b]).wr W2 (Or.inl (List.mem_of_getElem? (i := 0) rfl))
  have f3 := (Atx.other W2 tb)
  have f5 : Arv Z h2 b kb .byte (2 : Int32) [(.int (c0.toInt8.toInt32)), (.int (0 : Int32))] (.int (0 : Int32)) := (show nar .byte (c0.toInt8.toInt32) = (c0.toInt8.toInt32) from (own_narB _)) ▸ Arv.set q2a q2b q2c q2d q2e q2f (fits_nar_byte _) W2 0 (by decide) (show 0 < 2 by decide)
  refine own_st (T2.setTop (mkF m 32 #[.val (.ref t), .val (.int (0 : Int32)), .val (.ref b), .val (.int (0 : Int32)), .val (.int (2 : Int32)), .val (.int (0 : Int32)), .val (.int c0)] [])) st2 ?_
  refine own_st (T2.setTop (mkF m 35 #[.val (.ref t), .val (.int (1 : Int32)), .val (.ref b), .val (.int (0 : Int32)), .val (.int (2 : Int32)), .val (.int (0 : Int32)), .val (.int c0)] [])) (fun tq kq => XS.iinc X2.here hx rfl (hb hby own_d13_32) rfl (l' := #[.val (.ref t), .val (.int (1 : Int32)), .val (.ref b), .val (.int (0 : Int32)), .val (.int (2 : Int32)), .val (.int (0 : Int32)), .val (.int c0)]) rfl kq) ?_
  refine own_st (T2.setTop (mkF m 38 #[.val (.ref t), .val (.int (1 : Int32)), .val (.ref b), .val (.int (1 : Int32)), .val (.int (2 : Int32)), .val (.int (0 : Int32)), .val (.int c0)] [])) (fun tq kq => XS.iinc X2.here hx rfl (hb hby own_d13_35) rfl (l' := #[.val (.ref t), .val (.int (1 : Int32)), .val (.ref b), .val (.int (1 : Int32)), .val (.int (2 : Int32)), .val (.int (0 : Int32)), .val (.int c0)]) rfl kq) ?_
  refine own_st (T2.setTop (mkF m 41 #[.val (.ref t), .val (.int (1 : Int32)), .val (.ref b), .val (.int (1 : Int32)), .val (.int (2 : Int32)), .val (.int (1 : Int32)), .val (.int c0)] [])) (fun tq kq => XS.iinc X2.here hx rfl (hb hby own_d13_38) rfl (l' := #[.val (.ref t), .val (.int (1 : Int32)), .val (.ref b), .val (.int (1 : Int32)), .val (.int (2 : Int32)), .val (.int (1 : Int32)), .val (.int c0)]) rfl kq) ?_
  refine own_st (T2.setTop (mkF m 3 #[.val (.ref t), .val (.int (1 : Int32)), .val (.ref b), .val (.int (1 : Int32)), .val (.int (2 : Int32)), .val (.int (1 : Int32)), .val (.int c0)] [])) (fun tq kq => XS.goto X2.here hx rfl (pc0 := 41) (pc' := 3) rfl (hb hby own_d13_41) (by decide) (by decide) kq) ?_
  refine own_st (T2.setTop (mkF m 5 #[.val (.ref t), .val (.int (1 : Int32)), .val (.ref b), .val (.int (1 : Int32)), .val (.int (2 : Int32)), .val (.int (1 : Int32)), .val (.int c0)] [(.int (1 : Int32))])) (fun tq kq => XS.iload X2.here hx rfl (hb hby own_d13_3) rfl kq) ?_
  refine own_st (T2.setTop (mkF m 7 #[.val (.ref t), .val (.int (1 : Int32)), .val (.ref b), .val (.int (1 : Int32)), .val (.int (2 : Int32)), .val (.int (1 : Int32)), .val (.int c0)] [(.int (2 : Int32)), (.int (1 : Int32))])) (fun tq kq => XS.iload X2.here hx rfl (hb hby own_d13_5) rfl kq) ?_
  refine own_st (T2.setTop (mkF m 10 #[.val (.ref t), .val (.int (1 : Int32)), .val (.ref b), .val (.int (1 : Int32)), .val (.int (2 : Int32)), .val (.int (1 : Int32)), .val (.int c0)] [])) (fun tq kq => XS.icmpNo X2.here hx rfl (hb hby own_d13_7) rfl (tlt ((by decide) : (1 : Int32) < (2 : Int32))).2.1 kq) ?_
  refine own_st (T2.setTop (mkF m 11 #[.val (.ref t), .val (.int (1 : Int32)), .val (.ref b), .val (.int (1 : Int32)), .val (.int (2 : Int32)), .val (.int (1 : Int32)), .val (.int c0)] [(.ref t)])) (fun tq kq => XS.aloadN X2.here hx rfl (hb hby own_d13_10) rfl (by rfl) kq) ?_
  refine own_st (T2.setTop (mkF m 12 #[.val (.ref t), .val (.int (1 : Int32)), .val (.ref b), .val (.int (1 : Int32)), .val (.int (2 : Int32)), .val (.int (1 : Int32)), .val (.int c0)] [(.int (1 : Int32)), (.ref t)])) (fun tq kq => XS.iloadN X2.here hx rfl (hb hby own_d13_11) rfl kq) ?_
  obtain ⟨cl6, q6a, q6b, q6c, q6d, q6e, q6f⟩ := id f3
  refine own_st (T2.setTop (mkF m 13 #[.val (.ref t), .val (.int (1 : Int32)), .val (.ref b), .val (.int (1 : Int32)), .val (.int (2 : Int32)), .val (.int (1 : Int32)), .val (.int c0)] [(.int c1)])) (fun tq kq => X2.caload hx (j := (1 : Int32)) (v := (.int c1)) (by rw [e2]; exact q6a.1) (State.isArrayOf_alike hZ.alike q6a.2.1) q6a.2.2 (inb_of q6c ⟨by decide, by decide⟩) (q6e.at (inb_of q6c ⟨by decide, by decide⟩) rfl) (g := (mkF m 12 #[.val (.ref t), .val (.int (1 : Int32)), .val (.ref b), .val (.int (1 : Int32)), .val (.int (2 : Int32)), .val (.int (1 : Int32)), .val (.int c0)] [(.int (1 : Int32)), (.ref t)])) rfl rfl (hb hby own_d13_12) tq kq) ?_
  refine own_st (T2.setTop (mkF m 15 #[.val (.ref t), .val (.int (1 : Int32)), .val (.ref b), .val (.int (1 : Int32)), .val (.int (2 : Int32)), .val (.int (1 : Int32)), .val (.int c1)] [])) (fun tq kq => XS.istore X2.here hx rfl (hb hby own_d13_13) rfl (l' := #[.val (.ref t), .val (.int (1 : Int32)), .val (.ref b), .val (.int (1 : Int32)), .val (.int (2 : Int32)), .val (.int (1 : Int32)), .val (.int c1)]) rfl kq) ?_
  refine own_st (T2.setTop (mkF m 17 #[.val (.ref t), .val (.int (1 : Int32)), .val (.ref b), .val (.int (1 : Int32)), .val (.int (2 : Int32)), .val (.int (1 : Int32)), .val (.int c1)] [(.int c1)])) (fun tq kq => XS.iload X2.here hx rfl (hb hby own_d13_15) rfl kq) ?_
  refine own_st (T2.setTop (mkF m 20 #[.val (.ref t), .val (.int (1 : Int32)), .val (.ref b), .val (.int (1 : Int32)), .val (.int (2 : Int32)), .val (.int (1 : Int32)), .val (.int c1)] [(.int (255 : Int32)), (.int c1)])) (fun tq kq => XS.sipush X2.here hx rfl (hb hby own_d13_17) kq) ?_
  refine own_st (T2.setTop (mkF m 26 #[.val (.ref t), .val (.int (1 : Int32)), .val (.ref b), .val (.int (1 : Int32)), .val (.int (2 : Int32)), .val (.int (1 : Int32)), .val (.int c1)] [])) (fun tq kq => XS.icmpYes X2.here hx rfl (pc0 := 20) (pc' := 26) rfl (hb hby own_d13_20) rfl (flt (r1b : ¬ ((255 : Int32) < c1))).2.2.2 (by decide) (by decide) kq) ?_
  refine own_st (T2.setTop (mkF m 27 #[.val (.ref t), .val (.int (1 : Int32)), .val (.ref b), .val (.int (1 : Int32)), .val (.int (2 : Int32)), .val (.int (1 : Int32)), .val (.int c1)] [(.ref b)])) (fun tq kq => XS.aloadN X2.here hx rfl (hb hby own_d13_26) rfl (by rfl) kq) ?_
  refine own_st (T2.setTop (mkF m 28 #[.val (.ref t), .val (.int (1 : Int32)), .val (.ref b), .val (.int (1 : Int32)), .val (.int (2 : Int32)), .val (.int (1 : Int32)), .val (.int c1)] [(.int (1 : Int32)), (.ref b)])) (fun tq kq => XS.iloadN X2.here hx rfl (hb hby own_d13_27) rfl kq) ?_
  refine own_st (T2.setTop (mkF m 30 #[.val (.ref t), .val (.int (1 : Int32)), .val (.ref b), .val (.int (1 : Int32)), .val (.int (2 : Int32)), .val (.int (1 : Int32)), .val (.int c1)] [(.int c1), (.int (1 : Int32)), (.ref b)])) (fun tq kq => XS.iload X2.here hx rfl (hb hby own_d13_28) rfl kq) ?_
  refine own_st (T2.setTop (mkF m 31 #[.val (.ref t), .val (.int (1 : Int32)), .val (.ref b), .val (.int (1 : Int32)), .val (.int (2 : Int32)), .val (.int (1 : Int32)), .val (.int c1)] [(.int (c1.toInt8.toInt32)), (.int (1 : Int32)), (.ref b)])) (fun tq kq => XS.i2b X2.here hx rfl (hb hby own_d13_30) rfl kq) ?_
  obtain ⟨cl7, q7a, q7b, q7c, q7d, q7e, q7f⟩ := id f5
  obtain ⟨T7, h7, X7, e7, W7, st7⟩ := stB X2 hx hZ e2 q7a (j := (1 : Int32)) (inb_of q7c ⟨by decide, by decide⟩) (g := (mkF m 31 #[.val (.ref t), .val (.int (1 : Int32)), .val (.ref b), .val (.int (1 : Int32)), .val (.int (2 : Int32)), .val (.int (1 : Int32)), .val (.int c1)] [(.int (c1.toInt8.toInt32)), (.int (1 : Int32)), (.ref b)])) rfl rfl (hb hby own_d13_31)
  have N7 := Fr.snoc X7 N2 gb
  have O7 := O2.wr W7 gb
  have K7 := K2.wr W7 (Or.inl (List.mem_of_getElem? (i := 0) rfl))
  have f8 := (f3.other W7 tb)
  have f10 : Arv Z h7 b kb .byte (2 : Int32) [(.int (c0.toInt8.toInt32)), (.int (c1.toInt8.toInt32))] (.int (0 : Int32)) := (show nar .byte (c1.toInt8.toInt32) = (c1.toInt8.toInt32) from (own_narB _)) ▸ Arv.set q7a q7b q7c q7d q7e q7f (fits_nar_byte _) W7 1 (by decide) (show 1 < 2 by decide)
  refine own_st (T7.setTop (mkF m 32 #[.val (.ref t), .val (.int (1 : Int32)), .val (.ref b), .val (.int (1 : Int32)), .val (.int (2 : Int32)), .val (.int (1 : Int32)), .val (.int c1)] [])) st7 ?_
  refine own_st (T7.setTop (mkF m 35 #[.val (.ref t), .val (.int (2 : Int32)), .val (.ref b), .val (.int (1 : Int32)), .val (.int (2 : Int32)), .val (.int (1 : Int32)), .val (.int c1)] [])) (fun tq kq => XS.iinc X7.here hx rfl (hb hby own_d13_32) rfl (l' := #[.val (.ref t), .val (.int (2 : Int32)), .val (.ref b), .val (.int (1 : Int32)), .val (.int (2 : Int32)), .val (.int (1 : Int32)), .val (.int c1)]) rfl kq) ?_
  refine own_st (T7.setTop (mkF m 38 #[.val (.ref t), .val (.int (2 : Int32)), .val (.ref b), .val (.int (2 : Int32)), .val (.int (2 : Int32)), .val (.int (1 : Int32)), .val (.int c1)] [])) (fun tq kq => XS.iinc X7.here hx rfl (hb hby own_d13_35) rfl (l' := #[.val (.ref t), .val (.int (2 : Int32)), .val (.ref b), .val (.int (2 : Int32)), .val (.int (2 : Int32)), .val (.int (1 : Int32)), .val (.int c1)]) rfl kq) ?_
  refine own_st (T7.setTop (mkF m 41 #[.val (.ref t), .val (.int (2 : Int32)), .val (.ref b), .val (.int (2 : Int32)), .val (.int (2 : Int32)), .val (.int (2 : Int32)), .val (.int c1)] [])) (fun tq kq => XS.iinc X7.here hx rfl (hb hby own_d13_38) rfl (l' := #[.val (.ref t), .val (.int (2 : Int32)), .val (.ref b), .val (.int (2 : Int32)), .val (.int (2 : Int32)), .val (.int (2 : Int32)), .val (.int c1)]) rfl kq) ?_
  refine own_st (T7.setTop (mkF m 3 #[.val (.ref t), .val (.int (2 : Int32)), .val (.ref b), .val (.int (2 : Int32)), .val (.int (2 : Int32)), .val (.int (2 : Int32)), .val (.int c1)] [])) (fun tq kq => XS.goto X7.here hx rfl (pc0 := 41) (pc' := 3) rfl (hb hby own_d13_41) (by decide) (by decide) kq) ?_
  refine own_st (T7.setTop (mkF m 5 #[.val (.ref t), .val (.int (2 : Int32)), .val (.ref b), .val (.int (2 : Int32)), .val (.int (2 : Int32)), .val (.int (2 : Int32)), .val (.int c1)] [(.int (2 : Int32))])) (fun tq kq => XS.iload X7.here hx rfl (hb hby own_d13_3) rfl kq) ?_
  refine own_st (T7.setTop (mkF m 7 #[.val (.ref t), .val (.int (2 : Int32)), .val (.ref b), .val (.int (2 : Int32)), .val (.int (2 : Int32)), .val (.int (2 : Int32)), .val (.int c1)] [(.int (2 : Int32)), (.int (2 : Int32))])) (fun tq kq => XS.iload X7.here hx rfl (hb hby own_d13_5) rfl kq) ?_
  refine own_st (T7.setTop (mkF m 44 #[.val (.ref t), .val (.int (2 : Int32)), .val (.ref b), .val (.int (2 : Int32)), .val (.int (2 : Int32)), .val (.int (2 : Int32)), .val (.int c1)] [])) (fun tq kq => XS.icmpYes X7.here hx rfl (pc0 := 7) (pc' := 44) rfl (hb hby own_d13_7) rfl (flt ((by decide) : ¬ ((2 : Int32) < (2 : Int32)))).2.1 (by decide) (by decide) kq) ?_
  refine own_st (T7.setTop (mkF m 46 #[.val (.ref t), .val (.int (2 : Int32)), .val (.ref b), .val (.int (2 : Int32)), .val (.int (2 : Int32)), .val (.int (2 : Int32)), .val (.int c1)] [(.int (2 : Int32))])) (fun tq kq => XS.iload X7.here hx rfl (hb hby own_d13_44) rfl kq) ?_
  exact own_ret X7 hlk (v := some (.int (2 : Int32))) (fun h => by rw [hret] at h; cases h) e7 (⟨rfl, N7, K7, f10⟩) (by decide) (by decide) (fun fs hr => retI X7 hx hret (hb hby own_d13_46) hr)
theorem own_d12_0 : decode jdk_52_method_16_code 0 = .ok (.iload_n 2, 1) := by decide +kernel
theorem own_d12_1 : decode jdk_52_method_16_code 1 = .ok (.newarray .byte, 2) := by decide +kernel
theorem own_d12_3 : decode jdk_52_method_16_code 3 = .ok (.astore_n 3, 1) := by decide +kernel
theorem own_d12_4 : decode jdk_52_method_16_code 4 = .ok (.aload_n 0, 1) := by decide +kernel
theorem own_d12_5 : decode jdk_52_method_16_code 5 = .ok (.iload_n 1, 1) := by decide +kernel
theorem own_d12_6 : decode jdk_52_method_16_code 6 = .ok (.aload_n 3, 1) := by decide +kernel
theorem own_d12_7 : decode jdk_52_method_16_code 7 = .ok (.iconst 0, 1) := by decide +kernel
theorem own_d12_8 : decode jdk_52_method_16_code 8 = .ok (.iload_n 2, 1) := by decide +kernel
theorem own_pd__28_5bCI_5bBII_29I : parseMethodDescriptor "([CI[BII)I" = some ⟨[(.array .char), .int, (.array .byte), .int, .int], some .int⟩ := by decide +kernel
theorem own_d12_9 : decode jdk_52_method_16_code 9 = .ok (.invokestatic 115, 3) := by decide +kernel
theorem own_d12_12 : decode jdk_52_method_16_code 12 = .ok (.istore 4, 2) := by decide +kernel
theorem own_d12_14 : decode jdk_52_method_16_code 14 = .ok (.iload 4, 2) := by decide +kernel
theorem own_d12_16 : decode jdk_52_method_16_code 16 = .ok (.iload_n 2, 1) := by decide +kernel
theorem own_d12_17 : decode jdk_52_method_16_code 17 = .ok (.if_icmp .eq 40, 3) := by decide +kernel
theorem own_d12_57 : decode jdk_52_method_16_code 57 = .ok (.aload_n 3, 1) := by decide +kernel
theorem own_d12_58 : decode jdk_52_method_16_code 58 = .ok (.areturn, 1) := by decide +kernel
set_option maxRecDepth 65536 in
set_option maxHeartbeats 40000000 in
theorem own_comp3_2 (l : Launch) (Z : State) (a0 : Array Value) (hw : ∀ d ∈ tables_1, d.before a0 Z = true) (ws : List Jvm.Cond) (t : Addr) (kt : ClassId) (c0 c1 : Int32) (h0 : Heap) (O0 : Old Z Z.heap.size h0) (Atx : Arv Z h0 t kt .char (2 : Int32) [(.int c0), (.int c1)] (.int (0 : Int32))) (r0a : ¬ (c0 < (0 : Int32))) (r0b : ¬ ((255 : Int32) < c0)) (r1a : ¬ (c1 < (0 : Int32))) (r1b : ¬ ((255 : Int32) < c1)) :
    ownMet l (⟨"java/lang/StringUTF16", "compress", "([CII)[B"⟩ : MethodName) jdk_52_method_16_code 6 (some (.array .byte)) ws ({ frames := 1, cells := 1, slots := 2, locals := 18 } : Room) Z #[(.ref t), (.int (0 : Int32)), (.int (2 : Int32))] h0 (fun v h L => ∃ (b : Addr) (kb : ClassId), v = some (.ref b) ∧ Fr Z.heap.size L ∧ Keep h0 h [] ∧ Z.heap.size ≤ b ∧ h0.size ≤ b ∧ Arv Z h b kb .byte (2 : Int32) [(.int (c0.toInt8.toInt32)), (.int (c1.toInt8.toInt32))] (.int (0 : Int32))) := by
  refine own_met (plainFor_of_name own_pn_java_lang_StringUTF16) ?_
  intro p e s m below meth c s₁ hx hby hml hown hnm hret hlk hZ e0 X0
  refine own_cast (show _ = (mkF m 0 #[.val (.ref t), .val (.int (0 : Int32)), .val (.int (2 : Int32)), .unset, .unset, .unset] []) by first | (simp [entryFrame, mkF, argsToLocals, Value.category]; done) | rfl) ?_
  refine own_st (s₁.setTop (mkF m 1 #[.val (.ref t), .val (.int (0 : Int32)), .val (.int (2 : Int32)), .unset, .unset, .unset] [(.int (2 : Int32))])) (fun tq kq => XS.iloadN X0.here hx rfl (hb hby own_d12_0) rfl kq) ?_
  obtain ⟨T1, h1, cA1, X1, e1, E1, A1, st1⟩ := newP X0 hx hZ (hw _ (List.mem_of_getElem? (i := 19) rfl)) e0 (g := (mkF m 1 #[.val (.ref t), .val (.int (0 : Int32)), .val (.int (2 : Int32)), .unset, .unset, .unset] [(.int (2 : Int32))])) rfl (hb hby own_d12_1) rfl (by decide) (cap := 2) (by decide) (by decide) (by decide) (by decide)
  obtain ⟨b1, g1⟩ : ∃ z, z = h0.size := ⟨_, rfl⟩
  have z1 : Z.heap.size ≤ b1 := Nat.le_trans O0.2.1 (Nat.le_of_eq g1.symm)
  have net_1 : t ≠ b1 := Nat.ne_of_lt (Nat.lt_of_lt_of_le Atx.lt (Nat.le_of_eq g1.symm))
  have s1 : h0.size ≤ b1 := Nat.le_trans (Keep.refl h0 []).1 (Nat.le_of_eq g1.symm)
  rw [← g1] at A1 st1
  have f2 := (Atx.ext E1)
  have O1 := O0.ext E1
  have K1 := (Keep.refl h0 []).ext E1
  have f3 : Arv Z h1 b1 cA1 .byte (2 : Int32) [(.int (0 : Int32)), (.int (0 : Int32))] (.int (0 : Int32)) := (Arv.new A1 (by decide)).pad (pad_rep [] (.int (0 : Int32)) 2)
  refine own_st (T1.setTop (mkF m 3 #[.val (.ref t), .val (.int (0 : Int32)), .val (.int (2 : Int32)), .unset, .unset, .unset] [(.ref b1)])) st1 ?_
  refine own_st (T1.setTop (mkF m 4 #[.val (.ref t), .val (.int (0 : Int32)), .val (.int (2 : Int32)), .val (.ref b1), .unset, .unset] [])) (fun tq kq => XS.astoreN X1.here hx rfl (hb hby own_d12_3) rfl (by rfl) (l' := #[.val (.ref t), .val (.int (0 : Int32)), .val (.int (2 : Int32)), .val (.ref b1), .unset, .unset]) rfl kq) ?_
  refine own_st (T1.setTop (mkF m 5 #[.val (.ref t), .val (.int (0 : Int32)), .val (.int (2 : Int32)), .val (.ref b1), .unset, .unset] [(.ref t)])) (fun tq kq => XS.aloadN X1.here hx rfl (hb hby own_d12_4) rfl (by rfl) kq) ?_
  refine own_st (T1.setTop (mkF m 6 #[.val (.ref t), .val (.int (0 : Int32)), .val (.int (2 : Int32)), .val (.ref b1), .unset, .unset] [(.int (0 : Int32)), (.ref t)])) (fun tq kq => XS.iloadN X1.here hx rfl (hb hby own_d12_5) rfl kq) ?_
  refine own_st (T1.setTop (mkF m 7 #[.val (.ref t), .val (.int (0 : Int32)), .val (.int (2 : Int32)), .val (.ref b1), .unset, .unset] [(.ref b1), (.int (0 : Int32)), (.ref t)])) (fun tq kq => XS.aloadN X1.here hx rfl (hb hby own_d12_6) rfl (by rfl) kq) ?_
  refine own_st (T1.setTop (mkF m 8 #[.val (.ref t), .val (.int (0 : Int32)), .val (.int (2 : Int32)), .val (.ref b1), .unset, .unset] [(.int (0 : Int32)), (.ref b1), (.int (0 : Int32)), (.ref t)])) (fun tq kq => XS.iconst X1.here hx rfl (hb hby own_d12_7) kq) ?_
  refine own_st (T1.setTop (mkF m 9 #[.val (.ref t), .val (.int (0 : Int32)), .val (.int (2 : Int32)), .val (.ref b1), .unset, .unset] [(.int (2 : Int32)), (.int (0 : Int32)), (.ref b1), (.int (0 : Int32)), (.ref t)])) (fun tq kq => XS.iloadN X1.here hx rfl (hb hby own_d12_8) rfl kq) ?_
  obtain ⟨v4, T4, L4, X4, q4, st4⟩ := own_callS X1 hx hZ hown (hw _ (List.mem_of_getElem? (i := 82) rfl)) (hw _ (List.mem_of_getElem? (i := 83) rfl)) (hw _ (List.mem_of_getElem? (i := 80) rfl)) (hw _ (List.mem_of_getElem? (i := 84) rfl)) (argsL := [(.ref t), (.int (0 : Int32)), (.ref b1), (.int (0 : Int32)), (.int (2 : Int32))]) (own_comp5_2 l Z a0 hw [] t b1 kt cA1 c0 c1 h1 O1 f2 f3 net_1 z1 r0a r0b r1a r1b) 0 (by decide) (by decide) (by decide) (by decide) (by decide) e1 (g := (mkF m 9 #[.val (.ref t), .val (.int (0 : Int32)), .val (.int (2 : Int32)), .val (.ref b1), .unset, .unset] [(.int (2 : Int32)), (.int (0 : Int32)), (.ref b1), (.int (0 : Int32)), (.ref t)])) rfl (by rw [hml]; rfl) [] (lenOf own_pd__28_5bCI_5bBII_29I rfl) rfl (by show 2 * 0 + _ ≤ _; exact Nat.le_of_eq rfl) (hb hby own_d12_9)
  obtain ⟨rfl, N4q, K4q, f4q⟩ := q4
  have N4 := Fr.app (Fr.nil _) N4q
  have f5 := (f2.keep K4q (ninS net_1 nin0))
  have O4 := O1.keep K4q (allS z1 all0)
  have K4 := K1.trans K4q (allS (Or.inr s1) all0)
  refine own_st (T4.setTop (mkF m 12 #[.val (.ref t), .val (.int (0 : Int32)), .val (.int (2 : Int32)), .val (.ref b1), .unset, .unset] [(.int (2 : Int32))])) st4 ?_
  refine own_st (T4.setTop (mkF m 14 #[.val (.ref t), .val (.int (0 : Int32)), .val (.int (2 : Int32)), .val (.ref b1), .val (.int (2 : Int32)), .unset] [])) (fun tq kq => XS.istore X4.here hx rfl (hb hby own_d12_12) rfl (l' := #[.val (.ref t), .val (.int (0 : Int32)), .val (.int (2 : Int32)), .val (.ref b1), .val (.int (2 : Int32)), .unset]) rfl kq) ?_
  refine own_st (T4.setTop (mkF m 16 #[.val (.ref t), .val (.int (0 : Int32)), .val (.int (2 : Int32)), .val (.ref b1), .val (.int (2 : Int32)), .unset] [(.int (2 : Int32))])) (fun tq kq => XS.iload X4.here hx rfl (hb hby own_d12_14) rfl kq) ?_
  refine own_st (T4.setTop (mkF m 17 #[.val (.ref t), .val (.int (0 : Int32)), .val (.int (2 : Int32)), .val (.ref b1), .val (.int (2 : Int32)), .unset] [(.int (2 : Int32)), (.int (2 : Int32))])) (fun tq kq => XS.iloadN X4.here hx rfl (hb hby own_d12_16) rfl kq) ?_
  refine own_st (T4.setTop (mkF m 57 #[.val (.ref t), .val (.int (0 : Int32)), .val (.int (2 : Int32)), .val (.ref b1), .val (.int (2 : Int32)), .unset] [])) (fun tq kq => XS.icmpYes X4.here hx rfl (pc0 := 17) (pc' := 57) rfl (hb hby own_d12_17) rfl (teq ((by decide) : (2 : Int32) = (2 : Int32))).1 (by decide) (by decide) kq) ?_
  refine own_st (T4.setTop (mkF m 58 #[.val (.ref t), .val (.int (0 : Int32)), .val (.int (2 : Int32)), .val (.ref b1), .val (.int (2 : Int32)), .unset] [(.ref b1)])) (fun tq kq => XS.aloadN X4.here hx rfl (hb hby own_d12_57) rfl (by rfl) kq) ?_
  exact own_ret X4 hlk (v := some (.ref b1)) (fun h => by rw [hret] at h; cases h) rfl (⟨_, _, rfl, N4, K4, z1, s1, f4q⟩) (by decide) (by decide) (fun fs hr => retOut X4 hx hret rfl (Or.inr (Or.inr (Or.inr (Or.inr ⟨rfl, rfl, rfl⟩)))) (hb hby own_d12_58) hr)
theorem own_d14_0 : decode jdk_52_method_15_code 0 = .ok (.iload_n 1, 1) := by decide +kernel
theorem own_d14_1 : decode jdk_52_method_15_code 1 = .ok (.aload_n 0, 1) := by decide +kernel
theorem own_d14_2 : decode jdk_52_method_15_code 2 = .ok (.arraylength, 1) := by decide +kernel
theorem own_d14_3 : decode jdk_52_method_15_code 3 = .ok (.isub, 1) := by decide +kernel
theorem own_d14_4 : decode jdk_52_method_15_code 4 = .ok (.bipush 31, 2) := by decide +kernel
theorem own_d14_6 : decode jdk_52_method_15_code 6 = .ok (.iushr, 1) := by decide +kernel
theorem own_d14_7 : decode jdk_52_method_15_code 7 = .ok (.i2b, 1) := by decide +kernel
theorem own_d14_8 : decode jdk_52_method_15_code 8 = .ok (.ireturn, 1) := by decide +kernel
set_option maxRecDepth 65536 in
set_option maxHeartbeats 40000000 in
theorem own_cfal_2 (l : Launch) (Z : State) (a0 : Array Value) (hw : ∀ d ∈ tables_1, d.before a0 Z = true) (ws : List Jvm.Cond) (b : Addr) (kb : ClassId) (vs : List Value) (h0 : Heap) (O0 : Old Z Z.heap.size h0) (Ab : Arv Z h0 b kb .byte (2 : Int32) vs (.int (0 : Int32))) :
    ownMet l (⟨"java/lang/StringUTF16", "coderFromArrayLen", "([BI)B"⟩ : MethodName) jdk_52_method_15_code 2 (some .byte) ws ({ frames := 0, cells := 0, slots := 0, locals := 0 } : Room) Z #[(.ref b), (.int (2 : Int32))] h0 (fun v h L => v = some (.int (0 : Int32)) ∧ Fr Z.heap.size L ∧ h = h0) := by
  refine own_met (plainFor_of_name own_pn_java_lang_StringUTF16) ?_
  intro p e s m below meth c s₁ hx hby hml hown hnm hret hlk hZ e0 X0
  refine own_cast (show _ = (mkF m 0 #[.val (.ref b), .val (.int (2 : Int32))] []) by first | (simp [entryFrame, mkF, argsToLocals, Value.category]; done) | rfl) ?_
  refine own_st (s₁.setTop (mkF m 1 #[.val (.ref b), .val (.int (2 : Int32))] [(.int (2 : Int32))])) (fun tq kq => XS.iloadN X0.here hx rfl (hb hby own_d14_0) rfl kq) ?_
  refine own_st (s₁.setTop (mkF m 2 #[.val (.ref b), .val (.int (2 : Int32))] [(.ref b), (.int (2 : Int32))])) (fun tq kq => XS.aloadN X0.here hx rfl (hb hby own_d14_1) rfl (by rfl) kq) ?_
  obtain ⟨cl1, q1a, q1b, q1c, q1d, q1e, q1f⟩ := id Ab
  refine own_st (s₁.setTop (mkF m 3 #[.val (.ref b), .val (.int (2 : Int32))] [(.int (2 : Int32)), (.int (2 : Int32))])) (fun tq kq => X0.arraylength hx (by rw [e0]; exact q1a.1) (State.isArrayOf_alike hZ.alike q1a.2.1) (g := (mkF m 2 #[.val (.ref b), .val (.int (2 : Int32))] [(.ref b), (.int (2 : Int32))])) rfl rfl (hb hby own_d14_2) tq (by rw [len_of q1c q1d]; exact kq)) ?_
  refine own_st (s₁.setTop (mkF m 4 #[.val (.ref b), .val (.int (2 : Int32))] [(.int (0 : Int32))])) (fun tq kq => XS.isub X0.here hx rfl (hb hby own_d14_3) rfl kq) ?_
  refine own_st (s₁.setTop (mkF m 6 #[.val (.ref b), .val (.int (2 : Int32))] [(.int (31 : Int32)), (.int (0 : Int32))])) (fun tq kq => XS.bipush X0.here hx rfl (hb hby own_d14_4) kq) ?_
  refine own_st (s₁.setTop (mkF m 7 #[.val (.ref b), .val (.int (2 : Int32))] [(.int (0 : Int32))])) (fun tq kq => XS.iushr X0.here hx rfl (hb hby own_d14_6) rfl kq) ?_
  refine own_st (s₁.setTop (mkF m 8 #[.val (.ref b), .val (.int (2 : Int32))] [(.int (0 : Int32))])) (fun tq kq => XS.i2b X0.here hx rfl (hb hby own_d14_7) rfl kq) ?_
  exact own_ret X0 hlk (v := some (.int (0 : Int32))) (fun h => by rw [hret] at h; cases h) e0 (⟨rfl, (Fr.nil _), rfl⟩) (by decide) (by decide) (fun fs hr => own_retN X0 hx (t := .byte) hret (by simp) (hb hby own_d14_8) (by decide) hr)
theorem own_d3_0 : decode jdk_42_method_149_code 0 = .ok (.aload_n 0, 1) := by decide +kernel
theorem own_d3_1 : decode jdk_42_method_149_code 1 = .ok (.invokespecial 1, 3) := by decide +kernel
theorem own_d3_4 : decode jdk_42_method_149_code 4 = .ok (.iload_n 3, 1) := by decide +kernel
theorem own_d3_5 : decode jdk_42_method_149_code 5 = .ok (.ifCond .ne 22, 3) := by decide +kernel
theorem own_d3_27 : decode jdk_42_method_149_code 27 = .ok (.getstatic 38, 3) := by decide +kernel
theorem own_d3_30 : decode jdk_42_method_149_code 30 = .ok (.ifCond .eq 28, 3) := by decide +kernel
theorem own_d3_33 : decode jdk_42_method_149_code 33 = .ok (.aload_n 1, 1) := by decide +kernel
theorem own_d3_34 : decode jdk_42_method_149_code 34 = .ok (.iload_n 2, 1) := by decide +kernel
theorem own_d3_35 : decode jdk_42_method_149_code 35 = .ok (.iload_n 3, 1) := by decide +kernel
theorem own_pd__28_5bCII_29_5bB : parseMethodDescriptor "([CII)[B" = some ⟨[(.array .char), .int, .int], some (.array .byte)⟩ := by decide +kernel
theorem own_d3_36 : decode jdk_42_method_149_code 36 = .ok (.invokestatic 177, 3) := by decide +kernel
theorem own_d3_39 : decode jdk_42_method_149_code 39 = .ok (.astore 5, 2) := by decide +kernel
theorem own_d3_41 : decode jdk_42_method_149_code 41 = .ok (.aload_n 0, 1) := by decide +kernel
theorem own_d3_42 : decode jdk_42_method_149_code 42 = .ok (.aload 5, 2) := by decide +kernel
theorem own_d3_44 : decode jdk_42_method_149_code 44 = .ok (.iload_n 3, 1) := by decide +kernel
theorem own_pd__28_5bBI_29B : parseMethodDescriptor "([BI)B" = some ⟨[(.array .byte), .int], some .byte⟩ := by decide +kernel
theorem own_d3_45 : decode jdk_42_method_149_code 45 = .ok (.invokestatic 47, 3) := by decide +kernel
theorem own_d3_48 : decode jdk_42_method_149_code 48 = .ok (.putfield 15, 3) := by decide +kernel
theorem own_d3_51 : decode jdk_42_method_149_code 51 = .ok (.aload_n 0, 1) := by decide +kernel
theorem own_d3_52 : decode jdk_42_method_149_code 52 = .ok (.aload 5, 2) := by decide +kernel
theorem own_d3_54 : decode jdk_42_method_149_code 54 = .ok (.putfield 9, 3) := by decide +kernel
theorem own_d3_57 : decode jdk_42_method_149_code 57 = .ok (.return_, 1) := by decide +kernel
theorem own_pn_java_lang_String : plainName "java/lang/String" = true := by first | (simp [plainName, overriddenIn]; done) | decide +kernel
set_option maxRecDepth 65536 in
set_option maxHeartbeats 40000000 in
theorem own_sinit4_2 (l : Launch) (Z : State) (a0 : Array Value) (hw : ∀ d ∈ tables_1, d.before a0 Z = true) (ws : List Jvm.Cond) (cz : Int32) (a t : Addr) (kt : ClassId) (c0 c1 : Int32) (h0 : Heap) (O0 : Old Z Z.heap.size h0) (SC : Sta Z Z.heap "java/lang/String" "COMPACT_STRINGS" "Z" (.int cz)) (hcz : ¬ (cz = (0 : Int32))) (E0 : Exa Z h0 a "java/lang/String") (FV : Fld Z h0 a "java/lang/String" "value" "[B" .null) (FC : Fld Z h0 a "java/lang/String" "coder" "B" (.int (0 : Int32))) (g0 : Z.heap.size ≤ a) (Atx : Arv Z h0 t kt .char (2 : Int32) [(.int c0), (.int c1)] (.int (0 : Int32))) (ta : t ≠ a) (r0a : ¬ (c0 < (0 : Int32))) (r0b : ¬ ((255 : Int32) < c0)) (r1a : ¬ (c1 < (0 : Int32))) (r1b : ¬ ((255 : Int32) < c1)) :
    ownMet l (⟨"java/lang/String", "<init>", "([CIILjava/lang/Void;)V"⟩ : MethodName) jdk_42_method_149_code 6 none ws ({ frames := 2, cells := 1, slots := 2, locals := 35 } : Room) Z #[(.ref a), (.ref t), (.int (0 : Int32)), (.int (2 : Int32)), .null] h0 (fun v h L => ∃ (b : Addr) (kb : ClassId), v = none ∧ Fr Z.heap.size L ∧ Keep h0 h [a] ∧ Z.heap.size ≤ b ∧ h0.size ≤ b ∧ Fld Z h a "java/lang/String" "value" "[B" (.ref b) ∧ Fld Z h a "java/lang/String" "coder" "B" (.int (0 : Int32)) ∧ Arv Z h b kb .byte (2 : Int32) [(.int (c0.toInt8.toInt32)), (.int (c1.toInt8.toInt32))] (.int (0 : Int32))) := by
  refine own_met (plainFor_of_name own_pn_java_lang_String) ?_
  intro p e s m below meth c s₁ hx hby hml hown hnm hret hlk hZ e0 X0
  refine own_cast (show _ = (mkF m 0 #[.val (.ref a), .val (.ref t), .val (.int (0 : Int32)), .val (.int (2 : Int32)), .val .null, .unset] []) by first | (simp [entryFrame, mkF, argsToLocals, Value.category]; done) | rfl) ?_
  refine own_st (s₁.setTop (mkF m 1 #[.val (.ref a), .val (.ref t), .val (.int (0 : Int32)), .val (.int (2 : Int32)), .val .null, .unset] [(.ref a)])) (fun tq kq => XS.aloadN X0.here hx rfl (hb hby own_d3_0) rfl (by rfl) kq) ?_
  obtain ⟨T1, X1, e1, st1⟩ := initO X0 hx hZ hown (hw _ (List.mem_of_getElem? (i := 15) rfl)) (hw _ (List.mem_of_getElem? (i := 16) rfl)) (hw _ (List.mem_of_getElem? (i := 17) rfl)) e0 (g := (mkF m 1 #[.val (.ref a), .val (.ref t), .val (.int (0 : Int32)), .val (.int (2 : Int32)), .val .null, .unset] [(.ref a)])) rfl (by rw [hml]; rfl) rfl (hb hby own_d3_1) (by decide) (W := 0) (by show 2 * 0 + _ ≤ _; exact Nat.le_of_eq rfl) (by decide)
  refine own_st (T1.setTop (mkF m 4 #[.val (.ref a), .val (.ref t), .val (.int (0 : Int32)), .val (.int (2 : Int32)), .val .null, .unset] [])) st1 ?_
  refine own_st (T1.setTop (mkF m 5 #[.val (.ref a), .val (.ref t), .val (.int (0 : Int32)), .val (.int (2 : Int32)), .val .null, .unset] [(.int (2 : Int32))])) (fun tq kq => XS.iloadN X1.here hx rfl (hb hby own_d3_4) rfl kq) ?_
  refine own_st (T1.setTop (mkF m 27 #[.val (.ref a), .val (.ref t), .val (.int (0 : Int32)), .val (.int (2 : Int32)), .val .null, .unset] [])) (fun tq kq => XS.ifYes X1.here hx rfl (pc0 := 5) (pc' := 27) rfl (hb hby own_d3_5) rfl ((if0 _ _).trans (feq ((by decide) : ¬ ((2 : Int32) = (0 : Int32)))).2) (by decide) (by decide) kq) ?_
  obtain ⟨T2, X2, e2, st2⟩ := getS2 X1 hx hZ hown (host := "") (Or.inl (hw _ (List.mem_of_getElem? (i := 77) rfl))) Via.refl e1 (SC.ext O0.2) (g := (mkF m 27 #[.val (.ref a), .val (.ref t), .val (.int (0 : Int32)), .val (.int (2 : Int32)), .val .null, .unset] [])) rfl (hb hby own_d3_27)
  refine own_st (T2.setTop (mkF m 30 #[.val (.ref a), .val (.ref t), .val (.int (0 : Int32)), .val (.int (2 : Int32)), .val .null, .unset] [(.int cz)])) st2 ?_
  refine own_st (T2.setTop (mkF m 33 #[.val (.ref a), .val (.ref t), .val (.int (0 : Int32)), .val (.int (2 : Int32)), .val .null, .unset] [])) (fun tq kq => XS.ifNo X2.here hx rfl (hb hby own_d3_30) rfl ((if0 _ _).trans (feq (hcz : ¬ (cz = (0 : Int32)))).1) kq) ?_
  refine own_st (T2.setTop (mkF m 34 #[.val (.ref a), .val (.ref t), .val (.int (0 : Int32)), .val (.int (2 : Int32)), .val .null, .unset] [(.ref t)])) (fun tq kq => XS.aloadN X2.here hx rfl (hb hby own_d3_33) rfl (by rfl) kq) ?_
  refine own_st (T2.setTop (mkF m 35 #[.val (.ref a), .val (.ref t), .val (.int (0 : Int32)), .val (.int (2 : Int32)), .val .null, .unset] [(.int (0 : Int32)), (.ref t)])) (fun tq kq => XS.iloadN X2.here hx rfl (hb hby own_d3_34) rfl kq) ?_
  refine own_st (T2.setTop (mkF m 36 #[.val (.ref a), .val (.ref t), .val (.int (0 : Int32)), .val (.int (2 : Int32)), .val .null, .unset] [(.int (2 : Int32)), (.int (0 : Int32)), (.ref t)])) (fun tq kq => XS.iloadN X2.here hx rfl (hb hby own_d3_35) rfl kq) ?_
  obtain ⟨v3, T3, L3, X3, q3, st3⟩ := own_callS X2 hx hZ hown (hw _ (List.mem_of_getElem? (i := 78) rfl)) (hw _ (List.mem_of_getElem? (i := 79) rfl)) (hw _ (List.mem_of_getElem? (i := 80) rfl)) (hw _ (List.mem_of_getElem? (i := 81) rfl)) (argsL := [(.ref t), (.int (0 : Int32)), (.int (2 : Int32))]) (own_comp3_2 l Z a0 hw [] t kt c0 c1 h0 O0 Atx r0a r0b r1a r1b) 0 (by decide) (by decide) (by decide) (by decide) (by decide) e2 (g := (mkF m 36 #[.val (.ref a), .val (.ref t), .val (.int (0 : Int32)), .val (.int (2 : Int32)), .val .null, .unset] [(.int (2 : Int32)), (.int (0 : Int32)), (.ref t)])) rfl (by rw [hml]; rfl) [] (lenOf own_pd__28_5bCII_29_5bB rfl) rfl (by show 2 * 0 + _ ≤ _; exact Nat.le_of_eq rfl) (hb hby own_d3_36)
  obtain ⟨b3, kb3, rfl, N3q, K3q, z3, s3q, f3q⟩ := q3
  have N3 := Fr.app (Fr.nil _) N3q
  have nf3_a : a ≠ b3 := Nat.ne_of_lt (Nat.lt_of_lt_of_le E0.lt s3q)
  have nf3_t : t ≠ b3 := Nat.ne_of_lt (Nat.lt_of_lt_of_le Atx.lt s3q)
  have s3 : h0.size ≤ b3 := Nat.le_trans (Keep.refl h0 [a]).1 s3q
  have f4 := (E0.keep K3q)
  have f5 := (FV.keep K3q nin0)
  have f6 := (FC.keep K3q nin0)
  have f7 := (Atx.keep K3q nin0)
  have O3 := O0.keep K3q all0
  have K3 := (Keep.refl h0 [a]).trans K3q all0
  refine own_st (T3.setTop (mkF m 39 #[.val (.ref a), .val (.ref t), .val (.int (0 : Int32)), .val (.int (2 : Int32)), .val .null, .unset] [(.ref b3)])) st3 ?_
  refine own_st (T3.setTop (mkF m 41 #[.val (.ref a), .val (.ref t), .val (.int (0 : Int32)), .val (.int (2 : Int32)), .val .null, .val (.ref b3)] [])) (fun tq kq => XS.astore X3.here hx rfl (hb hby own_d3_39) rfl (by rfl) (l' := #[.val (.ref a), .val (.ref t), .val (.int (0 : Int32)), .val (.int (2 : Int32)), .val .null, .val (.ref b3)]) rfl kq) ?_
  refine own_st (T3.setTop (mkF m 42 #[.val (.ref a), .val (.ref t), .val (.int (0 : Int32)), .val (.int (2 : Int32)), .val .null, .val (.ref b3)] [(.ref a)])) (fun tq kq => XS.aloadN X3.here hx rfl (hb hby own_d3_41) rfl (by rfl) kq) ?_
  refine own_st (T3.setTop (mkF m 44 #[.val (.ref a), .val (.ref t), .val (.int (0 : Int32)), .val (.int (2 : Int32)), .val .null, .val (.ref b3)] [(.ref b3), (.ref a)])) (fun tq kq => XS.aload X3.here hx rfl (hb hby own_d3_42) rfl (by rfl) kq) ?_
  refine own_st (T3.setTop (mkF m 45 #[.val (.ref a), .val (.ref t), .val (.int (0 : Int32)), .val (.int (2 : Int32)), .val .null, .val (.ref b3)] [(.int (2 : Int32)), (.ref b3), (.ref a)])) (fun tq kq => XS.iloadN X3.here hx rfl (hb hby own_d3_44) rfl kq) ?_
  obtain ⟨v8, T8, L8, X8, q8, st8⟩ := own_callS X3 hx hZ hown (hw _ (List.mem_of_getElem? (i := 85) rfl)) (hw _ (List.mem_of_getElem? (i := 86) rfl)) (hw _ (List.mem_of_getElem? (i := 80) rfl)) (hw _ (List.mem_of_getElem? (i := 87) rfl)) (argsL := [(.ref b3), (.int (2 : Int32))]) (own_cfal_2 l Z a0 hw [] b3 kb3 [(.int (c0.toInt8.toInt32)), (.int (c1.toInt8.toInt32))] T3.heap O3 f3q) 1 (by decide) (by decide) (by decide) (by decide) (by decide) rfl (g := (mkF m 45 #[.val (.ref a), .val (.ref t), .val (.int (0 : Int32)), .val (.int (2 : Int32)), .val .null, .val (.ref b3)] [(.int (2 : Int32)), (.ref b3), (.ref a)])) rfl (by rw [hml]; rfl) [(.ref a)] (lenOf own_pd__28_5bBI_29B rfl) rfl (by show 2 * 0 + _ ≤ _; exact Nat.le_of_eq rfl) (hb hby own_d3_45)
  obtain ⟨rfl, N8q, e8⟩ := q8
  have N8 := Fr.app N3 N8q
  refine own_st (T8.setTop (mkF m 48 #[.val (.ref a), .val (.ref t), .val (.int (0 : Int32)), .val (.int (2 : Int32)), .val .null, .val (.ref b3)] [(.int (0 : Int32)), (.ref a)])) st8 ?_
  obtain ⟨T9, h9, X9, e9, W9, st9⟩ := putF X8 hx hZ hown (host := "") (Or.inl (hw _ (List.mem_of_getElem? (i := 25) rfl))) Via.refl e8 f6 f4 (Or.inr ⟨(hw _ (List.mem_of_getElem? (i := 21) rfl)), rfl, hnm⟩) (hw _ (List.mem_of_getElem? (i := 5) rfl)) (ty := .byte) (by decide) (by rfl) (by rfl) (g := (mkF m 48 #[.val (.ref a), .val (.ref t), .val (.int (0 : Int32)), .val (.int (2 : Int32)), .val .null, .val (.ref b3)] [(.int (0 : Int32)), (.ref a)])) rfl rfl (hb hby own_d3_48)
  have N9 := Fr.snoc X9 N8 g0
  have O9 := O3.wr W9 g0
  have K9 := K3.wr W9 (Or.inl (List.mem_of_getElem? (i := 0) rfl))
  have f10 := (f4.wr W9)
  have f11 := (f5.other W9 (Or.inr (slot_ne (Or.inr (hw _ (List.mem_of_getElem? (i := 20) rfl))) (Or.inr (hw _ (List.mem_of_getElem? (i := 21) rfl))) (by decide) (t := (.array .byte)) (t' := .byte) (by decide) (by decide))))
  have f13 := (f7.other W9 ta)
  have f14 := (f3q.other W9 (Ne.symm nf3_a))
  have f15 := (f6.same W9)
  refine own_st (T9.setTop (mkF m 51 #[.val (.ref a), .val (.ref t), .val (.int (0 : Int32)), .val (.int (2 : Int32)), .val .null, .val (.ref b3)] [])) st9 ?_
  refine own_st (T9.setTop (mkF m 52 #[.val (.ref a), .val (.ref t), .val (.int (0 : Int32)), .val (.int (2 : Int32)), .val .null, .val (.ref b3)] [(.ref a)])) (fun tq kq => XS.aloadN X9.here hx rfl (hb hby own_d3_51) rfl (by rfl) kq) ?_
  refine own_st (T9.setTop (mkF m 54 #[.val (.ref a), .val (.ref t), .val (.int (0 : Int32)), .val (.int (2 : Int32)), .val .null, .val (.ref b3)] [(.ref b3), (.ref a)])) (fun tq kq => XS.aload X9.here hx rfl (hb hby own_d3_52) rfl (by rfl) kq) ?_
  obtain ⟨T16, h16, X16, e16, W16, st16⟩ := putF X9 hx hZ hown (host := "") (Or.inl (hw _ (List.mem_of_getElem? (i := 24) rfl))) Via.refl e9 f11 f10 (Or.inr ⟨(hw _ (List.mem_of_getElem? (i := 20) rfl)), rfl, hnm⟩) (hw _ (List.mem_of_getElem? (i := 5) rfl)) (ty := (.array .byte)) (by decide) (by rfl) (by rfl) (g := (mkF m 54 #[.val (.ref a), .val (.ref t), .val (.int (0 : Int32)), .val (.int (2 : Int32)), .val .null, .val (.ref b3)] [(.ref b3), (.ref a)])) rfl rfl (hb hby own_d3_54)
  have N16 := Fr.snoc X16 N9 g0
  have O16 := O9.wr W16 g0
  have K16 := K9.wr W16 (Or.inl (List.mem_of_getElem? (i := 0) rfl))
  have f17 := (f10.wr W16)
  have f19 := (f15.other W16 (Or.inr (slot_ne (Or.inr (hw _ (List.mem_of_getElem? (i := 21) rfl))) (Or.inr (hw _ (List.mem_of_getElem? (i := 20) rfl))) (by decide) (t := .byte) (t' := (.array .byte)) (by decide) (by decide))))
  have f20 := (f13.other W16 ta)
  have f21 := (f14.other W16 (Ne.symm nf3_a))
  have f22 := (f11.same W16)
  refine own_st (T16.setTop (mkF m 57 #[.val (.ref a), .val (.ref t), .val (.int (0 : Int32)), .val (.int (2 : Int32)), .val .null, .val (.ref b3)] [])) st16 ?_
  exact own_ret X16 hlk (v := none) (fun _ => rfl) e16 (⟨_, _, rfl, N16, K16, z3, s3, f22, f19, f21⟩) (by decide) (by decide) (fun fs hr => X16.returnOut hx hret (hb hby own_d3_57) hr)
theorem own_d2_0 : decode jdk_42_method_3_code 0 = .ok (.aload_n 0, 1) := by decide +kernel
theorem own_d2_1 : decode jdk_42_method_3_code 1 = .ok (.aload_n 1, 1) := by decide +kernel
theorem own_d2_2 : decode jdk_42_method_3_code 2 = .ok (.iconst 0, 1) := by decide +kernel
theorem own_d2_3 : decode jdk_42_method_3_code 3 = .ok (.aload_n 1, 1) := by decide +kernel
theorem own_d2_4 : decode jdk_42_method_3_code 4 = .ok (.arraylength, 1) := by decide +kernel
theorem own_d2_5 : decode jdk_42_method_3_code 5 = .ok (.aconst_null, 1) := by decide +kernel
theorem own_pd__28_5bCIILjava_2flang_2fVoid_3b_29V : parseMethodDescriptor "([CIILjava/lang/Void;)V" = some ⟨[(.array .char), .int, .int, (.object "java/lang/Void")], none⟩ := by decide +kernel
theorem own_d2_6 : decode jdk_42_method_3_code 6 = .ok (.invokespecial 27, 3) := by decide +kernel
theorem own_d2_9 : decode jdk_42_method_3_code 9 = .ok (.return_, 1) := by decide +kernel
set_option maxRecDepth 65536 in
set_option maxHeartbeats 40000000 in
theorem own_sinit1_2 (l : Launch) (Z : State) (a0 : Array Value) (hw : ∀ d ∈ tables_1, d.before a0 Z = true) (ws : List Jvm.Cond) (cz : Int32) (a t : Addr) (kt : ClassId) (c0 c1 : Int32) (h0 : Heap) (O0 : Old Z Z.heap.size h0) (SC : Sta Z Z.heap "java/lang/String" "COMPACT_STRINGS" "Z" (.int cz)) (hcz : ¬ (cz = (0 : Int32))) (E0 : Exa Z h0 a "java/lang/String") (FV : Fld Z h0 a "java/lang/String" "value" "[B" .null) (FC : Fld Z h0 a "java/lang/String" "coder" "B" (.int (0 : Int32))) (g0 : Z.heap.size ≤ a) (Atx : Arv Z h0 t kt .char (2 : Int32) [(.int c0), (.int c1)] (.int (0 : Int32))) (ta : t ≠ a) (r0a : ¬ (c0 < (0 : Int32))) (r0b : ¬ ((255 : Int32) < c0)) (r1a : ¬ (c1 < (0 : Int32))) (r1b : ¬ ((255 : Int32) < c1)) :
    ownMet l (⟨"java/lang/String", "<init>", "([C)V"⟩ : MethodName) jdk_42_method_3_code 2 none ws ({ frames := 3, cells := 1, slots := 2, locals := 52 } : Room) Z #[(.ref a), (.ref t)] h0 (fun v h L => ∃ (b : Addr) (kb : ClassId), v = none ∧ Fr Z.heap.size L ∧ Keep h0 h [a] ∧ Z.heap.size ≤ b ∧ h0.size ≤ b ∧ Fld Z h a "java/lang/String" "value" "[B" (.ref b) ∧ Fld Z h a "java/lang/String" "coder" "B" (.int (0 : Int32)) ∧ Arv Z h b kb .byte (2 : Int32) [(.int (c0.toInt8.toInt32)), (.int (c1.toInt8.toInt32))] (.int (0 : Int32))) := by
  refine own_met (plainFor_of_name own_pn_java_lang_String) ?_
  intro p e s m below meth c s₁ hx hby hml hown hnm hret hlk hZ e0 X0
  refine own_cast (show _ = (mkF m 0 #[.val (.ref a), .val (.ref t)] []) by first | (simp [entryFrame, mkF, argsToLocals, Value.category]; done) | rfl) ?_
  refine own_st (s₁.setTop (mkF m 1 #[.val (.ref a), .val (.ref t)] [(.ref a)])) (fun tq kq => XS.aloadN X0.here hx rfl (hb hby own_d2_0) rfl (by rfl) kq) ?_
  refine own_st (s₁.setTop (mkF m 2 #[.val (.ref a), .val (.ref t)] [(.ref t), (.ref a)])) (fun tq kq => XS.aloadN X0.here hx rfl (hb hby own_d2_1) rfl (by rfl) kq) ?_
  refine own_st (s₁.setTop (mkF m 3 #[.val (.ref a), .val (.ref t)] [(.int (0 : Int32)), (.ref t), (.ref a)])) (fun tq kq => XS.iconst X0.here hx rfl (hb hby own_d2_2) kq) ?_
  refine own_st (s₁.setTop (mkF m 4 #[.val (.ref a), .val (.ref t)] [(.ref t), (.int (0 : Int32)), (.ref t), (.ref a)])) (fun tq kq => XS.aloadN X0.here hx rfl (hb hby own_d2_3) rfl (by rfl) kq) ?_
  obtain ⟨cl1, q1a, q1b, q1c, q1d, q1e, q1f⟩ := id Atx
  refine own_st (s₁.setTop (mkF m 5 #[.val (.ref a), .val (.ref t)] [(.int (2 : Int32)), (.int (0 : Int32)), (.ref t), (.ref a)])) (fun tq kq => X0.arraylength hx (by rw [e0]; exact q1a.1) (State.isArrayOf_alike hZ.alike q1a.2.1) (g := (mkF m 4 #[.val (.ref a), .val (.ref t)] [(.ref t), (.int (0 : Int32)), (.ref t), (.ref a)])) rfl rfl (hb hby own_d2_4) tq (by rw [len_of q1c q1d]; exact kq)) ?_
  refine own_st (s₁.setTop (mkF m 6 #[.val (.ref a), .val (.ref t)] [.null, (.int (2 : Int32)), (.int (0 : Int32)), (.ref t), (.ref a)])) (fun tq kq => XS.aconstNull X0.here hx rfl (hb hby own_d2_5) kq) ?_
  obtain ⟨v2, T2, L2, X2, q2, st2⟩ := own_callI X0 hx hZ hown (y := (⟨"java/lang/String", "<init>", "([CIILjava/lang/Void;)V"⟩ : MethodName)) rfl (hw _ (List.mem_of_getElem? (i := 11) rfl)) (hw _ (List.mem_of_getElem? (i := 12) rfl)) (hw _ (List.mem_of_getElem? (i := 6) rfl)) (hw _ (List.mem_of_getElem? (i := 14) rfl)) (a := a) (argsL := [(.ref t), (.int (0 : Int32)), (.int (2 : Int32)), .null]) (own_sinit4_2 l Z a0 hw [] cz a t kt c0 c1 h0 O0 SC hcz E0 FV FC g0 Atx ta r0a r0b r1a r1b) 0 (by decide) (by decide) (by decide) (by decide) (by decide) e0 (g := (mkF m 6 #[.val (.ref a), .val (.ref t)] [.null, (.int (2 : Int32)), (.int (0 : Int32)), (.ref t), (.ref a)])) rfl (by rw [hml]; rfl) [] (lenOf own_pd__28_5bCIILjava_2flang_2fVoid_3b_29V rfl) rfl (by show 2 * 0 + _ ≤ _; exact Nat.le_of_eq rfl) (hb hby own_d2_6)
  obtain ⟨b2, kb2, rfl, N2q, K2q, z2, s2q, fv2, fc2, f2q⟩ := q2
  have N2 := Fr.app (Fr.nil _) N2q
  have nf2_a : a ≠ b2 := Nat.ne_of_lt (Nat.lt_of_lt_of_le E0.lt s2q)
  have nf2_t : t ≠ b2 := Nat.ne_of_lt (Nat.lt_of_lt_of_le Atx.lt s2q)
  have s2 : h0.size ≤ b2 := Nat.le_trans (Keep.refl h0 [a]).1 s2q
  have f3 := (E0.keep K2q)
  have f6 := (Atx.keep K2q (ninS ta nin0))
  have O2 := O0.keep K2q (allS g0 all0)
  have K2 := (Keep.refl h0 [a]).trans K2q (allS (Or.inl (List.mem_of_getElem? (i := 0) rfl)) all0)
  refine own_st (T2.setTop (mkF m 9 #[.val (.ref a), .val (.ref t)] [])) st2 ?_
  exact own_ret X2 hlk (v := none) (fun _ => rfl) rfl (⟨_, _, rfl, N2, K2, z2, s2, fv2, fc2, f2q⟩) (by decide) (by decide) (fun fs hr => X2.returnOut hx hret (hb hby own_d2_9) hr)
theorem own_d3_8 : decode jdk_42_method_149_code 8 = .ok (.aload_n 0, 1) := by decide +kernel
theorem own_d3_9 : decode jdk_42_method_149_code 9 = .ok (.ldc 7, 2) := by decide +kernel
theorem own_d3_11 : decode jdk_42_method_149_code 11 = .ok (.getfield 9, 3) := by decide +kernel
theorem own_d3_14 : decode jdk_42_method_149_code 14 = .ok (.putfield 9, 3) := by decide +kernel
theorem own_d3_17 : decode jdk_42_method_149_code 17 = .ok (.aload_n 0, 1) := by decide +kernel
theorem own_d3_18 : decode jdk_42_method_149_code 18 = .ok (.ldc 7, 2) := by decide +kernel
theorem own_d3_20 : decode jdk_42_method_149_code 20 = .ok (.getfield 15, 3) := by decide +kernel
theorem own_d3_23 : decode jdk_42_method_149_code 23 = .ok (.putfield 15, 3) := by decide +kernel
theorem own_d3_26 : decode jdk_42_method_149_code 26 = .ok (.return_, 1) := by decide +kernel
set_option maxRecDepth 65536 in
set_option maxHeartbeats 40000000 in
theorem own_sinit4_0 (l : Launch) (Z : State) (a0 : Array Value) (hw : ∀ d ∈ tables_1, d.before a0 Z = true) (ws : List Jvm.Cond) (a t : Addr) (h0 : Heap) (O0 : Old Z Z.heap.size h0) (E0 : Exa Z h0 a "java/lang/String") (FV : Fld Z h0 a "java/lang/String" "value" "[B" .null) (FC : Fld Z h0 a "java/lang/String" "coder" "B" (.int (0 : Int32))) (g0 : Z.heap.size ≤ a) :
    ownMetW l (⟨"java/lang/String", "<init>", "([CIILjava/lang/Void;)V"⟩ : MethodName) jdk_42_method_149_code 6 none ws ({ frames := 1, cells := 4, slots := 8, locals := 12 } : Room) Z own_EL [a] #[(.ref a), (.ref t), (.int (0 : Int32)), (.int (0 : Int32)), .null] h0 (fun v vm h L => ∃ (b : Addr) (kb : ClassId), v = none ∧ Fr Z.heap.size L ∧ Keep h0 h [a] ∧ Fld Z h a "java/lang/String" "value" "[B" (.ref b) ∧ Fld Z h a "java/lang/String" "coder" "B" (.int (0 : Int32)) ∧ Arv Z h b kb .byte (0 : Int32) [] (.int (0 : Int32))) := by
  have hEL := own_hEL hw
  refine own_metW (plainFor_of_name own_pn_java_lang_String) ?_
  intro p e s m below meth c s₁ hx hby hml hown hnm hret hlk hZ e0 X0 hS0 R0 hsf
  refine own_cast (show _ = (mkF m 0 #[.val (.ref a), .val (.ref t), .val (.int (0 : Int32)), .val (.int (0 : Int32)), .val .null, .unset] []) by first | (simp [entryFrame, mkF, argsToLocals, Value.category]; done) | rfl) ?_
  refine own_st (s₁.setTop (mkF m 1 #[.val (.ref a), .val (.ref t), .val (.int (0 : Int32)), .val (.int (0 : Int32)), .val .null, .unset] [(.ref a)])) (fun tq kq => XS.aloadN X0.here hx rfl (hb hby own_d3_0) rfl (by rfl) kq) ?_
  obtain ⟨T1, X1, e1, st1⟩ := initO X0 hx hZ hown (hw _ (List.mem_of_getElem? (i := 15) rfl)) (hw _ (List.mem_of_getElem? (i := 16) rfl)) (hw _ (List.mem_of_getElem? (i := 17) rfl)) e0 (g := (mkF m 1 #[.val (.ref a), .val (.ref t), .val (.int (0 : Int32)), .val (.int (0 : Int32)), .val .null, .unset] [(.ref a)])) rfl (by rw [hml]; rfl) rfl (hb hby own_d3_1) (by decide) (W := 0) (by show 2 * 0 + _ ≤ _; exact Nat.le_of_eq rfl) (by decide)
  refine own_st (T1.setTop (mkF m 4 #[.val (.ref a), .val (.ref t), .val (.int (0 : Int32)), .val (.int (0 : Int32)), .val .null, .unset] [])) st1 ?_
  refine own_st (T1.setTop (mkF m 5 #[.val (.ref a), .val (.ref t), .val (.int (0 : Int32)), .val (.int (0 : Int32)), .val .null, .unset] [(.int (0 : Int32))])) (fun tq kq => XS.iloadN X1.here hx rfl (hb hby own_d3_4) rfl kq) ?_
  refine own_st (T1.setTop (mkF m 8 #[.val (.ref a), .val (.ref t), .val (.int (0 : Int32)), .val (.int (0 : Int32)), .val .null, .unset] [])) (fun tq kq => XS.ifNo X1.here hx rfl (hb hby own_d3_5) rfl ((if0 _ _).trans (teq ((by decide) : (0 : Int32) = (0 : Int32))).2) kq) ?_
  refine own_st (T1.setTop (mkF m 9 #[.val (.ref a), .val (.ref t), .val (.int (0 : Int32)), .val (.int (0 : Int32)), .val .null, .unset] [(.ref a)])) (fun tq kq => XS.aloadN X1.here hx rfl (hb hby own_d3_8) rfl (by rfl) kq) ?_
  obtain ⟨a2, T2, h2, k2, b2, c2, X2, e2, E2, hS2, hk2, hZ2, hown2, EA2, FC2, FV2, AV2, -, -, C2, -, nn2, st2⟩ := ldcCH X1 hx hZ hown (hw _ (List.mem_of_getElem? (i := 18) rfl)) (own_wS hw) e1 hS0 (Nat.zero_le _) hEL (by decide) R0.1 (vs := []) (z := (0 : Int32)) ⟨by decide, by decide⟩ (by decide) (by decide) (g := (mkF m 9 #[.val (.ref a), .val (.ref t), .val (.int (0 : Int32)), .val (.int (0 : Int32)), .val .null, .unset] [(.ref a)])) rfl (hb hby own_d3_9) (n := 0) (by decide) (by decide) (by decide) (by decide)
  have sf2_a := C2.safe E0.lt (hsf _ (List.mem_of_getElem? (i := 0) rfl))
  have nl2_a := nn2 a sf2_a
  have R2 := R0.trans C2
  have f3 := (E0.ext E2)
  have f4 := (FV.ext E2)
  have f5 := (FC.ext E2)
  have O2 := O0.ext E2
  have K2 := (Keep.refl h0 [a]).ext E2
  refine own_st (T2.setTop (mkF m 11 #[.val (.ref a), .val (.ref t), .val (.int (0 : Int32)), .val (.int (0 : Int32)), .val .null, .unset] [(.ref a2), (.ref a)])) st2 ?_
  obtain ⟨T6, X6, e6, st6⟩ := getF X2 hx hZ2 hown2 (host := "") (Or.inl (hw _ (List.mem_of_getElem? (i := 24) rfl))) Via.refl e2 FV2 (g := (mkF m 11 #[.val (.ref a), .val (.ref t), .val (.int (0 : Int32)), .val (.int (0 : Int32)), .val .null, .unset] [(.ref a2), (.ref a)])) rfl rfl (hb hby own_d3_11)
  refine own_st (T6.setTop (mkF m 14 #[.val (.ref a), .val (.ref t), .val (.int (0 : Int32)), .val (.int (0 : Int32)), .val .null, .unset] [(.ref b2), (.ref a)])) st6 ?_
  obtain ⟨T7, h7, X7, e7, W7, st7⟩ := putF X6 hx hZ2 hown2 (host := "") (Or.inl (hw _ (List.mem_of_getElem? (i := 24) rfl))) Via.refl e6 f4 f3 (Or.inr ⟨(hw _ (List.mem_of_getElem? (i := 20) rfl)), rfl, hnm⟩) (hw _ (List.mem_of_getElem? (i := 5) rfl)) (ty := (.array .byte)) (by decide) (by rfl) (by rfl) (g := (mkF m 14 #[.val (.ref a), .val (.ref t), .val (.int (0 : Int32)), .val (.int (0 : Int32)), .val .null, .unset] [(.ref b2), (.ref a)])) rfl rfl (hb hby own_d3_14)
  have N7 := Fr.snoc X7 (Fr.nil _) g0
  have O7 := O2.wr W7 g0
  have R7 := R2.trans (CHr.wr W7 sf2_a R2.1)
  have sf7_a := Safe.wr W7 sf2_a R2.1 sf2_a
  have K7 := K2.wr W7 (Or.inl (List.mem_of_getElem? (i := 0) rfl))
  have f8 := (f3.wr W7)
  have f10 := (f5.other W7 (Or.inr (slot_ne (Or.inr (hw _ (List.mem_of_getElem? (i := 21) rfl))) (Or.inr (hw _ (List.mem_of_getElem? (i := 20) rfl))) (by decide) (t := .byte) (t' := (.array .byte)) (by decide) (by decide))))
  have f11 := (EA2.wr W7)
  have f12 := (FC2.other W7 (Or.inl (Ne.symm nl2_a.1)))
  have f13 := (FV2.other W7 (Or.inl (Ne.symm nl2_a.1)))
  have f14 := (AV2.other W7 (Ne.symm nl2_a.2))
  have f15 := (f4.same W7)
  refine own_st (T7.setTop (mkF m 17 #[.val (.ref a), .val (.ref t), .val (.int (0 : Int32)), .val (.int (0 : Int32)), .val .null, .unset] [])) st7 ?_
  refine own_st (T7.setTop (mkF m 18 #[.val (.ref a), .val (.ref t), .val (.int (0 : Int32)), .val (.int (0 : Int32)), .val .null, .unset] [(.ref a)])) (fun tq kq => XS.aloadN X7.here hx rfl (hb hby own_d3_17) rfl (by rfl) kq) ?_
  obtain ⟨a16, T16, h16, k16, b16, c16, X16, e16, E16, hS16, hk16, hZ16, hown16, EA16, FC16, FV16, AV16, -, -, C16, -, nn16, st16⟩ := ldcCH X7 hx hZ2 hown2 (hw _ (List.mem_of_getElem? (i := 18) rfl)) (own_wS hw) e7 hS2 (Nat.le_trans hk2 (Nat.le_of_eq W7.size.symm)) hEL (by decide) R7.1 (vs := []) (z := (0 : Int32)) ⟨by decide, by decide⟩ (by decide) (by decide) (g := (mkF m 18 #[.val (.ref a), .val (.ref t), .val (.int (0 : Int32)), .val (.int (0 : Int32)), .val .null, .unset] [(.ref a)])) rfl (hb hby own_d3_18) (n := 0) (by decide) (by decide) (by decide) (by decide)
  have sf16_a := C16.safe f8.lt sf7_a
  have nl16_a := nn16 a sf16_a
  have R16 := R7.trans C16
  have f17 := (f8.ext E16)
  have f18 := (f15.ext E16)
  have f19 := (f10.ext E16)
  have f20 := (f11.ext E16)
  have f21 := (f12.ext E16)
  have f22 := (f13.ext E16)
  have f23 := (f14.ext E16)
  have O16 := O7.ext E16
  have K16 := K7.ext E16
  refine own_st (T16.setTop (mkF m 20 #[.val (.ref a), .val (.ref t), .val (.int (0 : Int32)), .val (.int (0 : Int32)), .val .null, .unset] [(.ref a16), (.ref a)])) st16 ?_
  obtain ⟨T24, X24, e24, st24⟩ := getF X16 hx hZ16 hown16 (host := "") (Or.inl (hw _ (List.mem_of_getElem? (i := 25) rfl))) Via.refl e16 FC16 (g := (mkF m 20 #[.val (.ref a), .val (.ref t), .val (.int (0 : Int32)), .val (.int (0 : Int32)), .val .null, .unset] [(.ref a16), (.ref a)])) rfl rfl (hb hby own_d3_20)
  refine own_st (T24.setTop (mkF m 23 #[.val (.ref a), .val (.ref t), .val (.int (0 : Int32)), .val (.int (0 : Int32)), .val .null, .unset] [(.int (0 : Int32)), (.ref a)])) st24 ?_
  obtain ⟨T25, h25, X25, e25, W25, st25⟩ := putF X24 hx hZ16 hown16 (host := "") (Or.inl (hw _ (List.mem_of_getElem? (i := 25) rfl))) Via.refl e24 f19 f17 (Or.inr ⟨(hw _ (List.mem_of_getElem? (i := 21) rfl)), rfl, hnm⟩) (hw _ (List.mem_of_getElem? (i := 5) rfl)) (ty := .byte) (by decide) (by rfl) (by rfl) (g := (mkF m 23 #[.val (.ref a), .val (.ref t), .val (.int (0 : Int32)), .val (.int (0 : Int32)), .val .null, .unset] [(.int (0 : Int32)), (.ref a)])) rfl rfl (hb hby own_d3_23)
  have N25 := Fr.snoc X25 N7 g0
  have O25 := O16.wr W25 g0
  have R25 := R16.trans (CHr.wr W25 sf16_a R16.1)
  have sf25_a := Safe.wr W25 sf16_a R16.1 sf16_a
  have K25 := K16.wr W25 (Or.inl (List.mem_of_getElem? (i := 0) rfl))
  have f26 := (f17.wr W25)
  have f27 := (f18.other W25 (Or.inr (slot_ne (Or.inr (hw _ (List.mem_of_getElem? (i := 20) rfl))) (Or.inr (hw _ (List.mem_of_getElem? (i := 21) rfl))) (by decide) (t := (.array .byte)) (t' := .byte) (by decide) (by decide))))
  have f29 := (f20.wr W25)
  have f30 := (f21.other W25 (Or.inl (Ne.symm nl2_a.1)))
  have f31 := (f22.other W25 (Or.inl (Ne.symm nl2_a.1)))
  have f32 := (f23.other W25 (Ne.symm nl2_a.2))
  have f33 := (EA16.wr W25)
  have f34 := (FC16.other W25 (Or.inl (Ne.symm nl16_a.1)))
  have f35 := (FV16.other W25 (Or.inl (Ne.symm nl16_a.1)))
  have f36 := (AV16.other W25 (Ne.symm nl16_a.2))
  have f37 := (f19.same W25)
  refine own_st (T25.setTop (mkF m 26 #[.val (.ref a), .val (.ref t), .val (.int (0 : Int32)), .val (.int (0 : Int32)), .val .null, .unset] [])) st25 ?_
  exact own_retW X25 hlk hS16 (Nat.le_trans hk16 (Nat.le_of_eq W25.size.symm)) hZ16 hEL R25 (v := none) (fun _ => rfl) e25 (fun vm1 C1 => ⟨_, _, rfl, N25, K25, f27, f37, f32⟩) (by decide) (by decide) (fun fs hr => X25.returnOut hx hret (hb hby own_d3_26) hr)
set_option maxRecDepth 65536 in
set_option maxHeartbeats 40000000 in
theorem own_sinit1_0 (l : Launch) (Z : State) (a0 : Array Value) (hw : ∀ d ∈ tables_1, d.before a0 Z = true) (ws : List Jvm.Cond) (a t : Addr) (kt : ClassId) (h0 : Heap) (O0 : Old Z Z.heap.size h0) (E0 : Exa Z h0 a "java/lang/String") (FV : Fld Z h0 a "java/lang/String" "value" "[B" .null) (FC : Fld Z h0 a "java/lang/String" "coder" "B" (.int (0 : Int32))) (g0 : Z.heap.size ≤ a) (Atx : Arv Z h0 t kt .char (0 : Int32) [] (.int (0 : Int32))) (ta : t ≠ a) :
    ownMetW l (⟨"java/lang/String", "<init>", "([C)V"⟩ : MethodName) jdk_42_method_3_code 2 none ws ({ frames := 2, cells := 4, slots := 8, locals := 29 } : Room) Z own_EL [a] #[(.ref a), (.ref t)] h0 (fun v vm h L => ∃ (b : Addr) (kb : ClassId), v = none ∧ Fr Z.heap.size L ∧ Keep h0 h [a] ∧ Fld Z h a "java/lang/String" "value" "[B" (.ref b) ∧ Fld Z h a "java/lang/String" "coder" "B" (.int (0 : Int32)) ∧ Arv Z h b kb .byte (0 : Int32) [] (.int (0 : Int32))) := by
  have hEL := own_hEL hw
  refine own_metW (plainFor_of_name own_pn_java_lang_String) ?_
  intro p e s m below meth c s₁ hx hby hml hown hnm hret hlk hZ e0 X0 hS0 R0 hsf
  refine own_cast (show _ = (mkF m 0 #[.val (.ref a), .val (.ref t)] []) by first | (simp [entryFrame, mkF, argsToLocals, Value.category]; done) | rfl) ?_
  refine own_st (s₁.setTop (mkF m 1 #[.val (.ref a), .val (.ref t)] [(.ref a)])) (fun tq kq => XS.aloadN X0.here hx rfl (hb hby own_d2_0) rfl (by rfl) kq) ?_
  refine own_st (s₁.setTop (mkF m 2 #[.val (.ref a), .val (.ref t)] [(.ref t), (.ref a)])) (fun tq kq => XS.aloadN X0.here hx rfl (hb hby own_d2_1) rfl (by rfl) kq) ?_
  refine own_st (s₁.setTop (mkF m 3 #[.val (.ref a), .val (.ref t)] [(.int (0 : Int32)), (.ref t), (.ref a)])) (fun tq kq => XS.iconst X0.here hx rfl (hb hby own_d2_2) kq) ?_
  refine own_st (s₁.setTop (mkF m 4 #[.val (.ref a), .val (.ref t)] [(.ref t), (.int (0 : Int32)), (.ref t), (.ref a)])) (fun tq kq => XS.aloadN X0.here hx rfl (hb hby own_d2_3) rfl (by rfl) kq) ?_
  obtain ⟨cl1, q1a, q1b, q1c, q1d, q1e, q1f⟩ := id Atx
  refine own_st (s₁.setTop (mkF m 5 #[.val (.ref a), .val (.ref t)] [(.int (0 : Int32)), (.int (0 : Int32)), (.ref t), (.ref a)])) (fun tq kq => X0.arraylength hx (by rw [e0]; exact q1a.1) (State.isArrayOf_alike hZ.alike q1a.2.1) (g := (mkF m 4 #[.val (.ref a), .val (.ref t)] [(.ref t), (.int (0 : Int32)), (.ref t), (.ref a)])) rfl rfl (hb hby own_d2_4) tq (by rw [len_of q1c q1d]; exact kq)) ?_
  refine own_st (s₁.setTop (mkF m 6 #[.val (.ref a), .val (.ref t)] [.null, (.int (0 : Int32)), (.int (0 : Int32)), (.ref t), (.ref a)])) (fun tq kq => XS.aconstNull X0.here hx rfl (hb hby own_d2_5) kq) ?_
  obtain ⟨v2, T2, L2, X2, hS2, hZ2, hown2, C2, R2, q2, st2⟩ := own_callIW X0 hx hZ hown (y := (⟨"java/lang/String", "<init>", "([CIILjava/lang/Void;)V"⟩ : MethodName)) rfl (hw _ (List.mem_of_getElem? (i := 11) rfl)) (hw _ (List.mem_of_getElem? (i := 12) rfl)) (hw _ (List.mem_of_getElem? (i := 6) rfl)) (hw _ (List.mem_of_getElem? (i := 14) rfl)) (a := a) (argsL := [(.ref t), (.int (0 : Int32)), (.int (0 : Int32)), .null]) (own_sinit4_0 l Z a0 hw [] a t h0 O0 E0 FV FC g0) 0 (by decide) (by decide) (by decide) (by decide) (by decide) hS0 (Nat.zero_le _) hEL R0 (allS ⟨E0.lt, (hsf _ (List.mem_of_getElem? (i := 0) rfl))⟩ all0) e0 (g := (mkF m 6 #[.val (.ref a), .val (.ref t)] [.null, (.int (0 : Int32)), (.int (0 : Int32)), (.ref t), (.ref a)])) rfl (by rw [hml]; rfl) [] (lenOf own_pd__28_5bCIILjava_2flang_2fVoid_3b_29V rfl) rfl (by show 2 * 0 + _ ≤ _; exact Nat.le_of_eq rfl) (hb hby own_d2_6)
  have sf2_a := C2.safe E0.lt (hsf _ (List.mem_of_getElem? (i := 0) rfl))
  obtain ⟨b2, kb2, rfl, N2q, K2q, fv2, fc2, f2q⟩ := q2
  have N2 := Fr.app (Fr.nil _) N2q
  have f3 := (E0.keep K2q)
  have f6 := (Atx.keep K2q (ninS ta nin0))
  have O2 := O0.keep K2q (allS g0 all0)
  have K2 := (Keep.refl h0 [a]).trans K2q (allS (Or.inl (List.mem_of_getElem? (i := 0) rfl)) all0)
  refine own_st (T2.setTop (mkF m 9 #[.val (.ref a), .val (.ref t)] [])) st2 ?_
  exact own_retW X2 hlk hS2 (Nat.le_refl _) hZ2 hEL R2 (v := none) (fun _ => rfl) rfl (fun vm1 C1 => ⟨_, _, rfl, N2, K2, fv2, fc2, f2q⟩) (by decide) (by decide) (fun fs hr => X2.returnOut hx hret (hb hby own_d2_9) hr)
theorem own_d16_0 : decode jdk_43_method_3_code 0 = .ok (.iload_n 0, 1) := by decide +kernel
theorem own_d16_1 : decode jdk_43_method_3_code 1 = .ok (.sipush 255, 3) := by decide +kernel
theorem own_d16_4 : decode jdk_43_method_3_code 4 = .ok (.if_icmp .gt 7, 3) := by decide +kernel
theorem own_d16_7 : decode jdk_43_method_3_code 7 = .ok (.iconst 1, 1) := by decide +kernel
theorem own_d16_8 : decode jdk_43_method_3_code 8 = .ok (.goto 4, 3) := by decide +kernel
theorem own_d16_12 : decode jdk_43_method_3_code 12 = .ok (.ireturn, 1) := by decide +kernel
theorem own_pn_java_lang_StringLatin1 : plainName "java/lang/StringLatin1" = true := by first | (simp [plainName, overriddenIn]; done) | decide +kernel
set_option maxRecDepth 65536 in
set_option maxHeartbeats 40000000 in
theorem own_canEnc (l : Launch) (Z : State) (a0 : Array Value) (hw : ∀ d ∈ tables_1, d.before a0 Z = true) (ws : List Jvm.Cond) (c0 : Int32) (h0 : Heap) (O0 : Old Z Z.heap.size h0) (r0a : ¬ (c0 < (0 : Int32))) (r0b : ¬ ((255 : Int32) < c0)) :
    ownMet l (⟨"java/lang/StringLatin1", "canEncode", "(C)Z"⟩ : MethodName) jdk_43_method_3_code 1 (some .boolean) ws ({ frames := 0, cells := 0, slots := 0, locals := 0 } : Room) Z #[(.int c0)] h0 (fun v h L => v = some (.int (1 : Int32)) ∧ Fr Z.heap.size L ∧ h = h0) := by
  refine own_met (plainFor_of_name own_pn_java_lang_StringLatin1) ?_
  intro p e s m below meth c s₁ hx hby hml hown hnm hret hlk hZ e0 X0
  refine own_cast (show _ = (mkF m 0 #[.val (.int c0)] []) by first | (simp [entryFrame, mkF, argsToLocals, Value.category]; done) | rfl) ?_
  refine own_st (s₁.setTop (mkF m 1 #[.val (.int c0)] [(.int c0)])) (fun tq kq => XS.iloadN X0.here hx rfl (hb hby own_d16_0) rfl kq) ?_
  refine own_st (s₁.setTop (mkF m 4 #[.val (.int c0)] [(.int (255 : Int32)), (.int c0)])) (fun tq kq => XS.sipush X0.here hx rfl (hb hby own_d16_1) kq) ?_
  refine own_st (s₁.setTop (mkF m 7 #[.val (.int c0)] [])) (fun tq kq => XS.icmpNo X0.here hx rfl (hb hby own_d16_4) rfl (flt (r0b : ¬ ((255 : Int32) < c0))).2.2.1 kq) ?_
  refine own_st (s₁.setTop (mkF m 8 #[.val (.int c0)] [(.int (1 : Int32))])) (fun tq kq => XS.iconst X0.here hx rfl (hb hby own_d16_7) kq) ?_
  refine own_st (s₁.setTop (mkF m 12 #[.val (.int c0)] [(.int (1 : Int32))])) (fun tq kq => XS.goto X0.here hx rfl (pc0 := 8) (pc' := 12) rfl (hb hby own_d16_8) (by decide) (by decide) kq) ?_
  exact own_ret X0 hlk (v := some (.int (1 : Int32))) (fun h => by rw [hret] at h; cases h) e0 (⟨rfl, (Fr.nil _), rfl⟩) (by decide) (by decide) (fun fs hr => own_retN X0 hx (t := .boolean) hret (by simp) (hb hby own_d16_12) rfl hr)
theorem own_d17_0 : decode jdk_43_method_46_code 0 = .ok (.iconst 1, 1) := by decide +kernel
theorem own_d17_1 : decode jdk_43_method_46_code 1 = .ok (.newarray .byte, 2) := by decide +kernel
theorem own_d17_3 : decode jdk_43_method_46_code 3 = .ok (.dup, 1) := by decide +kernel
theorem own_d17_4 : decode jdk_43_method_46_code 4 = .ok (.iconst 0, 1) := by decide +kernel
theorem own_d17_5 : decode jdk_43_method_46_code 5 = .ok (.iload_n 0, 1) := by decide +kernel
theorem own_d17_6 : decode jdk_43_method_46_code 6 = .ok (.i2b, 1) := by decide +kernel
theorem own_d17_7 : decode jdk_43_method_46_code 7 = .ok (.bastore, 1) := by decide +kernel
theorem own_d17_8 : decode jdk_43_method_46_code 8 = .ok (.areturn, 1) := by decide +kernel
set_option maxRecDepth 65536 in
set_option maxHeartbeats 40000000 in
theorem own_toB (l : Launch) (Z : State) (a0 : Array Value) (hw : ∀ d ∈ tables_1, d.before a0 Z = true) (ws : List Jvm.Cond) (c0 : Int32) (h0 : Heap) (O0 : Old Z Z.heap.size h0) :
    ownMet l (⟨"java/lang/StringLatin1", "toBytes", "(C)[B"⟩ : MethodName) jdk_43_method_46_code 1 (some (.array .byte)) ws ({ frames := 0, cells := 1, slots := 1, locals := 0 } : Room) Z #[(.int c0)] h0 (fun v h L => ∃ (b : Addr) (kb : ClassId), v = some (.ref b) ∧ Fr Z.heap.size L ∧ Keep h0 h [] ∧ Z.heap.size ≤ b ∧ h0.size ≤ b ∧ Arv Z h b kb .byte (1 : Int32) [(.int (c0.toInt8.toInt32))] (.int (0 : Int32))) := by
  refine own_met (plainFor_of_name own_pn_java_lang_StringLatin1) ?_
  intro p e s m below meth c s₁ hx hby hml hown hnm hret hlk hZ e0 X0
  refine own_cast (show _ = (mkF m 0 #[.val (.int c0)] []) by first | (simp [entryFrame, mkF, argsToLocals, Value.category]; done) | rfl) ?_
  refine own_st (s₁.setTop (mkF m 1 #[.val (.int c0)] [(.int (1 : Int32))])) (fun tq kq => XS.iconst X0.here hx rfl (hb hby own_d17_0) kq) ?_
  obtain ⟨T1, h1, cA1, X1, e1, E1, A1, st1⟩ := newP X0 hx hZ (hw _ (List.mem_of_getElem? (i := 19) rfl)) e0 (g := (mkF m 1 #[.val (.int c0)] [(.int (1 : Int32))])) rfl (hb hby own_d17_1) rfl (by decide) (cap := 1) (by decide) (by decide) (by decide) (by decide)
  obtain ⟨b1, g1⟩ : ∃ z, z = h0.size := ⟨_, rfl⟩
  have z1 : Z.heap.size ≤ b1 := Nat.le_trans O0.2.1 (Nat.le_of_eq g1.symm)
  have s1 : h0.size ≤ b1 := Nat.le_trans (Keep.refl h0 []).1 (Nat.le_of_eq g1.symm)
  rw [← g1] at A1 st1
  have O1 := O0.ext E1
  have K1 := (Keep.refl h0 []).ext E1
  have f2 : Arv Z h1 b1 cA1 .byte (1 : Int32) [(.int (0 : Int32))] (.int (0 : Int32)) := (Arv.new A1 (by decide)).pad (pad_rep [] (.int (0 : Int32)) 1)
  refine own_st (T1.setTop (mkF m 3 #[.val (.int c0)] [(.ref b1)])) st1 ?_
  refine own_st (T1.setTop (mkF m 4 #[.val (.int c0)] [(.ref b1), (.ref b1)])) (fun tq kq => XS.dup X1.here hx rfl (hb hby own_d17_3) rfl (by rfl) kq) ?_
  refine own_st (T1.setTop (mkF m 5 #[.val (.int c0)] [(.int (0 : Int32)), (.ref b1), (.ref b1)])) (fun tq kq => XS.iconst X1.here hx rfl (hb hby own_d17_4) kq) ?_
  refine own_st (T1.setTop (mkF m 6 #[.val (.int c0)] [(.int c0), (.int (0 : Int32)), (.ref b1), (.ref b1)])) (fun tq kq => XS.iloadN X1.here hx rfl (hb hby own_d17_5) rfl kq) ?_
  refine own_st (T1.setTop (mkF m 7 #[.val (.int c0)] [(.int (c0.toInt8.toInt32)), (.int (0 : Int32)), (.ref b1), (.ref b1)])) (fun tq kq => XS.i2b X1.here hx rfl (hb hby own_d17_6) rfl kq) ?_
  obtain ⟨cl3, q3a, q3b, q3c, q3d, q3e, q3f⟩ := id f2
  obtain ⟨T3, h3, X3, e3, W3, st3⟩ := stB X1 hx hZ e1 q3a (j := (0 : Int32)) (inb_of q3c ⟨by decide, by decide⟩) (g := (mkF m 7 #[.val (.int c0)] [(.int (c0.toInt8.toInt32)), (.int (0 : Int32)), (.ref b1), (.ref b1)])) rfl rfl (hb hby own_d17_7)
  have N3 := Fr.snoc X3 (Fr.nil _) z1
  have O3 := O1.wr W3 z1
  have K3 := K1.wr W3 (Or.inr s1)
  have f5 : Arv Z h3 b1 cA1 .byte (1 : Int32) [(.int (c0.toInt8.toInt32))] (.int (0 : Int32)) := (show nar .byte (c0.toInt8.toInt32) = (c0.toInt8.toInt32) from (own_narB _)) ▸ Arv.set q3a q3b q3c q3d q3e q3f (fits_nar_byte _) W3 0 (by decide) (show 0 < 1 by decide)
  refine own_st (T3.setTop (mkF m 8 #[.val (.int c0)] [(.ref b1)])) st3 ?_
  exact own_ret X3 hlk (v := some (.ref b1)) (fun h => by rw [hret] at h; cases h) e3 (⟨_, _, rfl, N3, K3, z1, s1, f5⟩) (by decide) (by decide) (fun fs hr => retOut X3 hx hret rfl (Or.inr (Or.inr (Or.inr (Or.inr ⟨rfl, rfl, rfl⟩)))) (hb hby own_d17_8) hr)
theorem own_d18_0 : decode jdk_42_method_151_code 0 = .ok (.aload_n 0, 1) := by decide +kernel
theorem own_d18_1 : decode jdk_42_method_151_code 1 = .ok (.invokespecial 1, 3) := by decide +kernel
theorem own_d18_4 : decode jdk_42_method_151_code 4 = .ok (.aload_n 0, 1) := by decide +kernel
theorem own_d18_5 : decode jdk_42_method_151_code 5 = .ok (.aload_n 1, 1) := by decide +kernel
theorem own_d18_6 : decode jdk_42_method_151_code 6 = .ok (.putfield 9, 3) := by decide +kernel
theorem own_d18_9 : decode jdk_42_method_151_code 9 = .ok (.aload_n 0, 1) := by decide +kernel
theorem own_d18_10 : decode jdk_42_method_151_code 10 = .ok (.iload_n 2, 1) := by decide +kernel
theorem own_d18_11 : decode jdk_42_method_151_code 11 = .ok (.putfield 15, 3) := by decide +kernel
theorem own_d18_14 : decode jdk_42_method_151_code 14 = .ok (.return_, 1) := by decide +kernel
set_option maxRecDepth 65536 in
set_option maxHeartbeats 40000000 in
theorem own_sinitB (l : Launch) (Z : State) (a0 : Array Value) (hw : ∀ d ∈ tables_1, d.before a0 Z = true) (ws : List Jvm.Cond) (a b : Addr) (h0 : Heap) (O0 : Old Z Z.heap.size h0) (E0 : Exa Z h0 a "java/lang/String") (FV : Fld Z h0 a "java/lang/String" "value" "[B" .null) (FC : Fld Z h0 a "java/lang/String" "coder" "B" (.int (0 : Int32))) (g0 : Z.heap.size ≤ a) :
    ownMet l (⟨"java/lang/String", "<init>", "([BB)V"⟩ : MethodName) jdk_42_method_151_code 3 none ws ({ frames := 1, cells := 0, slots := 0, locals := 12 } : Room) Z #[(.ref a), (.ref b), (.int (0 : Int32))] h0 (fun v h L => v = none ∧ Fr Z.heap.size L ∧ Keep h0 h [a] ∧ Fld Z h a "java/lang/String" "value" "[B" (.ref b) ∧ Fld Z h a "java/lang/String" "coder" "B" (.int (0 : Int32))) := by
  refine own_met (plainFor_of_name own_pn_java_lang_String) ?_
  intro p e s m below meth c s₁ hx hby hml hown hnm hret hlk hZ e0 X0
  refine own_cast (show _ = (mkF m 0 #[.val (.ref a), .val (.ref b), .val (.int (0 : Int32))] []) by first | (simp [entryFrame, mkF, argsToLocals, Value.category]; done) | rfl) ?_
  refine own_st (s₁.setTop (mkF m 1 #[.val (.ref a), .val (.ref b), .val (.int (0 : Int32))] [(.ref a)])) (fun tq kq => XS.aloadN X0.here hx rfl (hb hby own_d18_0) rfl (by rfl) kq) ?_
  obtain ⟨T1, X1, e1, st1⟩ := initO X0 hx hZ hown (hw _ (List.mem_of_getElem? (i := 15) rfl)) (hw _ (List.mem_of_getElem? (i := 16) rfl)) (hw _ (List.mem_of_getElem? (i := 17) rfl)) e0 (g := (mkF m 1 #[.val (.ref a), .val (.ref b), .val (.int (0 : Int32))] [(.ref a)])) rfl (by rw [hml]; rfl) rfl (hb hby own_d18_1) (by decide) (W := 0) (by show 2 * 0 + _ ≤ _; exact Nat.le_of_eq rfl) (by decide)
  refine own_st (T1.setTop (mkF m 4 #[.val (.ref a), .val (.ref b), .val (.int (0 : Int32))] [])) st1 ?_
  refine own_st (T1.setTop (mkF m 5 #[.val (.ref a), .val (.ref b), .val (.int (0 : Int32))] [(.ref a)])) (fun tq kq => XS.aloadN X1.here hx rfl (hb hby own_d18_4) rfl (by rfl) kq) ?_
  refine own_st (T1.setTop (mkF m 6 #[.val (.ref a), .val (.ref b), .val (.int (0 : Int32))] [(.ref b), (.ref a)])) (fun tq kq => XS.aloadN X1.here hx rfl (hb hby own_d18_5) rfl (by rfl) kq) ?_
  obtain ⟨T2, h2, X2, e2, W2, st2⟩ := putF X1 hx hZ hown (host := "") (Or.inl (hw _ (List.mem_of_getElem? (i := 24) rfl))) Via.refl e1 FV E0 (Or.inr ⟨(hw _ (List.mem_of_getElem? (i := 20) rfl)), rfl, hnm⟩) (hw _ (List.mem_of_getElem? (i := 5) rfl)) (ty := (.array .byte)) (by decide) (by rfl) (by rfl) (g := (mkF m 6 #[.val (.ref a), .val (.ref b), .val (.int (0 : Int32))] [(.ref b), (.ref a)])) rfl rfl (hb hby own_d18_6)
  have N2 := Fr.snoc X2 (Fr.nil _) g0
  have O2 := O0.wr W2 g0
  have K2 := (Keep.refl h0 [a]).wr W2 (Or.inl (List.mem_of_getElem? (i := 0) rfl))
  have f3 := (E0.wr W2)
  have f5 := (FC.other W2 (Or.inr (slot_ne (Or.inr (hw _ (List.mem_of_getElem? (i := 21) rfl))) (Or.inr (hw _ (List.mem_of_getElem? (i := 20) rfl))) (by decide) (t := .byte) (t' := (.array .byte)) (by decide) (by decide))))
  have f6 := (FV.same W2)
  refine own_st (T2.setTop (mkF m 9 #[.val (.ref a), .val (.ref b), .val (.int (0 : Int32))] [])) st2 ?_
  refine own_st (T2.setTop (mkF m 10 #[.val (.ref a), .val (.ref b), .val (.int (0 : Int32))] [(.ref a)])) (fun tq kq => XS.aloadN X2.here hx rfl (hb hby own_d18_9) rfl (by rfl) kq) ?_
  refine own_st (T2.setTop (mkF m 11 #[.val (.ref a), .val (.ref b), .val (.int (0 : Int32))] [(.int (0 : Int32)), (.ref a)])) (fun tq kq => XS.iloadN X2.here hx rfl (hb hby own_d18_10) rfl kq) ?_
  obtain ⟨T7, h7, X7, e7, W7, st7⟩ := putF X2 hx hZ hown (host := "") (Or.inl (hw _ (List.mem_of_getElem? (i := 25) rfl))) Via.refl e2 f5 f3 (Or.inr ⟨(hw _ (List.mem_of_getElem? (i := 21) rfl)), rfl, hnm⟩) (hw _ (List.mem_of_getElem? (i := 5) rfl)) (ty := .byte) (by decide) (by rfl) (by rfl) (g := (mkF m 11 #[.val (.ref a), .val (.ref b), .val (.int (0 : Int32))] [(.int (0 : Int32)), (.ref a)])) rfl rfl (hb hby own_d18_11)
  have N7 := Fr.snoc X7 N2 g0
  have O7 := O2.wr W7 g0
  have K7 := K2.wr W7 (Or.inl (List.mem_of_getElem? (i := 0) rfl))
  have f8 := (f3.wr W7)
  have f9 := (f6.other W7 (Or.inr (slot_ne (Or.inr (hw _ (List.mem_of_getElem? (i := 20) rfl))) (Or.inr (hw _ (List.mem_of_getElem? (i := 21) rfl))) (by decide) (t := (.array .byte)) (t' := .byte) (by decide) (by decide))))
  have f11 := (f5.same W7)
  refine own_st (T7.setTop (mkF m 14 #[.val (.ref a), .val (.ref b), .val (.int (0 : Int32))] [])) st7 ?_
  exact own_ret X7 hlk (v := none) (fun _ => rfl) e7 (⟨rfl, N7, K7, f9, f11⟩) (by decide) (by decide) (fun fs hr => X7.returnOut hx hret (hb hby own_d18_14) hr)
theorem own_d15_0 : decode jdk_42_method_139_code 0 = .ok (.getstatic 38, 3) := by decide +kernel
theorem own_d15_3 : decode jdk_42_method_139_code 3 = .ok (.ifCond .eq 23, 3) := by decide +kernel
theorem own_d15_6 : decode jdk_42_method_139_code 6 = .ok (.iload_n 0, 1) := by decide +kernel
theorem own_pd__28C_29Z : parseMethodDescriptor "(C)Z" = some ⟨[.char], some .boolean⟩ := by decide +kernel
theorem own_d15_7 : decode jdk_42_method_139_code 7 = .ok (.invokestatic 1015, 3) := by decide +kernel
theorem own_d15_10 : decode jdk_42_method_139_code 10 = .ok (.ifCond .eq 16, 3) := by decide +kernel
theorem own_d15_13 : decode jdk_42_method_139_code 13 = .ok (.new 10, 3) := by decide +kernel
theorem own_d15_16 : decode jdk_42_method_139_code 16 = .ok (.dup, 1) := by decide +kernel
theorem own_d15_17 : decode jdk_42_method_139_code 17 = .ok (.iload_n 0, 1) := by decide +kernel
theorem own_pd__28C_29_5bB : parseMethodDescriptor "(C)[B" = some ⟨[.char], some (.array .byte)⟩ := by decide +kernel
theorem own_d15_18 : decode jdk_42_method_139_code 18 = .ok (.invokestatic 1018, 3) := by decide +kernel
theorem own_d15_21 : decode jdk_42_method_139_code 21 = .ok (.iconst 0, 1) := by decide +kernel
theorem own_pd__28_5bBB_29V : parseMethodDescriptor "([BB)V" = some ⟨[(.array .byte), .byte], none⟩ := by decide +kernel
theorem own_d15_22 : decode jdk_42_method_139_code 22 = .ok (.invokespecial 209, 3) := by decide +kernel
theorem own_d15_25 : decode jdk_42_method_139_code 25 = .ok (.areturn, 1) := by decide +kernel
set_option maxRecDepth 65536 in
set_option maxHeartbeats 40000000 in
theorem own_valC (l : Launch) (Z : State) (a0 : Array Value) (hw : ∀ d ∈ tables_1, d.before a0 Z = true) (ws : List Jvm.Cond) (cz : Int32) (c0 : Int32) (h0 : Heap) (O0 : Old Z Z.heap.size h0) (SC : Sta Z Z.heap "java/lang/String" "COMPACT_STRINGS" "Z" (.int cz)) (hcz : ¬ (cz = (0 : Int32))) (r0a : ¬ (c0 < (0 : Int32))) (r0b : ¬ ((255 : Int32) < c0)) :
    ownMet l (⟨"java/lang/String", "valueOf", "(C)Ljava/lang/String;"⟩ : MethodName) jdk_42_method_139_code 1 (some (.object "java/lang/String")) ws ({ frames := 2, cells := 2, slots := 5, locals := 27 } : Room) Z #[(.int c0)] h0 (fun v h L => ∃ (a b : Addr) (kb : ClassId), v = some (.ref a) ∧ Fr Z.heap.size L ∧ Keep h0 h [] ∧ Z.heap.size ≤ a ∧ h0.size ≤ a ∧ Z.heap.size ≤ b ∧ h0.size ≤ b ∧ Exa Z h a "java/lang/String" ∧ Fld Z h a "java/lang/String" "value" "[B" (.ref b) ∧ Fld Z h a "java/lang/String" "coder" "B" (.int (0 : Int32)) ∧ Arv Z h b kb .byte (1 : Int32) [(.int (c0.toInt8.toInt32))] (.int (0 : Int32))) := by
  refine own_met (plainFor_of_name own_pn_java_lang_String) ?_
  intro p e s m below meth c s₁ hx hby hml hown hnm hret hlk hZ e0 X0
  refine own_cast (show _ = (mkF m 0 #[.val (.int c0)] []) by first | (simp [entryFrame, mkF, argsToLocals, Value.category]; done) | rfl) ?_
  obtain ⟨T1, X1, e1, st1⟩ := getS2 X0 hx hZ hown (host := "") (Or.inl (hw _ (List.mem_of_getElem? (i := 77) rfl))) Via.refl e0 (SC.ext O0.2) (g := (mkF m 0 #[.val (.int c0)] [])) rfl (hb hby own_d15_0)
  refine own_st (T1.setTop (mkF m 3 #[.val (.int c0)] [(.int cz)])) st1 ?_
  refine own_st (T1.setTop (mkF m 6 #[.val (.int c0)] [])) (fun tq kq => XS.ifNo X1.here hx rfl (hb hby own_d15_3) rfl ((if0 _ _).trans (feq (hcz : ¬ (cz = (0 : Int32)))).1) kq) ?_
  refine own_st (T1.setTop (mkF m 7 #[.val (.int c0)] [(.int c0)])) (fun tq kq => XS.iloadN X1.here hx rfl (hb hby own_d15_6) rfl kq) ?_
  obtain ⟨v2, T2, L2, X2, q2, st2⟩ := own_callS X1 hx hZ hown (hw _ (List.mem_of_getElem? (i := 91) rfl)) (hw _ (List.mem_of_getElem? (i := 92) rfl)) (hw _ (List.mem_of_getElem? (i := 93) rfl)) (hw _ (List.mem_of_getElem? (i := 94) rfl)) (argsL := [(.int c0)]) (own_canEnc l Z a0 hw [] c0 h0 O0 r0a r0b) 0 (by decide) (by decide) (by decide) (by decide) (by decide) e1 (g := (mkF m 7 #[.val (.int c0)] [(.int c0)])) rfl (by rw [hml]; rfl) [] (lenOf own_pd__28C_29Z rfl) rfl (by show 2 * 0 + _ ≤ _; exact Nat.le_of_eq rfl) (hb hby own_d15_7)
  obtain ⟨rfl, N2q, e2⟩ := q2
  have N2 := Fr.app (Fr.nil _) N2q
  refine own_st (T2.setTop (mkF m 10 #[.val (.int c0)] [(.int (1 : Int32))])) st2 ?_
  refine own_st (T2.setTop (mkF m 13 #[.val (.int c0)] [])) (fun tq kq => XS.ifNo X2.here hx rfl (hb hby own_d15_10) rfl ((if0 _ _).trans (feq ((by decide) : ¬ ((1 : Int32) = (0 : Int32)))).1) kq) ?_
  obtain ⟨T3, h3, X3, e3, E3, A3, D3, -, st3⟩ := newO X2 hx hZ hown (hw _ (List.mem_of_getElem? (i := 95) rfl)) (hw _ (List.mem_of_getElem? (i := 5) rfl)) (hw _ (List.mem_of_getElem? (i := 6) rfl)) e2 (g := (mkF m 13 #[.val (.int c0)] [])) rfl (hb hby own_d15_13) (by decide) (by decide)
  obtain ⟨b3, g3⟩ : ∃ z, z = h0.size := ⟨_, rfl⟩
  have z3 : Z.heap.size ≤ b3 := Nat.le_trans O0.2.1 (Nat.le_of_eq g3.symm)
  have s3 : h0.size ≤ b3 := Nat.le_trans (Keep.refl h0 []).1 (Nat.le_of_eq g3.symm)
  rw [← g3] at A3 D3 st3
  have O3 := O0.ext E3
  have K3 := (Keep.refl h0 []).ext E3
  have f4 : Fld Z h3 b3 "java/lang/String" "value" "[B" .null := D3 (Or.inr (hw _ (List.mem_of_getElem? (i := 20) rfl))) (ty := (.array .byte)) (by decide)
  have f5 : Fld Z h3 b3 "java/lang/String" "coder" "B" (.int (0 : Int32)) := D3 (Or.inr (hw _ (List.mem_of_getElem? (i := 21) rfl))) (ty := .byte) (by decide)
  refine own_st (T3.setTop (mkF m 16 #[.val (.int c0)] [(.ref b3)])) st3 ?_
  refine own_st (T3.setTop (mkF m 17 #[.val (.int c0)] [(.ref b3), (.ref b3)])) (fun tq kq => XS.dup X3.here hx rfl (hb hby own_d15_16) rfl (by rfl) kq) ?_
  refine own_st (T3.setTop (mkF m 18 #[.val (.int c0)] [(.int c0), (.ref b3), (.ref b3)])) (fun tq kq => XS.iloadN X3.here hx rfl (hb hby own_d15_17) rfl kq) ?_
  obtain ⟨v6, T6, L6, X6, q6, st6⟩ := own_callS X3 hx hZ hown (hw _ (List.mem_of_getElem? (i := 96) rfl)) (hw _ (List.mem_of_getElem? (i := 97) rfl)) (hw _ (List.mem_of_getElem? (i := 93) rfl)) (hw _ (List.mem_of_getElem? (i := 98) rfl)) (argsL := [(.int c0)]) (own_toB l Z a0 hw [] c0 h3 O3) 2 (by decide) (by decide) (by decide) (by decide) (by decide) e3 (g := (mkF m 18 #[.val (.int c0)] [(.int c0), (.ref b3), (.ref b3)])) rfl (by rw [hml]; rfl) [(.ref b3), (.ref b3)] (lenOf own_pd__28C_29_5bB rfl) rfl (by show 2 * 0 + _ ≤ _; exact Nat.le_of_eq rfl) (hb hby own_d15_18)
  obtain ⟨b6, kb6, rfl, N6q, K6q, z6, s6q, f6q⟩ := q6
  have N6 := Fr.app N2 N6q
  have nf6_b3 : b3 ≠ b6 := Nat.ne_of_lt (Nat.lt_of_lt_of_le A3.lt s6q)
  have s6 : h0.size ≤ b6 := Nat.le_trans K3.1 s6q
  have f7 := (A3.keep K6q)
  have f8 := (f4.keep K6q nin0)
  have f9 := (f5.keep K6q nin0)
  have O6 := O3.keep K6q all0
  have K6 := K3.trans K6q all0
  refine own_st (T6.setTop (mkF m 21 #[.val (.int c0)] [(.ref b6), (.ref b3), (.ref b3)])) st6 ?_
  refine own_st (T6.setTop (mkF m 22 #[.val (.int c0)] [(.int (0 : Int32)), (.ref b6), (.ref b3), (.ref b3)])) (fun tq kq => XS.iconst X6.here hx rfl (hb hby own_d15_21) kq) ?_
  obtain ⟨v10, T10, L10, X10, q10, st10⟩ := own_callI X6 hx hZ hown (y := (⟨"java/lang/String", "<init>", "([BB)V"⟩ : MethodName)) rfl (hw _ (List.mem_of_getElem? (i := 99) rfl)) (hw _ (List.mem_of_getElem? (i := 100) rfl)) (hw _ (List.mem_of_getElem? (i := 6) rfl)) (hw _ (List.mem_of_getElem? (i := 101) rfl)) (a := b3) (argsL := [(.ref b6), (.int (0 : Int32))]) (own_sinitB l Z a0 hw [] b3 b6 T6.heap O6 f7 f8 f9 z3) 1 (by decide) (by decide) (by decide) (by decide) (by decide) rfl (g := (mkF m 22 #[.val (.int c0)] [(.int (0 : Int32)), (.ref b6), (.ref b3), (.ref b3)])) rfl (by rw [hml]; rfl) [(.ref b3)] (lenOf own_pd__28_5bBB_29V rfl) rfl (by show 2 * 0 + _ ≤ _; exact Nat.le_of_eq rfl) (hb hby own_d15_22)
  obtain ⟨rfl, N10q, K10q, fv10, fc10⟩ := q10
  have N10 := Fr.app N6 N10q
  have f11 := (f7.keep K10q)
  have f14 := (f6q.keep K10q (ninS (Ne.symm nf6_b3) nin0))
  have O10 := O6.keep K10q (allS z3 all0)
  have K10 := K6.trans K10q (allS (Or.inr s3) all0)
  refine own_st (T10.setTop (mkF m 25 #[.val (.int c0)] [(.ref b3)])) st10 ?_
  exact own_ret X10 hlk (v := some (.ref b3)) (fun h => by rw [hret] at h; cases h) rfl (⟨_, _, _, rfl, N10, K10, z3, s3, z6, s6, f11, fv10, fc10, f14⟩) (by decide) (by decide) (fun fs hr => retOut X10 hx hret rfl (Or.inr (Or.inr (Or.inr (Or.inr ⟨rfl, rfl, rfl⟩)))) (hb hby own_d15_25) hr)
theorem own_d9_0 : decode jdk_42_method_66_code 0 = .ok (.aload_n 0, 1) := by decide +kernel
theorem own_d9_1 : decode jdk_42_method_66_code 1 = .ok (.aload_n 1, 1) := by decide +kernel
theorem own_d9_2 : decode jdk_42_method_66_code 2 = .ok (.if_acmp .ne 5, 3) := by decide +kernel
theorem own_d9_5 : decode jdk_42_method_66_code 5 = .ok (.iconst 1, 1) := by decide +kernel
theorem own_d9_6 : decode jdk_42_method_66_code 6 = .ok (.ireturn, 1) := by decide +kernel
set_option maxRecDepth 65536 in
set_option maxHeartbeats 40000000 in
theorem own_seqS (l : Launch) (Z : State) (a0 : Array Value) (hw : ∀ d ∈ tables_1, d.before a0 Z = true) (ws : List Jvm.Cond) (a : Addr) (h0 : Heap) (O0 : Old Z Z.heap.size h0) :
    ownMet l (⟨"java/lang/String", "equals", "(Ljava/lang/Object;)Z"⟩ : MethodName) jdk_42_method_66_code 3 (some .boolean) ws ({ frames := 0, cells := 0, slots := 0, locals := 0 } : Room) Z #[(.ref a), (.ref a)] h0 (fun v h L => v = some (.int (1 : Int32)) ∧ Fr Z.heap.size L ∧ h = h0) := by
  refine own_met (plainFor_of_name own_pn_java_lang_String) ?_
  intro p e s m below meth c s₁ hx hby hml hown hnm hret hlk hZ e0 X0
  refine own_cast (show _ = (mkF m 0 #[.val (.ref a), .val (.ref a), .unset] []) by first | (simp [entryFrame, mkF, argsToLocals, Value.category]; done) | rfl) ?_
  refine own_st (s₁.setTop (mkF m 1 #[.val (.ref a), .val (.ref a), .unset] [(.ref a)])) (fun tq kq => XS.aloadN X0.here hx rfl (hb hby own_d9_0) rfl (by rfl) kq) ?_
  refine own_st (s₁.setTop (mkF m 2 #[.val (.ref a), .val (.ref a), .unset] [(.ref a), (.ref a)])) (fun tq kq => XS.aloadN X0.here hx rfl (hb hby own_d9_1) rfl (by rfl) kq) ?_
  refine own_st (s₁.setTop (mkF m 5 #[.val (.ref a), .val (.ref a), .unset] [])) (fun tq kq => Jvm.RoadKit.acmp (g := (mkF m 2 #[.val (.ref a), .val (.ref a), .unset] [(.ref a), (.ref a)])) X0 hx rfl (by rfl) (by rfl) (pc0 := 2) (pc' := 5) (same := true) rfl (hb hby own_d9_2) rfl (decide_eq_true (congrArg Value.ref (rfl : a = a))) (by decide) (by decide) kq) ?_
  refine own_st (s₁.setTop (mkF m 6 #[.val (.ref a), .val (.ref a), .unset] [(.int (1 : Int32))])) (fun tq kq => XS.iconst X0.here hx rfl (hb hby own_d9_5) kq) ?_
  exact own_ret X0 hlk (v := some (.int (1 : Int32))) (fun h => by rw [hret] at h; cases h) e0 (⟨rfl, (Fr.nil _), rfl⟩) (by decide) (by decide) (fun fs hr => own_retN X0 hx (t := .boolean) hret (by simp) (hb hby own_d9_6) rfl hr)
theorem own_d1_0 : decode method_2_code 0 = .ok (.iload_n 2, 1) := by decide +kernel
theorem own_d1_1 : decode method_2_code 1 = .ok (.iconst 3, 1) := by decide +kernel
theorem own_d1_2 : decode method_2_code 2 = .ok (.iand, 1) := by decide +kernel
theorem own_d1_3 : decode method_2_code 3 = .ok (.istore_n 3, 1) := by decide +kernel
theorem own_d1_4 : decode method_2_code 4 = .ok (.iload_n 3, 1) := by decide +kernel
theorem own_d1_5 : decode method_2_code 5 = .ok (.ifCond .ne 14, 3) := by decide +kernel
theorem own_d1_8 : decode method_2_code 8 = .ok (.new 7, 3) := by decide +kernel
theorem own_d1_11 : decode method_2_code 11 = .ok (.dup, 1) := by decide +kernel
theorem own_d1_12 : decode method_2_code 12 = .ok (.iconst 0, 1) := by decide +kernel
theorem own_d1_13 : decode method_2_code 13 = .ok (.newarray .char, 2) := by decide +kernel
theorem own_pd__28_5bC_29V : parseMethodDescriptor "([C)V" = some ⟨[(.array .char)], none⟩ := by decide +kernel
theorem own_d1_15 : decode method_2_code 15 = .ok (.invokespecial 9, 3) := by decide +kernel
theorem own_d1_18 : decode method_2_code 18 = .ok (.areturn, 1) := by decide +kernel
theorem own_d1_19 : decode method_2_code 19 = .ok (.iload_n 3, 1) := by decide +kernel
theorem own_d1_20 : decode method_2_code 20 = .ok (.iconst 1, 1) := by decide +kernel
theorem own_d1_21 : decode method_2_code 21 = .ok (.if_icmp .ne 13, 3) := by decide +kernel
theorem own_d1_24 : decode method_2_code 24 = .ok (.iload_n 0, 1) := by decide +kernel
theorem own_d1_25 : decode method_2_code 25 = .ok (.sipush 255, 3) := by decide +kernel
theorem own_d1_28 : decode method_2_code 28 = .ok (.iand, 1) := by decide +kernel
theorem own_d1_29 : decode method_2_code 29 = .ok (.i2c, 1) := by decide +kernel
theorem own_pd__28C_29Ljava_2flang_2fString_3b : parseMethodDescriptor "(C)Ljava/lang/String;" = some ⟨[.char], some (.object "java/lang/String")⟩ := by decide +kernel
theorem own_d1_30 : decode method_2_code 30 = .ok (.invokestatic 12, 3) := by decide +kernel
theorem own_d1_33 : decode method_2_code 33 = .ok (.areturn, 1) := by decide +kernel
theorem own_d1_34 : decode method_2_code 34 = .ok (.iconst 2, 1) := by decide +kernel
theorem own_d1_35 : decode method_2_code 35 = .ok (.newarray .char, 2) := by decide +kernel
theorem own_d1_37 : decode method_2_code 37 = .ok (.astore 4, 2) := by decide +kernel
theorem own_d1_39 : decode method_2_code 39 = .ok (.aload 4, 2) := by decide +kernel
theorem own_d1_41 : decode method_2_code 41 = .ok (.iconst 0, 1) := by decide +kernel
theorem own_d1_42 : decode method_2_code 42 = .ok (.iload_n 0, 1) := by decide +kernel
theorem own_d1_43 : decode method_2_code 43 = .ok (.sipush 255, 3) := by decide +kernel
theorem own_d1_46 : decode method_2_code 46 = .ok (.iand, 1) := by decide +kernel
theorem own_d1_47 : decode method_2_code 47 = .ok (.i2c, 1) := by decide +kernel
theorem own_d1_48 : decode method_2_code 48 = .ok (.castore, 1) := by decide +kernel
theorem own_d1_49 : decode method_2_code 49 = .ok (.aload 4, 2) := by decide +kernel
theorem own_d1_51 : decode method_2_code 51 = .ok (.iconst 1, 1) := by decide +kernel
theorem own_d1_52 : decode method_2_code 52 = .ok (.iload_n 1, 1) := by decide +kernel
theorem own_d1_53 : decode method_2_code 53 = .ok (.sipush 255, 3) := by decide +kernel
theorem own_d1_56 : decode method_2_code 56 = .ok (.iand, 1) := by decide +kernel
theorem own_d1_57 : decode method_2_code 57 = .ok (.i2c, 1) := by decide +kernel
theorem own_d1_58 : decode method_2_code 58 = .ok (.castore, 1) := by decide +kernel
theorem own_d1_59 : decode method_2_code 59 = .ok (.new 7, 3) := by decide +kernel
theorem own_d1_62 : decode method_2_code 62 = .ok (.dup, 1) := by decide +kernel
theorem own_d1_63 : decode method_2_code 63 = .ok (.aload 4, 2) := by decide +kernel
theorem own_d1_65 : decode method_2_code 65 = .ok (.invokespecial 9, 3) := by decide +kernel
theorem own_d1_68 : decode method_2_code 68 = .ok (.areturn, 1) := by decide +kernel
theorem own_pn_com_example_gridclause_gridclause_cli_OptionAlonePinLaw : plainName "com/example/gridclause/gridclause/cli/OptionAlonePinLaw" = true := by first | (simp [plainName, overriddenIn]; done) | decide +kernel
set_option maxRecDepth 65536 in
set_option maxHeartbeats 40000000 in
theorem own_draw (l : Launch) (Z : State) (a0 : Array Value) (hw : ∀ d ∈ tables_1, d.before a0 Z = true) (ws : List Jvm.Cond) (cz : Int32) (i j k : Int32) (h0 : Heap) (O0 : Old Z Z.heap.size h0) (SC : Sta Z Z.heap "java/lang/String" "COMPACT_STRINGS" "Z" (.int cz)) (hcz : ¬ (cz = (0 : Int32))) :
    ownMetW l (⟨"com/example/gridclause/gridclause/cli/OptionAlonePinLaw", "draw", "(III)Ljava/lang/String;"⟩ : MethodName) method_2_code 5 (some (.object "java/lang/String")) ws ({ frames := 4, cells := 6, slots := 12, locals := 66 } : Room) Z own_EL [] #[(.int i), (.int j), (.int k)] h0 (fun v vm h L => ∃ a : Addr, v = some (.ref a) ∧ Fr Z.heap.size L ∧ Keep h0 h [] ∧ Exa Z h a "java/lang/String") := by
  have hEL := own_hEL hw
  refine own_metW (plainFor_of_name own_pn_com_example_gridclause_gridclause_cli_OptionAlonePinLaw) ?_
  intro p e s m below meth c s₁ hx hby hml hown hnm hret hlk hZ e0 X0 hS0 R0 hsf
  refine own_cast (show _ = (mkF m 0 #[.val (.int i), .val (.int j), .val (.int k), .unset, .unset] []) by first | (simp [entryFrame, mkF, argsToLocals, Value.category]; done) | rfl) ?_
  refine own_st (s₁.setTop (mkF m 1 #[.val (.int i), .val (.int j), .val (.int k), .unset, .unset] [(.int k)])) (fun tq kq => XS.iloadN X0.here hx rfl (hb hby own_d1_0) rfl kq) ?_
  refine own_st (s₁.setTop (mkF m 2 #[.val (.int i), .val (.int j), .val (.int k), .unset, .unset] [(.int (3 : Int32)), (.int k)])) (fun tq kq => XS.iconst X0.here hx rfl (hb hby own_d1_1) kq) ?_
  refine own_st (s₁.setTop (mkF m 3 #[.val (.int i), .val (.int j), .val (.int k), .unset, .unset] [(.int (k &&& (3 : Int32)))])) (fun tq kq => XS.iand X0.here hx rfl (hb hby own_d1_2) rfl kq) ?_
  refine own_st (s₁.setTop (mkF m 4 #[.val (.int i), .val (.int j), .val (.int k), .val (.int (k &&& (3 : Int32))), .unset] [])) (fun tq kq => XS.istoreN X0.here hx rfl (hb hby own_d1_3) rfl (l' := #[.val (.int i), .val (.int j), .val (.int k), .val (.int (k &&& (3 : Int32))), .unset]) rfl kq) ?_
  refine own_st (s₁.setTop (mkF m 5 #[.val (.int i), .val (.int j), .val (.int k), .val (.int (k &&& (3 : Int32))), .unset] [(.int (k &&& (3 : Int32)))])) (fun tq kq => XS.iloadN X0.here hx rfl (hb hby own_d1_4) rfl kq) ?_
  by_cases c5_1 : (k &&& (3 : Int32)) = (0 : Int32)
  · skip
    refine own_st (s₁.setTop (mkF m 8 #[.val (.int i), .val (.int j), .val (.int k), .val (.int (k &&& (3 : Int32))), .unset] [])) (fun tq kq => XS.ifNo X0.here hx rfl (hb hby own_d1_5) rfl ((if0 _ _).trans (teq (c5_1 : (k &&& (3 : Int32)) = (0 : Int32))).2) kq) ?_
    obtain ⟨T2, h2, X2, e2, E2, A2, D2, -, st2⟩ := newO X0 hx hZ hown (hw _ (List.mem_of_getElem? (i := 4) rfl)) (hw _ (List.mem_of_getElem? (i := 5) rfl)) (hw _ (List.mem_of_getElem? (i := 6) rfl)) e0 (g := (mkF m 8 #[.val (.int i), .val (.int j), .val (.int k), .val (.int (k &&& (3 : Int32))), .unset] [])) rfl (hb hby own_d1_8) (by decide) (by decide)
    obtain ⟨b2, g2⟩ : ∃ z, z = h0.size := ⟨_, rfl⟩
    have z2 : Z.heap.size ≤ b2 := Nat.le_trans O0.2.1 (Nat.le_of_eq g2.symm)
    have s2 : h0.size ≤ b2 := Nat.le_trans (Keep.refl h0 []).1 (Nat.le_of_eq g2.symm)
    rw [← g2] at A2 D2 st2
    have R2 := R0.trans (CHr.ext E2 R0.1)
    have sf2_b2 := Safe.ext E2 R0.1 (Safe.new (Nat.le_of_eq g2.symm))
    have O2 := O0.ext E2
    have K2 := (Keep.refl h0 []).ext E2
    have f3 : Fld Z h2 b2 "java/lang/String" "value" "[B" .null := D2 (Or.inr (hw _ (List.mem_of_getElem? (i := 20) rfl))) (ty := (.array .byte)) (by decide)
    have f4 : Fld Z h2 b2 "java/lang/String" "coder" "B" (.int (0 : Int32)) := D2 (Or.inr (hw _ (List.mem_of_getElem? (i := 21) rfl))) (ty := .byte) (by decide)
    refine own_st (T2.setTop (mkF m 11 #[.val (.int i), .val (.int j), .val (.int k), .val (.int (k &&& (3 : Int32))), .unset] [(.ref b2)])) st2 ?_
    refine own_st (T2.setTop (mkF m 12 #[.val (.int i), .val (.int j), .val (.int k), .val (.int (k &&& (3 : Int32))), .unset] [(.ref b2), (.ref b2)])) (fun tq kq => XS.dup X2.here hx rfl (hb hby own_d1_11) rfl (by rfl) kq) ?_
    refine own_st (T2.setTop (mkF m 13 #[.val (.int i), .val (.int j), .val (.int k), .val (.int (k &&& (3 : Int32))), .unset] [(.int (0 : Int32)), (.ref b2), (.ref b2)])) (fun tq kq => XS.iconst X2.here hx rfl (hb hby own_d1_12) kq) ?_
    obtain ⟨T5, h5, cA5, X5, e5, E5, A5, st5⟩ := newP X2 hx hZ (hw _ (List.mem_of_getElem? (i := 7) rfl)) e2 (g := (mkF m 13 #[.val (.int i), .val (.int j), .val (.int k), .val (.int (k &&& (3 : Int32))), .unset] [(.int (0 : Int32)), (.ref b2), (.ref b2)])) rfl (hb hby own_d1_13) rfl (by decide) (cap := 0) (by decide) (by decide) (by decide) (by decide)
    obtain ⟨b5, g5⟩ : ∃ z, z = h2.size := ⟨_, rfl⟩
    have z5 : Z.heap.size ≤ b5 := Nat.le_trans O2.2.1 (Nat.le_of_eq g5.symm)
    have neb2_5 : b2 ≠ b5 := Nat.ne_of_lt (Nat.lt_of_lt_of_le A2.lt (Nat.le_of_eq g5.symm))
    have s5 : h0.size ≤ b5 := Nat.le_trans K2.1 (Nat.le_of_eq g5.symm)
    rw [← g5] at A5 st5
    have f6 := (A2.ext E5)
    have f7 := (f3.ext E5)
    have f8 := (f4.ext E5)
    have R5 := R2.trans (CHr.ext E5 R2.1)
    have sf5_b2 := Safe.ext E5 R2.1 sf2_b2
    have sf5_b5 := Safe.ext E5 R2.1 (Safe.new (Nat.le_of_eq g5.symm))
    have O5 := O2.ext E5
    have K5 := K2.ext E5
    have f9 : Arv Z h5 b5 cA5 .char (0 : Int32) [] (.int (0 : Int32)) := (Arv.new A5 (by decide)).pad (pad_rep [] (.int (0 : Int32)) 0)
    refine own_st (T5.setTop (mkF m 15 #[.val (.int i), .val (.int j), .val (.int k), .val (.int (k &&& (3 : Int32))), .unset] [(.ref b5), (.ref b2), (.ref b2)])) st5 ?_
    obtain ⟨v10, T10, L10, X10, hS10, hZ10, hown10, C10, R10, q10, st10⟩ := own_callIW X5 hx hZ hown (y := (⟨"java/lang/String", "<init>", "([C)V"⟩ : MethodName)) rfl (hw _ (List.mem_of_getElem? (i := 8) rfl)) (hw _ (List.mem_of_getElem? (i := 9) rfl)) (hw _ (List.mem_of_getElem? (i := 6) rfl)) (hw _ (List.mem_of_getElem? (i := 10) rfl)) (a := b2) (argsL := [(.ref b5)]) (own_sinit1_0 l Z a0 hw [] b2 b5 cA5 h5 O5 f6 f7 f8 z2 f9 (Ne.symm neb2_5)) 1 (by decide) (by decide) (by decide) (by decide) (by decide) hS0 (Nat.le_trans (Nat.le_trans (Nat.zero_le _) E2.1) E5.1) hEL R5 (allS ⟨f6.lt, sf5_b2⟩ all0) e5 (g := (mkF m 15 #[.val (.int i), .val (.int j), .val (.int k), .val (.int (k &&& (3 : Int32))), .unset] [(.ref b5), (.ref b2), (.ref b2)])) rfl (by rw [hml]; rfl) [(.ref b2)] (lenOf own_pd__28_5bC_29V rfl) rfl (by show 2 * 0 + _ ≤ _; exact Nat.le_of_eq rfl) (hb hby own_d1_15)
    have sf10_b2 := C10.safe f6.lt sf5_b2
    have sf10_b5 := C10.safe f9.lt sf5_b5
    obtain ⟨b10, kb10, rfl, N10q, K10q, fv10, fc10, f10q⟩ := q10
    have N10 := Fr.app (Fr.nil _) N10q
    have f11 := (f6.keep K10q)
    have f14 := (f9.keep K10q (ninS (Ne.symm neb2_5) nin0))
    have O10 := O5.keep K10q (allS z2 all0)
    have K10 := K5.trans K10q (allS (Or.inr s2) all0)
    refine own_st (T10.setTop (mkF m 18 #[.val (.int i), .val (.int j), .val (.int k), .val (.int (k &&& (3 : Int32))), .unset] [(.ref b2)])) st10 ?_
    exact own_retW X10 hlk hS10 (Nat.le_refl _) hZ10 hEL R10 (v := some (.ref b2)) (fun h => by rw [hret] at h; cases h) rfl (fun vm1 C1 => ⟨_, rfl, N10, K10, f11⟩) (by decide) (by decide) (fun fs hr => retOut X10 hx hret rfl (Or.inr (Or.inr (Or.inr (Or.inr ⟨rfl, rfl, rfl⟩)))) (hb hby own_d1_18) hr)
  · skip
    refine own_st (s₁.setTop (mkF m 19 #[.val (.int i), .val (.int j), .val (.int k), .val (.int (k &&& (3 : Int32))), .unset] [])) (fun tq kq => XS.ifYes X0.here hx rfl (pc0 := 5) (pc' := 19) rfl (hb hby own_d1_5) rfl ((if0 _ _).trans (feq (c5_1 : ¬ ((k &&& (3 : Int32)) = (0 : Int32)))).2) (by decide) (by decide) kq) ?_
    refine own_st (s₁.setTop (mkF m 20 #[.val (.int i), .val (.int j), .val (.int k), .val (.int (k &&& (3 : Int32))), .unset] [(.int (k &&& (3 : Int32)))])) (fun tq kq => XS.iloadN X0.here hx rfl (hb hby own_d1_19) rfl kq) ?_
    refine own_st (s₁.setTop (mkF m 21 #[.val (.int i), .val (.int j), .val (.int k), .val (.int (k &&& (3 : Int32))), .unset] [(.int (1 : Int32)), (.int (k &&& (3 : Int32)))])) (fun tq kq => XS.iconst X0.here hx rfl (hb hby own_d1_20) kq) ?_
    by_cases c21_15 : (k &&& (3 : Int32)) = (1 : Int32)
    · skip
      refine own_st (s₁.setTop (mkF m 24 #[.val (.int i), .val (.int j), .val (.int k), .val (.int (k &&& (3 : Int32))), .unset] [])) (fun tq kq => XS.icmpNo X0.here hx rfl (hb hby own_d1_21) rfl (teq (c21_15 : (k &&& (3 : Int32)) = (1 : Int32))).2 kq) ?_
      refine own_st (s₁.setTop (mkF m 25 #[.val (.int i), .val (.int j), .val (.int k), .val (.int (k &&& (3 : Int32))), .unset] [(.int i)])) (fun tq kq => XS.iloadN X0.here hx rfl (hb hby own_d1_24) rfl kq) ?_
      refine own_st (s₁.setTop (mkF m 28 #[.val (.int i), .val (.int j), .val (.int k), .val (.int (k &&& (3 : Int32))), .unset] [(.int (255 : Int32)), (.int i)])) (fun tq kq => XS.sipush X0.here hx rfl (hb hby own_d1_25) kq) ?_
      refine own_st (s₁.setTop (mkF m 29 #[.val (.int i), .val (.int j), .val (.int k), .val (.int (k &&& (3 : Int32))), .unset] [(.int (i &&& (255 : Int32)))])) (fun tq kq => XS.iand X0.here hx rfl (hb hby own_d1_28) rfl kq) ?_
      refine own_st (s₁.setTop (mkF m 30 #[.val (.int i), .val (.int j), .val (.int k), .val (.int (k &&& (3 : Int32))), .unset] [(.int (i &&& (255 : Int32)))])) (fun tq kq => XS.i2c X0.here hx rfl (hb hby own_d1_29) rfl (by rw [i2c_mask]; exact kq)) ?_
      obtain ⟨v16, T16, L16, X16, q16, st16⟩ := own_callS X0 hx hZ hown (hw _ (List.mem_of_getElem? (i := 88) rfl)) (hw _ (List.mem_of_getElem? (i := 89) rfl)) (hw _ (List.mem_of_getElem? (i := 6) rfl)) (hw _ (List.mem_of_getElem? (i := 90) rfl)) (argsL := [(.int (i &&& (255 : Int32)))]) (own_valC l Z a0 hw [] cz (i &&& (255 : Int32)) h0 O0 SC hcz (own_m0 _) (own_m1 _)) 0 (by decide) (by decide) (by decide) (by decide) (by decide) e0 (g := (mkF m 30 #[.val (.int i), .val (.int j), .val (.int k), .val (.int (k &&& (3 : Int32))), .unset] [(.int (i &&& (255 : Int32)))])) rfl (by rw [hml]; rfl) [] (lenOf own_pd__28C_29Ljava_2flang_2fString_3b rfl) rfl (by show 2 * 0 + _ ≤ _; exact Nat.le_of_eq rfl) (hb hby own_d1_30)
      obtain ⟨a16, b16, kb16, rfl, N16q, K16q, za16, sa16q, z16, s16q, E16q, fv16, fc16, f16q⟩ := q16
      have N16 := Fr.app (Fr.nil _) N16q
      have s16 : h0.size ≤ b16 := Nat.le_trans (Keep.refl h0 []).1 s16q
      have sa16 : h0.size ≤ a16 := Nat.le_trans (Keep.refl h0 []).1 sa16q
      have O16 := O0.keep K16q all0
      have R16 := R0.trans (CHr.keep K16q all0 R0.1)
      have K16 := (Keep.refl h0 []).trans K16q all0
      refine own_st (T16.setTop (mkF m 33 #[.val (.int i), .val (.int j), .val (.int k), .val (.int (k &&& (3 : Int32))), .unset] [(.ref a16)])) st16 ?_
      exact own_retW X16 hlk hS0 (Nat.le_trans (Nat.zero_le _) K16q.1) hZ hEL R16 (v := some (.ref a16)) (fun h => by rw [hret] at h; cases h) rfl (fun vm1 C1 => ⟨_, rfl, N16, K16, E16q⟩) (by decide) (by decide) (fun fs hr => retOut X16 hx hret rfl (Or.inr (Or.inr (Or.inr (Or.inr ⟨rfl, rfl, rfl⟩)))) (hb hby own_d1_33) hr)
    · skip
      refine own_st (s₁.setTop (mkF m 34 #[.val (.int i), .val (.int j), .val (.int k), .val (.int (k &&& (3 : Int32))), .unset] [])) (fun tq kq => XS.icmpYes X0.here hx rfl (pc0 := 21) (pc' := 34) rfl (hb hby own_d1_21) rfl (feq (c21_15 : ¬ ((k &&& (3 : Int32)) = (1 : Int32)))).2 (by decide) (by decide) kq) ?_
      refine own_st (s₁.setTop (mkF m 35 #[.val (.int i), .val (.int j), .val (.int k), .val (.int (k &&& (3 : Int32))), .unset] [(.int (2 : Int32))])) (fun tq kq => XS.iconst X0.here hx rfl (hb hby own_d1_34) kq) ?_
      obtain ⟨T17, h17, cA17, X17, e17, E17, A17, st17⟩ := newP X0 hx hZ (hw _ (List.mem_of_getElem? (i := 7) rfl)) e0 (g := (mkF m 35 #[.val (.int i), .val (.int j), .val (.int k), .val (.int (k &&& (3 : Int32))), .unset] [(.int (2 : Int32))])) rfl (hb hby own_d1_35) rfl (by decide) (cap := 2) (by decide) (by decide) (by decide) (by decide)
      obtain ⟨b17, g17⟩ : ∃ z, z = h0.size := ⟨_, rfl⟩
      have z17 : Z.heap.size ≤ b17 := Nat.le_trans O0.2.1 (Nat.le_of_eq g17.symm)
      have s17 : h0.size ≤ b17 := Nat.le_trans (Keep.refl h0 []).1 (Nat.le_of_eq g17.symm)
      rw [← g17] at A17 st17
      have R17 := R0.trans (CHr.ext E17 R0.1)
      have sf17_b17 := Safe.ext E17 R0.1 (Safe.new (Nat.le_of_eq g17.symm))
      have O17 := O0.ext E17
      have K17 := (Keep.refl h0 []).ext E17
      have f18 : Arv Z h17 b17 cA17 .char (2 : Int32) [(.int (0 : Int32)), (.int (0 : Int32))] (.int (0 : Int32)) := (Arv.new A17 (by decide)).pad (pad_rep [] (.int (0 : Int32)) 2)
      refine own_st (T17.setTop (mkF m 37 #[.val (.int i), .val (.int j), .val (.int k), .val (.int (k &&& (3 : Int32))), .unset] [(.ref b17)])) st17 ?_
      refine own_st (T17.setTop (mkF m 39 #[.val (.int i), .val (.int j), .val (.int k), .val (.int (k &&& (3 : Int32))), .val (.ref b17)] [])) (fun tq kq => XS.astore X17.here hx rfl (hb hby own_d1_37) rfl (by rfl) (l' := #[.val (.int i), .val (.int j), .val (.int k), .val (.int (k &&& (3 : Int32))), .val (.ref b17)]) rfl kq) ?_
      refine own_st (T17.setTop (mkF m 41 #[.val (.int i), .val (.int j), .val (.int k), .val (.int (k &&& (3 : Int32))), .val (.ref b17)] [(.ref b17)])) (fun tq kq => XS.aload X17.here hx rfl (hb hby own_d1_39) rfl (by rfl) kq) ?_
      refine own_st (T17.setTop (mkF m 42 #[.val (.int i), .val (.int j), .val (.int k), .val (.int (k &&& (3 : Int32))), .val (.ref b17)] [(.int (0 : Int32)), (.ref b17)])) (fun tq kq => XS.iconst X17.here hx rfl (hb hby own_d1_41) kq) ?_
      refine own_st (T17.setTop (mkF m 43 #[.val (.int i), .val (.int j), .val (.int k), .val (.int (k &&& (3 : Int32))), .val (.ref b17)] [(.int i), (.int (0 : Int32)), (.ref b17)])) (fun tq kq => XS.iloadN X17.here hx rfl (hb hby own_d1_42) rfl kq) ?_
      refine own_st (T17.setTop (mkF m 46 #[.val (.int i), .val (.int j), .val (.int k), .val (.int (k &&& (3 : Int32))), .val (.ref b17)] [(.int (255 : Int32)), (.int i), (.int (0 : Int32)), (.ref b17)])) (fun tq kq => XS.sipush X17.here hx rfl (hb hby own_d1_43) kq) ?_
      refine own_st (T17.setTop (mkF m 47 #[.val (.int i), .val (.int j), .val (.int k), .val (.int (k &&& (3 : Int32))), .val (.ref b17)] [(.int (i &&& (255 : Int32))), (.int (0 : Int32)), (.ref b17)])) (fun tq kq => XS.iand X17.here hx rfl (hb hby own_d1_46) rfl kq) ?_
      refine own_st (T17.setTop (mkF m 48 #[.val (.int i), .val (.int j), .val (.int k), .val (.int (k &&& (3 : Int32))), .val (.ref b17)] [(.int (i &&& (255 : Int32))), (.int (0 : Int32)), (.ref b17)])) (fun tq kq => XS.i2c X17.here hx rfl (hb hby own_d1_47) rfl (by rw [i2c_mask]; exact kq)) ?_
      obtain ⟨cl19, q19a, q19b, q19c, q19d, q19e, q19f⟩ := id f18
      obtain ⟨T19, h19, X19, e19, W19, st19⟩ := stC X17 hx hZ e17 q19a (j := (0 : Int32)) (inb_of q19c ⟨by decide, by decide⟩) (g := (mkF m 48 #[.val (.int i), .val (.int j), .val (.int k), .val (.int (k &&& (3 : Int32))), .val (.ref b17)] [(.int (i &&& (255 : Int32))), (.int (0 : Int32)), (.ref b17)])) rfl rfl (hb hby own_d1_48)
      have N19 := Fr.snoc X19 (Fr.nil _) z17
      have O19 := O17.wr W19 z17
      have R19 := R17.trans (CHr.wr W19 sf17_b17 R17.1)
      have sf19_b17 := Safe.wr W19 sf17_b17 R17.1 sf17_b17
      have K19 := K17.wr W19 (Or.inr s17)
      have f21 : Arv Z h19 b17 cA17 .char (2 : Int32) [(.int (i &&& (255 : Int32))), (.int (0 : Int32))] (.int (0 : Int32)) := (show nar .char (i &&& (255 : Int32)) = (i &&& (255 : Int32)) from (i2c_mask _)) ▸ Arv.set q19a q19b q19c q19d q19e q19f (fits_nar_char _) W19 0 (by decide) (show 0 < 2 by decide)
      refine own_st (T19.setTop (mkF m 49 #[.val (.int i), .val (.int j), .val (.int k), .val (.int (k &&& (3 : Int32))), .val (.ref b17)] [])) st19 ?_
      refine own_st (T19.setTop (mkF m 51 #[.val (.int i), .val (.int j), .val (.int k), .val (.int (k &&& (3 : Int32))), .val (.ref b17)] [(.ref b17)])) (fun tq kq => XS.aload X19.here hx rfl (hb hby own_d1_49) rfl (by rfl) kq) ?_
      refine own_st (T19.setTop (mkF m 52 #[.val (.int i), .val (.int j), .val (.int k), .val (.int (k &&& (3 : Int32))), .val (.ref b17)] [(.int (1 : Int32)), (.ref b17)])) (fun tq kq => XS.iconst X19.here hx rfl (hb hby own_d1_51) kq) ?_
      refine own_st (T19.setTop (mkF m 53 #[.val (.int i), .val (.int j), .val (.int k), .val (.int (k &&& (3 : Int32))), .val (.ref b17)] [(.int j), (.int (1 : Int32)), (.ref b17)])) (fun tq kq => XS.iloadN X19.here hx rfl (hb hby own_d1_52) rfl kq) ?_
      refine own_st (T19.setTop (mkF m 56 #[.val (.int i), .val (.int j), .val (.int k), .val (.int (k &&& (3 : Int32))), .val (.ref b17)] [(.int (255 : Int32)), (.int j), (.int (1 : Int32)), (.ref b17)])) (fun tq kq => XS.sipush X19.here hx rfl (hb hby own_d1_53) kq) ?_
      refine own_st (T19.setTop (mkF m 57 #[.val (.int i), .val (.int j), .val (.int k), .val (.int (k &&& (3 : Int32))), .val (.ref b17)] [(.int (j &&& (255 : Int32))), (.int (1 : Int32)), (.ref b17)])) (fun tq kq => XS.iand X19.here hx rfl (hb hby own_d1_56) rfl kq) ?_
      refine own_st (T19.setTop (mkF m 58 #[.val (.int i), .val (.int j), .val (.int k), .val (.int (k &&& (3 : Int32))), .val (.ref b17)] [(.int (j &&& (255 : Int32))), (.int (1 : Int32)), (.ref b17)])) (fun tq kq => XS.i2c X19.here hx rfl (hb hby own_d1_57) rfl (by rw [i2c_mask]; exact kq)) ?_
      obtain ⟨cl22, q22a, q22b, q22c, q22d, q22e, q22f⟩ := id f21
      obtain ⟨T22, h22, X22, e22, W22, st22⟩ := stC X19 hx hZ e19 q22a (j := (1 : Int32)) (inb_of q22c ⟨by decide, by decide⟩) (g := (mkF m 58 #[.val (.int i), .val (.int j), .val (.int k), .val (.int (k &&& (3 : Int32))), .val (.ref b17)] [(.int (j &&& (255 : Int32))), (.int (1 : Int32)), (.ref b17)])) rfl rfl (hb hby own_d1_58)
      have N22 := Fr.snoc X22 N19 z17
      have O22 := O19.wr W22 z17
      have R22 := R19.trans (CHr.wr W22 sf19_b17 R19.1)
      have sf22_b17 := Safe.wr W22 sf19_b17 R19.1 sf19_b17
      have K22 := K19.wr W22 (Or.inr s17)
      have f24 : Arv Z h22 b17 cA17 .char (2 : Int32) [(.int (i &&& (255 : Int32))), (.int (j &&& (255 : Int32)))] (.int (0 : Int32)) := (show nar .char (j &&& (255 : Int32)) = (j &&& (255 : Int32)) from (i2c_mask _)) ▸ Arv.set q22a q22b q22c q22d q22e q22f (fits_nar_char _) W22 1 (by decide) (show 1 < 2 by decide)
      refine own_st (T22.setTop (mkF m 59 #[.val (.int i), .val (.int j), .val (.int k), .val (.int (k &&& (3 : Int32))), .val (.ref b17)] [])) st22 ?_
      obtain ⟨T25, h25, X25, e25, E25, A25, D25, -, st25⟩ := newO X22 hx hZ hown (hw _ (List.mem_of_getElem? (i := 4) rfl)) (hw _ (List.mem_of_getElem? (i := 5) rfl)) (hw _ (List.mem_of_getElem? (i := 6) rfl)) e22 (g := (mkF m 59 #[.val (.int i), .val (.int j), .val (.int k), .val (.int (k &&& (3 : Int32))), .val (.ref b17)] [])) rfl (hb hby own_d1_59) (by decide) (by decide)
      obtain ⟨b25, g25⟩ : ∃ z, z = h22.size := ⟨_, rfl⟩
      have z25 : Z.heap.size ≤ b25 := Nat.le_trans O22.2.1 (Nat.le_of_eq g25.symm)
      have neb17_25 : b17 ≠ b25 := Nat.ne_of_lt (Nat.lt_of_lt_of_le f24.lt (Nat.le_of_eq g25.symm))
      have s25 : h0.size ≤ b25 := Nat.le_trans K22.1 (Nat.le_of_eq g25.symm)
      rw [← g25] at A25 D25 st25
      have f26 := (f24.ext E25)
      have R25 := R22.trans (CHr.ext E25 R22.1)
      have sf25_b17 := Safe.ext E25 R22.1 sf22_b17
      have sf25_b25 := Safe.ext E25 R22.1 (Safe.new (Nat.le_of_eq g25.symm))
      have O25 := O22.ext E25
      have K25 := K22.ext E25
      have f27 : Fld Z h25 b25 "java/lang/String" "value" "[B" .null := D25 (Or.inr (hw _ (List.mem_of_getElem? (i := 20) rfl))) (ty := (.array .byte)) (by decide)
      have f28 : Fld Z h25 b25 "java/lang/String" "coder" "B" (.int (0 : Int32)) := D25 (Or.inr (hw _ (List.mem_of_getElem? (i := 21) rfl))) (ty := .byte) (by decide)
      refine own_st (T25.setTop (mkF m 62 #[.val (.int i), .val (.int j), .val (.int k), .val (.int (k &&& (3 : Int32))), .val (.ref b17)] [(.ref b25)])) st25 ?_
      refine own_st (T25.setTop (mkF m 63 #[.val (.int i), .val (.int j), .val (.int k), .val (.int (k &&& (3 : Int32))), .val (.ref b17)] [(.ref b25), (.ref b25)])) (fun tq kq => XS.dup X25.here hx rfl (hb hby own_d1_62) rfl (by rfl) kq) ?_
      refine own_st (T25.setTop (mkF m 65 #[.val (.int i), .val (.int j), .val (.int k), .val (.int (k &&& (3 : Int32))), .val (.ref b17)] [(.ref b17), (.ref b25), (.ref b25)])) (fun tq kq => XS.aload X25.here hx rfl (hb hby own_d1_63) rfl (by rfl) kq) ?_
      obtain ⟨v29, T29, L29, X29, q29, st29⟩ := own_callI X25 hx hZ hown (y := (⟨"java/lang/String", "<init>", "([C)V"⟩ : MethodName)) rfl (hw _ (List.mem_of_getElem? (i := 8) rfl)) (hw _ (List.mem_of_getElem? (i := 9) rfl)) (hw _ (List.mem_of_getElem? (i := 6) rfl)) (hw _ (List.mem_of_getElem? (i := 10) rfl)) (a := b25) (argsL := [(.ref b17)]) (own_sinit1_2 l Z a0 hw [] cz b25 b17 cA17 (i &&& (255 : Int32)) (j &&& (255 : Int32)) h25 O25 SC hcz A25 f27 f28 z25 f26 neb17_25 (own_m0 _) (own_m1 _) (own_m0 _) (own_m1 _)) 1 (by decide) (by decide) (by decide) (by decide) (by decide) e25 (g := (mkF m 65 #[.val (.int i), .val (.int j), .val (.int k), .val (.int (k &&& (3 : Int32))), .val (.ref b17)] [(.ref b17), (.ref b25), (.ref b25)])) rfl (by rw [hml]; rfl) [(.ref b25)] (lenOf own_pd__28_5bC_29V rfl) rfl (by show 2 * 0 + _ ≤ _; exact Nat.le_of_eq rfl) (hb hby own_d1_65)
      obtain ⟨b29, kb29, rfl, N29q, K29q, z29, s29q, fv29, fc29, f29q⟩ := q29
      have N29 := Fr.app N22 N29q
      have nf29_b17 : b17 ≠ b29 := Nat.ne_of_lt (Nat.lt_of_lt_of_le f26.lt s29q)
      have nf29_b25 : b25 ≠ b29 := Nat.ne_of_lt (Nat.lt_of_lt_of_le A25.lt s29q)
      have s29 : h0.size ≤ b29 := Nat.le_trans K25.1 s29q
      have f30 := (f26.keep K29q (ninS neb17_25 nin0))
      have f31 := (A25.keep K29q)
      have O29 := O25.keep K29q (allS z25 all0)
      have R29 := R25.trans (CHr.keep K29q (allS sf25_b25 all0) R25.1)
      have sf29_b17 := Safe.keep K29q (allS sf25_b25 all0) R25.1 sf25_b17
      have sf29_b25 := Safe.keep K29q (allS sf25_b25 all0) R25.1 sf25_b25
      have K29 := K25.trans K29q (allS (Or.inr s25) all0)
      refine own_st (T29.setTop (mkF m 68 #[.val (.int i), .val (.int j), .val (.int k), .val (.int (k &&& (3 : Int32))), .val (.ref b17)] [(.ref b25)])) st29 ?_
      exact own_retW X29 hlk hS0 (Nat.le_trans (Nat.le_trans (Nat.le_trans (Nat.le_trans (Nat.le_trans (Nat.zero_le _) E17.1) (Nat.le_of_eq W19.size.symm)) (Nat.le_of_eq W22.size.symm)) E25.1) K29q.1) hZ hEL R29 (v := some (.ref b25)) (fun h => by rw [hret] at h; cases h) rfl (fun vm1 C1 => ⟨_, rfl, N29, K29, f31⟩) (by decide) (by decide) (fun fs hr => retOut X29 hx hret rfl (Or.inr (Or.inr (Or.inr (Or.inr ⟨rfl, rfl, rfl⟩)))) (hb hby own_d1_68) hr)
theorem own_pd__28III_29Ljava_2flang_2fString_3b : parseMethodDescriptor "(III)Ljava/lang/String;" = some ⟨[.int, .int, .int], some (.object "java/lang/String")⟩ := by decide +kernel
theorem own_pd__28Ljava_2flang_2fString_3bLjava_2flang_2fString_3b_29Lcom_2fexample_2fgridclause_2fgridclause_2fcli_2fOption_3b : parseMethodDescriptor "(Ljava/lang/String;Ljava/lang/String;)Lcom/example/gridclause/gridclause/cli/Option;" = some ⟨[(.object "java/lang/String"), (.object "java/lang/String")], some (.object "com/example/gridclause/gridclause/cli/Option")⟩ := by decide +kernel
theorem own_pd__28_29Ljava_2flang_2fString_3b : parseMethodDescriptor "()Ljava/lang/String;" = some ⟨[], some (.object "java/lang/String")⟩ := by decide +kernel
theorem own_pd__28Ljava_2flang_2fObject_3b_29Z : parseMethodDescriptor "(Ljava/lang/Object;)Z" = some ⟨[(.object "java/lang/Object")], some .boolean⟩ := by decide +kernel
theorem own_pd__28_29Lcom_2fexample_2fgridclause_2fgridclause_2fcli_2fOption_24Use_3b : parseMethodDescriptor "()Lcom/example/gridclause/gridclause/cli/Option$Use;" = some ⟨[], some (.object "com/example/gridclause/gridclause/cli/Option$Use")⟩ := by decide +kernel
set_option maxRecDepth 65536 in
set_option maxHeartbeats 40000000 in
theorem own_law (l : Launch) (Z : State) (a0 : Array Value) (hw : ∀ d ∈ tables_1, d.before a0 Z = true) (ws : List Jvm.Cond) (cz : Int32) (i0 i1 i2 i3 i4 : Int32) (u0 u1 u2 u3 : Addr) (h0 : Heap) (O0 : Old Z Z.heap.size h0) (SC : Sta Z Z.heap "java/lang/String" "COMPACT_STRINGS" "Z" (.int cz)) (hcz : ¬ (cz = (0 : Int32))) (SU0 : Sta Z Z.heap "com/example/gridclause/gridclause/cli/Option$Use" "ALONE" "Lcom/example/gridclause/gridclause/cli/Option$Use;" (.ref u0)) (SU1 : Sta Z Z.heap "com/example/gridclause/gridclause/cli/Option$Use" "REQUIRED" "Lcom/example/gridclause/gridclause/cli/Option$Use;" (.ref u1)) (SU2 : Sta Z Z.heap "com/example/gridclause/gridclause/cli/Option$Use" "OPTIONAL" "Lcom/example/gridclause/gridclause/cli/Option$Use;" (.ref u2)) (SU3 : Sta Z Z.heap "com/example/gridclause/gridclause/cli/Option$Use" "REPEATABLE" "Lcom/example/gridclause/gridclause/cli/Option$Use;" (.ref u3)) (n1 : u0 ≠ u1) (n2 : u0 ≠ u2) (n3 : u0 ≠ u3) :
    ownMetW l x code maxLocals ret ws room_1 Z own_EL [] #[(.int i0), (.int i1), (.int i2), (.int i3), (.int i4)] h0 (fun v vm h L => v = some (.int 1) ∧ Fr Z.heap.size L) := by
  have hEL := own_hEL hw
  refine own_metW (plainFor_of_name own_pn_com_example_gridclause_gridclause_cli_OptionAlonePinLaw) ?_
  intro p e s m below meth c s₁ hx hby hml hown hnm hret hlk hZ e0 X0 hS0 R0 hsf
  refine own_cast (show _ = (mkF m 0 #[.val (.int i0), .val (.int i1), .val (.int i2), .val (.int i3), .val (.int i4), .unset, .unset, .unset] []) by first | (simp [entryFrame, mkF, argsToLocals, Value.category, maxLocals]; done) | rfl) ?_
  refine own_st (s₁.setTop (mkF m 1 #[.val (.int i0), .val (.int i1), .val (.int i2), .val (.int i3), .val (.int i4), .unset, .unset, .unset] [(.int i0)])) (fun tq kq => XS.iloadN X0.here hx rfl (hb hby at_0) rfl kq) ?_
  refine own_st (s₁.setTop (mkF m 2 #[.val (.int i0), .val (.int i1), .val (.int i2), .val (.int i3), .val (.int i4), .unset, .unset, .unset] [(.int i1), (.int i0)])) (fun tq kq => XS.iloadN X0.here hx rfl (hb hby at_1) rfl kq) ?_
  refine own_st (s₁.setTop (mkF m 4 #[.val (.int i0), .val (.int i1), .val (.int i2), .val (.int i3), .val (.int i4), .unset, .unset, .unset] [(.int i4), (.int i1), (.int i0)])) (fun tq kq => XS.iload X0.here hx rfl (hb hby at_2) rfl kq) ?_
  obtain ⟨v1, T1, L1, X1, hS1, hZ1, hown1, C1, R1, q1, st1⟩ := own_callSW X0 hx hZ hown (hw _ (List.mem_of_getElem? (i := 0) rfl)) (hw _ (List.mem_of_getElem? (i := 1) rfl)) (hw _ (List.mem_of_getElem? (i := 2) rfl)) (hw _ (List.mem_of_getElem? (i := 3) rfl)) (argsL := [(.int i0), (.int i1), (.int i4)]) (own_draw l Z a0 hw [] cz i0 i1 i4 h0 O0 SC hcz) 0 (by decide) (by decide) (by decide) (by decide) (by decide) hS0 (Nat.zero_le _) hEL R0 all0 e0 (g := (mkF m 4 #[.val (.int i0), .val (.int i1), .val (.int i2), .val (.int i3), .val (.int i4), .unset, .unset, .unset] [(.int i4), (.int i1), (.int i0)])) rfl (by rw [hml]; rfl) [] (lenOf own_pd__28III_29Ljava_2flang_2fString_3b rfl) rfl (by show 2 * 0 + _ ≤ _; exact Nat.le_of_eq rfl) (hb hby at_4)
  obtain ⟨a1, rfl, N1q, K1q, E1q⟩ := q1
  have N1 := Fr.app (Fr.nil _) N1q
  have O1 := O0.keep K1q all0
  have K1 := (Keep.refl h0 []).trans K1q all0
  refine own_st (T1.setTop (mkF m 7 #[.val (.int i0), .val (.int i1), .val (.int i2), .val (.int i3), .val (.int i4), .unset, .unset, .unset] [(.ref a1)])) st1 ?_
  refine own_st (T1.setTop (mkF m 9 #[.val (.int i0), .val (.int i1), .val (.int i2), .val (.int i3), .val (.int i4), .val (.ref a1), .unset, .unset] [])) (fun tq kq => XS.astore X1.here hx rfl (hb hby at_7) rfl (by rfl) (l' := #[.val (.int i0), .val (.int i1), .val (.int i2), .val (.int i3), .val (.int i4), .val (.ref a1), .unset, .unset]) rfl kq) ?_
  refine own_st (T1.setTop (mkF m 10 #[.val (.int i0), .val (.int i1), .val (.int i2), .val (.int i3), .val (.int i4), .val (.ref a1), .unset, .unset] [(.int i2)])) (fun tq kq => XS.iloadN X1.here hx rfl (hb hby at_9) rfl kq) ?_
  refine own_st (T1.setTop (mkF m 11 #[.val (.int i0), .val (.int i1), .val (.int i2), .val (.int i3), .val (.int i4), .val (.ref a1), .unset, .unset] [(.int i3), (.int i2)])) (fun tq kq => XS.iloadN X1.here hx rfl (hb hby at_10) rfl kq) ?_
  refine own_st (T1.setTop (mkF m 13 #[.val (.int i0), .val (.int i1), .val (.int i2), .val (.int i3), .val (.int i4), .val (.ref a1), .unset, .unset] [(.int i4), (.int i3), (.int i2)])) (fun tq kq => XS.iload X1.here hx rfl (hb hby at_11) rfl kq) ?_
  refine own_st (T1.setTop (mkF m 14 #[.val (.int i0), .val (.int i1), .val (.int i2), .val (.int i3), .val (.int i4), .val (.ref a1), .unset, .unset] [(.int (2 : Int32)), (.int i4), (.int i3), (.int i2)])) (fun tq kq => XS.iconst X1.here hx rfl (hb hby at_13) kq) ?_
  refine own_st (T1.setTop (mkF m 15 #[.val (.int i0), .val (.int i1), .val (.int i2), .val (.int i3), .val (.int i4), .val (.ref a1), .unset, .unset] [(.int ((i4.toUInt32 >>> ((2 : Int32) &&& 31).toUInt32).toInt32)), (.int i3), (.int i2)])) (fun tq kq => XS.iushr X1.here hx rfl (hb hby at_14) rfl kq) ?_
  obtain ⟨v2, T2, L2, X2, hS2, hZ2, hown2, C2, R2, q2, st2⟩ := own_callSW X1 hx hZ1 hown1 (hw _ (List.mem_of_getElem? (i := 0) rfl)) (hw _ (List.mem_of_getElem? (i := 1) rfl)) (hw _ (List.mem_of_getElem? (i := 2) rfl)) (hw _ (List.mem_of_getElem? (i := 3) rfl)) (argsL := [(.int i2), (.int i3), (.int ((i4.toUInt32 >>> ((2 : Int32) &&& 31).toUInt32).toInt32))]) (own_draw l Z a0 hw [] cz i2 i3 ((i4.toUInt32 >>> ((2 : Int32) &&& 31).toUInt32).toInt32) T1.heap O1 SC hcz) 0 (by decide) (by decide) (by decide) (by decide) (by decide) hS1 (Nat.le_refl _) hEL R1 all0 rfl (g := (mkF m 15 #[.val (.int i0), .val (.int i1), .val (.int i2), .val (.int i3), .val (.int i4), .val (.ref a1), .unset, .unset] [(.int ((i4.toUInt32 >>> ((2 : Int32) &&& 31).toUInt32).toInt32)), (.int i3), (.int i2)])) rfl (by rw [hml]; rfl) [] (lenOf own_pd__28III_29Ljava_2flang_2fString_3b rfl) rfl (by show 2 * 0 + _ ≤ _; exact Nat.le_of_eq rfl) (hb hby at_15)
  obtain ⟨a2, rfl, N2q, K2q, E2q⟩ := q2
  have N2 := Fr.app N1 N2q
  have f3 := (E1q.keep K2q)
  have O2 := O1.keep K2q all0
  have K2 := K1.trans K2q all0
  refine own_st (T2.setTop (mkF m 18 #[.val (.int i0), .val (.int i1), .val (.int i2), .val (.int i3), .val (.int i4), .val (.ref a1), .unset, .unset] [(.ref a2)])) st2 ?_
  refine own_st (T2.setTop (mkF m 20 #[.val (.int i0), .val (.int i1), .val (.int i2), .val (.int i3), .val (.int i4), .val (.ref a1), .val (.ref a2), .unset] [])) (fun tq kq => XS.astore X2.here hx rfl (hb hby at_18) rfl (by rfl) (l' := #[.val (.int i0), .val (.int i1), .val (.int i2), .val (.int i3), .val (.int i4), .val (.ref a1), .val (.ref a2), .unset]) rfl kq) ?_
  refine own_st (T2.setTop (mkF m 22 #[.val (.int i0), .val (.int i1), .val (.int i2), .val (.int i3), .val (.int i4), .val (.ref a1), .val (.ref a2), .unset] [(.ref a1)])) (fun tq kq => XS.aload X2.here hx rfl (hb hby at_20) rfl (by rfl) kq) ?_
  refine own_st (T2.setTop (mkF m 24 #[.val (.int i0), .val (.int i1), .val (.int i2), .val (.int i3), .val (.int i4), .val (.ref a1), .val (.ref a2), .unset] [(.ref a2), (.ref a1)])) (fun tq kq => XS.aload X2.here hx rfl (hb hby at_22) rfl (by rfl) kq) ?_
  obtain ⟨v4, T4, L4, X4, q4, st4⟩ := own_callS X2 hx hZ2 hown2 (hw _ (List.mem_of_getElem? (i := 26) rfl)) (hw _ (List.mem_of_getElem? (i := 27) rfl)) (hw _ (List.mem_of_getElem? (i := 28) rfl)) (hw _ (List.mem_of_getElem? (i := 29) rfl)) (argsL := [(.ref a1), (.ref a2)]) (own_alone l Z a0 hw [] a1 a2 u0 T2.heap O2 SU0) 0 (by decide) (by decide) (by decide) (by decide) (by decide) rfl (g := (mkF m 24 #[.val (.int i0), .val (.int i1), .val (.int i2), .val (.int i3), .val (.int i4), .val (.ref a1), .val (.ref a2), .unset] [(.ref a2), (.ref a1)])) rfl (by rw [hml]; rfl) [] (lenOf own_pd__28Ljava_2flang_2fString_3bLjava_2flang_2fString_3b_29Lcom_2fexample_2fgridclause_2fgridclause_2fcli_2fOption_3b rfl) rfl (by show 2 * 0 + _ ≤ _; exact Nat.le_of_eq rfl) (hb hby at_24)
  obtain ⟨o4, rfl, N4q, K4q, z4, E4q, f4_0, f4_1, f4_2⟩ := q4
  have N4 := Fr.app N2 N4q
  have f5 := (f3.keep K4q)
  have f6 := (E2q.keep K4q)
  have O4 := O2.keep K4q all0
  have R4 := R2.trans (CHr.keep K4q all0 R2.1)
  have K4 := K2.trans K4q all0
  refine own_st (T4.setTop (mkF m 27 #[.val (.int i0), .val (.int i1), .val (.int i2), .val (.int i3), .val (.int i4), .val (.ref a1), .val (.ref a2), .unset] [(.ref o4)])) st4 ?_
  refine own_st (T4.setTop (mkF m 29 #[.val (.int i0), .val (.int i1), .val (.int i2), .val (.int i3), .val (.int i4), .val (.ref a1), .val (.ref a2), .val (.ref o4)] [])) (fun tq kq => XS.astore X4.here hx rfl (hb hby at_27) rfl (by rfl) (l' := #[.val (.int i0), .val (.int i1), .val (.int i2), .val (.int i3), .val (.int i4), .val (.ref a1), .val (.ref a2), .val (.ref o4)]) rfl kq) ?_
  refine own_st (T4.setTop (mkF m 31 #[.val (.int i0), .val (.int i1), .val (.int i2), .val (.int i3), .val (.int i4), .val (.ref a1), .val (.ref a2), .val (.ref o4)] [(.ref o4)])) (fun tq kq => XS.aload X4.here hx rfl (hb hby at_29) rfl (by rfl) kq) ?_
  obtain ⟨v7, T7, L7, X7, q7, st7⟩ := own_callV X4 hx hZ2 hown2 (y := (⟨"com/example/gridclause/gridclause/cli/Option", "name", "()Ljava/lang/String;"⟩ : MethodName)) (z := (⟨"com/example/gridclause/gridclause/cli/Option", "name", "()Ljava/lang/String;"⟩ : MethodName)) (hw _ (List.mem_of_getElem? (i := 50) rfl)) (hw _ (List.mem_of_getElem? (i := 51) rfl)) (notFace_of_selects (args := a0) (hw _ (List.mem_of_getElem? (i := 53) rfl))) (hw _ (List.mem_of_getElem? (i := 53) rfl)) (hw _ (List.mem_of_getElem? (i := 52) rfl)) (hw _ (List.mem_of_getElem? (i := 28) rfl)) (hw _ (List.mem_of_getElem? (i := 54) rfl)) E4q (b := o4) (argsL := []) (own_get_Option_name l Z a0 hw [] o4 a1 T4.heap O4 f4_0) 0 (by decide) (by decide) (by decide) (by decide) (by decide) rfl (g := (mkF m 31 #[.val (.int i0), .val (.int i1), .val (.int i2), .val (.int i3), .val (.int i4), .val (.ref a1), .val (.ref a2), .val (.ref o4)] [(.ref o4)])) rfl (by rw [hml]; rfl) [] (lenOf own_pd__28_29Ljava_2flang_2fString_3b rfl) rfl (by show 2 * 0 + _ ≤ _; exact Nat.le_of_eq rfl) (hb hby at_31)
  obtain ⟨rfl, N7q, e7⟩ := q7
  have N7 := Fr.app N4 N7q
  refine own_st (T7.setTop (mkF m 34 #[.val (.int i0), .val (.int i1), .val (.int i2), .val (.int i3), .val (.int i4), .val (.ref a1), .val (.ref a2), .val (.ref o4)] [(.ref a1)])) st7 ?_
  refine own_st (T7.setTop (mkF m 36 #[.val (.int i0), .val (.int i1), .val (.int i2), .val (.int i3), .val (.int i4), .val (.ref a1), .val (.ref a2), .val (.ref o4)] [(.ref a1), (.ref a1)])) (fun tq kq => XS.aload X7.here hx rfl (hb hby at_34) rfl (by rfl) kq) ?_
  obtain ⟨v8, T8, L8, X8, q8, st8⟩ := own_callV X7 hx hZ2 hown2 (y := (⟨"java/lang/String", "equals", "(Ljava/lang/Object;)Z"⟩ : MethodName)) (z := (⟨"java/lang/String", "equals", "(Ljava/lang/Object;)Z"⟩ : MethodName)) (hw _ (List.mem_of_getElem? (i := 55) rfl)) (hw _ (List.mem_of_getElem? (i := 56) rfl)) (notFace_of_selects (args := a0) (hw _ (List.mem_of_getElem? (i := 58) rfl))) (hw _ (List.mem_of_getElem? (i := 58) rfl)) (hw _ (List.mem_of_getElem? (i := 57) rfl)) (hw _ (List.mem_of_getElem? (i := 6) rfl)) (hw _ (List.mem_of_getElem? (i := 59) rfl)) f5 (b := a1) (argsL := [(.ref a1)]) (own_seqS l Z a0 hw [] a1 T4.heap O4) 0 (by decide) (by decide) (by decide) (by decide) (by decide) e7 (g := (mkF m 36 #[.val (.int i0), .val (.int i1), .val (.int i2), .val (.int i3), .val (.int i4), .val (.ref a1), .val (.ref a2), .val (.ref o4)] [(.ref a1), (.ref a1)])) rfl (by rw [hml]; rfl) [] (lenOf own_pd__28Ljava_2flang_2fObject_3b_29Z rfl) rfl (by show 2 * 0 + _ ≤ _; exact Nat.le_of_eq rfl) (hb hby at_36)
  obtain ⟨rfl, N8q, e8⟩ := q8
  have N8 := Fr.app N7 N8q
  refine own_st (T8.setTop (mkF m 39 #[.val (.int i0), .val (.int i1), .val (.int i2), .val (.int i3), .val (.int i4), .val (.ref a1), .val (.ref a2), .val (.ref o4)] [(.int (1 : Int32))])) st8 ?_
  refine own_st (T8.setTop (mkF m 42 #[.val (.int i0), .val (.int i1), .val (.int i2), .val (.int i3), .val (.int i4), .val (.ref a1), .val (.ref a2), .val (.ref o4)] [])) (fun tq kq => XS.ifNo X8.here hx rfl (hb hby at_39) rfl ((if0 _ _).trans (feq ((by decide) : ¬ ((1 : Int32) = (0 : Int32)))).1) kq) ?_
  refine own_st (T8.setTop (mkF m 44 #[.val (.int i0), .val (.int i1), .val (.int i2), .val (.int i3), .val (.int i4), .val (.ref a1), .val (.ref a2), .val (.ref o4)] [(.ref o4)])) (fun tq kq => XS.aload X8.here hx rfl (hb hby at_42) rfl (by rfl) kq) ?_
  obtain ⟨v9, T9, L9, X9, q9, st9⟩ := own_callV X8 hx hZ2 hown2 (y := (⟨"com/example/gridclause/gridclause/cli/Option", "label", "()Ljava/lang/String;"⟩ : MethodName)) (z := (⟨"com/example/gridclause/gridclause/cli/Option", "label", "()Ljava/lang/String;"⟩ : MethodName)) (hw _ (List.mem_of_getElem? (i := 60) rfl)) (hw _ (List.mem_of_getElem? (i := 61) rfl)) (notFace_of_selects (args := a0) (hw _ (List.mem_of_getElem? (i := 63) rfl))) (hw _ (List.mem_of_getElem? (i := 63) rfl)) (hw _ (List.mem_of_getElem? (i := 62) rfl)) (hw _ (List.mem_of_getElem? (i := 28) rfl)) (hw _ (List.mem_of_getElem? (i := 64) rfl)) E4q (b := o4) (argsL := []) (own_get_Option_label l Z a0 hw [] o4 a2 T4.heap O4 f4_1) 0 (by decide) (by decide) (by decide) (by decide) (by decide) e8 (g := (mkF m 44 #[.val (.int i0), .val (.int i1), .val (.int i2), .val (.int i3), .val (.int i4), .val (.ref a1), .val (.ref a2), .val (.ref o4)] [(.ref o4)])) rfl (by rw [hml]; rfl) [] (lenOf own_pd__28_29Ljava_2flang_2fString_3b rfl) rfl (by show 2 * 0 + _ ≤ _; exact Nat.le_of_eq rfl) (hb hby at_44)
  obtain ⟨rfl, N9q, e9⟩ := q9
  have N9 := Fr.app N8 N9q
  refine own_st (T9.setTop (mkF m 47 #[.val (.int i0), .val (.int i1), .val (.int i2), .val (.int i3), .val (.int i4), .val (.ref a1), .val (.ref a2), .val (.ref o4)] [(.ref a2)])) st9 ?_
  refine own_st (T9.setTop (mkF m 49 #[.val (.int i0), .val (.int i1), .val (.int i2), .val (.int i3), .val (.int i4), .val (.ref a1), .val (.ref a2), .val (.ref o4)] [(.ref a2), (.ref a2)])) (fun tq kq => XS.aload X9.here hx rfl (hb hby at_47) rfl (by rfl) kq) ?_
  obtain ⟨v10, T10, L10, X10, q10, st10⟩ := own_callV X9 hx hZ2 hown2 (y := (⟨"java/lang/String", "equals", "(Ljava/lang/Object;)Z"⟩ : MethodName)) (z := (⟨"java/lang/String", "equals", "(Ljava/lang/Object;)Z"⟩ : MethodName)) (hw _ (List.mem_of_getElem? (i := 55) rfl)) (hw _ (List.mem_of_getElem? (i := 56) rfl)) (notFace_of_selects (args := a0) (hw _ (List.mem_of_getElem? (i := 58) rfl))) (hw _ (List.mem_of_getElem? (i := 58) rfl)) (hw _ (List.mem_of_getElem? (i := 57) rfl)) (hw _ (List.mem_of_getElem? (i := 6) rfl)) (hw _ (List.mem_of_getElem? (i := 59) rfl)) f6 (b := a2) (argsL := [(.ref a2)]) (own_seqS l Z a0 hw [] a2 T4.heap O4) 0 (by decide) (by decide) (by decide) (by decide) (by decide) e9 (g := (mkF m 49 #[.val (.int i0), .val (.int i1), .val (.int i2), .val (.int i3), .val (.int i4), .val (.ref a1), .val (.ref a2), .val (.ref o4)] [(.ref a2), (.ref a2)])) rfl (by rw [hml]; rfl) [] (lenOf own_pd__28Ljava_2flang_2fObject_3b_29Z rfl) rfl (by show 2 * 0 + _ ≤ _; exact Nat.le_of_eq rfl) (hb hby at_49)
  obtain ⟨rfl, N10q, e10⟩ := q10
  have N10 := Fr.app N9 N10q
  refine own_st (T10.setTop (mkF m 52 #[.val (.int i0), .val (.int i1), .val (.int i2), .val (.int i3), .val (.int i4), .val (.ref a1), .val (.ref a2), .val (.ref o4)] [(.int (1 : Int32))])) st10 ?_
  refine own_st (T10.setTop (mkF m 55 #[.val (.int i0), .val (.int i1), .val (.int i2), .val (.int i3), .val (.int i4), .val (.ref a1), .val (.ref a2), .val (.ref o4)] [])) (fun tq kq => XS.ifNo X10.here hx rfl (hb hby at_52) rfl ((if0 _ _).trans (feq ((by decide) : ¬ ((1 : Int32) = (0 : Int32)))).1) kq) ?_
  refine own_st (T10.setTop (mkF m 57 #[.val (.int i0), .val (.int i1), .val (.int i2), .val (.int i3), .val (.int i4), .val (.ref a1), .val (.ref a2), .val (.ref o4)] [(.ref o4)])) (fun tq kq => XS.aload X10.here hx rfl (hb hby at_55) rfl (by rfl) kq) ?_
  obtain ⟨v11, T11, L11, X11, q11, st11⟩ := own_callV X10 hx hZ2 hown2 (y := (⟨"com/example/gridclause/gridclause/cli/Option", "use", "()Lcom/example/gridclause/gridclause/cli/Option$Use;"⟩ : MethodName)) (z := (⟨"com/example/gridclause/gridclause/cli/Option", "use", "()Lcom/example/gridclause/gridclause/cli/Option$Use;"⟩ : MethodName)) (hw _ (List.mem_of_getElem? (i := 65) rfl)) (hw _ (List.mem_of_getElem? (i := 66) rfl)) (notFace_of_selects (args := a0) (hw _ (List.mem_of_getElem? (i := 68) rfl))) (hw _ (List.mem_of_getElem? (i := 68) rfl)) (hw _ (List.mem_of_getElem? (i := 67) rfl)) (hw _ (List.mem_of_getElem? (i := 28) rfl)) (hw _ (List.mem_of_getElem? (i := 69) rfl)) E4q (b := o4) (argsL := []) (own_get_Option_use l Z a0 hw [] o4 u0 T4.heap O4 f4_2) 0 (by decide) (by decide) (by decide) (by decide) (by decide) e10 (g := (mkF m 57 #[.val (.int i0), .val (.int i1), .val (.int i2), .val (.int i3), .val (.int i4), .val (.ref a1), .val (.ref a2), .val (.ref o4)] [(.ref o4)])) rfl (by rw [hml]; rfl) [] (lenOf own_pd__28_29Lcom_2fexample_2fgridclause_2fgridclause_2fcli_2fOption_24Use_3b rfl) rfl (by show 2 * 0 + _ ≤ _; exact Nat.le_of_eq rfl) (hb hby at_57)
  obtain ⟨rfl, N11q, e11⟩ := q11
  have N11 := Fr.app N10 N11q
  refine own_st (T11.setTop (mkF m 60 #[.val (.int i0), .val (.int i1), .val (.int i2), .val (.int i3), .val (.int i4), .val (.ref a1), .val (.ref a2), .val (.ref o4)] [(.ref u0)])) st11 ?_
  obtain ⟨T12, X12, e12, st12⟩ := getS2 X11 hx hZ2 hown2 (host := "") (Or.inl (hw _ (List.mem_of_getElem? (i := 70) rfl))) Via.refl e11 (SU0.ext O4.2) (g := (mkF m 60 #[.val (.int i0), .val (.int i1), .val (.int i2), .val (.int i3), .val (.int i4), .val (.ref a1), .val (.ref a2), .val (.ref o4)] [(.ref u0)])) rfl (hb hby at_60)
  refine own_st (T12.setTop (mkF m 63 #[.val (.int i0), .val (.int i1), .val (.int i2), .val (.int i3), .val (.int i4), .val (.ref a1), .val (.ref a2), .val (.ref o4)] [(.ref u0), (.ref u0)])) st12 ?_
  refine own_st (T12.setTop (mkF m 66 #[.val (.int i0), .val (.int i1), .val (.int i2), .val (.int i3), .val (.int i4), .val (.ref a1), .val (.ref a2), .val (.ref o4)] [])) (fun tq kq => Jvm.RoadKit.acmp (g := (mkF m 63 #[.val (.int i0), .val (.int i1), .val (.int i2), .val (.int i3), .val (.int i4), .val (.ref a1), .val (.ref a2), .val (.ref o4)] [(.ref u0), (.ref u0)])) X12 hx rfl (by rfl) (by rfl) (pc0 := 63) (pc' := 66) (same := true) rfl (hb hby at_63) rfl (decide_eq_true (congrArg Value.ref (rfl : u0 = u0))) (by decide) (by decide) kq) ?_
  refine own_st (T12.setTop (mkF m 68 #[.val (.int i0), .val (.int i1), .val (.int i2), .val (.int i3), .val (.int i4), .val (.ref a1), .val (.ref a2), .val (.ref o4)] [(.ref o4)])) (fun tq kq => XS.aload X12.here hx rfl (hb hby at_66) rfl (by rfl) kq) ?_
  obtain ⟨v13, T13, L13, X13, q13, st13⟩ := own_callV X12 hx hZ2 hown2 (y := (⟨"com/example/gridclause/gridclause/cli/Option", "use", "()Lcom/example/gridclause/gridclause/cli/Option$Use;"⟩ : MethodName)) (z := (⟨"com/example/gridclause/gridclause/cli/Option", "use", "()Lcom/example/gridclause/gridclause/cli/Option$Use;"⟩ : MethodName)) (hw _ (List.mem_of_getElem? (i := 65) rfl)) (hw _ (List.mem_of_getElem? (i := 66) rfl)) (notFace_of_selects (args := a0) (hw _ (List.mem_of_getElem? (i := 68) rfl))) (hw _ (List.mem_of_getElem? (i := 68) rfl)) (hw _ (List.mem_of_getElem? (i := 67) rfl)) (hw _ (List.mem_of_getElem? (i := 28) rfl)) (hw _ (List.mem_of_getElem? (i := 69) rfl)) E4q (b := o4) (argsL := []) (own_get_Option_use l Z a0 hw [] o4 u0 T4.heap O4 f4_2) 0 (by decide) (by decide) (by decide) (by decide) (by decide) e12 (g := (mkF m 68 #[.val (.int i0), .val (.int i1), .val (.int i2), .val (.int i3), .val (.int i4), .val (.ref a1), .val (.ref a2), .val (.ref o4)] [(.ref o4)])) rfl (by rw [hml]; rfl) [] (lenOf own_pd__28_29Lcom_2fexample_2fgridclause_2fgridclause_2fcli_2fOption_24Use_3b rfl) rfl (by show 2 * 0 + _ ≤ _; exact Nat.le_of_eq rfl) (hb hby at_68)
  obtain ⟨rfl, N13q, e13⟩ := q13
  have N13 := Fr.app N11 N13q
  refine own_st (T13.setTop (mkF m 71 #[.val (.int i0), .val (.int i1), .val (.int i2), .val (.int i3), .val (.int i4), .val (.ref a1), .val (.ref a2), .val (.ref o4)] [(.ref u0)])) st13 ?_
  obtain ⟨T14, X14, e14, st14⟩ := getS2 X13 hx hZ2 hown2 (host := "") (Or.inl (hw _ (List.mem_of_getElem? (i := 71) rfl))) Via.refl e13 (SU1.ext O4.2) (g := (mkF m 71 #[.val (.int i0), .val (.int i1), .val (.int i2), .val (.int i3), .val (.int i4), .val (.ref a1), .val (.ref a2), .val (.ref o4)] [(.ref u0)])) rfl (hb hby at_71)
  refine own_st (T14.setTop (mkF m 74 #[.val (.int i0), .val (.int i1), .val (.int i2), .val (.int i3), .val (.int i4), .val (.ref a1), .val (.ref a2), .val (.ref o4)] [(.ref u1), (.ref u0)])) st14 ?_
  refine own_st (T14.setTop (mkF m 77 #[.val (.int i0), .val (.int i1), .val (.int i2), .val (.int i3), .val (.int i4), .val (.ref a1), .val (.ref a2), .val (.ref o4)] [])) (fun tq kq => Jvm.RoadKit.acmp (g := (mkF m 74 #[.val (.int i0), .val (.int i1), .val (.int i2), .val (.int i3), .val (.int i4), .val (.ref a1), .val (.ref a2), .val (.ref o4)] [(.ref u1), (.ref u0)])) X14 hx rfl (by rfl) (by rfl) (pc0 := 74) (pc' := 77) (same := false) rfl (hb hby at_74) rfl (decide_eq_false (fun q => (n1 : ¬ (u0 = u1)) (Value.ref.inj q))) (by decide) (by decide) kq) ?_
  refine own_st (T14.setTop (mkF m 79 #[.val (.int i0), .val (.int i1), .val (.int i2), .val (.int i3), .val (.int i4), .val (.ref a1), .val (.ref a2), .val (.ref o4)] [(.ref o4)])) (fun tq kq => XS.aload X14.here hx rfl (hb hby at_77) rfl (by rfl) kq) ?_
  obtain ⟨v15, T15, L15, X15, q15, st15⟩ := own_callV X14 hx hZ2 hown2 (y := (⟨"com/example/gridclause/gridclause/cli/Option", "use", "()Lcom/example/gridclause/gridclause/cli/Option$Use;"⟩ : MethodName)) (z := (⟨"com/example/gridclause/gridclause/cli/Option", "use", "()Lcom/example/gridclause/gridclause/cli/Option$Use;"⟩ : MethodName)) (hw _ (List.mem_of_getElem? (i := 65) rfl)) (hw _ (List.mem_of_getElem? (i := 66) rfl)) (notFace_of_selects (args := a0) (hw _ (List.mem_of_getElem? (i := 68) rfl))) (hw _ (List.mem_of_getElem? (i := 68) rfl)) (hw _ (List.mem_of_getElem? (i := 67) rfl)) (hw _ (List.mem_of_getElem? (i := 28) rfl)) (hw _ (List.mem_of_getElem? (i := 69) rfl)) E4q (b := o4) (argsL := []) (own_get_Option_use l Z a0 hw [] o4 u0 T4.heap O4 f4_2) 0 (by decide) (by decide) (by decide) (by decide) (by decide) e14 (g := (mkF m 79 #[.val (.int i0), .val (.int i1), .val (.int i2), .val (.int i3), .val (.int i4), .val (.ref a1), .val (.ref a2), .val (.ref o4)] [(.ref o4)])) rfl (by rw [hml]; rfl) [] (lenOf own_pd__28_29Lcom_2fexample_2fgridclause_2fgridclause_2fcli_2fOption_24Use_3b rfl) rfl (by show 2 * 0 + _ ≤ _; exact Nat.le_of_eq rfl) (hb hby at_79)
  obtain ⟨rfl, N15q, e15⟩ := q15
  have N15 := Fr.app N13 N15q
  refine own_st (T15.setTop (mkF m 82 #[.val (.int i0), .val (.int i1), .val (.int i2), .val (.int i3), .val (.int i4), .val (.ref a1), .val (.ref a2), .val (.ref o4)] [(.ref u0)])) st15 ?_
  obtain ⟨T16, X16, e16, st16⟩ := getS2 X15 hx hZ2 hown2 (host := "") (Or.inl (hw _ (List.mem_of_getElem? (i := 73) rfl))) Via.refl e15 (SU2.ext O4.2) (g := (mkF m 82 #[.val (.int i0), .val (.int i1), .val (.int i2), .val (.int i3), .val (.int i4), .val (.ref a1), .val (.ref a2), .val (.ref o4)] [(.ref u0)])) rfl (hb hby at_82)
  refine own_st (T16.setTop (mkF m 85 #[.val (.int i0), .val (.int i1), .val (.int i2), .val (.int i3), .val (.int i4), .val (.ref a1), .val (.ref a2), .val (.ref o4)] [(.ref u2), (.ref u0)])) st16 ?_
  refine own_st (T16.setTop (mkF m 88 #[.val (.int i0), .val (.int i1), .val (.int i2), .val (.int i3), .val (.int i4), .val (.ref a1), .val (.ref a2), .val (.ref o4)] [])) (fun tq kq => Jvm.RoadKit.acmp (g := (mkF m 85 #[.val (.int i0), .val (.int i1), .val (.int i2), .val (.int i3), .val (.int i4), .val (.ref a1), .val (.ref a2), .val (.ref o4)] [(.ref u2), (.ref u0)])) X16 hx rfl (by rfl) (by rfl) (pc0 := 85) (pc' := 88) (same := false) rfl (hb hby at_85) rfl (decide_eq_false (fun q => (n2 : ¬ (u0 = u2)) (Value.ref.inj q))) (by decide) (by decide) kq) ?_
  refine own_st (T16.setTop (mkF m 90 #[.val (.int i0), .val (.int i1), .val (.int i2), .val (.int i3), .val (.int i4), .val (.ref a1), .val (.ref a2), .val (.ref o4)] [(.ref o4)])) (fun tq kq => XS.aload X16.here hx rfl (hb hby at_88) rfl (by rfl) kq) ?_
  obtain ⟨v17, T17, L17, X17, q17, st17⟩ := own_callV X16 hx hZ2 hown2 (y := (⟨"com/example/gridclause/gridclause/cli/Option", "use", "()Lcom/example/gridclause/gridclause/cli/Option$Use;"⟩ : MethodName)) (z := (⟨"com/example/gridclause/gridclause/cli/Option", "use", "()Lcom/example/gridclause/gridclause/cli/Option$Use;"⟩ : MethodName)) (hw _ (List.mem_of_getElem? (i := 65) rfl)) (hw _ (List.mem_of_getElem? (i := 66) rfl)) (notFace_of_selects (args := a0) (hw _ (List.mem_of_getElem? (i := 68) rfl))) (hw _ (List.mem_of_getElem? (i := 68) rfl)) (hw _ (List.mem_of_getElem? (i := 67) rfl)) (hw _ (List.mem_of_getElem? (i := 28) rfl)) (hw _ (List.mem_of_getElem? (i := 69) rfl)) E4q (b := o4) (argsL := []) (own_get_Option_use l Z a0 hw [] o4 u0 T4.heap O4 f4_2) 0 (by decide) (by decide) (by decide) (by decide) (by decide) e16 (g := (mkF m 90 #[.val (.int i0), .val (.int i1), .val (.int i2), .val (.int i3), .val (.int i4), .val (.ref a1), .val (.ref a2), .val (.ref o4)] [(.ref o4)])) rfl (by rw [hml]; rfl) [] (lenOf own_pd__28_29Lcom_2fexample_2fgridclause_2fgridclause_2fcli_2fOption_24Use_3b rfl) rfl (by show 2 * 0 + _ ≤ _; exact Nat.le_of_eq rfl) (hb hby at_90)
  obtain ⟨rfl, N17q, e17⟩ := q17
  have N17 := Fr.app N15 N17q
  refine own_st (T17.setTop (mkF m 93 #[.val (.int i0), .val (.int i1), .val (.int i2), .val (.int i3), .val (.int i4), .val (.ref a1), .val (.ref a2), .val (.ref o4)] [(.ref u0)])) st17 ?_
  obtain ⟨T18, X18, e18, st18⟩ := getS2 X17 hx hZ2 hown2 (host := "") (Or.inl (hw _ (List.mem_of_getElem? (i := 75) rfl))) Via.refl e17 (SU3.ext O4.2) (g := (mkF m 93 #[.val (.int i0), .val (.int i1), .val (.int i2), .val (.int i3), .val (.int i4), .val (.ref a1), .val (.ref a2), .val (.ref o4)] [(.ref u0)])) rfl (hb hby at_93)
  refine own_st (T18.setTop (mkF m 96 #[.val (.int i0), .val (.int i1), .val (.int i2), .val (.int i3), .val (.int i4), .val (.ref a1), .val (.ref a2), .val (.ref o4)] [(.ref u3), (.ref u0)])) st18 ?_
  refine own_st (T18.setTop (mkF m 99 #[.val (.int i0), .val (.int i1), .val (.int i2), .val (.int i3), .val (.int i4), .val (.ref a1), .val (.ref a2), .val (.ref o4)] [])) (fun tq kq => Jvm.RoadKit.acmp (g := (mkF m 96 #[.val (.int i0), .val (.int i1), .val (.int i2), .val (.int i3), .val (.int i4), .val (.ref a1), .val (.ref a2), .val (.ref o4)] [(.ref u3), (.ref u0)])) X18 hx rfl (by rfl) (by rfl) (pc0 := 96) (pc' := 99) (same := false) rfl (hb hby at_96) rfl (decide_eq_false (fun q => (n3 : ¬ (u0 = u3)) (Value.ref.inj q))) (by decide) (by decide) kq) ?_
  refine own_st (T18.setTop (mkF m 100 #[.val (.int i0), .val (.int i1), .val (.int i2), .val (.int i3), .val (.int i4), .val (.ref a1), .val (.ref a2), .val (.ref o4)] [(.int (1 : Int32))])) (fun tq kq => XS.iconst X18.here hx rfl (hb hby at_99) kq) ?_
  refine own_st (T18.setTop (mkF m 104 #[.val (.int i0), .val (.int i1), .val (.int i2), .val (.int i3), .val (.int i4), .val (.ref a1), .val (.ref a2), .val (.ref o4)] [(.int (1 : Int32))])) (fun tq kq => XS.goto X18.here hx rfl (pc0 := 100) (pc' := 104) rfl (hb hby at_100) (by decide) (by decide) kq) ?_
  exact own_retW X18 hlk hS2 (Nat.le_trans (Nat.le_refl _) K4q.1) hZ2 hEL R4 (v := some (.int (1 : Int32))) (fun h => by rw [hret] at h; cases h) e18 (fun vm1 C1 => ⟨rfl, N17⟩) (by decide) (by decide) (fun fs hr => own_retN X18 hx (t := .boolean) hret (by simp) (hb hby at_104) rfl hr)
set_option maxRecDepth 65536 in
set_option maxHeartbeats 40000000 in
theorem comes_1 {Post : Tables → Env → Array Value → State → Outcome → State → Prop} (hpost : ∀ tb e args s v u, (limb_1_1.after args s (.returned v) u = true ∧ limb_1_2.after args s (.returned v) u = true ∧ True) → ReturnedEndW s (.returned v) u (Jvm.fieldLocs frame_1_writes args s ++ Jvm.arrayLocs frame_1_arrays args s ++ Jvm.staticLocs frame_1_statics s) 24 1152 → Post tb e args s (.returned v) u) :
    ArmFor flags0 classFile x code maxLocals ret World_1 tables_1 room_1 Calls_1 rest_1 Pre_1 Post := by
  intro l hfl _ _ p e ha hc hk s m args below hf hA hF happ hP
  obtain ⟨hcalls, hrest, hpre⟩ := hP
  obtain ⟨-, -, -, hnamed, -, -, -, hat⟩ := (Spec.applies_iff hf).mp happ
  obtain ⟨hg, hn⟩ := and_e (Cond.before_iff.mp (show (Jvm.Cond.and given_1 narrow_1).before args s = true from hpre))
  obtain ⟨g1, g2⟩ := and_e hg
  obtain ⟨g3, g4⟩ := and_e g2
  obtain ⟨g5, g6⟩ := and_e g4
  obtain ⟨g7, g8⟩ := and_e g6
  obtain ⟨g9, g10⟩ := and_e g8
  obtain ⟨g11, g12⟩ := and_e hn
  obtain ⟨g13, g14⟩ := and_e g12
  obtain ⟨g15, g16⟩ := and_e g14
  obtain ⟨g17, g18⟩ := and_e g16
  obtain ⟨g19, g20⟩ := and_e g18
  obtain ⟨g21, g22⟩ := and_e g20
  obtain ⟨g23, g24⟩ := and_e g22
  obtain ⟨w0, w1, w2, w3, w4, rfl⟩ : ∃ w0 w1 w2 w3 w4 : Value, args = #[w0, w1, w2, w3, w4] := by
    have hs : args.size = 5 := by simpa [Cond.value, given_1] using g1
    obtain ⟨L⟩ := args
    match L, hs with
    | [w0, w1, w2, w3, w4], _ => exact ⟨w0, w1, w2, w3, w4, rfl⟩
  have hw := fun d (hd : d ∈ tables_1) => atoms_spec (ws := Jvm.Cond.code x code maxLocals ret :: tables_1) hat d (List.mem_cons_of_mem _ hd)
  have hfit : Fit s := fun {y c} hc i hi => by
    obtain ⟨ha, rfl⟩ := Array.getElem?_eq_some_iff.mp hc
    have q := List.all_eq_true.mp ((Array.all_eq_true_iff_forall_mem.mp hF) _ (Array.getElem_mem ha)) i (List.mem_range.mpr hi)
    simpa [Array.getElem?_eq_getElem hi] using q
  obtain ⟨hsets, hown0⟩ := atoms_of _ (rest_1_c_eq ▸ (show rest_1_c.before _ s = true from hrest))
  have hr0 := Cond.before_iff.mp hown0
  obtain ⟨i0, ei0⟩ := is_v g3
  obtain rfl : w0 = (.int i0) := Option.some.inj ei0
  obtain ⟨i1, ei1⟩ := is_v g5
  obtain rfl : w1 = (.int i1) := Option.some.inj ei1
  obtain ⟨i2, ei2⟩ := is_v g7
  obtain rfl : w2 = (.int i2) := Option.some.inj ei2
  obtain ⟨i3, ei3⟩ := is_v g9
  obtain rfl : w3 = (.int i3) := Option.some.inj ei3
  obtain ⟨i4, ei4⟩ := is_v g10
  obtain rfl : w4 = (.int i4) := Option.some.inj ei4
  obtain ⟨sa25, se26⟩ := exa_v g11
  have E27 : Exa s s.heap sa25 "com/example/gridclause/gridclause/cli/Option$Use" := Exa.start se26 g11
  have S28 : Sta s s.heap "com/example/gridclause/gridclause/cli/Option$Use" "ALONE" "Lcom/example/gridclause/gridclause/cli/Option$Use;" (.ref sa25) := Sta.start se26 (Or.inr ⟨(hw _ (List.mem_of_getElem? (i := 33) rfl)), (hw _ (List.mem_of_getElem? (i := 34) rfl))⟩)
  obtain ⟨sa29, se30⟩ := exa_v g13
  have E31 : Exa s s.heap sa29 "com/example/gridclause/gridclause/cli/Option$Use" := Exa.start se30 g13
  have S32 : Sta s s.heap "com/example/gridclause/gridclause/cli/Option$Use" "REQUIRED" "Lcom/example/gridclause/gridclause/cli/Option$Use;" (.ref sa29) := Sta.start se30 (Or.inr ⟨(hw _ (List.mem_of_getElem? (i := 33) rfl)), (hw _ (List.mem_of_getElem? (i := 72) rfl))⟩)
  have se33 := own_eqI g15 (Term.int_eval _)
  have F34 : Fld s s.heap sa25 "java/lang/Enum" "ordinal" "I" (.int (3 : Int32)) := Fld.start ((fld_at se26).symm.trans se33)
  have se35 := own_eqI g17 (Term.int_eval _)
  have F36 : Fld s s.heap sa29 "java/lang/Enum" "ordinal" "I" (.int (0 : Int32)) := Fld.start ((fld_at se30).symm.trans se35)
  obtain ⟨sa37, se38⟩ := exa_v g19
  have E39 : Exa s s.heap sa37 "com/example/gridclause/gridclause/cli/Option$Use" := Exa.start se38 g19
  have S40 : Sta s s.heap "com/example/gridclause/gridclause/cli/Option$Use" "OPTIONAL" "Lcom/example/gridclause/gridclause/cli/Option$Use;" (.ref sa37) := Sta.start se38 (Or.inr ⟨(hw _ (List.mem_of_getElem? (i := 33) rfl)), (hw _ (List.mem_of_getElem? (i := 74) rfl))⟩)
  have se41 := own_eqI g21 (Term.int_eval _)
  have F42 : Fld s s.heap sa37 "java/lang/Enum" "ordinal" "I" (.int (1 : Int32)) := Fld.start ((fld_at se38).symm.trans se41)
  obtain ⟨sa43, se44⟩ := exa_v g23
  have E45 : Exa s s.heap sa43 "com/example/gridclause/gridclause/cli/Option$Use" := Exa.start se44 g23
  have S46 : Sta s s.heap "com/example/gridclause/gridclause/cli/Option$Use" "REPEATABLE" "Lcom/example/gridclause/gridclause/cli/Option$Use;" (.ref sa43) := Sta.start se44 (Or.inr ⟨(hw _ (List.mem_of_getElem? (i := 33) rfl)), (hw _ (List.mem_of_getElem? (i := 76) rfl))⟩)
  have se47 := own_eqI g24 (Term.int_eval _)
  have F48 : Fld s s.heap sa43 "java/lang/Enum" "ordinal" "I" (.int (2 : Int32)) := Fld.start ((fld_at se44).symm.trans se47)
  obtain ⟨cz, ecz⟩ := is_v (Cond.before_iff.mp (hsets _ (List.mem_of_getElem? (i := 1) rfl)))
  have SC : Sta s s.heap "java/lang/String" "COMPACT_STRINGS" "Z" (.int cz) := Sta.start ecz (Or.inl (Cond.before_iff.mpr (Cond.before_iff.mp (hsets _ (List.mem_of_getElem? (i := 0) rfl)))))
  have hcz : ¬ (cz = (0 : Int32)) := gotF (Cond.eq_ints ecz (Term.int_eval (0))) (not_v (Cond.before_iff.mp (hsets _ (List.mem_of_getElem? (i := 2) rfl))))
  have hheld : ∀ p ∈ own_EL, Jvm.Lit.constHeld s p.1 p.2 := fun p hp => hcalls.1 p hp
  have hCH : CHv s own_EL s.vm s.heap := CHv.start (own_hEL hw) hheld (Cond.before_iff.mpr (Cond.before_iff.mp (hsets _ (List.mem_of_getElem? (i := 2) rfl)))) (hw _ (List.mem_of_getElem? (i := 19) rfl)) (hw _ (List.mem_of_getElem? (i := 5) rfl))
  obtain ⟨n, o, h1, h2, h3, _, L, rfl, ⟨rfl, N⟩, -, hq⟩ := own_law l s _ hw tables_1 cz i0 i1 i2 i3 i4 sa25 sa29 sa37 sa43 s.heap (Old.start s) SC hcz S28 S32 S40 S46 (Fld.ne F34 F36 (by decide)) (Fld.ne F34 F42 (by decide)) (Fld.ne F34 F48 (by decide)) p e ha hc hk s m _ below hf ((Spec.applies_iff_loose hf).mp happ).1 ⟨rfl, State.Warmed39.refl s, rfl, hCH, all0⟩ trivial
  refine ⟨n, _, h1, h2, h3, hpost _ _ _ _ _ _ ⟨Cond.after_iff.mpr rfl, Cond.after_iff.mpr (eq_i res_at (Term.int_eval (1)) rfl), trivial⟩ ⟨hq.1, hq.2.1, hq.2.2.1, (hq.2.2.2.sift fun y hy => Or.inr (N y hy)).mono (by decide) (by decide)⟩⟩
theorem main_1_1 : Claimed_1_1 := comes_1 fun _ _ _ _ _ _ h hF => ⟨h.1, hF⟩
theorem main_1_2 : Claimed_1_2 := comes_1 fun _ _ _ _ _ _ h hF => ⟨h.2.1, hF⟩
end Jvm.Pilot.@@N@@
namespace Jvm.Pilot.@@N@@
open Jvm Jvm.ClassFile Sem Op Lib Jvm.Free Jvm.Stand Jvm.Pilot.@@N@@.Jvm.D
/-! MADE BY PROGRAM (witnessworld.py) out of the Statement's table words and the real class files: 23 classes; the members and pool entries that the words name. The judged class is class 1, her method 2. -/
namespace start1
open Jvm.ClassFile
def u (s : String) : CpInfo := .utf8 (stringToUtf16 s)
/-- a pool by its gaps: so many unusable entries, then the entry; so many at the end -/
def gap : Nat → List CpInfo → List CpInfo
  | 0, r => r
  | n + 1, r => .unusable :: gap n r
def poolList (es : List (Nat × CpInfo)) (last : Nat) : List CpInfo := es.foldr (fun e r => gap e.1 (e.2 :: r)) (gap last [])
def pool (es : List (Nat × CpInfo)) (last : Nat) : Array CpInfo := ⟨poolList es last⟩
def fileOf (pool : Array CpInfo) (this : Nat) (attrs : Array Attribute := #[]) (ms : Array MethodInfo := #[]) (fl : Nat := 33) (sup : Nat := 0) (ifs : Array Nat := #[]) (fds : Array FieldInfo := #[]) : ClassFile where
  minorVersion := 0
  majorVersion := 65
  constantPool := pool
  accessFlags := fl
  thisClass := this
  superClass := sup
  interfaces := ifs
  fields := fds
  methods := ms
  attributes := attrs
def plain (name : String) (sup : Option ClassId) : Class where
  name := name
  kind := .ordinary
  loader := none
  accessFlags := 33
  super := sup
  interfaces := #[]
  cf := none
  fields := #[]
  methods := #[]
  instanceTypes := #[]
  staticTypes := #[]
  resolved := #[]
  callSites := []
  init := .initialized
  statics := none
  mirror := none

def pool0 : Array CpInfo := pool [(5, u "<init>"), (0, u "()V"), (1, .class_ 10), (1, u "java/lang/Object")] 113

def k0c0 : Code := { maxStack := 0, maxLocals := 1, code := object_method_1_code, exceptionTable := #[], attributes := #[] }
def k0m0 : Method := { name := "<init>", desc := "()V", sig := { parameters := [], returnType := none }, accessFlags := 1, code := some k0c0 }
/-- java/lang/Object -/
def k0 : Class := { plain "java/lang/Object" none with
  accessFlags := 33
  interfaces := #[]
  cf := some (fileOf pool0 8 #[] #[{ accessFlags := 1, nameIndex := 5, descriptorIndex := 6, attributes := #[] }] 33 0 #[] #[])
  fields := #[]
  methods := #[k0m0]
  instanceTypes := #[]
  staticTypes := #[]
  resolved := Array.replicate 124 none
  statics := none }

def pool1 : Array CpInfo := pool [(2, .class_ 4), (1, u "java/lang/Object"), (0, u "<init>"), (0, u "()V"), (0, .class_ 8), (0, u "java/lang/String"), (0, .methodref 7 10), (0, .nameAndType 5 11), (0, u "([C)V"), (0, .methodref 7 13), (0, .nameAndType 14 15), (0, u "valueOf"), (0, u "(C)Ljava/lang/String;"), (0, .methodref 17 18), (0, .class_ 19), (0, .nameAndType 20 21), (0, u "com/example/gridclause/gridclause/cli/OptionAlonePinLaw"), (0, u "draw"), (0, u "(III)Ljava/lang/String;"), (0, .methodref 23 24), (0, .class_ 25), (0, .nameAndType 26 27), (0, u "com/example/gridclause/gridclause/cli/Option"), (0, u "alone"), (0, u "(Ljava/lang/String;Ljava/lang/String;)Lcom/example/gridclause/gridclause/cli/Option;"), (0, .methodref 23 29), (0, .nameAndType 30 31), (0, u "name"), (0, u "()Ljava/lang/String;"), (0, .methodref 7 33), (0, .nameAndType 34 35), (0, u "equals"), (0, u "(Ljava/lang/Object;)Z"), (0, .methodref 23 37), (0, .nameAndType 38 31), (0, u "label"), (0, .methodref 23 40), (0, .nameAndType 41 42), (0, u "use"), (0, u "()Lcom/example/gridclause/gridclause/cli/Option$Use;"), (0, .fieldref 44 45), (0, .class_ 46), (0, .nameAndType 47 48), (0, u "com/example/gridclause/gridclause/cli/Option$Use"), (0, u "ALONE"), (0, u "Lcom/example/gridclause/gridclause/cli/Option$Use;"), (0, .fieldref 44 50), (0, .nameAndType 51 48), (0, u "REQUIRED"), (0, .fieldref 44 53), (0, .nameAndType 54 48), (0, u "OPTIONAL"), (0, .fieldref 44 56), (0, .nameAndType 57 48), (0, u "REPEATABLE"), (3, u "law"), (0, u "(IIIII)Z")] 4

def k1m0 : Method := { name := "<init>", desc := "()V", sig := { parameters := [], returnType := none }, accessFlags := 1, code := none }
def k1c1 : Code := { maxStack := 4, maxLocals := 5, code := method_2_code, exceptionTable := #[], attributes := #[] }
def k1m1 : Method := { name := "draw", desc := "(III)Ljava/lang/String;", sig := { parameters := [.int, .int, .int], returnType := some (.object "java/lang/String") }, accessFlags := 10, code := some k1c1 }
def k1c2 : Code := { maxStack := 4, maxLocals := 8, code := code, exceptionTable := #[], attributes := #[] }
def k1m2 : Method := { name := "law", desc := "(IIIII)Z", sig := { parameters := [.int, .int, .int, .int, .int], returnType := some .boolean }, accessFlags := 9, code := some k1c2 }
/-- com/example/gridclause/gridclause/cli/OptionAlonePinLaw -/
def k1 : Class := { plain "com/example/gridclause/gridclause/cli/OptionAlonePinLaw" (some 0) with
  accessFlags := 49
  interfaces := #[]
  cf := some (fileOf pool1 17 #[] #[{ accessFlags := 1, nameIndex := 5, descriptorIndex := 6, attributes := #[] }, { accessFlags := 10, nameIndex := 20, descriptorIndex := 21, attributes := #[] }, { accessFlags := 9, nameIndex := 61, descriptorIndex := 62, attributes := #[] }] 49 2 #[] #[])
  fields := #[]
  methods := #[k1m0, k1m1, k1m2]
  instanceTypes := #[]
  staticTypes := #[]
  resolved := Array.replicate 67 none
  statics := none }

def pool2 : Array CpInfo := pool [(1, .class_ 2), (0, u "java/io/Serializable"), (0, .class_ 4), (0, u "java/lang/Object")] 2

/-- java/io/Serializable -/
def k2 : Class := { plain "java/io/Serializable" (some 0) with
  accessFlags := 1537
  interfaces := #[]
  cf := some (fileOf pool2 1 #[] #[] 1537 3 #[] #[])
  fields := #[]
  methods := #[]
  instanceTypes := #[]
  staticTypes := #[]
  resolved := Array.replicate 7 none
  statics := none }

def pool3 : Array CpInfo := pool [(1, .class_ 2), (0, u "java/lang/Comparable"), (0, .class_ 4), (0, u "java/lang/Object")] 7

/-- java/lang/Comparable -/
def k3 : Class := { plain "java/lang/Comparable" (some 0) with
  accessFlags := 1537
  interfaces := #[]
  cf := some (fileOf pool3 1 #[] #[] 1537 3 #[] #[])
  fields := #[]
  methods := #[]
  instanceTypes := #[]
  staticTypes := #[]
  resolved := Array.replicate 12 none
  statics := none }

def pool4 : Array CpInfo := pool [(2, .class_ 4), (1, u "java/lang/CharSequence"), (42, .class_ 48), (0, u "java/lang/CharSequence$1CodePointIterator"), (10, .class_ 60), (0, u "java/lang/CharSequence$1CharIterator"), (5, .class_ 67), (0, u "java/lang/Object")] 63

/-- java/lang/CharSequence -/
def k4 : Class := { plain "java/lang/CharSequence" (some 0) with
  accessFlags := 1537
  interfaces := #[]
  cf := some (fileOf pool4 2 #[.nestMembers #[47, 59]] #[] 1537 66 #[] #[])
  fields := #[]
  methods := #[]
  instanceTypes := #[]
  staticTypes := #[]
  resolved := Array.replicate 131 none
  statics := none }

def pool5 : Array CpInfo := pool [(1, .class_ 2), (0, u "java/lang/constant/Constable"), (0, .class_ 4), (0, u "java/lang/Object")] 6

/-- java/lang/constant/Constable -/
def k5 : Class := { plain "java/lang/constant/Constable" (some 0) with
  accessFlags := 1537
  interfaces := #[]
  cf := some (fileOf pool5 1 #[] #[] 1537 3 #[] #[])
  fields := #[]
  methods := #[]
  instanceTypes := #[]
  staticTypes := #[]
  resolved := Array.replicate 11 none
  statics := none }

def pool6 : Array CpInfo := pool [(1, .class_ 2), (0, u "java/lang/constant/ConstantDesc"), (0, .class_ 4), (0, u "java/lang/Object")] 32

/-- java/lang/constant/ConstantDesc -/
def k6 : Class := { plain "java/lang/constant/ConstantDesc" (some 0) with
  accessFlags := 1537
  interfaces := #[]
  cf := some (fileOf pool6 1 #[] #[] 1537 3 #[] #[])
  fields := #[]
  methods := #[]
  instanceTypes := #[]
  staticTypes := #[]
  resolved := Array.replicate 37 none
  statics := none }

def pool7 : Array CpInfo := pool [(1, .methodref 2 3), (0, .class_ 4), (0, .nameAndType 5 6), (0, u "java/lang/Object"), (0, u "<init>"), (0, u "()V"), (0, .string 8), (0, u ""), (0, .fieldref 10 11), (0, .class_ 12), (0, .nameAndType 13 14), (0, u "java/lang/String"), (0, u "value"), (0, u "[B"), (0, .fieldref 10 16), (0, .nameAndType 17 18), (0, u "coder"), (0, u "B"), (2, u "hash"), (0, u "I"), (2, u "hashIsZero"), (0, u "Z"), (0, .methodref 10 28), (0, .nameAndType 5 29), (0, u "([CIILjava/lang/Void;)V"), (8, .fieldref 10 39), (0, .nameAndType 40 26), (0, u "COMPACT_STRINGS"), (1, .class_ 44), (1, u "java/lang/StringUTF16"), (0, u "compress"), (1, .methodref 42 48), (0, .nameAndType 49 50), (0, u "coderFromArrayLen"), (0, u "([BI)B"), (2, u "toBytes"), (53, .class_ 109), (1, u "java/lang/StringLatin1"), (67, .methodref 42 178), (0, .nameAndType 45 179), (0, u "([CII)[B"), (29, .methodref 10 210), (0, .nameAndType 5 211), (0, u "([BB)V"), (157, u "(C)Z"), (173, u "equals"), (29, u "(Ljava/lang/Object;)Z"), (1, .class_ 576), (0, u "java/lang/CharSequence"), (22, u "CASE_INSENSITIVE_ORDER"), (0, u "Ljava/util/Comparator;"), (181, u "valueOf"), (0, u "(C)Ljava/lang/String;"), (226, u "([C)V"), (4, .methodref 107 1016), (0, .nameAndType 1017 369), (0, u "canEncode"), (0, .methodref 107 1019), (0, .nameAndType 53 1020), (0, u "(C)[B"), (80, u "serialPersistentFields"), (0, u "[Ljava/io/ObjectStreamField;"), (0, .class_ 1104), (0, u "java/lang/String$CaseInsensitiveComparator"), (1, .class_ 1107), (0, u "java/io/Serializable"), (0, .class_ 1109), (0, u "java/lang/Comparable"), (0, .class_ 1111), (0, u "java/lang/constant/Constable"), (0, .class_ 1113), (0, u "java/lang/constant/ConstantDesc"), (2, u "serialVersionUID"), (0, u "J"), (3, u "REPL"), (0, u "C"), (2, u "LATIN1"), (1, u "UTF16")] 323

def k7m0 : Method := { name := "<init>", desc := "()V", sig := { parameters := [], returnType := none }, accessFlags := 1, code := none }
def k7c1 : Code := { maxStack := 5, maxLocals := 2, code := jdk_42_method_3_code, exceptionTable := #[], attributes := #[] }
def k7m1 : Method := { name := "<init>", desc := "([C)V", sig := { parameters := [(.array .char)], returnType := none }, accessFlags := 1, code := some k7c1 }
def k7c2 : Code := { maxStack := 2, maxLocals := 3, code := jdk_42_method_66_code, exceptionTable := #[], attributes := #[] }
def k7m2 : Method := { name := "equals", desc := "(Ljava/lang/Object;)Z", sig := { parameters := [(.object "java/lang/Object")], returnType := some .boolean }, accessFlags := 1, code := some k7c2 }
def k7c3 : Code := { maxStack := 4, maxLocals := 1, code := jdk_42_method_139_code, exceptionTable := #[], attributes := #[] }
def k7m3 : Method := { name := "valueOf", desc := "(C)Ljava/lang/String;", sig := { parameters := [.char], returnType := some (.object "java/lang/String") }, accessFlags := 9, code := some k7c3 }
def k7c4 : Code := { maxStack := 4, maxLocals := 6, code := jdk_42_method_149_code, exceptionTable := #[], attributes := #[] }
def k7m4 : Method := { name := "<init>", desc := "([CIILjava/lang/Void;)V", sig := { parameters := [(.array .char), .int, .int, (.object "java/lang/Void")], returnType := none }, accessFlags := 2, code := some k7c4 }
def k7c5 : Code := { maxStack := 2, maxLocals := 3, code := jdk_42_method_151_code, exceptionTable := #[], attributes := #[] }
def k7m5 : Method := { name := "<init>", desc := "([BB)V", sig := { parameters := [(.array .byte), .byte], returnType := none }, accessFlags := 0, code := some k7c5 }
/-- java/lang/String -/
def k7 : Class := { plain "java/lang/String" (some 0) with
  accessFlags := 49
  interfaces := #[2, 3, 4, 5, 6]
  cf := some (fileOf pool7 10 #[.nestMembers #[1103]] #[{ accessFlags := 1, nameIndex := 5, descriptorIndex := 6, attributes := #[] }, { accessFlags := 1, nameIndex := 5, descriptorIndex := 1010, attributes := #[] }, { accessFlags := 1, nameIndex := 543, descriptorIndex := 573, attributes := #[] }, { accessFlags := 9, nameIndex := 782, descriptorIndex := 783, attributes := #[] }, { accessFlags := 2, nameIndex := 5, descriptorIndex := 29, attributes := #[] }, { accessFlags := 0, nameIndex := 5, descriptorIndex := 211, attributes := #[] }] 49 2 #[1106, 1108, 575, 1110, 1112] #[{ accessFlags := 18, nameIndex := 13, descriptorIndex := 14, attributes := #[] }, { accessFlags := 18, nameIndex := 17, descriptorIndex := 18, attributes := #[] }, { accessFlags := 2, nameIndex := 21, descriptorIndex := 22, attributes := #[] }, { accessFlags := 2, nameIndex := 25, descriptorIndex := 26, attributes := #[] }, { accessFlags := 26, nameIndex := 1116, descriptorIndex := 1117, attributes := #[] }, { accessFlags := 24, nameIndex := 40, descriptorIndex := 26, attributes := #[] }, { accessFlags := 26, nameIndex := 1101, descriptorIndex := 1102, attributes := #[] }, { accessFlags := 26, nameIndex := 1121, descriptorIndex := 1122, attributes := #[] }, { accessFlags := 25, nameIndex := 599, descriptorIndex := 600, attributes := #[] }, { accessFlags := 24, nameIndex := 1125, descriptorIndex := 18, attributes := #[] }, { accessFlags := 24, nameIndex := 1127, descriptorIndex := 18, attributes := #[] }])
  fields := #[{ name := "value", type := (.array .byte), accessFlags := 18, slot := 0, constantValue := 0 }, { name := "coder", type := .byte, accessFlags := 18, slot := 1, constantValue := 0 }, { name := "hash", type := .int, accessFlags := 2, slot := 2, constantValue := 0 }, { name := "hashIsZero", type := .boolean, accessFlags := 2, slot := 3, constantValue := 0 }, { name := "serialVersionUID", type := .long, accessFlags := 26, slot := 0, constantValue := 0 }, { name := "COMPACT_STRINGS", type := .boolean, accessFlags := 24, slot := 1, constantValue := 0 }, { name := "serialPersistentFields", type := (.array (.object "java/io/ObjectStreamField")), accessFlags := 26, slot := 2, constantValue := 0 }, { name := "REPL", type := .char, accessFlags := 26, slot := 3, constantValue := 0 }, { name := "CASE_INSENSITIVE_ORDER", type := (.object "java/util/Comparator"), accessFlags := 25, slot := 4, constantValue := 0 }, { name := "LATIN1", type := .byte, accessFlags := 24, slot := 5, constantValue := 0 }, { name := "UTF16", type := .byte, accessFlags := 24, slot := 6, constantValue := 0 }]
  methods := #[k7m0, k7m1, k7m2, k7m3, k7m4, k7m5]
  instanceTypes := #[(.array .byte), .byte, .int, .boolean]
  staticTypes := #[.long, .boolean, (.array (.object "java/io/ObjectStreamField")), .char, (.object "java/util/Comparator"), .byte, .byte]
  resolved := Array.replicate 1451 none
  statics := some 0 }

def pool8 : Array CpInfo := pool [(1, .methodref 2 3), (0, .class_ 4), (0, .nameAndType 5 6), (0, u "java/lang/Object"), (0, u "<init>"), (0, u "()V"), (0, .class_ 8), (0, u "java/lang/Record")] 13

def k8c0 : Code := { maxStack := 1, maxLocals := 1, code := jdk_30_method_1_code, exceptionTable := #[], attributes := #[] }
def k8m0 : Method := { name := "<init>", desc := "()V", sig := { parameters := [], returnType := none }, accessFlags := 4, code := some k8c0 }
/-- java/lang/Record -/
def k8 : Class := { plain "java/lang/Record" (some 0) with
  accessFlags := 1057
  interfaces := #[]
  cf := some (fileOf pool8 7 #[] #[{ accessFlags := 4, nameIndex := 5, descriptorIndex := 6, attributes := #[] }] 1057 2 #[] #[])
  fields := #[]
  methods := #[k8m0]
  instanceTypes := #[]
  staticTypes := #[]
  resolved := Array.replicate 22 none
  statics := none }

def pool9 : Array CpInfo := pool [(1, .methodref 2 3), (0, .class_ 4), (0, .nameAndType 5 6), (0, u "java/lang/Record"), (0, u "<init>"), (0, u "()V"), (0, .fieldref 8 9), (0, .class_ 10), (0, .nameAndType 11 12), (0, u "com/example/gridclause/gridclause/cli/Option"), (0, u "name"), (0, u "Ljava/lang/String;"), (0, .fieldref 8 14), (0, .nameAndType 15 12), (0, u "label"), (0, .fieldref 8 17), (0, .nameAndType 18 19), (0, u "use"), (0, u "Lcom/example/gridclause/gridclause/cli/Option$Use;"), (1, .class_ 23), (1, u "com/example/gridclause/gridclause/cli/Option$Use"), (1, .methodref 8 26), (0, .nameAndType 5 27), (0, u "(Ljava/lang/String;Ljava/lang/String;Lcom/example/gridclause/gridclause/cli/Option$Use;)V"), (6, .fieldref 21 35), (0, .nameAndType 36 19), (0, u "ALONE"), (27, u "(Ljava/lang/String;Ljava/lang/String;)Lcom/example/gridclause/gridclause/cli/Option;"), (2, u "alone"), (3, u "()Ljava/lang/String;"), (3, u "()Lcom/example/gridclause/gridclause/cli/Option$Use;")] 36

def k9c0 : Code := { maxStack := 2, maxLocals := 4, code := prog_2_method_1_code, exceptionTable := #[], attributes := #[] }
def k9m0 : Method := { name := "<init>", desc := "(Ljava/lang/String;Ljava/lang/String;Lcom/example/gridclause/gridclause/cli/Option$Use;)V", sig := { parameters := [(.object "java/lang/String"), (.object "java/lang/String"), (.object "com/example/gridclause/gridclause/cli/Option$Use")], returnType := none }, accessFlags := 0, code := some k9c0 }
def k9c1 : Code := { maxStack := 5, maxLocals := 2, code := prog_2_method_5_code, exceptionTable := #[], attributes := #[] }
def k9m1 : Method := { name := "alone", desc := "(Ljava/lang/String;Ljava/lang/String;)Lcom/example/gridclause/gridclause/cli/Option;", sig := { parameters := [(.object "java/lang/String"), (.object "java/lang/String")], returnType := some (.object "com/example/gridclause/gridclause/cli/Option") }, accessFlags := 8, code := some k9c1 }
def k9c2 : Code := { maxStack := 1, maxLocals := 1, code := prog_2_method_12_code, exceptionTable := #[], attributes := #[] }
def k9m2 : Method := { name := "name", desc := "()Ljava/lang/String;", sig := { parameters := [], returnType := some (.object "java/lang/String") }, accessFlags := 1, code := some k9c2 }
def k9c3 : Code := { maxStack := 1, maxLocals := 1, code := prog_2_method_13_code, exceptionTable := #[], attributes := #[] }
def k9m3 : Method := { name := "label", desc := "()Ljava/lang/String;", sig := { parameters := [], returnType := some (.object "java/lang/String") }, accessFlags := 1, code := some k9c3 }
def k9c4 : Code := { maxStack := 1, maxLocals := 1, code := prog_2_method_14_code, exceptionTable := #[], attributes := #[] }
def k9m4 : Method := { name := "use", desc := "()Lcom/example/gridclause/gridclause/cli/Option$Use;", sig := { parameters := [], returnType := some (.object "com/example/gridclause/gridclause/cli/Option$Use") }, accessFlags := 1, code := some k9c4 }
/-- com/example/gridclause/gridclause/cli/Option -/
def k9 : Class := { plain "com/example/gridclause/gridclause/cli/Option" (some 8) with
  accessFlags := 48
  interfaces := #[]
  cf := some (fileOf pool9 8 #[.nestMembers #[21]] #[{ accessFlags := 0, nameIndex := 5, descriptorIndex := 27, attributes := #[] }, { accessFlags := 8, nameIndex := 67, descriptorIndex := 64, attributes := #[] }, { accessFlags := 1, nameIndex := 11, descriptorIndex := 71, attributes := #[] }, { accessFlags := 1, nameIndex := 15, descriptorIndex := 71, attributes := #[] }, { accessFlags := 1, nameIndex := 18, descriptorIndex := 75, attributes := #[] }] 48 2 #[] #[{ accessFlags := 18, nameIndex := 11, descriptorIndex := 12, attributes := #[] }, { accessFlags := 18, nameIndex := 15, descriptorIndex := 12, attributes := #[] }, { accessFlags := 18, nameIndex := 18, descriptorIndex := 19, attributes := #[] }])
  fields := #[{ name := "name", type := (.object "java/lang/String"), accessFlags := 18, slot := 0, constantValue := 0 }, { name := "label", type := (.object "java/lang/String"), accessFlags := 18, slot := 1, constantValue := 0 }, { name := "use", type := (.object "com/example/gridclause/gridclause/cli/Option$Use"), accessFlags := 18, slot := 2, constantValue := 0 }]
  methods := #[k9m0, k9m1, k9m2, k9m3, k9m4]
  instanceTypes := #[(.object "java/lang/String"), (.object "java/lang/String"), (.object "com/example/gridclause/gridclause/cli/Option$Use")]
  staticTypes := #[]
  resolved := Array.replicate 112 none
  statics := none }

def pool10 : Array CpInfo := pool [(2, .class_ 4), (1, u "java/lang/Enum"), (0, u "name"), (0, u "Ljava/lang/String;"), (2, u "ordinal"), (0, u "I"), (1, .class_ 14), (1, u "java/lang/Object"), (4, u "hash"), (86, .class_ 108), (1, u "java/lang/Enum$EnumDesc"), (2, .class_ 112), (0, u "java/lang/constant/Constable"), (0, .class_ 114), (0, u "java/lang/Comparable"), (0, .class_ 116), (0, u "java/io/Serializable")] 87

/-- java/lang/Enum -/
def k10 : Class := { plain "java/lang/Enum" (some 0) with
  accessFlags := 1057
  interfaces := #[5, 3, 2]
  cf := some (fileOf pool10 2 #[.nestMembers #[106]] #[] 1057 12 #[111, 113, 115] #[{ accessFlags := 18, nameIndex := 5, descriptorIndex := 6, attributes := #[] }, { accessFlags := 18, nameIndex := 9, descriptorIndex := 10, attributes := #[] }, { accessFlags := 2, nameIndex := 19, descriptorIndex := 10, attributes := #[] }])
  fields := #[{ name := "name", type := (.object "java/lang/String"), accessFlags := 18, slot := 0, constantValue := 0 }, { name := "ordinal", type := .int, accessFlags := 18, slot := 1, constantValue := 0 }, { name := "hash", type := .int, accessFlags := 2, slot := 2, constantValue := 0 }]
  methods := #[]
  instanceTypes := #[(.object "java/lang/String"), .int, .int]
  staticTypes := #[]
  resolved := Array.replicate 204 none
  statics := none }

def pool11 : Array CpInfo := pool [(1, .class_ 2), (0, u "com/example/gridclause/gridclause/cli/Option$Use"), (2, u "REQUIRED"), (0, u "Lcom/example/gridclause/gridclause/cli/Option$Use;"), (2, u "OPTIONAL"), (2, u "REPEATABLE"), (2, u "ALONE"), (2, u "$VALUES"), (0, u "[Lcom/example/gridclause/gridclause/cli/Option$Use;"), (6, .class_ 28), (1, u "java/lang/Enum"), (27, .class_ 57), (0, u "com/example/gridclause/gridclause/cli/Option")] 2

/-- com/example/gridclause/gridclause/cli/Option$Use -/
def k11 : Class := { plain "com/example/gridclause/gridclause/cli/Option$Use" (some 10) with
  accessFlags := 16432
  interfaces := #[]
  cf := some (fileOf pool11 1 #[.nestHost 56] #[] 16432 26 #[] #[{ accessFlags := 16409, nameIndex := 5, descriptorIndex := 6, attributes := #[] }, { accessFlags := 16409, nameIndex := 9, descriptorIndex := 6, attributes := #[] }, { accessFlags := 16409, nameIndex := 12, descriptorIndex := 6, attributes := #[] }, { accessFlags := 16409, nameIndex := 15, descriptorIndex := 6, attributes := #[] }, { accessFlags := 4122, nameIndex := 18, descriptorIndex := 19, attributes := #[] }])
  fields := #[{ name := "REQUIRED", type := (.object "com/example/gridclause/gridclause/cli/Option$Use"), accessFlags := 16409, slot := 0, constantValue := 0 }, { name := "OPTIONAL", type := (.object "com/example/gridclause/gridclause/cli/Option$Use"), accessFlags := 16409, slot := 1, constantValue := 0 }, { name := "REPEATABLE", type := (.object "com/example/gridclause/gridclause/cli/Option$Use"), accessFlags := 16409, slot := 2, constantValue := 0 }, { name := "ALONE", type := (.object "com/example/gridclause/gridclause/cli/Option$Use"), accessFlags := 16409, slot := 3, constantValue := 0 }, { name := "$VALUES", type := (.array (.object "com/example/gridclause/gridclause/cli/Option$Use")), accessFlags := 4122, slot := 4, constantValue := 0 }]
  methods := #[]
  instanceTypes := #[(.object "java/lang/String"), .int, .int]
  staticTypes := #[(.object "com/example/gridclause/gridclause/cli/Option$Use"), (.object "com/example/gridclause/gridclause/cli/Option$Use"), (.object "com/example/gridclause/gridclause/cli/Option$Use"), (.object "com/example/gridclause/gridclause/cli/Option$Use"), (.array (.object "com/example/gridclause/gridclause/cli/Option$Use"))]
  resolved := Array.replicate 60 none
  statics := some 1 }

def pool12 : Array CpInfo := pool [(6, .class_ 8), (1, u "java/lang/Object"), (0, u "<init>"), (0, u "()V"), (1, .class_ 14), (1, u "java/lang/StringUTF16"), (31, u "$assertionsDisabled"), (0, u "Z"), (13, u "HI_BYTE_SHIFT"), (0, u "I"), (2, u "LO_BYTE_SHIFT"), (49, .methodref 12 116), (0, .nameAndType 117 118), (0, u "compress"), (0, u "([CI[BII)I"), (3, u "([CII)[B"), (138, u "coderFromArrayLen"), (0, u "([BI)B"), (106, .class_ 371), (1, u "java/lang/StringUTF16$LinesSpliterator"), (58, u "MAX_LENGTH"), (196, .class_ 628), (0, u "java/lang/StringUTF16$CodePointsSpliterator"), (0, .class_ 630), (0, u "java/lang/StringUTF16$CharsSpliterator")] 4

def k12m0 : Method := { name := "<init>", desc := "()V", sig := { parameters := [], returnType := none }, accessFlags := 0, code := none }
def k12c1 : Code := { maxStack := 2, maxLocals := 2, code := jdk_52_method_15_code, exceptionTable := #[], attributes := #[] }
def k12m1 : Method := { name := "coderFromArrayLen", desc := "([BI)B", sig := { parameters := [(.array .byte), .int], returnType := some .byte }, accessFlags := 8, code := some k12c1 }
def k12c2 : Code := { maxStack := 5, maxLocals := 6, code := jdk_52_method_16_code, exceptionTable := #[], attributes := #[] }
def k12m2 : Method := { name := "compress", desc := "([CII)[B", sig := { parameters := [(.array .char), .int, .int], returnType := some (.array .byte) }, accessFlags := 9, code := some k12c2 }
def k12c3 : Code := { maxStack := 3, maxLocals := 7, code := jdk_52_method_21_code, exceptionTable := #[], attributes := #[] }
def k12m3 : Method := { name := "compress", desc := "([CI[BII)I", sig := { parameters := [(.array .char), .int, (.array .byte), .int, .int], returnType := some .int }, accessFlags := 9, code := some k12c3 }
/-- java/lang/StringUTF16 -/
def k12 : Class := { plain "java/lang/StringUTF16" (some 0) with
  accessFlags := 48
  interfaces := #[]
  cf := some (fileOf pool12 12 #[.nestMembers #[627, 629, 369]] #[{ accessFlags := 0, nameIndex := 9, descriptorIndex := 10, attributes := #[] }, { accessFlags := 8, nameIndex := 261, descriptorIndex := 262, attributes := #[] }, { accessFlags := 9, nameIndex := 117, descriptorIndex := 122, attributes := #[] }, { accessFlags := 9, nameIndex := 117, descriptorIndex := 118, attributes := #[] }] 48 6 #[] #[{ accessFlags := 26, nameIndex := 61, descriptorIndex := 62, attributes := #[] }, { accessFlags := 26, nameIndex := 65, descriptorIndex := 62, attributes := #[] }, { accessFlags := 24, nameIndex := 430, descriptorIndex := 62, attributes := #[] }, { accessFlags := 4120, nameIndex := 46, descriptorIndex := 47, attributes := #[] }])
  fields := #[{ name := "HI_BYTE_SHIFT", type := .int, accessFlags := 26, slot := 0, constantValue := 0 }, { name := "LO_BYTE_SHIFT", type := .int, accessFlags := 26, slot := 1, constantValue := 0 }, { name := "MAX_LENGTH", type := .int, accessFlags := 24, slot := 2, constantValue := 0 }, { name := "$assertionsDisabled", type := .boolean, accessFlags := 4120, slot := 3, constantValue := 0 }]
  methods := #[k12m0, k12m1, k12m2, k12m3]
  instanceTypes := #[]
  staticTypes := #[.int, .int, .int, .boolean]
  resolved := Array.replicate 635 none
  statics := none }

def pool13 : Array CpInfo := pool [(4, .class_ 6), (1, u "java/lang/Object"), (0, u "<init>"), (0, u "()V"), (5, .class_ 16), (1, u "java/lang/StringLatin1"), (73, u "canEncode"), (14, u "(C)Z"), (15, u "$assertionsDisabled"), (0, u "Z"), (98, .class_ 223), (1, u "java/lang/StringLatin1$LinesSpliterator"), (156, u "toBytes"), (1, u "(C)[B"), (7, .class_ 391), (0, u "java/lang/StringLatin1$CharsSpliterator")] 3

def k13m0 : Method := { name := "<init>", desc := "()V", sig := { parameters := [], returnType := none }, accessFlags := 0, code := none }
def k13c1 : Code := { maxStack := 2, maxLocals := 1, code := jdk_43_method_3_code, exceptionTable := #[], attributes := #[] }
def k13m1 : Method := { name := "canEncode", desc := "(C)Z", sig := { parameters := [.char], returnType := some .boolean }, accessFlags := 9, code := some k13c1 }
def k13c2 : Code := { maxStack := 4, maxLocals := 1, code := jdk_43_method_46_code, exceptionTable := #[], attributes := #[] }
def k13m2 : Method := { name := "toBytes", desc := "(C)[B", sig := { parameters := [.char], returnType := some (.array .byte) }, accessFlags := 9, code := some k13c2 }
/-- java/lang/StringLatin1 -/
def k13 : Class := { plain "java/lang/StringLatin1" (some 0) with
  accessFlags := 48
  interfaces := #[]
  cf := some (fileOf pool13 14 #[.nestMembers #[390, 221]] #[{ accessFlags := 0, nameIndex := 7, descriptorIndex := 8, attributes := #[] }, { accessFlags := 9, nameIndex := 90, descriptorIndex := 105, attributes := #[] }, { accessFlags := 9, nameIndex := 380, descriptorIndex := 382, attributes := #[] }] 48 4 #[] #[{ accessFlags := 4120, nameIndex := 121, descriptorIndex := 122, attributes := #[] }])
  fields := #[{ name := "$assertionsDisabled", type := .boolean, accessFlags := 4120, slot := 0, constantValue := 0 }]
  methods := #[k13m0, k13m1, k13m2]
  instanceTypes := #[]
  staticTypes := #[.boolean]
  resolved := Array.replicate 395 none
  statics := none }

def pool14 : Array CpInfo := pool [(2, .class_ 4), (1, u "java/lang/Object"), (0, u "<init>"), (0, u "()V"), (17, .class_ 26), (1, u "jdk/internal/util/Preconditions"), (28, .class_ 56), (0, u "jdk/internal/util/Preconditions$4"), (57, .class_ 115), (0, u "jdk/internal/util/Preconditions$1"), (7, u "SIOOBE_FORMATTER"), (0, u "Ljava/util/function/BiFunction;"), (0, .class_ 126), (0, u "jdk/internal/util/Preconditions$2"), (3, u "AIOOBE_FORMATTER"), (0, .class_ 132), (0, u "jdk/internal/util/Preconditions$3"), (3, u "IOOBE_FORMATTER")] 57

def k14m0 : Method := { name := "<init>", desc := "()V", sig := { parameters := [], returnType := none }, accessFlags := 1, code := none }
/-- jdk/internal/util/Preconditions -/
def k14 : Class := { plain "jdk/internal/util/Preconditions" (some 0) with
  accessFlags := 33
  interfaces := #[]
  cf := some (fileOf pool14 24 #[.nestMembers #[55, 131, 125, 114]] #[{ accessFlags := 1, nameIndex := 5, descriptorIndex := 6, attributes := #[] }] 33 2 #[] #[{ accessFlags := 25, nameIndex := 123, descriptorIndex := 124, attributes := #[] }, { accessFlags := 25, nameIndex := 130, descriptorIndex := 124, attributes := #[] }, { accessFlags := 25, nameIndex := 136, descriptorIndex := 124, attributes := #[] }])
  fields := #[{ name := "SIOOBE_FORMATTER", type := (.object "java/util/function/BiFunction"), accessFlags := 25, slot := 0, constantValue := 0 }, { name := "AIOOBE_FORMATTER", type := (.object "java/util/function/BiFunction"), accessFlags := 25, slot := 1, constantValue := 0 }, { name := "IOOBE_FORMATTER", type := (.object "java/util/function/BiFunction"), accessFlags := 25, slot := 2, constantValue := 0 }]
  methods := #[k14m0]
  instanceTypes := #[]
  staticTypes := #[(.object "java/util/function/BiFunction"), (.object "java/util/function/BiFunction"), (.object "java/util/function/BiFunction")]
  resolved := Array.replicate 194 none
  statics := some 2 }

def pool15 : Array CpInfo := pool [(9, u "<init>"), (6, .class_ 18), (1, u "java/lang/Object"), (0, u "()V"), (1, .class_ 23), (1, u "jdk/internal/util/ArraysSupport"), (0, u "LOG2_ARRAY_LONG_INDEX_SCALE"), (0, u "I"), (2, u "U"), (0, u "Ljdk/internal/misc/Unsafe;"), (8, u "BIG_ENDIAN"), (0, u "Z"), (8, u "LOG2_BYTE_BIT_SIZE"), (4, u "LOG2_ARRAY_INT_INDEX_SCALE"), (54, u "JLA"), (0, u "Ljdk/internal/access/JavaLangAccess;"), (11, u "LOG2_ARRAY_BOOLEAN_INDEX_SCALE"), (9, u "LOG2_ARRAY_BYTE_INDEX_SCALE"), (5, u "LOG2_ARRAY_CHAR_INDEX_SCALE"), (5, u "LOG2_ARRAY_SHORT_INDEX_SCALE"), (18, u "LOG2_ARRAY_FLOAT_INDEX_SCALE"), (24, u "LOG2_ARRAY_DOUBLE_INDEX_SCALE"), (89, u "T_BOOLEAN"), (2, u "T_CHAR"), (1, u "T_FLOAT"), (1, u "T_DOUBLE"), (1, u "T_BYTE"), (1, u "T_SHORT"), (1, u "T_INT"), (1, u "T_LONG"), (1, u "SOFT_MAX_ARRAY_LENGTH")] 83

def k15m0 : Method := { name := "<init>", desc := "()V", sig := { parameters := [], returnType := none }, accessFlags := 2, code := none }
/-- jdk/internal/util/ArraysSupport -/
def k15 : Class := { plain "jdk/internal/util/ArraysSupport" (some 0) with
  accessFlags := 33
  interfaces := #[]
  cf := some (fileOf pool15 21 #[] #[{ accessFlags := 2, nameIndex := 9, descriptorIndex := 19, attributes := #[] }] 33 16 #[] #[{ accessFlags := 24, nameIndex := 28, descriptorIndex := 29, attributes := #[] }, { accessFlags := 26, nameIndex := 38, descriptorIndex := 39, attributes := #[] }, { accessFlags := 25, nameIndex := 121, descriptorIndex := 25, attributes := #[] }, { accessFlags := 25, nameIndex := 131, descriptorIndex := 25, attributes := #[] }, { accessFlags := 25, nameIndex := 137, descriptorIndex := 25, attributes := #[] }, { accessFlags := 25, nameIndex := 143, descriptorIndex := 25, attributes := #[] }, { accessFlags := 25, nameIndex := 53, descriptorIndex := 25, attributes := #[] }, { accessFlags := 25, nameIndex := 24, descriptorIndex := 25, attributes := #[] }, { accessFlags := 25, nameIndex := 162, descriptorIndex := 25, attributes := #[] }, { accessFlags := 25, nameIndex := 187, descriptorIndex := 25, attributes := #[] }, { accessFlags := 26, nameIndex := 48, descriptorIndex := 25, attributes := #[] }, { accessFlags := 25, nameIndex := 277, descriptorIndex := 25, attributes := #[] }, { accessFlags := 25, nameIndex := 280, descriptorIndex := 25, attributes := #[] }, { accessFlags := 25, nameIndex := 282, descriptorIndex := 25, attributes := #[] }, { accessFlags := 25, nameIndex := 284, descriptorIndex := 25, attributes := #[] }, { accessFlags := 25, nameIndex := 286, descriptorIndex := 25, attributes := #[] }, { accessFlags := 25, nameIndex := 288, descriptorIndex := 25, attributes := #[] }, { accessFlags := 25, nameIndex := 290, descriptorIndex := 25, attributes := #[] }, { accessFlags := 25, nameIndex := 292, descriptorIndex := 25, attributes := #[] }, { accessFlags := 26, nameIndex := 108, descriptorIndex := 109, attributes := #[] }, { accessFlags := 25, nameIndex := 294, descriptorIndex := 25, attributes := #[] }])
  fields := #[{ name := "U", type := (.object "jdk/internal/misc/Unsafe"), accessFlags := 24, slot := 0, constantValue := 0 }, { name := "BIG_ENDIAN", type := .boolean, accessFlags := 26, slot := 1, constantValue := 0 }, { name := "LOG2_ARRAY_BOOLEAN_INDEX_SCALE", type := .int, accessFlags := 25, slot := 2, constantValue := 0 }, { name := "LOG2_ARRAY_BYTE_INDEX_SCALE", type := .int, accessFlags := 25, slot := 3, constantValue := 0 }, { name := "LOG2_ARRAY_CHAR_INDEX_SCALE", type := .int, accessFlags := 25, slot := 4, constantValue := 0 }, { name := "LOG2_ARRAY_SHORT_INDEX_SCALE", type := .int, accessFlags := 25, slot := 5, constantValue := 0 }, { name := "LOG2_ARRAY_INT_INDEX_SCALE", type := .int, accessFlags := 25, slot := 6, constantValue := 0 }, { name := "LOG2_ARRAY_LONG_INDEX_SCALE", type := .int, accessFlags := 25, slot := 7, constantValue := 0 }, { name := "LOG2_ARRAY_FLOAT_INDEX_SCALE", type := .int, accessFlags := 25, slot := 8, constantValue := 0 }, { name := "LOG2_ARRAY_DOUBLE_INDEX_SCALE", type := .int, accessFlags := 25, slot := 9, constantValue := 0 }, { name := "LOG2_BYTE_BIT_SIZE", type := .int, accessFlags := 26, slot := 10, constantValue := 0 }, { name := "T_BOOLEAN", type := .int, accessFlags := 25, slot := 11, constantValue := 0 }, { name := "T_CHAR", type := .int, accessFlags := 25, slot := 12, constantValue := 0 }, { name := "T_FLOAT", type := .int, accessFlags := 25, slot := 13, constantValue := 0 }, { name := "T_DOUBLE", type := .int, accessFlags := 25, slot := 14, constantValue := 0 }, { name := "T_BYTE", type := .int, accessFlags := 25, slot := 15, constantValue := 0 }, { name := "T_SHORT", type := .int, accessFlags := 25, slot := 16, constantValue := 0 }, { name := "T_INT", type := .int, accessFlags := 25, slot := 17, constantValue := 0 }, { name := "T_LONG", type := .int, accessFlags := 25, slot := 18, constantValue := 0 }, { name := "JLA", type := (.object "jdk/internal/access/JavaLangAccess"), accessFlags := 26, slot := 19, constantValue := 0 }, { name := "SOFT_MAX_ARRAY_LENGTH", type := .int, accessFlags := 25, slot := 20, constantValue := 0 }]
  methods := #[k15m0]
  instanceTypes := #[]
  staticTypes := #[(.object "jdk/internal/misc/Unsafe"), .boolean, .int, .int, .int, .int, .int, .int, .int, .int, .int, .int, .int, .int, .int, .int, .int, .int, .int, (.object "jdk/internal/access/JavaLangAccess"), .int]
  resolved := Array.replicate 378 none
  statics := none }

def pool16 : Array CpInfo := pool [(1, u "java/lang/Cloneable"), (0, .class_ 1), (0, u "java/lang/Object"), (0, .class_ 3)] 3

/-- java/lang/Cloneable -/
def k16 : Class := { plain "java/lang/Cloneable" (some 0) with
  accessFlags := 1537
  interfaces := #[]
  cf := some (fileOf pool16 2 #[] #[] 1537 4 #[] #[])
  fields := #[]
  methods := #[]
  instanceTypes := #[]
  staticTypes := #[]
  resolved := Array.replicate 8 none
  statics := none }

/-- the primitive byte -/
def k17 : Class := { plain "byte" none with kind := .primitive 'B', accessFlags := 0x411 }
/-- [B -/
def k18 : Class := { plain "[B" (some 0) with kind := .array 17 .byte, interfaces := #[16, 2], accessFlags := 1041 }

/-- the primitive char -/
def k19 : Class := { plain "char" none with kind := .primitive 'C', accessFlags := 0x411 }
/-- [C -/
def k20 : Class := { plain "[C" (some 0) with kind := .array 19 .char, interfaces := #[16, 2], accessFlags := 1041 }

/-- the primitive int -/
def k21 : Class := { plain "int" none with kind := .primitive 'I', accessFlags := 0x411 }
/-- [I -/
def k22 : Class := { plain "[I" (some 0) with kind := .array 21 .int, interfaces := #[16, 2], accessFlags := 1041 }

def heap : Heap := #[{ cls := 7, slots := #[.long 0, .int 1, .null, .int 0, .null, .int 0, .int 0], vm := .statics 7 },
  { cls := 11, slots := #[.ref 3, .ref 4, .ref 5, .ref 6, .null], vm := .statics 11 },
  { cls := 14, slots := #[.null, .null, .null], vm := .statics 14 },
  { cls := 11, slots := #[.null, .int 0, .int 0], vm := .none },
  { cls := 11, slots := #[.null, .int 1, .int 0], vm := .none },
  { cls := 11, slots := #[.null, .int 2, .int 0], vm := .none },
  { cls := 11, slots := #[.null, .int 3, .int 0], vm := .none }]
def classes : Array Class := #[k0, k1, k2, k3, k4, k5, k6, k7, k8, k9, k10, k11, k12, k13, k14, k15, k16, k17, k18, k19, k20, k21, k22]
def interned : List (Array UInt16 × Addr) := []
def slotsUsed : Nat := 27
def theMethod : MethodId := ⟨1, 2⟩
def args0 : Array Value := #[.int 1, .int 2, .int 3, .int 4, .int 5]
def aboutOver (below : List Frame) : State where
  vm := { classes := classes, interned := interned.toArray }
  heap := heap
  slotsUsed := slotsUsed
  threads := #[{ frames := .invoking theMethod args0 :: below }]
def below0 : List Frame := [.native { method := ⟨0, 0⟩, args := #[] }]
def about1 : State := aboutOver below0
def p0 : Program := .bare "" "" ""
def e0 : Env := launch0.env 0 0 0
theorem w_frames : about1.frames = Frame.invoking theMethod args0 :: below0 := rfl
set_option maxRecDepth 65536 in
theorem w_args : argsFit about1.vm theMethod args0 = true := by decide +kernel
set_option maxRecDepth 65536 in
theorem w_heap : heapFits about1 = true := by decide +kernel
set_option maxRecDepth 65536 in
theorem w_runnable : about1.curStatus? = some .runnable := by decide +kernel
set_option maxRecDepth 65536 in
theorem w_alone : about1.alone = true := by decide +kernel
set_option maxRecDepth 65536 in
theorem w_named : about1.methodNamed? x = some theMethod := by decide +kernel
set_option maxRecDepth 65536 in
theorem w_hears : about1.hears theMethod below0 = true := by decide +kernel
set_option maxRecDepth 65536 in
theorem w_ripe : about1.ripe theMethod args0 below0 = true := by decide +kernel
theorem w_running : about1.status = .running := rfl
set_option maxRecDepth 65536 in
theorem w_room : about1.hasRoom e0.platform room_1 = true :=
  launch0.hasRoom_least _ room_1 (by decide +kernel) (by decide +kernel) (by decide +kernel) (by decide +kernel) (by decide +kernel) (by decide +kernel)
theorem allAtoms_all (ts : List Jvm.Cond) (a : Array Jvm.Value) (st : Jvm.State) : (allAtoms ts).before a st = ts.all (fun c => c.before a st) := by
  induction ts with
  | nil => rfl
  | cons c t ih =>
    show (Jvm.Cond.and c (allAtoms t)).before a st = _
    rw [Jvm.Cond.before_and, ih, List.all_cons]
def words1 : List Jvm.Cond := Jvm.Cond.code x code maxLocals ret :: tables_1
/-- a 'code' word, met by the world's own term for the bytes: nothing is compared byte by byte -/
theorem code_word {y : MethodName} {bytes : ByteArray} {mx : Nat} {rt : Option FieldType} {a : Array Value} {s : State} {m : MethodId} {meth : Method} {c : Code} (h1 : s.methodNamed? y = some m) (h2 : s.vm.method? m = some meth) (h3 : meth.code = some c) (h4 : c.code = bytes)
    (h5 : (c.maxLocals == mx && c.exceptionTable.isEmpty && decide (c.maxStack ≤ mostOperands) && decide (meth.sig.returnType = rt) && !meth.locks && decide (parseMethodDescriptor y.desc = some meth.sig)) = true) : (Jvm.Cond.code y bytes mx rt).before a s = true := by
  simp only [Bool.and_eq_true, beq_iff_eq, Bool.not_eq_true', decide_eq_true_eq] at h5
  obtain ⟨⟨⟨⟨⟨g1, g2⟩, g3⟩, g4⟩, g5⟩, g6⟩ := h5
  simp [Cond.before, Cond.holds, Cond.value, h1, h2, h3, h4, g1, g2, g3, g4, g5, g6]
def isCode : Jvm.Cond → Bool
  | .code _ _ _ _ => true
  | _ => false
theorem all_split {L : List Jvm.Cond} {P : Jvm.Cond → Bool} (h1 : L.all (fun c => isCode c || P c) = true) (h2 : ∀ c ∈ L.filter isCode, P c = true) : L.all P = true := by
  refine List.all_eq_true.mpr fun c hc => ?_
  have h := List.all_eq_true.mp h1 c hc
  rcases Bool.eq_false_or_eq_true (isCode c) with hi | hi
  · exact h2 c (List.mem_filter.mpr ⟨hc, hi⟩)
  · simpa [hi] using h
set_option maxRecDepth 65536 in
theorem w_c0 : (Jvm.Cond.code x code maxLocals ret).before args0 about1 = true := code_word (m := ⟨1, 2⟩) (meth := k1m2) (c := k1c2) (by decide +kernel) rfl rfl rfl (by decide +kernel)
set_option maxRecDepth 65536 in
theorem w_c1 : (Jvm.Cond.code ({ cls := "com/example/gridclause/gridclause/cli/OptionAlonePinLaw", name := "draw", desc := "(III)Ljava/lang/String;" } : Jvm.MethodName) method_2_code (5 : Nat) (Option.some (Jvm.ClassFile.FieldType.object "java/lang/String"))).before args0 about1 = true := code_word (m := ⟨1, 1⟩) (meth := k1m1) (c := k1c1) (by decide +kernel) rfl rfl rfl (by decide +kernel)
set_option maxRecDepth 65536 in
theorem w_c2 : (Jvm.Cond.code ({ cls := "java/lang/String", name := "<init>", desc := "([C)V" } : Jvm.MethodName) jdk_42_method_3_code (2 : Nat) (Option.none : Option Jvm.ClassFile.FieldType)).before args0 about1 = true := code_word (m := ⟨7, 1⟩) (meth := k7m1) (c := k7c1) (by decide +kernel) rfl rfl rfl (by decide +kernel)
set_option maxRecDepth 65536 in
theorem w_c3 : (Jvm.Cond.code ({ cls := "java/lang/String", name := "<init>", desc := "([CIILjava/lang/Void;)V" } : Jvm.MethodName) jdk_42_method_149_code (6 : Nat) (Option.none : Option Jvm.ClassFile.FieldType)).before args0 about1 = true := code_word (m := ⟨7, 4⟩) (meth := k7m4) (c := k7c4) (by decide +kernel) rfl rfl rfl (by decide +kernel)
set_option maxRecDepth 65536 in
theorem w_c4 : (Jvm.Cond.code ({ cls := "java/lang/Object", name := "<init>", desc := "()V" } : Jvm.MethodName) object_method_1_code (1 : Nat) (Option.none : Option Jvm.ClassFile.FieldType)).before args0 about1 = true := code_word (m := ⟨0, 0⟩) (meth := k0m0) (c := k0c0) (by decide +kernel) rfl rfl rfl (by decide +kernel)
set_option maxRecDepth 65536 in
theorem w_c5 : (Jvm.Cond.code ({ cls := "com/example/gridclause/gridclause/cli/Option", name := "alone", desc := "(Ljava/lang/String;Ljava/lang/String;)Lcom/example/gridclause/gridclause/cli/Option;" } : Jvm.MethodName) prog_2_method_5_code (2 : Nat) (Option.some (Jvm.ClassFile.FieldType.object "com/example/gridclause/gridclause/cli/Option"))).before args0 about1 = true := code_word (m := ⟨9, 1⟩) (meth := k9m1) (c := k9c1) (by decide +kernel) rfl rfl rfl (by decide +kernel)
set_option maxRecDepth 65536 in
theorem w_c6 : (Jvm.Cond.code ({ cls := "com/example/gridclause/gridclause/cli/Option", name := "<init>", desc := "(Ljava/lang/String;Ljava/lang/String;Lcom/example/gridclause/gridclause/cli/Option$Use;)V" } : Jvm.MethodName) prog_2_method_1_code (4 : Nat) (Option.none : Option Jvm.ClassFile.FieldType)).before args0 about1 = true := code_word (m := ⟨9, 0⟩) (meth := k9m0) (c := k9c0) (by decide +kernel) rfl rfl rfl (by decide +kernel)
set_option maxRecDepth 65536 in
theorem w_c7 : (Jvm.Cond.code ({ cls := "java/lang/Record", name := "<init>", desc := "()V" } : Jvm.MethodName) jdk_30_method_1_code (1 : Nat) (Option.none : Option Jvm.ClassFile.FieldType)).before args0 about1 = true := code_word (m := ⟨8, 0⟩) (meth := k8m0) (c := k8c0) (by decide +kernel) rfl rfl rfl (by decide +kernel)
set_option maxRecDepth 65536 in
theorem w_c8 : (Jvm.Cond.code ({ cls := "com/example/gridclause/gridclause/cli/Option", name := "name", desc := "()Ljava/lang/String;" } : Jvm.MethodName) prog_2_method_12_code (1 : Nat) (Option.some (Jvm.ClassFile.FieldType.object "java/lang/String"))).before args0 about1 = true := code_word (m := ⟨9, 2⟩) (meth := k9m2) (c := k9c2) (by decide +kernel) rfl rfl rfl (by decide +kernel)
set_option maxRecDepth 65536 in
theorem w_c9 : (Jvm.Cond.code ({ cls := "java/lang/String", name := "equals", desc := "(Ljava/lang/Object;)Z" } : Jvm.MethodName) jdk_42_method_66_code (3 : Nat) (Option.some Jvm.ClassFile.FieldType.boolean)).before args0 about1 = true := code_word (m := ⟨7, 2⟩) (meth := k7m2) (c := k7c2) (by decide +kernel) rfl rfl rfl (by decide +kernel)
set_option maxRecDepth 65536 in
theorem w_c10 : (Jvm.Cond.code ({ cls := "com/example/gridclause/gridclause/cli/Option", name := "label", desc := "()Ljava/lang/String;" } : Jvm.MethodName) prog_2_method_13_code (1 : Nat) (Option.some (Jvm.ClassFile.FieldType.object "java/lang/String"))).before args0 about1 = true := code_word (m := ⟨9, 3⟩) (meth := k9m3) (c := k9c3) (by decide +kernel) rfl rfl rfl (by decide +kernel)
set_option maxRecDepth 65536 in
theorem w_c11 : (Jvm.Cond.code ({ cls := "com/example/gridclause/gridclause/cli/Option", name := "use", desc := "()Lcom/example/gridclause/gridclause/cli/Option$Use;" } : Jvm.MethodName) prog_2_method_14_code (1 : Nat) (Option.some (Jvm.ClassFile.FieldType.object "com/example/gridclause/gridclause/cli/Option$Use"))).before args0 about1 = true := code_word (m := ⟨9, 4⟩) (meth := k9m4) (c := k9c4) (by decide +kernel) rfl rfl rfl (by decide +kernel)
set_option maxRecDepth 65536 in
theorem w_c12 : (Jvm.Cond.code ({ cls := "java/lang/StringUTF16", name := "compress", desc := "([CII)[B" } : Jvm.MethodName) jdk_52_method_16_code (6 : Nat) (Option.some (Jvm.ClassFile.FieldType.array Jvm.ClassFile.FieldType.byte))).before args0 about1 = true := code_word (m := ⟨12, 2⟩) (meth := k12m2) (c := k12c2) (by decide +kernel) rfl rfl rfl (by decide +kernel)
set_option maxRecDepth 65536 in
theorem w_c13 : (Jvm.Cond.code ({ cls := "java/lang/StringUTF16", name := "compress", desc := "([CI[BII)I" } : Jvm.MethodName) jdk_52_method_21_code (7 : Nat) (Option.some Jvm.ClassFile.FieldType.int)).before args0 about1 = true := code_word (m := ⟨12, 3⟩) (meth := k12m3) (c := k12c3) (by decide +kernel) rfl rfl rfl (by decide +kernel)
set_option maxRecDepth 65536 in
theorem w_c14 : (Jvm.Cond.code ({ cls := "java/lang/StringUTF16", name := "coderFromArrayLen", desc := "([BI)B" } : Jvm.MethodName) jdk_52_method_15_code (2 : Nat) (Option.some Jvm.ClassFile.FieldType.byte)).before args0 about1 = true := code_word (m := ⟨12, 1⟩) (meth := k12m1) (c := k12c1) (by decide +kernel) rfl rfl rfl (by decide +kernel)
set_option maxRecDepth 65536 in
theorem w_c15 : (Jvm.Cond.code ({ cls := "java/lang/String", name := "valueOf", desc := "(C)Ljava/lang/String;" } : Jvm.MethodName) jdk_42_method_139_code (1 : Nat) (Option.some (Jvm.ClassFile.FieldType.object "java/lang/String"))).before args0 about1 = true := code_word (m := ⟨7, 3⟩) (meth := k7m3) (c := k7c3) (by decide +kernel) rfl rfl rfl (by decide +kernel)
set_option maxRecDepth 65536 in
theorem w_c16 : (Jvm.Cond.code ({ cls := "java/lang/StringLatin1", name := "canEncode", desc := "(C)Z" } : Jvm.MethodName) jdk_43_method_3_code (1 : Nat) (Option.some Jvm.ClassFile.FieldType.boolean)).before args0 about1 = true := code_word (m := ⟨13, 1⟩) (meth := k13m1) (c := k13c1) (by decide +kernel) rfl rfl rfl (by decide +kernel)
set_option maxRecDepth 65536 in
theorem w_c17 : (Jvm.Cond.code ({ cls := "java/lang/StringLatin1", name := "toBytes", desc := "(C)[B" } : Jvm.MethodName) jdk_43_method_46_code (1 : Nat) (Option.some (Jvm.ClassFile.FieldType.array Jvm.ClassFile.FieldType.byte))).before args0 about1 = true := code_word (m := ⟨13, 2⟩) (meth := k13m2) (c := k13c2) (by decide +kernel) rfl rfl rfl (by decide +kernel)
set_option maxRecDepth 65536 in
theorem w_c18 : (Jvm.Cond.code ({ cls := "java/lang/String", name := "<init>", desc := "([BB)V" } : Jvm.MethodName) jdk_42_method_151_code (3 : Nat) (Option.none : Option Jvm.ClassFile.FieldType)).before args0 about1 = true := code_word (m := ⟨7, 5⟩) (meth := k7m5) (c := k7c5) (by decide +kernel) rfl rfl rfl (by decide +kernel)
def codes1 : List Jvm.Cond := [Jvm.Cond.code x code maxLocals ret, Jvm.Cond.code ({ cls := "com/example/gridclause/gridclause/cli/OptionAlonePinLaw", name := "draw", desc := "(III)Ljava/lang/String;" } : Jvm.MethodName) method_2_code (5 : Nat) (Option.some (Jvm.ClassFile.FieldType.object "java/lang/String")), Jvm.Cond.code ({ cls := "java/lang/String", name := "<init>", desc := "([C)V" } : Jvm.MethodName) jdk_42_method_3_code (2 : Nat) (Option.none : Option Jvm.ClassFile.FieldType), Jvm.Cond.code ({ cls := "java/lang/String", name := "<init>", desc := "([CIILjava/lang/Void;)V" } : Jvm.MethodName) jdk_42_method_149_code (6 : Nat) (Option.none : Option Jvm.ClassFile.FieldType), Jvm.Cond.code ({ cls := "java/lang/Object", name := "<init>", desc := "()V" } : Jvm.MethodName) object_method_1_code (1 : Nat) (Option.none : Option Jvm.ClassFile.FieldType), Jvm.Cond.code ({ cls := "com/example/gridclause/gridclause/cli/Option", name := "alone", desc := "(Ljava/lang/String;Ljava/lang/String;)Lcom/example/gridclause/gridclause/cli/Option;" } : Jvm.MethodName) prog_2_method_5_code (2 : Nat) (Option.some (Jvm.ClassFile.FieldType.object "com/example/gridclause/gridclause/cli/Option")), Jvm.Cond.code ({ cls := "com/example/gridclause/gridclause/cli/Option", name := "<init>", desc := "(Ljava/lang/String;Ljava/lang/String;Lcom/example/gridclause/gridclause/cli/Option$Use;)V" } : Jvm.MethodName) prog_2_method_1_code (4 : Nat) (Option.none : Option Jvm.ClassFile.FieldType), Jvm.Cond.code ({ cls := "java/lang/Record", name := "<init>", desc := "()V" } : Jvm.MethodName) jdk_30_method_1_code (1 : Nat) (Option.none : Option Jvm.ClassFile.FieldType), Jvm.Cond.code ({ cls := "com/example/gridclause/gridclause/cli/Option", name := "name", desc := "()Ljava/lang/String;" } : Jvm.MethodName) prog_2_method_12_code (1 : Nat) (Option.some (Jvm.ClassFile.FieldType.object "java/lang/String")), Jvm.Cond.code ({ cls := "java/lang/String", name := "equals", desc := "(Ljava/lang/Object;)Z" } : Jvm.MethodName) jdk_42_method_66_code (3 : Nat) (Option.some Jvm.ClassFile.FieldType.boolean), Jvm.Cond.code ({ cls := "com/example/gridclause/gridclause/cli/Option", name := "label", desc := "()Ljava/lang/String;" } : Jvm.MethodName) prog_2_method_13_code (1 : Nat) (Option.some (Jvm.ClassFile.FieldType.object "java/lang/String")), Jvm.Cond.code ({ cls := "com/example/gridclause/gridclause/cli/Option", name := "use", desc := "()Lcom/example/gridclause/gridclause/cli/Option$Use;" } : Jvm.MethodName) prog_2_method_14_code (1 : Nat) (Option.some (Jvm.ClassFile.FieldType.object "com/example/gridclause/gridclause/cli/Option$Use")), Jvm.Cond.code ({ cls := "java/lang/StringUTF16", name := "compress", desc := "([CII)[B" } : Jvm.MethodName) jdk_52_method_16_code (6 : Nat) (Option.some (Jvm.ClassFile.FieldType.array Jvm.ClassFile.FieldType.byte)), Jvm.Cond.code ({ cls := "java/lang/StringUTF16", name := "compress", desc := "([CI[BII)I" } : Jvm.MethodName) jdk_52_method_21_code (7 : Nat) (Option.some Jvm.ClassFile.FieldType.int), Jvm.Cond.code ({ cls := "java/lang/StringUTF16", name := "coderFromArrayLen", desc := "([BI)B" } : Jvm.MethodName) jdk_52_method_15_code (2 : Nat) (Option.some Jvm.ClassFile.FieldType.byte), Jvm.Cond.code ({ cls := "java/lang/String", name := "valueOf", desc := "(C)Ljava/lang/String;" } : Jvm.MethodName) jdk_42_method_139_code (1 : Nat) (Option.some (Jvm.ClassFile.FieldType.object "java/lang/String")), Jvm.Cond.code ({ cls := "java/lang/StringLatin1", name := "canEncode", desc := "(C)Z" } : Jvm.MethodName) jdk_43_method_3_code (1 : Nat) (Option.some Jvm.ClassFile.FieldType.boolean), Jvm.Cond.code ({ cls := "java/lang/StringLatin1", name := "toBytes", desc := "(C)[B" } : Jvm.MethodName) jdk_43_method_46_code (1 : Nat) (Option.some (Jvm.ClassFile.FieldType.array Jvm.ClassFile.FieldType.byte)), Jvm.Cond.code ({ cls := "java/lang/String", name := "<init>", desc := "([BB)V" } : Jvm.MethodName) jdk_42_method_151_code (3 : Nat) (Option.none : Option Jvm.ClassFile.FieldType)]
set_option maxRecDepth 65536 in
theorem codes_eq : words1.filter isCode = codes1 := rfl
theorem w_codes : ∀ c ∈ words1.filter isCode, c.before args0 about1 = true := by
  rw [codes_eq]
  intro c hc
  simp only [codes1, List.mem_cons, List.not_mem_nil, or_false] at hc
  rcases hc with rfl | rfl | rfl | rfl | rfl | rfl | rfl | rfl | rfl | rfl | rfl | rfl | rfl | rfl | rfl | rfl | rfl | rfl | rfl
  · exact w_c0
  · exact w_c1
  · exact w_c2
  · exact w_c3
  · exact w_c4
  · exact w_c5
  · exact w_c6
  · exact w_c7
  · exact w_c8
  · exact w_c9
  · exact w_c10
  · exact w_c11
  · exact w_c12
  · exact w_c13
  · exact w_c14
  · exact w_c15
  · exact w_c16
  · exact w_c17
  · exact w_c18
set_option maxRecDepth 65536 in
theorem w_t1 : (words1.take 24).all (fun c => isCode c || c.before args0 about1) = true := by decide +kernel
set_option maxRecDepth 65536 in
theorem w_t2 : ((words1.drop 24).take 24).all (fun c => isCode c || c.before args0 about1) = true := by decide +kernel
set_option maxRecDepth 65536 in
theorem w_t3 : (((words1.drop 24).drop 24).take 24).all (fun c => isCode c || c.before args0 about1) = true := by decide +kernel
set_option maxRecDepth 65536 in
theorem w_t4 : ((((words1.drop 24).drop 24).drop 24).take 24).all (fun c => isCode c || c.before args0 about1) = true := by decide +kernel
set_option maxRecDepth 65536 in
theorem w_t5 : ((((words1.drop 24).drop 24).drop 24).drop 24).all (fun c => isCode c || c.before args0 about1) = true := by decide +kernel
theorem w_tables : (allAtoms (Jvm.Cond.code x code maxLocals ret :: tables_1)).before args0 about1 = true := by
  rw [allAtoms_all]
  show words1.all (fun c => c.before args0 about1) = true
  refine all_split ?_ w_codes
  rw [← List.take_append_drop 24 words1, List.all_append, w_t1, ← List.take_append_drop 24 (words1.drop 24), List.all_append, w_t2, ← List.take_append_drop 24 ((words1.drop 24).drop 24), List.all_append, w_t3, ← List.take_append_drop 24 (((words1.drop 24).drop 24).drop 24), List.all_append, w_t4, w_t5]
  rfl
set_option maxRecDepth 65536 in
theorem w_rest : rest_1_c.before args0 about1 = true := by decide +kernel
set_option maxRecDepth 65536 in
theorem w_case : (Jvm.Cond.and given_1 narrow_1).before args0 about1 = true := by decide +kernel
set_option maxRecDepth 65536 in
theorem w_consts : constsHeld consts_1 about1 := Jvm.Lit.constsHeldB_iff.mp (by decide +kernel)
theorem w_applies : (headSpec (Jvm.Cond.code x code maxLocals ret :: tables_1) room_1).applies x e0.platform about1 = true :=
  (Spec.applies_iff w_frames).mpr ⟨w_running, w_runnable, w_alone, w_named, w_hears, w_ripe, w_room, w_tables⟩
theorem atStart : AtStart classFile x code maxLocals ret World_1 tables_1 room_1 Calls_1 rest_1 Pre_1 launch0 p0 e0 about1 theMethod args0 below0 :=
  ⟨lists_1, trivial, launch0.admits_env _ _ _, launch0.least_env, fairChoices_fair.cas, fairChoices_fair.clock, w_frames, w_args, w_heap, w_applies, ⟨w_consts, trivial⟩, w_rest, w_case⟩
end start1
theorem witness_1 : WitnessClaimed_1 := ⟨start1.p0, start1.e0, start1.about1, start1.theMethod, start1.args0, start1.below0, start1.atStart⟩
end Jvm.Pilot.@@N@@
