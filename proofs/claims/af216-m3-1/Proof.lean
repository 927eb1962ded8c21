import JvmDerived
import JvmDerived.Pilot.@@N@@Statement
import JvmDerived.Pilot.@@N@@Code
set_option linter.unusedVariables false
set_option linter.unusedSimpArgs false
namespace Jvm.RoadKit
open Sem ClassFile Op Lib Jvm.Stand Jvm.Free Jvm.LawKit
section Own
variable {p : Program} {l : Launch} {e : Env} {R : Room} {s : State} {m : MethodId} {args : Array Value} {below : List Frame} {meth : Method} {c : Code} {T : State} {locs : List Loc} {cells slots : Nat} {Z : State} {a0 : Array Value} {h : Heap}
theorem retI (X : Stand p l e R s m args below meth c T locs cells slots) (hx : p.tables.exec = Jvm.exec) {pc : Nat} {Ls : Array Slot} {z : Int32} {rest : List Value} (hret : meth.sig.returnType = some .int) (hd : decode c.code pc = .ok (.ireturn, 1)) {fs : List Frame}
    (hl : ∀ (f : JFrame) (acts : List Action), f.method = m → f.locked = none → f.entered = [] → (doReturn e (T.setTop f) acts (some (.int z))).1 = T.setFrames fs) : Steps p.tables e below (T.setTop (mkF m pc Ls (.int z :: rest))) (T.setFrames fs) := by
  have hm' : T.vm.method? m = some meth := X.method'
  have hn : narrow .int (.int z) = .int z := rfl
  show Steps p.tables e below (T.setTop { method := m, pc := pc, locals := Ls, stack := _ :: rest, locked := none }) _
  jvm_step X.here [X.here.top, hx, hd, hm', hret, hn]
  first | (intro acts; rw [hl _ acts rfl rfl rfl]) | rw [hl _ _ rfl rfl rfl]
  exact Steps.refl _
theorem own_retN (X : Stand p l e R s m args below meth c T locs cells slots) (hx : p.tables.exec = Jvm.exec) {pc : Nat} {Ls : Array Slot} {z z' : Int32} {t : FieldType} {rest : List Value} (hret : meth.sig.returnType = some t) (ht : t = .boolean ∨ t = .byte ∨ t = .char ∨ t = .short)
    (hd : decode c.code pc = .ok (.ireturn, 1)) (eq : nar t z = z') {fs : List Frame} (hl : ∀ (f : JFrame) (acts : List Action), f.method = m → f.locked = none → f.entered = [] → (doReturn e (T.setTop f) acts (some (.int z'))).1 = T.setFrames fs) :
    Steps p.tables e below (T.setTop (mkF m pc Ls (.int z :: rest))) (T.setFrames fs) := retN X hx hret ht hd (by rw [eq]; exact hl)
/-- the run comes from S to an end of which Q holds -/
def ownGo (p : Program) (e : Env) (below : List Frame) (Q : Outcome → State → Prop) (S : State) : Prop := ∃ s₂ o, Steps p.tables e below S s₂ ∧ s₂.status = .running ∧ Ended s₂ below o ∧ Q o s₂
theorem own_st {Q : Outcome → State → Prop} {S : State} (S' : State) (h : ∀ t, Steps p.tables e below S' t → Steps p.tables e below S t) (k : ownGo p e below Q S') : ownGo p e below Q S := by
  obtain ⟨a, b, h1, h2⟩ := k; exact ⟨a, b, h _ h1, h2⟩
theorem own_cast {Q : Outcome → State → Prop} {g g' : JFrame} (q : g = g') (k : ownGo p e below Q (T.setTop g')) : ownGo p e below Q (T.setTop g) := q ▸ k
def ownQ (s : State) (QQ : Option Value → Heap → List Loc → Prop) (C N : Nat) : Outcome → State → Prop := fun o U' => ∃ v L, o = .returned v ∧ QQ v U'.heap L ∧ FrameEnd s o U' L C N
theorem own_ret (X : Stand p l e R s m args below meth c T locs cells slots) (hlk : meth.locks = false) {v : Option Value} (hv : meth.sig.returnType = none → v = none) {QQ : Option Value → Heap → List Loc → Prop} {C N : Nat} (eT : T.heap = h) (hq : QQ v h locs) (hC : cells ≤ C) (hN : slots ≤ N) {S : State}
    (hs : ∀ fs, (∀ (f : JFrame) (acts : List Action), f.method = m → f.locked = none → f.entered = [] → (doReturn e (T.setTop f) acts v).1 = T.setFrames fs) → Steps p.tables e below S (T.setFrames fs)) : ownGo p e below (ownQ s QQ C N) S := by
  obtain ⟨fs, hr, hrun, hended, hW, hsame⟩ := X.leave (v := v) hv hlk
  exact ⟨_, _, hs fs hr, hrun, hended, v, locs, rfl, (by show QQ v T.heap locs; rw [eT]; exact hq), ⟨_, rfl⟩, hW, hsame.mono hC hN⟩
/-- a body's contract -/
abbrev ownMet (l : Launch) (y : MethodName) (bytes : ByteArray) (maxL : Nat) (ret : Option FieldType) (ws : List Jvm.Cond) (rm : Room) (Z : State) (as : Array Value) (h0 : Heap) (QQ : Option Value → Heap → List Loc → Prop) : Prop :=
  MetFree l y (head1 (Jvm.Cond.code y bytes maxL ret :: ws) rm) (fun a U => a = as ∧ Z.Warmed39 U.vm ∧ U.heap = h0) (fun _ _ _ _ _ => True) (fun _ U o U' => ∃ v L, o = .returned v ∧ QQ v U'.heap L ∧ FrameEnd U o U' L rm.cells rm.slots)
theorem own_met {y : MethodName} {bytes : ByteArray} {maxL : Nat} {ret : Option FieldType} {ws : List Jvm.Cond} {rm : Room} {as : Array Value} {h0 : Heap} {QQ : Option Value → Heap → List Loc → Prop} (hpl : plainFor y = true)
    (body : ∀ (p : Program) (e : Env) (s : State) (m : MethodId) (below : List Frame) (meth : Method) (c : Code) (s₁ : State), p.tables.exec = Jvm.exec → c.code = bytes → c.maxLocals = maxL → s.vm.findClass y.cls = some m.cls → meth.name = y.name → meth.sig.returnType = ret → meth.locks = false → Z.Warmed39 s.vm → s₁.heap = h0 → Stand p l e rm s m as below meth c s₁ [] 0 0 →
      ownGo p e below (ownQ s QQ rm.cells rm.slots) (s₁.setTop (entryFrame m as maxL))) : ownMet l y bytes maxL ret ws rm Z as h0 QQ := by
  refine MetFree.of_bodySF hpl hisR ?_
  intro p e s m args below meth c s₁ Bd hml0 hP hK
  obtain ⟨rfl, hZ, hh⟩ := hP
  exact body p e s m below meth c s₁ Bd.exec Bd.bytes hml0 (findClass_of_methodNamed Bd.named) (name_of_methodNamed Bd.named Bd.method).1 Bd.returns Bd.notSynchronized hZ (by rw [← hh, Bd.state]; rfl) (Stand.of_body Bd)
theorem own_callS (X : Stand p l e R s m args below meth c T locs cells slots) (hx : p.tables.exec = Jvm.exec) (hZ : Z.Warmed39 s.vm) {own : String} {index : Nat} {y : MethodName} {bytes : ByteArray} {maxL : Nat} {ret : Option FieldType} (hown : s.vm.findClass own = some m.cls)
    (w1 : (Jvm.Cond.methodLink own index y).before a0 Z = true) (w2 : (Jvm.Cond.static y).before a0 Z = true) (w3 : (Jvm.Cond.initialized y.cls).before a0 Z = true) (w4 : (Jvm.Cond.code y bytes maxL ret).before a0 Z = true)
    {rm : Room} {QQ : Option Value → Heap → List Loc → Prop} {argsL : List Value} (hM : ownMet l y bytes maxL ret [] rm Z argsL.toArray h QQ) (W : Nat)
    (hy : y.cls ≠ "java/lang/invoke/MethodHandle" ∧ y.cls ≠ "java/lang/invoke/VarHandle") (hf : rm.frames + 1 ≤ R.frames) (hl : W + (maxL + 11) + rm.locals ≤ R.locals) (hc : cells + rm.cells ≤ R.cells) (hs : slots + rm.slots ≤ R.slots)
    (eT : T.heap = h) {g : JFrame} (hg : g.method = m) (hsize : g.locals.size = c.maxLocals) (rest : List Value) (hlen : ∀ sig, parseMethodDescriptor y.desc = some sig → argsL.length = sig.parameters.length) (hstack : g.stack = argsL.reverse ++ rest) (hW : 2 * g.monitorRoom + (rest.map fun v => v.category).sum ≤ W) (hdg : decode c.code g.pc = .ok (.invokestatic index, 3)) :
    ∃ v T' L, Stand p l e R s m args below meth c T' (locs ++ L) (cells + rm.cells) (slots + rm.slots) ∧ QQ v T'.heap L ∧ ∀ target, Steps p.tables e below (T'.setTop { g with pc := g.pc + 3, stack := v.toList ++ rest }) target → Steps p.tables e below (T.setTop g) target := by
  obtain ⟨v, _, ⟨T1, L1, k1, n1⟩, -, X1, ⟨Lc, hQ, l1, y1, z1⟩, st⟩ := Jvm.LawKit.callS X hx (y := y) hown (mvT hZ w1) (mvT hZ w2) (mvT hZ w3) (mvT hZ w4) hy (backOf (W := W) hM hZ w4 w3 hf hl) hg hsize (argsL := argsL) (rest := rest) hlen hstack hW hdg (fun _ _ => ⟨rfl, eT, hc, hs⟩)
  dsimp only [Pt.U, Pt.locs, Pt.cells, Pt.slots] at X1 l1 y1 z1 st hQ
  subst l1 y1 z1
  exact ⟨v, T1, Lc, X1, hQ, st⟩
theorem own_callI (X : Stand p l e R s m args below meth c T locs cells slots) (hx : p.tables.exec = Jvm.exec) (hZ : Z.Warmed39 s.vm) {own : String} {index : Nat} {y : MethodName} {bytes : ByteArray} {maxL : Nat} (hown : s.vm.findClass own = some m.cls) (hy1 : y.name = "<init>")
    (w1 : (Jvm.Cond.methodLink own index y).before a0 Z = true) (w2 : (Jvm.Cond.instanceMethod y).before a0 Z = true) (w3 : (Jvm.Cond.initialized y.cls).before a0 Z = true) (w4 : (Jvm.Cond.code y bytes maxL none).before a0 Z = true)
    {rm : Room} {QQ : Option Value → Heap → List Loc → Prop} {a : Addr} {argsL : List Value} (hM : ownMet l y bytes maxL none [] rm Z (.ref a :: argsL).toArray h QQ) (W : Nat)
    (hy : y.cls ≠ "java/lang/invoke/MethodHandle" ∧ y.cls ≠ "java/lang/invoke/VarHandle") (hf : rm.frames + 1 ≤ R.frames) (hl : W + (maxL + 11) + rm.locals ≤ R.locals) (hc : cells + rm.cells ≤ R.cells) (hs : slots + rm.slots ≤ R.slots)
    (eT : T.heap = h) {g : JFrame} (hg : g.method = m) (hsize : g.locals.size = c.maxLocals) (rest : List Value) (hlen : ∀ sig, parseMethodDescriptor y.desc = some sig → argsL.length = sig.parameters.length) (hstack : g.stack = argsL.reverse ++ .ref a :: rest) (hW : 2 * g.monitorRoom + (rest.map fun v => v.category).sum ≤ W) (hdg : decode c.code g.pc = .ok (.invokespecial index, 3)) :
    ∃ v T' L, Stand p l e R s m args below meth c T' (locs ++ L) (cells + rm.cells) (slots + rm.slots) ∧ QQ v T'.heap L ∧ ∀ target, Steps p.tables e below (T'.setTop { g with pc := g.pc + 3, stack := v.toList ++ rest }) target → Steps p.tables e below (T.setTop g) target := by
  obtain ⟨v, _, ⟨T1, L1, k1, n1⟩, -, X1, ⟨Lc, hQ, l1, y1, z1⟩, st⟩ := X.specialBack hx (y := y) hy1 hown (mvT hZ w1) (mvT hZ w2) (mvT hZ w4) hy (backOf (W := W) hM hZ w4 w3 hf hl) hg hsize (Steps.refl _) (a := a) (argsL := argsL) (rest := rest) hlen hstack hW hdg (fun _ _ => ⟨rfl, eT, hc, hs⟩)
  dsimp only [Pt.U, Pt.locs, Pt.cells, Pt.slots] at X1 l1 y1 z1 st hQ
  subst l1 y1 z1
  exact ⟨v, T1, Lc, X1, hQ, fun t k => st.trans k⟩
theorem own_nfz {y : MethodName} (hZ : Z.Warmed39 s.vm) (nf : NotFace Z y) : NotFace s y := fun r0 h0 => by
  have e : (Z.setVm s.vm).methodNamed? y = some r0 := h0
  rw [State.methodNamed?_setVm hZ.alike] at e
  obtain ⟨kr, a1, a2⟩ := nf r0 e
  obtain ⟨k', q1, q2⟩ := hZ.alike.2.2 _ _ a1
  exact ⟨k', q1, by rw [q2]; exact a2⟩
theorem own_callV (X : Stand p l e R s m args below meth c T locs cells slots) (hx : p.tables.exec = Jvm.exec) (hZ : Z.Warmed39 s.vm) {own C : String} {index : Nat} {y z : MethodName} {bytes : ByteArray} {maxL : Nat} {ret : Option FieldType} (hown : s.vm.findClass own = some m.cls)
    (w1 : (Jvm.Cond.methodLink own index y).before a0 Z = true) (wd : (Jvm.Cond.declares y).before a0 Z = true) (nf : NotFace Z y) (wsel : (Jvm.Cond.selects C y z).before a0 Z = true) (w2 : (Jvm.Cond.instanceMethod z).before a0 Z = true) (w3 : (Jvm.Cond.initialized z.cls).before a0 Z = true) (w4 : (Jvm.Cond.code z bytes maxL ret).before a0 Z = true)
    {b : Addr} (E : Exa Z h b C) {rm : Room} {QQ : Option Value → Heap → List Loc → Prop} {argsL : List Value} (hM : ownMet l z bytes maxL ret [] rm Z (.ref b :: argsL).toArray h QQ) (W : Nat)
    (hy : y.cls ≠ "java/lang/invoke/MethodHandle" ∧ y.cls ≠ "java/lang/invoke/VarHandle") (hf : rm.frames + 1 ≤ R.frames) (hl : W + (maxL + 11) + rm.locals ≤ R.locals) (hc : cells + rm.cells ≤ R.cells) (hs : slots + rm.slots ≤ R.slots)
    (eT : T.heap = h) {g : JFrame} (hg : g.method = m) (hsize : g.locals.size = c.maxLocals) (rest : List Value) (hlen : ∀ sig, parseMethodDescriptor y.desc = some sig → argsL.length = sig.parameters.length) (hstack : g.stack = argsL.reverse ++ .ref b :: rest) (hW : 2 * g.monitorRoom + (rest.map fun v => v.category).sum ≤ W) (hdg : decode c.code g.pc = .ok (.invokevirtual index, 3)) :
    ∃ v T' L, Stand p l e R s m args below meth c T' (locs ++ L) (cells + rm.cells) (slots + rm.slots) ∧ QQ v T'.heap L ∧ ∀ target, Steps p.tables e below (T'.setTop { g with pc := g.pc + 3, stack := v.toList ++ rest }) target → Steps p.tables e below (T.setTop g) target := by
  obtain ⟨cq, kq, qa, qb, qc⟩ := isOf (T := T) hZ eT E
  obtain ⟨v, _, ⟨T1, L1, k1, n1⟩, -, X1, ⟨Lc, hQ, l1, y1, z1⟩, st⟩ := X.virtualBack hx (y := y) (z := z) hown (mvT hZ w1) (mvT hZ wd) (own_nfz hZ nf) (mvT hZ wsel) (mvT hZ w2) hy (backOf (W := W) hM hZ w4 w3 hf hl) qa qc hg hsize (Steps.refl _) (argsL := argsL) (rest := rest) hlen hstack hW hdg (fun _ _ => ⟨rfl, eT, hc, hs⟩)
  dsimp only [Pt.U, Pt.locs, Pt.cells, Pt.slots] at X1 l1 y1 z1 st hQ
  subst l1 y1 z1
  exact ⟨v, T1, Lc, X1, hQ, fun t k => st.trans k⟩
theorem own_eqI {first : State} {o : Option Outcome} {idx : List Nat} {a b : Term} {n : Int32} (h : (Jvm.Cond.eq a b).value args first o s idx = some true) (hb : b.eval args first o idx s = some (.int n)) : a.eval args first o idx s = some (.int n) := by
  obtain ⟨x, y, ex, ey, k1, k2⟩ := cmp_v (Or.inl h)
  cases ey.symm.trans hb
  obtain ⟨z, rfl⟩ := k2
  rw [ex, gotT (Jvm.Cond.eq_ints ex hb) h]
theorem own_eqR {first : State} {o : Option Outcome} {idx : List Nat} {a b : Term} {y : Addr} (h : (Jvm.Cond.eq a b).value args first o s idx = some true) (hb : b.eval args first o idx s = some (.ref y)) : a.eval args first o idx s = some (.ref y) := by
  obtain ⟨x, y', ex, ey, k1, k2⟩ := cmp_v (Or.inl h)
  cases ey.symm.trans hb
  have q := gotT (eq_R ex hb k2.2 rfl) h
  rw [ex, q]
theorem own_arv {t : Term} {a : Addr} {cl : Cell} {ty : FieldType} {z : Int32} {vs : List Value} {dv : Value} (hf : Fit s) (A : Arr s s.heap a cl ty) (ev : t.eval args s none [] s = some (.ref a)) (hl : (Term.length t).eval args s none [] s = some (.int z)) (hz : ¬ z < 0) (hn : z.toNatClampNeg = vs.length) (H : HasL cl 0 vs) : Arv s s.heap a cl.cls ty z vs dv := by
  have harr := A.fin (Vm.Alike.refl _)
  have h31 := SBG.length_lt ev harr hl
  have e := Option.some.inj ((len_f ev harr h31).symm.trans hl)
  exact Arv.start hf A h31 (Value.int.inj e) hz hn H
theorem own_nfc {y y' : MethodName} {r : MethodId} (h : NotFace s y') (hr : s.methodNamed? y' = some r) (hc : y.cls = y'.cls) : NotFace s y := fun r0 h0 => by
  obtain ⟨kr, a1, a2⟩ := h r hr
  have q1 := findClass_of_methodNamed h0
  have q2 := findClass_of_methodNamed hr
  rw [hc] at q1
  have e : r0.cls = r.cls := Option.some.inj (q1.symm.trans q2)
  exact ⟨kr, by rw [e]; exact a1, a2⟩
theorem own_named {y : MethodName} (w : (Jvm.Cond.instanceMethod y).before a0 s = true) : ∃ r, s.methodNamed? y = some r := by
  obtain ⟨mk, methM, hnamed, -⟩ := Jvm.Cond.instanceMethod_spec w
  exact ⟨mk, hnamed⟩
theorem own_same {y : MethodName} (nf : NotFace s y) (w : (Jvm.Cond.instanceMethod y).before a0 s = true) (hy : y.cls ≠ "java/lang/invoke/MethodHandle" ∧ y.cls ≠ "java/lang/invoke/VarHandle") : (Jvm.Cond.sameMethod y.cls y.cls y.name y.desc).before args s = true := by
  obtain ⟨r, hr⟩ := own_named w
  obtain ⟨kr, a1, a2⟩ := nf r hr
  have q1 := findClass_of_methodNamed hr
  have q2 := State.methodFound?_of_named hr hy
  have hr' : s.methodNamed? ⟨y.cls, y.name, y.desc⟩ = some r := hr
  simp [Jvm.Cond.before, Jvm.Cond.holds, Jvm.Cond.value, q1, q2, hr', a1, a2]
theorem own_callP (X : Stand p l e R s m args below meth c T locs cells slots) (hx : p.tables.exec = Jvm.exec) (hZ : Z.Warmed39 s.vm) {own C : String} {index : Nat} {y : MethodName} {bytes : ByteArray} {maxL : Nat} {ret : Option FieldType} (hown : s.vm.findClass own = some m.cls)
    (w1 : (Jvm.Cond.methodLink own index y).before a0 Z = true) (wp : (Jvm.Cond.privateMethod y).before a0 Z = true) (nf : NotFace Z y) (w2 : (Jvm.Cond.instanceMethod y).before a0 Z = true) (w3 : (Jvm.Cond.initialized y.cls).before a0 Z = true) (w4 : (Jvm.Cond.code y bytes maxL ret).before a0 Z = true)
    {b : Addr} (E : Exa Z h b C) {rm : Room} {QQ : Option Value → Heap → List Loc → Prop} {argsL : List Value} (hM : ownMet l y bytes maxL ret [] rm Z (.ref b :: argsL).toArray h QQ) (W : Nat)
    (hy : y.cls ≠ "java/lang/invoke/MethodHandle" ∧ y.cls ≠ "java/lang/invoke/VarHandle") (hf : rm.frames + 1 ≤ R.frames) (hl : W + (maxL + 11) + rm.locals ≤ R.locals) (hc : cells + rm.cells ≤ R.cells) (hs : slots + rm.slots ≤ R.slots)
    (eT : T.heap = h) {g : JFrame} (hg : g.method = m) (hsize : g.locals.size = c.maxLocals) (rest : List Value) (hlen : ∀ sig, parseMethodDescriptor y.desc = some sig → argsL.length = sig.parameters.length) (hstack : g.stack = argsL.reverse ++ .ref b :: rest) (hW : 2 * g.monitorRoom + (rest.map fun v => v.category).sum ≤ W) (hdg : decode c.code g.pc = .ok (.invokevirtual index, 3)) :
    ∃ v T' L, Stand p l e R s m args below meth c T' (locs ++ L) (cells + rm.cells) (slots + rm.slots) ∧ QQ v T'.heap L ∧ ∀ target, Steps p.tables e below (T'.setTop { g with pc := g.pc + 3, stack := v.toList ++ rest }) target → Steps p.tables e below (T.setTop g) target := by
  obtain ⟨cell, hcell, hobj⟩ := E.cell
  obtain ⟨mk, methM, hnamed, hmethM, hstM, habM⟩ := Jvm.Cond.instanceMethod_spec (mvT (args := args) hZ w2)
  obtain ⟨methM', cM, hmethM', -, -, -, -, -, -, hsigM⟩ := Jvm.Cond.code_spec hnamed (mvT (args := args) hZ w4)
  cases hmethM.symm.trans hmethM'
  obtain ⟨kP, hkP, hkPi⟩ := own_nfz hZ nf mk hnamed
  have hselP : selectMethod e.platform s.vm cell.cls mk = .method mk := selectMethod_private hmethM ((Jvm.Cond.privateMethod_at (mvP (args := #[]) hZ wp)) mk methM hnamed hmethM)
  obtain ⟨vm₁, X₁, hstep₁⟩ := X.invokevirtual hx hown (mvT hZ w1) hnamed hmethM hstM hkP hkPi hy (a := b) (cell := cell) (by rw [eT]; exact hcell) hobj hselP hmethM habM hkP hkPi (g := g) hg (argsL := argsL) (rest := rest) (hlen _ hsigM) hstack hdg
  obtain ⟨v, ⟨T1, L1, k1, n1⟩, X1, ⟨Lc, hQ, l1, y1, z1⟩, st⟩ := (backOf (len := 3) (W := W) (p := p) (e := e) (below := below) (args := args) (R := R) hM hZ w4 w3 hf hl) m meth c ⟨T.setVm vm₁, locs, cells, slots⟩ { g with stack := rest } (.invokevirtual index) mk (.ref b :: argsL).toArray X₁ hg hsize hdg hW (X₁.named hnamed) ⟨rfl, eT, hc, hs⟩
  dsimp only [Pt.U, Pt.locs, Pt.cells, Pt.slots] at X1 l1 y1 z1 st hQ
  subst l1 y1 z1
  exact ⟨v, T1, Lc, X1, hQ, fun t k => hstep₁ _ fun acts => by rw [doInvoke_state]; exact st.trans k⟩
theorem own_callU (X : Stand p l e R s m args below meth c T locs cells slots) (hx : p.tables.exec = Jvm.exec) (hZ : Z.Warmed39 s.vm) {own C owner : String} {index : Nat} {y z : MethodName} {bytes : ByteArray} {maxL : Nat} {ret : Option FieldType} (hown : s.vm.findClass own = some m.cls)
    (w1 : (Jvm.Cond.methodLink own index y).before a0 Z = true) (wsm : (Jvm.Cond.sameMethod y.cls owner y.name y.desc).before a0 Z = true) (wd : (Jvm.Cond.declares ⟨owner, y.name, y.desc⟩).before a0 Z = true) (hyo : owner ≠ "java/lang/invoke/MethodHandle" ∧ owner ≠ "java/lang/invoke/VarHandle") (wsel : (Jvm.Cond.selects C y z).before a0 Z = true) (w2 : (Jvm.Cond.instanceMethod z).before a0 Z = true) (w3 : (Jvm.Cond.initialized z.cls).before a0 Z = true) (w4 : (Jvm.Cond.code z bytes maxL ret).before a0 Z = true)
    {b : Addr} (E : Exa Z h b C) {rm : Room} {QQ : Option Value → Heap → List Loc → Prop} {argsL : List Value} (hM : ownMet l z bytes maxL ret [] rm Z (.ref b :: argsL).toArray h QQ) (W : Nat)
    (hf : rm.frames + 1 ≤ R.frames) (hl : W + (maxL + 11) + rm.locals ≤ R.locals) (hc : cells + rm.cells ≤ R.cells) (hs : slots + rm.slots ≤ R.slots)
    (eT : T.heap = h) {g : JFrame} (hg : g.method = m) (hsize : g.locals.size = c.maxLocals) (rest : List Value) (hlen : ∀ sig, parseMethodDescriptor y.desc = some sig → argsL.length = sig.parameters.length) (hstack : g.stack = argsL.reverse ++ .ref b :: rest) (hW : 2 * g.monitorRoom + (rest.map fun v => v.category).sum ≤ W) (hdg : decode c.code g.pc = .ok (.invokevirtual index, 3)) :
    ∃ v T' L, Stand p l e R s m args below meth c T' (locs ++ L) (cells + rm.cells) (slots + rm.slots) ∧ QQ v T'.heap L ∧ ∀ target, Steps p.tables e below (T'.setTop { g with pc := g.pc + 3, stack := v.toList ++ rest }) target → Steps p.tables e below (T.setTop g) target := by
  obtain ⟨cq, kq, qa, qb, qc⟩ := isOf (T := T) hZ eT E
  obtain ⟨v, _, ⟨T1, L1, k1, n1⟩, -, X1, ⟨Lc, hQ, l1, y1, z1⟩, st⟩ := X.virtualBackUp hx (x := y) (y := z) (owner := owner) hown (mvT hZ w1) (mvT hZ wsm) (mvT hZ wd) hyo (mvT hZ wsel) (mvT hZ w2) (backOf (W := W) hM hZ w4 w3 hf hl) qa qc hg hsize (Steps.refl _) (argsL := argsL) (rest := rest) hlen hstack hW hdg (fun _ _ => ⟨rfl, eT, hc, hs⟩)
  dsimp only [Pt.U, Pt.locs, Pt.cells, Pt.slots] at X1 l1 y1 z1 st hQ
  subst l1 y1 z1
  exact ⟨v, T1, Lc, X1, hQ, fun t k => st.trans k⟩
theorem own_callSup (X : Stand p l e R s m args below meth c T locs cells slots) (hx : p.tables.exec = Jvm.exec) (hZ : Z.Warmed39 s.vm) {own C : String} {index : Nat} {y : MethodName} {bytes : ByteArray} {maxL : Nat} {ret : Option FieldType} (hown : s.vm.findClass own = some m.cls)
    (w1 : (Jvm.Cond.methodLink own index y).before a0 Z = true) (nf : NotFace Z y) (w2 : (Jvm.Cond.instanceMethod y).before a0 Z = true) (wsu : (Jvm.Cond.superclass own y.cls).before a0 Z = true) (hn : y.name ≠ "<init>") (w3 : (Jvm.Cond.initialized y.cls).before a0 Z = true) (w4 : (Jvm.Cond.code y bytes maxL ret).before a0 Z = true)
    {b : Addr} (E : Exa Z h b C) {rm : Room} {QQ : Option Value → Heap → List Loc → Prop} {argsL : List Value} (hM : ownMet l y bytes maxL ret [] rm Z (.ref b :: argsL).toArray h QQ) (W : Nat)
    (hy : y.cls ≠ "java/lang/invoke/MethodHandle" ∧ y.cls ≠ "java/lang/invoke/VarHandle") (hf : rm.frames + 1 ≤ R.frames) (hl : W + (maxL + 11) + rm.locals ≤ R.locals) (hc : cells + rm.cells ≤ R.cells) (hs : slots + rm.slots ≤ R.slots)
    (eT : T.heap = h) {g : JFrame} (hg : g.method = m) (hsize : g.locals.size = c.maxLocals) (rest : List Value) (hlen : ∀ sig, parseMethodDescriptor y.desc = some sig → argsL.length = sig.parameters.length) (hstack : g.stack = argsL.reverse ++ .ref b :: rest) (hW : 2 * g.monitorRoom + (rest.map fun v => v.category).sum ≤ W) (hdg : decode c.code g.pc = .ok (.invokespecial index, 3)) :
    ∃ v T' L, Stand p l e R s m args below meth c T' (locs ++ L) (cells + rm.cells) (slots + rm.slots) ∧ QQ v T'.heap L ∧ ∀ target, Steps p.tables e below (T'.setTop { g with pc := g.pc + 3, stack := v.toList ++ rest }) target → Steps p.tables e below (T.setTop g) target := by
  obtain ⟨v, _, ⟨T1, L1, k1, n1⟩, -, X1, ⟨Lc, hQ, l1, y1, z1⟩, st⟩ := superBack X hx hZ (y := y) hown w1 (own_same nf w2 hy) w2 wsu hn (backOf (W := W) hM hZ w4 w3 hf hl) eT (Ins.self E) hg hsize w4 (argsL := argsL) (rest := rest) hlen hstack hW hdg (fun _ _ => ⟨rfl, eT, hc, hs⟩)
  dsimp only [Pt.U, Pt.locs, Pt.cells, Pt.slots] at X1 l1 y1 z1 st hQ
  subst l1 y1 z1
  exact ⟨v, T1, Lc, X1, hQ, fun t k => st.trans k⟩
end Own
end Jvm.RoadKit
namespace Jvm.RoadKit
open Sem ClassFile Op Lib Bundle Jvm.Stand Jvm.Free Jvm.LawKit
section OwnW
variable {p : Program} {l : Launch} {e : Env} {R : Room} {s : State} {m : MethodId} {args : Array Value} {below : List Frame} {meth : Method} {c : Code} {T : State} {locs : List Loc} {cells slots : Nat} {Z : State} {a0 : Array Value} {h h0 : Heap} {EL : List (String × Nat)} {vm0 : Vm} {k0 : Nat}
def ownQW (s Z : State) (EL : List (String × Nat)) (h0 : Heap) (QQ : Option Value → Vm → Heap → List Loc → Prop) (C N : Nat) : Outcome → State → Prop := fun o U' => ∃ v L, o = .returned v ∧ QQ v U'.vm U'.heap L ∧ CHr Z EL s.vm h0 U'.vm U'.heap ∧ ReturnedEndW s o U' L C N
theorem own_retW (X : Stand p l e R (s.setVm vm0) m args below meth c T locs cells slots) (hlk : meth.locks = false) (hS : s.Since vm0 k0) (hk : k0 ≤ h.size) (hZ : Z.Warmed39 vm0) (hEL : EW Z a0 EL) (RR : CHr Z EL s.vm h0 vm0 h) {v : Option Value} (hv : meth.sig.returnType = none → v = none) {QQ : Option Value → Vm → Heap → List Loc → Prop} {C N : Nat} (eT : T.heap = h) (hq : ∀ vm1, CHr Z EL vm0 h vm1 h → QQ v vm1 h locs) (hC : cells ≤ C) (hN : slots ≤ N) {S : State}
    (hs : ∀ fs, (∀ (f : JFrame) (acts : List Action), f.method = m → f.locked = none → f.entered = [] → (doReturn e (T.setTop f) acts v).1 = T.setFrames fs) → Steps p.tables e below S (T.setFrames fs)) : ownGo p e below (ownQW s Z EL h0 QQ C N) S := by
  subst eT
  obtain ⟨fs, hr, hrun, hended, hW⟩ := X.leaveW hS hk (v := v) hv hlk
  have A := CHv.at X hZ hEL RR.1
  exact ⟨_, _, hs fs hr, hrun, hended, v, locs, rfl, hq T.vm A, RR.trans A, hW.1, hW.2.1, hW.2.2.1, hW.2.2.2.mono hC hN⟩
/-- the contract of a body that may load String constants -/
abbrev ownMetW (l : Launch) (y : MethodName) (bytes : ByteArray) (maxL : Nat) (ret : Option FieldType) (ws : List Jvm.Cond) (rm : Room) (Z : State) (EL : List (String × Nat)) (sf : List Addr) (as : Array Value) (h0 : Heap) (QQ : Option Value → Vm → Heap → List Loc → Prop) : Prop :=
  MetFree l y (head1 (Jvm.Cond.code y bytes maxL ret :: ws) rm) (fun a U => a = as ∧ Z.Warmed39 U.vm ∧ U.heap = h0 ∧ CHv Z EL U.vm h0 ∧ ∀ x ∈ sf, Safe Z EL U.vm h0 x) (fun _ _ _ _ _ => True) (fun _ U o U' => ∃ v L, o = .returned v ∧ QQ v U'.vm U'.heap L ∧ CHr Z EL U.vm h0 U'.vm U'.heap ∧ ReturnedEndW U o U' L rm.cells rm.slots)
theorem own_metW {y : MethodName} {bytes : ByteArray} {maxL : Nat} {ret : Option FieldType} {ws : List Jvm.Cond} {rm : Room} {sf : List Addr} {as : Array Value} {QQ : Option Value → Vm → Heap → List Loc → Prop} (hpl : plainFor y = true)
    (body : ∀ (p : Program) (e : Env) (s : State) (m : MethodId) (below : List Frame) (meth : Method) (c : Code) (s₁ : State), p.tables.exec = Jvm.exec → c.code = bytes → c.maxLocals = maxL → s.vm.findClass y.cls = some m.cls → meth.name = y.name → meth.sig.returnType = ret → meth.locks = false → Z.Warmed39 s.vm → s₁.heap = h0 → Stand p l e rm (s.setVm s.vm) m as below meth c s₁ [] 0 0 → s.Since s.vm 0 → CHr Z EL s.vm h0 s.vm h0 → (∀ x ∈ sf, Safe Z EL s.vm h0 x) →
      ownGo p e below (ownQW s Z EL h0 QQ rm.cells rm.slots) (s₁.setTop (entryFrame m as maxL))) : ownMetW l y bytes maxL ret ws rm Z EL sf as h0 QQ := by
  refine MetFree.of_bodySF hpl hisR ?_
  intro p e s m args below meth c s₁ Bd hml0 hP hK
  obtain ⟨rfl, hZ, hh, hC, hs⟩ := hP
  exact body p e s m below meth c s₁ Bd.exec Bd.bytes hml0 (findClass_of_methodNamed Bd.named) (name_of_methodNamed Bd.named Bd.method).1 Bd.returns Bd.notSynchronized hZ (by rw [← hh, Bd.state]; rfl) (Stand.of_body Bd) ((State.WarmedH.refl s).since 0) (CHr.refl hC) hs
theorem own_backW {y : MethodName} {bytes : ByteArray} {maxL : Nat} {ret : Option FieldType} {rm : Room} {len W : Nat} {as' : Array Value} {sf : List Addr} {QQ : Option Value → Vm → Heap → List Loc → Prop} (hM : ownMetW l y bytes maxL ret [] rm Z EL sf as' h QQ)
    (hZ : Z.Warmed39 vm0) (wc : (Jvm.Cond.code y bytes maxL ret).before a0 Z = true) (wz : (Jvm.Cond.initialized y.cls).before a0 Z = true) (hf : rm.frames + 1 ≤ R.frames) (hl : W + (maxL + 11) + rm.locals ≤ R.locals) (hEL : EW Z a0 EL) (H : CHv Z EL vm0 h) (hsf : ∀ x ∈ sf, x < h.size ∧ Safe Z EL vm0 h x) :
    BackS l R p e below (s.setVm vm0) args y len W (fun A a => a = as' ∧ A.U.heap = h ∧ A.cells + rm.cells ≤ R.cells ∧ A.slots + rm.slots ≤ R.slots)
      (fun A _ v B => ∃ L, QQ v B.U.vm B.U.heap L ∧ B.locs = A.locs ++ L ∧ B.cells = A.cells + rm.cells ∧ B.slots = A.slots + rm.slots ∧ CHr Z EL vm0 h B.U.vm B.U.heap) :=
  BackS.of_freeW (bytes := bytes) (maxL := maxL) (ret := ret) (E := fun _ first o t L k n => k = rm.cells ∧ n = rm.slots ∧ (∃ v, o = .returned v ∧ QQ v t.vm t.heap L) ∧ CHr Z EL first.vm h t.vm t.heap) hM hf hl
    (fun m meth c A a Y hp => have hU : Z.Warmed39 A.U.vm := wtrans (s := s.setVm vm0) hZ Y.warmed
      ⟨by show (Jvm.Cond.and _ .tt).before a A.U = true; rw [Jvm.Cond.before_and, mv hU wc]; rfl, mv hU wc, mv hU wz, hp.2.2.1, hp.2.2.2⟩)
    (fun m meth c A a g mk Y hp => ⟨hp.1, wtrans (s := s.setVm vm0) hZ Y.warmed, hp.2.1, (CHv.at Y hZ hEL H).1, fun x hx => (CHv.at Y hZ hEL H).safe (hsf x hx).1 (hsf x hx).2⟩) (fun _ _ _ _ _ _ _ _ _ => trivial)
    (fun _ _ _ _ ⟨v, L, h1, h2, h3, h4⟩ => ⟨L, _, _, h4, rfl, rfl, ⟨v, h1, h2⟩, h3⟩)
    (fun m meth c A a g mk v t L k n Y hp _ _ ⟨e1, e2, ⟨v', e3, e4⟩, e5⟩ => by
      cases e3; subst e1 e2
      exact ⟨L, e4, rfl, rfl, rfl, (CHv.at Y hZ hEL H).trans e5⟩)
theorem own_callSW (X : Stand p l e R (s.setVm vm0) m args below meth c T locs cells slots) (hx : p.tables.exec = Jvm.exec) (hZ : Z.Warmed39 vm0) {own : String} {index : Nat} {y : MethodName} {bytes : ByteArray} {maxL : Nat} {ret : Option FieldType} (hown : vm0.findClass own = some m.cls)
    (w1 : (Jvm.Cond.methodLink own index y).before a0 Z = true) (w2 : (Jvm.Cond.static y).before a0 Z = true) (w3 : (Jvm.Cond.initialized y.cls).before a0 Z = true) (w4 : (Jvm.Cond.code y bytes maxL ret).before a0 Z = true)
    {rm : Room} {sf : List Addr} {QQ : Option Value → Vm → Heap → List Loc → Prop} {argsL : List Value} (hM : ownMetW l y bytes maxL ret [] rm Z EL sf argsL.toArray h QQ) (W : Nat)
    (hy : y.cls ≠ "java/lang/invoke/MethodHandle" ∧ y.cls ≠ "java/lang/invoke/VarHandle") (hf : rm.frames + 1 ≤ R.frames) (hl : W + (maxL + 11) + rm.locals ≤ R.locals) (hc : cells + rm.cells ≤ R.cells) (hs : slots + rm.slots ≤ R.slots)
    (hS : s.Since vm0 k0) (hk : k0 ≤ h.size) (hEL : EW Z a0 EL) (RR : CHr Z EL s.vm h0 vm0 h) (hsf : ∀ x ∈ sf, x < h.size ∧ Safe Z EL vm0 h x)
    (eT : T.heap = h) {g : JFrame} (hg : g.method = m) (hsize : g.locals.size = c.maxLocals) (rest : List Value) (hlen : ∀ sig, parseMethodDescriptor y.desc = some sig → argsL.length = sig.parameters.length) (hstack : g.stack = argsL.reverse ++ rest) (hW : 2 * g.monitorRoom + (rest.map fun v => v.category).sum ≤ W) (hdg : decode c.code g.pc = .ok (.invokestatic index, 3)) :
    ∃ v T' L, Stand p l e R (s.setVm T'.vm) m args below meth c T' (locs ++ L) (cells + rm.cells) (slots + rm.slots) ∧ s.Since T'.vm T'.heap.size ∧ Z.Warmed39 T'.vm ∧ T'.vm.findClass own = some m.cls ∧ CHr Z EL vm0 h T'.vm T'.heap ∧ CHr Z EL s.vm h0 T'.vm T'.heap ∧ QQ v T'.vm T'.heap L ∧
      ∀ target, Steps p.tables e below (T'.setTop { g with pc := g.pc + 3, stack := v.toList ++ rest }) target → Steps p.tables e below (T.setTop g) target := by
  obtain ⟨v, _, ⟨T1, L1, k1, n1⟩, -, X1, hS1, hg1, ⟨Lc, hQ, l1, y1, z1, hr⟩, st⟩ := callSS X hx (y := y) hown (mvT (s := s.setVm vm0) hZ w1) (mvT (s := s.setVm vm0) hZ w2) (mvT (s := s.setVm vm0) hZ w3) (mvT (s := s.setVm vm0) hZ w4) hy (own_backW (s := s) (W := W) hM hZ w4 w3 hf hl hEL RR.1 hsf) hg hsize (argsL := argsL) (rest := rest) hlen hstack hW hdg (fun _ _ => ⟨rfl, eT, hc, hs⟩)
  dsimp only [Pt.U, Pt.locs, Pt.cells, Pt.slots] at X1 hS1 hg1 l1 y1 z1 st hQ hr
  subst l1 y1 z1
  obtain ⟨X2, hS2, hZ2, ho2⟩ := rebS hS (Nat.le_trans hk (Nat.le_of_eq (by rw [eT]))) X1 hS1 hg1 (show Z.Warmed39 (s.setVm vm0).vm from hZ) (own := own) hown
  exact ⟨v, T1, Lc, X2, hS2, hZ2, ho2, hr, RR.trans hr, hQ, fun t k => st.trans k⟩
theorem own_callIW (X : Stand p l e R (s.setVm vm0) m args below meth c T locs cells slots) (hx : p.tables.exec = Jvm.exec) (hZ : Z.Warmed39 vm0) {own : String} {index : Nat} {y : MethodName} {bytes : ByteArray} {maxL : Nat} (hown : vm0.findClass own = some m.cls) (hy1 : y.name = "<init>")
    (w1 : (Jvm.Cond.methodLink own index y).before a0 Z = true) (w2 : (Jvm.Cond.instanceMethod y).before a0 Z = true) (w3 : (Jvm.Cond.initialized y.cls).before a0 Z = true) (w4 : (Jvm.Cond.code y bytes maxL none).before a0 Z = true)
    {rm : Room} {sf : List Addr} {QQ : Option Value → Vm → Heap → List Loc → Prop} {a : Addr} {argsL : List Value} (hM : ownMetW l y bytes maxL none [] rm Z EL sf (.ref a :: argsL).toArray h QQ) (W : Nat)
    (hy : y.cls ≠ "java/lang/invoke/MethodHandle" ∧ y.cls ≠ "java/lang/invoke/VarHandle") (hf : rm.frames + 1 ≤ R.frames) (hl : W + (maxL + 11) + rm.locals ≤ R.locals) (hc : cells + rm.cells ≤ R.cells) (hs : slots + rm.slots ≤ R.slots)
    (hS : s.Since vm0 k0) (hk : k0 ≤ h.size) (hEL : EW Z a0 EL) (RR : CHr Z EL s.vm h0 vm0 h) (hsf : ∀ x ∈ sf, x < h.size ∧ Safe Z EL vm0 h x)
    (eT : T.heap = h) {g : JFrame} (hg : g.method = m) (hsize : g.locals.size = c.maxLocals) (rest : List Value) (hlen : ∀ sig, parseMethodDescriptor y.desc = some sig → argsL.length = sig.parameters.length) (hstack : g.stack = argsL.reverse ++ .ref a :: rest) (hW : 2 * g.monitorRoom + (rest.map fun v => v.category).sum ≤ W) (hdg : decode c.code g.pc = .ok (.invokespecial index, 3)) :
    ∃ v T' L, Stand p l e R (s.setVm T'.vm) m args below meth c T' (locs ++ L) (cells + rm.cells) (slots + rm.slots) ∧ s.Since T'.vm T'.heap.size ∧ Z.Warmed39 T'.vm ∧ T'.vm.findClass own = some m.cls ∧ CHr Z EL vm0 h T'.vm T'.heap ∧ CHr Z EL s.vm h0 T'.vm T'.heap ∧ QQ v T'.vm T'.heap L ∧
      ∀ target, Steps p.tables e below (T'.setTop { g with pc := g.pc + 3, stack := v.toList ++ rest }) target → Steps p.tables e below (T.setTop g) target := by
  obtain ⟨v, _, ⟨T1, L1, k1, n1⟩, -, X1, hS1, hg1, ⟨Lc, hQ, l1, y1, z1, hr⟩, st⟩ := X.specialBackS hx (y := y) hy1 hown (mvT (s := s.setVm vm0) hZ w1) (mvT (s := s.setVm vm0) hZ w2) (mvT (s := s.setVm vm0) hZ w4) hy (own_backW (s := s) (W := W) hM hZ w4 w3 hf hl hEL RR.1 hsf) hg hsize (Steps.refl _) (a := a) (argsL := argsL) (rest := rest) hlen hstack hW hdg (fun _ _ => ⟨rfl, eT, hc, hs⟩)
  dsimp only [Pt.U, Pt.locs, Pt.cells, Pt.slots] at X1 hS1 hg1 l1 y1 z1 st hQ hr
  subst l1 y1 z1
  obtain ⟨X2, hS2, hZ2, ho2⟩ := rebS hS (Nat.le_trans hk (Nat.le_of_eq (by rw [eT]))) X1 hS1 hg1 (show Z.Warmed39 (s.setVm vm0).vm from hZ) (own := own) hown
  exact ⟨v, T1, Lc, X2, hS2, hZ2, ho2, hr, RR.trans hr, hQ, fun t k => st.trans k⟩
theorem own_callVW (X : Stand p l e R (s.setVm vm0) m args below meth c T locs cells slots) (hx : p.tables.exec = Jvm.exec) (hZ : Z.Warmed39 vm0) {own C : String} {index : Nat} {y z : MethodName} {bytes : ByteArray} {maxL : Nat} {ret : Option FieldType} (hown : vm0.findClass own = some m.cls)
    (w1 : (Jvm.Cond.methodLink own index y).before a0 Z = true) (wd : (Jvm.Cond.declares y).before a0 Z = true) (nf : NotFace Z y) (wsel : (Jvm.Cond.selects C y z).before a0 Z = true) (w2 : (Jvm.Cond.instanceMethod z).before a0 Z = true) (w3 : (Jvm.Cond.initialized z.cls).before a0 Z = true) (w4 : (Jvm.Cond.code z bytes maxL ret).before a0 Z = true)
    {b : Addr} (E : Exa Z h b C) {rm : Room} {sf : List Addr} {QQ : Option Value → Vm → Heap → List Loc → Prop} {argsL : List Value} (hM : ownMetW l z bytes maxL ret [] rm Z EL sf (.ref b :: argsL).toArray h QQ) (W : Nat)
    (hy : y.cls ≠ "java/lang/invoke/MethodHandle" ∧ y.cls ≠ "java/lang/invoke/VarHandle") (hf : rm.frames + 1 ≤ R.frames) (hl : W + (maxL + 11) + rm.locals ≤ R.locals) (hc : cells + rm.cells ≤ R.cells) (hs : slots + rm.slots ≤ R.slots)
    (hS : s.Since vm0 k0) (hk : k0 ≤ h.size) (hEL : EW Z a0 EL) (RR : CHr Z EL s.vm h0 vm0 h) (hsf : ∀ x ∈ sf, x < h.size ∧ Safe Z EL vm0 h x)
    (eT : T.heap = h) {g : JFrame} (hg : g.method = m) (hsize : g.locals.size = c.maxLocals) (rest : List Value) (hlen : ∀ sig, parseMethodDescriptor y.desc = some sig → argsL.length = sig.parameters.length) (hstack : g.stack = argsL.reverse ++ .ref b :: rest) (hW : 2 * g.monitorRoom + (rest.map fun v => v.category).sum ≤ W) (hdg : decode c.code g.pc = .ok (.invokevirtual index, 3)) :
    ∃ v T' L, Stand p l e R (s.setVm T'.vm) m args below meth c T' (locs ++ L) (cells + rm.cells) (slots + rm.slots) ∧ s.Since T'.vm T'.heap.size ∧ Z.Warmed39 T'.vm ∧ T'.vm.findClass own = some m.cls ∧ CHr Z EL vm0 h T'.vm T'.heap ∧ CHr Z EL s.vm h0 T'.vm T'.heap ∧ QQ v T'.vm T'.heap L ∧
      ∀ target, Steps p.tables e below (T'.setTop { g with pc := g.pc + 3, stack := v.toList ++ rest }) target → Steps p.tables e below (T.setTop g) target := by
  obtain ⟨cq, kq, qa, qb, qc⟩ := isOf (s := s.setVm vm0) (T := T) hZ eT E
  obtain ⟨v, _, ⟨T1, L1, k1, n1⟩, -, X1, hS1, hg1, ⟨Lc, hQ, l1, y1, z1, hr⟩, st⟩ := X.virtualBackS hx (y := y) (z := z) hown (mvT (s := s.setVm vm0) hZ w1) (mvT (s := s.setVm vm0) hZ wd) (own_nfz (s := s.setVm vm0) hZ nf) (mvT (s := s.setVm vm0) hZ wsel) (mvT (s := s.setVm vm0) hZ w2) hy (own_backW (s := s) (W := W) hM hZ w4 w3 hf hl hEL RR.1 hsf) qa qc hg hsize (Steps.refl _) (argsL := argsL) (rest := rest) hlen hstack hW hdg (fun _ _ => ⟨rfl, eT, hc, hs⟩)
  dsimp only [Pt.U, Pt.locs, Pt.cells, Pt.slots] at X1 hS1 hg1 l1 y1 z1 st hQ hr
  subst l1 y1 z1
  obtain ⟨X2, hS2, hZ2, ho2⟩ := rebS hS (Nat.le_trans hk (Nat.le_of_eq (by rw [eT]))) X1 hS1 hg1 (show Z.Warmed39 (s.setVm vm0).vm from hZ) (own := own) hown
  exact ⟨v, T1, Lc, X2, hS2, hZ2, ho2, hr, RR.trans hr, hQ, fun t k => st.trans k⟩
theorem own_narC {x : Int32} (h0 : ¬ x < (0 : Int32)) (h1 : ¬ (255 : Int32) < x) : nar .char x = x := by
  have a := c_i2c x
  have b0 : (0 : Int32).toInt = 0 := rfl
  have b1 : (255 : Int32).toInt = 255 := rfl
  rw [Int32.lt_iff_toInt_lt, b0] at h0
  rw [Int32.lt_iff_toInt_lt, b1] at h1
  refine Int32.toInt_inj.mp ?_
  show x.toUInt32.toUInt16.toUInt32.toInt32.toInt = x.toInt
  omega
theorem own_narB (x : Int32) : nar .byte x.toInt8.toInt32 = x.toInt8.toInt32 := by
  show x.toInt8.toInt32.toInt8.toInt32 = _
  rw [Int8.toInt8_toInt32]
theorem own_m0 (x : Int32) : ¬ (x &&& (255 : Int32)) < (0 : Int32) := by
  have h := (c_and x 255 (by decide)).1
  have b0 : (0 : Int32).toInt = 0 := rfl
  rw [Int32.lt_iff_toInt_lt, b0]; omega
theorem own_m1 (x : Int32) : ¬ (255 : Int32) < (x &&& (255 : Int32)) := by
  have h := (c_and x 255 (by decide)).2
  rw [Int32.lt_iff_toInt_lt]; omega
theorem own_ub {x : Int32} (h0 : ¬ x < (0 : Int32)) (h1 : ¬ (255 : Int32) < x) : (x.toInt8.toInt32 &&& (255 : Int32)).toUInt32.toUInt16.toUInt32.toInt32 = x := by
  have b0 : (0 : Int32).toInt = 0 := rfl
  have b1 : (255 : Int32).toInt = 255 := rfl
  rw [Int32.lt_iff_toInt_lt, b0] at h0
  rw [Int32.lt_iff_toInt_lt, b1] at h1
  have a := c_i2b x
  have b := c_mask x.toInt8.toInt32 255 8 (by decide) (by decide)
  rw [i2c_mask]
  refine Int32.toInt_inj.mp ?_
  have k : ((2 ^ 8 : Nat) : Int) = 256 := rfl
  rw [b, k]
  omega
end OwnW
end Jvm.RoadKit
namespace Jvm.Pilot.@@N@@
open Jvm Jvm.ClassFile Sem Op Lib Jvm.Free Jvm.Stand Jvm.LawKit Jvm.RoadKit Bundle Jvm.Pilot.@@N@@.Jvm.D
theorem own_d5_0 : decode jdk_52_method_21_code 0 = .ok (.iconst 0, 1) := by decide +kernel
theorem own_d5_1 : decode jdk_52_method_21_code 1 = .ok (.istore 5, 2) := by decide +kernel
theorem own_d5_3 : decode jdk_52_method_21_code 3 = .ok (.iload 5, 2) := by decide +kernel
theorem own_d5_5 : decode jdk_52_method_21_code 5 = .ok (.iload 4, 2) := by decide +kernel
theorem own_d5_7 : decode jdk_52_method_21_code 7 = .ok (.if_icmp .ge 37, 3) := by decide +kernel
theorem own_d5_10 : decode jdk_52_method_21_code 10 = .ok (.aload_n 0, 1) := by decide +kernel
theorem own_d5_11 : decode jdk_52_method_21_code 11 = .ok (.iload_n 1, 1) := by decide +kernel
theorem own_d5_12 : decode jdk_52_method_21_code 12 = .ok (.caload, 1) := by decide +kernel
theorem own_d5_13 : decode jdk_52_method_21_code 13 = .ok (.istore 6, 2) := by decide +kernel
theorem own_d5_15 : decode jdk_52_method_21_code 15 = .ok (.iload 6, 2) := by decide +kernel
theorem own_d5_17 : decode jdk_52_method_21_code 17 = .ok (.sipush 255, 3) := by decide +kernel
theorem own_d5_20 : decode jdk_52_method_21_code 20 = .ok (.if_icmp .le 6, 3) := by decide +kernel
theorem own_d5_26 : decode jdk_52_method_21_code 26 = .ok (.aload_n 2, 1) := by decide +kernel
theorem own_d5_27 : decode jdk_52_method_21_code 27 = .ok (.iload_n 3, 1) := by decide +kernel
theorem own_d5_28 : decode jdk_52_method_21_code 28 = .ok (.iload 6, 2) := by decide +kernel
theorem own_d5_30 : decode jdk_52_method_21_code 30 = .ok (.i2b, 1) := by decide +kernel
theorem own_d5_31 : decode jdk_52_method_21_code 31 = .ok (.bastore, 1) := by decide +kernel
theorem own_d5_32 : decode jdk_52_method_21_code 32 = .ok (.iinc 1 1, 3) := by decide +kernel
theorem own_d5_35 : decode jdk_52_method_21_code 35 = .ok (.iinc 3 1, 3) := by decide +kernel
theorem own_d5_38 : decode jdk_52_method_21_code 38 = .ok (.iinc 5 1, 3) := by decide +kernel
theorem own_d5_41 : decode jdk_52_method_21_code 41 = .ok (.goto (-38), 3) := by decide +kernel
theorem own_d5_44 : decode jdk_52_method_21_code 44 = .ok (.iload 4, 2) := by decide +kernel
theorem own_d5_46 : decode jdk_52_method_21_code 46 = .ok (.ireturn, 1) := by decide +kernel
theorem own_pn_java_lang_StringUTF16 : plainName "java/lang/StringUTF16" = true := by first | (simp [plainName, overriddenIn]; done) | decide +kernel
set_option maxRecDepth 65536 in
set_option maxHeartbeats 40000000 in
theorem own_comp5_2 (l : Launch) (Z : State) (a0 : Array Value) (hw : ∀ d ∈ tables_1, d.before a0 Z = true) (ws : List Jvm.Cond) (t b : Addr) (kt kb : ClassId) (c0 c1 : Int32) (h0 : Heap) (O0 : Old Z Z.heap.size h0) (Atx : Arv Z h0 t kt .char (2 : Int32) [(.int c0), (.int c1)] (.int (0 : Int32))) (Ab : Arv Z h0 b kb .byte (2 : Int32) [(.int (0 : Int32)), (.int (0 : Int32))] (.int (0 : Int32))) (tb : t ≠ b) (gb : Z.heap.size ≤ b) (r0a : ¬ (c0 < (0 : Int32))) (r0b : ¬ ((255 : Int32) < c0)) (r1a : ¬ (c1 < (0 : Int32))) (r1b : ¬ ((255 : Int32) < c1)) :
    ownMet l (⟨"java/lang/StringUTF16", "compress", "([CI[BII)I"⟩ : MethodName) jdk_52_method_21_code 7 (some .int) ws ({ frames := 0, cells := 0, slots := 0, locals := 0 } : Room) Z #[(.ref t), (.int (0 : Int32)), (.ref b), (.int (0 : Int32)), (.int (2 : Int32))] h0 (fun v h L => v = some (.int (2 : Int32)) ∧ Fr Z.heap.size L ∧ Keep h0 h [b] ∧ Arv Z h b kb .byte (2 : Int32) [(.int (c0.toInt8.toInt32)), (.int (c1.toInt8.toInt32))] (.int (0 : Int32))) := by
  refine own_met (plainFor_of_name own_pn_java_lang_StringUTF16) ?_
  intro p e s m below meth c s₁ hx hby hml hown hnm hret hlk hZ e0 X0
  refine own_cast (show _ = (mkF m 0 #[.val (.ref t), .val (.int (0 : Int32)), .val (.ref b), .val (.int (0 : Int32)), .val (.int (2 : Int32)), .unset, .unset] []) by first | (simp [entryFrame, mkF, argsToLocals, Value.category]; done) | rfl) ?_
  refine own_st (s₁.setTop (mkF m 1 #[.val (.ref t), .val (.int (0 : Int32)), .val (.ref b), .val (.int (0 : Int32)), .val (.int (2 : Int32)), .unset, .unset] [(.int (0 : Int32))])) (fun tq kq => XS.iconst X0.here hx rfl (hb hby own_d5_0) kq) ?_
  refine own_st (s₁.setTop (mkF m 3 #[.val (.ref t), .val (.int (0 : Int32)), .val (.ref b), .val (.int (0 : Int32)), .val (.int (2 : Int32)), .val (.int (0 : Int32)), .unset] [])) (fun tq kq => XS.istore X0.here hx rfl (hb hby own_d5_1) rfl (l' := #[.val (.ref t), .val (.int (0 : Int32)), .val (.ref b), .val (.int (0 : Int32)), .val (.int (2 : Int32)), .val (.int (0 : Int32)), .unset]) rfl kq) ?_
  refine own_st (s₁.setTop (mkF m 5 #[.val (.ref t), .val (.int (0 : Int32)), .val (.ref b), .val (.int (0 : Int32)), .val (.int (2 : Int32)), .val (.int (0 : Int32)), .unset] [(.int (0 : Int32))])) (fun tq kq => XS.iload X0.here hx rfl (hb hby own_d5_3) rfl kq) ?_
  refine own_st (s₁.setTop (mkF m 7 #[.val (.ref t), .val (.int (0 : Int32)), .val (.ref b), .val (.int (0 : Int32)), .val (.int (2 : Int32)), .val (.int (0 : Int32)), .unset] [(.int (2 : Int32)), (.int (0 : Int32))])) (fun tq kq => XS.iload X0.here hx rfl (hb hby own_d5_5) rfl kq) ?_
  refine own_st (s₁.setTop (mkF m 10 #[.val (.ref t), .val (.int (0 : Int32)), .val (.ref b), .val (.int (0 : Int32)), .val (.int (2 : Int32)), .val (.int (0 : Int32)), .unset] [])) (fun tq kq => XS.icmpNo X0.here hx rfl (hb hby own_d5_7) rfl (tlt ((by decide) : (0 : Int32) < (2 : Int32))).2.1 kq) ?_
  refine own_st (s₁.setTop (mkF m 11 #[.val (.ref t), .val (.int (0 : Int32)), .val (.ref b), .val (.int (0 : Int32)), .val (.int (2 : Int32)), .val (.int (0 : Int32)), .unset] [(.ref t)])) (fun tq kq => XS.aloadN X0.here hx rfl (hb hby own_d5_10) rfl (by rfl) kq) ?_
  refine own_st (s₁.setTop (mkF m 12 #[.val (.ref t), .val (.int (0 : Int32)), .val (.ref b), .val (.int (0 : Int32)), .val (.int (2 : Int32)), .val (.int (0 : Int32)), .unset] [(.int (0 : Int32)), (.ref t)])) (fun tq kq => XS.iloadN X0.here hx rfl (hb hby own_d5_11) rfl kq) ?_
  obtain ⟨cl1, q1a, q1b, q1c, q1d, q1e, q1f⟩ := id Atx
  refine own_st (s₁.setTop (mkF m 13 #[.val (.ref t), .val (.int (0 : Int32)), .val (.ref b), .val (.int (0 : Int32)), .val (.int (2 : Int32)), .val (.int (0 : Int32)), .unset] [(.int c0)])) (fun tq kq => X0.caload hx (j := (0 : Int32)) (v := (.int c0)) (by rw [e0]; exact q1a.1) (State.isArrayOf_alike hZ.alike q1a.2.1) q1a.2.2 (inb_of q1c ⟨by decide, by decide⟩) (q1e.at (inb_of q1c ⟨by decide, by decide⟩) rfl) (g := (mkF m 12 #[.val (.ref t), .val (.int (0 : Int32)), .val (.ref b), .val (.int (0 : Int32)), .val (.int (2 : Int32)), .val (.int (0 : Int32)), .unset] [(.int (0 : Int32)), (.ref t)])) rfl rfl (hb hby own_d5_12) tq kq) ?_
  refine own_st (s₁.setTop (mkF m 15 #[.val (.ref t), .val (.int (0 : Int32)), .val (.ref b), .val (.int (0 : Int32)), .val (.int (2 : Int32)), .val (.int (0 : Int32)), .val (.int c0)] [])) (fun tq kq => XS.istore X0.here hx rfl (hb hby own_d5_13) rfl (l' := #[.val (.ref t), .val (.int (0 : Int32)), .val (.ref b), .val (.int (0 : Int32)), .val (.int (2 : Int32)), .val (.int (0 : Int32)), .val (.int c0)]) rfl kq) ?_
  refine own_st (s₁.setTop (mkF m 17 #[.val (.ref t), .val (.int (0 : Int32)), .val (.ref b), .val (.int (0 : Int32)), .val (.int (2 : Int32)), .val (.int (0 : Int32)), .val (.int c0)] [(.int c0)])) (fun tq kq => XS.iload X0.here hx rfl (hb hby own_d5_15) rfl kq) ?_
  refine own_st (s₁.setTop (mkF m 20 #[.val (.ref t), .val (.int (0 : Int32)), .val (.ref b), .val (.int (0 : Int32)), .val (.int (2 : Int32)), .val (.int (0 : Int32)), .val (.int c0)] [(.int (255 : Int32)), (.int c0)])) (fun tq kq => XS.sipush X0.here hx rfl (hb hby own_d5_17) kq) ?_
  refine own_st (s₁.setTop (mkF m 26 #[.val (.ref t), .val (.int (0 : Int32)), .val (.ref b), .val (.int (0 : Int32)), .val (.int (2 : Int32)), .val (.int (0 : Int32)), .val (.int c0)] [])) (fun tq kq => XS.icmpYes X0.here hx rfl (pc0 := 20) (pc' := 26) rfl (hb hby own_d5_20) rfl (flt (r0b : ¬ ((255 : Int32) < c0))).2.2.2 (by decide) (by decide) kq) ?_
  refine own_st (s₁.setTop (mkF m 27 #[.val (.ref t), .val (.int (0 : Int32)), .val (.ref b), .val (.int (0 : Int32)), .val (.int (2 : Int32)), .val (.int (0 : Int32)), .val (.int c0)] [(.ref b)])) (fun tq kq => XS.aloadN X0.here hx rfl (hb hby own_d5_26) rfl (by rfl) kq) ?_
  refine own_st (s₁.setTop (mkF m 28 #[.val (.ref t), .val (.int (0 : Int32)), .val (.ref b), .val (.int (0 : Int32)), .val (.int (2 : Int32)), .val (.int (0 : Int32)), .val (.int c0)] [(.int (0 : Int32)), (.ref b)])) (fun tq kq => XS.iloadN X0.here hx rfl (hb hby own_d5_27) rfl kq) ?_
  refine own_st (s₁.setTop (mkF m 30 #[.val (.ref t), .val (.int (0 : Int32)), .val (.ref b), .val (.int (0 : Int32)), .val (.int (2 : Int32)), .val (.int (0 : Int32)), .val (.int c0)] [(.int c0), (.int (0 : Int32)), (.ref b)])) (fun tq kq => XS.iload X0.here hx rfl (hb hby own_d5_28) rfl kq) ?_
  refine own_st (s₁.setTop (mkF m 31 #[.val (.ref t), .val (.int (0 : Int32)), .val (.ref b), .val (.int (0 : Int32)), .val (.int (2 : Int32)), .val (.int (0 : Int32)), .val (.int c0)] [(.int (c0.toInt8.toInt32)), (.int (0 : Int32)), (.ref b)])) (fun tq kq => XS.i2b X0.here hx rfl (hb hby own_d5_30) rfl kq) ?_
  obtain ⟨cl2, q2a, q2b, q2c, q2d, q2e, q2f⟩ := id Ab
  obtain ⟨T2, h2, X2, e2, W2, st2⟩ := stB X0 hx hZ e0 q2a (j := (0 : Int32)) (inb_of q2c ⟨by decide, by decide⟩) (g := (mkF m 31 #[.val (.ref t), .val (.int (0 : Int32)), .val (.ref b), .val (.int (0 : Int32)), .val (.int (2 : Int32)), .val (.int (0 : Int32)), .val (.int c0)] [(.int (c0.toInt8.toInt32)), (.int (0 : Int32)), (.ref b)])) rfl rfl (hb hby own_d5_31)
  have N2 := Fr.snoc X2 (Fr.nil _) gb
  have O2 := O0.wr W2 gb
  have K2 := (Keep.refl h0 [b]).wr W2 (Or.inl (List.mem_of_getElem? (i := 0) rfl))
  have f3 := (Atx.other W2 tb)
  have f5 : Arv Z h2 b kb .byte (2 : Int32) [(.int (c0.toInt8.toInt32)), (.int (0 : Int32))] (.int (0 : Int32)) := (show nar .byte (c0.toInt8.toInt32) = (c0.toInt8.toInt32) from (own_narB _)) ▸ Arv.set q2a q2b q2c q2d q2e q2f (fits_nar_byte _) W2 0 (by decide) (show 0 < 2 by decide)
  refine own_st (T2.setTop (mkF m 32 #[.val (.ref t), .val (.int (0 : Int32)), .val (.ref b), .val (.int (0 : Int32)), .val (.int (2 : Int32)), .val (.int (0 : Int32)), .val (.int c0)] [])) st2 ?_
  refine own_st (T2.setTop (mkF m 35 #[.val (.ref t), .val (.int (1 : Int32)), .val (.ref b), .val (.int (0 : Int32)), .val (.int (2 : Int32)), .val (.int (0 : Int32)), .val (.int c0)] [])) (fun tq kq => XS.iinc X2.here hx rfl (hb hby own_d5_32) rfl (l' := #[.val (.ref t), .val (.int (1 : Int32)), .val (.ref b), .val (.int (0 : Int32)), .val (.int (2 : Int32)), .val (.int (0 : Int32)), .val (.int c0)]) rfl kq) ?_
  refine own_st (T2.setTop (mkF m 38 #[.val (.ref t), .val (.int (1 : Int32)), .val (.ref b), .val (.int (1 : Int32)), .val (.int (2 : Int32)), .val (.int (0 : Int32)), .val (.int c0)] [])) (fun tq kq => XS.iinc X2.here hx rfl (hb hby own_d5_35) rfl (l' := #[.val (.ref t), .val (.int (1 : Int32)), .val (.ref b), .val (.int (1 : Int32)), .val (.int (2 : Int32)), .val (.int (0 : Int32)), .val (.int c0)]) rfl kq) ?_
  refine own_st (T2.setTop (mkF m 41 #[.val (.ref t), .val (.int (1 : Int32)), .val (.ref b), .val (.int (1 : Int32)), .val (.int (2 : Int32)), .val (.int (1 : Int32)), .val (.int c0)] [])) (fun tq kq => XS.iinc X2.here hx rfl (hb hby own_d5_38) rfl (l' := #[.val (.ref t), .val (.int (1 : Int32)), .val (.ref b), .val (.int (1 : Int32)), .val (.int (2 : Int32)), .val (.int (1 : Int32)), .val (.int c0)]) rfl kq) ?_
  refine own_st (T2.setTop (mkF m 3 #[.val (.ref t), .val (.int (1 : Int32)), .val (.ref b), .val (.int (1 : Int32)), .val (.int (2 : Int32)), .val (.int (1 : Int32)), .val (.int c0)] [])) (fun tq kq => XS.goto X2.here hx rfl (pc0 := 41) (pc' := 3) rfl (hb hby own_d5_41) (by decide) (by decide) kq) ?_
  refine own_st (T2.setTop (mkF m 5 #[.val (.ref t), .val (.int (1 : Int32)), .val (.ref b), .val (.int (1 : Int32)), .val (.int (2 : Int32)), .val (.int (1 : Int32)), .val (.int c0)] [(.int (1 : Int32))])) (fun tq kq => XS.iload X2.here hx rfl (hb hby own_d5_3) rfl kq) ?_
  refine own_st (T2.setTop (mkF m 7 #[.val (.ref t), .val (.int (1 : Int32)), .val (.ref b), .val (.int (1 : Int32)), .val (.int (2 : Int32)), .val (.int (1 : Int32)), .val (.int c0)] [(.int (2 : Int32)), (.int (1 : Int32))])) (fun tq kq => XS.iload X2.here hx rfl (hb hby own_d5_5) rfl kq) ?_
  refine own_st (T2.setTop (mkF m 10 #[.val (.ref t), .val (.int (1 : Int32)), .val (.ref b), .val (.int (1 : Int32)), .val (.int (2 : Int32)), .val (.int (1 : Int32)), .val (.int c0)] [])) (fun tq kq => XS.icmpNo X2.here hx rfl (hb hby own_d5_7) rfl (tlt ((by decide) : (1 : Int32) < (2 : Int32))).2.1 kq) ?_
  refine own_st (T2.setTop (mkF m 11 #[.val (.ref t), .val (.int (1 : Int32)), .val (.ref b), .val (.int (1 : Int32)), .val (.int (2 : Int32)), .val (.int (1 : Int32)), .val (.int c0)] [(.ref t)])) (fun tq kq => XS.aloadN X2.here hx rfl (hb hby own_d5_10) rfl (by rfl) kq) ?_
  refine own_st (T2.setTop (mkF m 12 #[.val (.ref t), .val (.int (1 : Int32)), .val (.ref b), .val (.int (1 : Int32)), .val (.int (2 : Int32)), .val (.int (1 : Int32)), .val (.int c0)] [(.int (1 : Int32)), (.ref t)])) (fun tq kq => XS.iloadN X2.here hx rfl (hb hby own_d5_11) rfl kq) ?_
  obtain ⟨cl6, q6a, q6b, q6c, q6d, q6e, q6f⟩ := id f3
  refine own_st (T2.setTop (mkF m 13 #[.val (.ref t), .val (.int (1 : Int32)), .val (.ref b), .val (.int (1 : Int32)), .val (.int (2 : Int32)), .val (.int (1 : Int32)), .val (.int c0)] [(.int c1)])) (fun tq kq => X2.caload hx (j := (1 : Int32)) (v := (.int c1)) (by rw [e2]; exact q6a.1) (State.isArrayOf_alike hZ.alike q6a.2.1) q6a.2.2 (inb_of q6c ⟨by decide, by decide⟩) (q6e.at (inb_of q6c ⟨by decide, by decide⟩) rfl) (g := (mkF m 12 #[.val (.ref t), .val (.int (1 : Int32)), .val (.ref b), .val (.int (1 : Int32)), .val (.int (2 : Int32)), .val (.int (1 : Int32)), .val (.int c0)] [(.int (1 : Int32)), (.ref t)])) rfl rfl (hb hby own_d5_12) tq kq) ?_
  refine own_st (T2.setTop (mkF m 15 #[.val (.ref t), .val (.int (1 : Int32)), .val (.ref b), .val (.int (1 : Int32)), .val (.int (2 : Int32)), .val (.int (1 : Int32)), .val (.int c1)] [])) (fun tq kq => XS.istore X2.here hx rfl (hb hby own_d5_13) rfl (l' := #[.val (.ref t), .val (.int (1 : Int32)), .val (.ref b), .val (.int (1 : Int32)), .val (.int (2 : Int32)), .val (.int (1 : Int32)), .val (.int c1)]) rfl kq) ?_
  refine own_st (T2.setTop (mkF m 17 #[.val (.ref t), .val (.int (1 : Int32)), .val (.ref b), .val (.int (1 : Int32)), .val (.int (2 : Int32)), .val (.int (1 : Int32)), .val (.int c1)] [(.int c1)])) (fun tq kq => XS.iload X2.here hx rfl (hb hby own_d5_15) rfl kq) ?_
  refine own_st (T2.setTop (mkF m 20 #[.val (.ref t), .val (.int (1 : Int32)), .val (.ref b), .val (.int (1 : Int32)), .val (.int (2 : Int32)), .val (.int (1 : Int32)), .val (.int c1)] [(.int (255 : Int32)), (.int c1)])) (fun tq kq => XS.sipush X2.here hx rfl (hb hby own_d5_17) kq) ?_
  refine own_st (T2.setTop (mkF m 26 #[.val (.ref t), .val (.int (1 : Int32)), .val (.ref b), .val (.int (1 : Int32)), .val (.int (2 : Int32)), .val (.int (1 : Int32)), .val (.int c1)] [])) (fun tq kq => XS.icmpYes X2.here hx rfl (pc0 := 20) (pc' := 26) rfl (hb hby own_d5_20) rfl (flt (r1b : ¬ ((255 : Int32) < c1))).2.2.2 (by decide) (by decide) kq) ?_
  refine own_st (T2.setTop (mkF m 27 #[.val (.ref t), .val (.int (1 : Int32)), .val (.ref b), .val (.int (1 : Int32)), .val (.int (2 : Int32)), .val (.int (1 : Int32)), .val (.int c1)] [(.ref b)])) (fun tq kq => XS.aloadN X2.here hx rfl (hb hby own_d5_26) rfl (by rfl) kq) ?_
  refine own_st (T2.setTop (mkF m 28 #[.val (.ref t), .val (.int (1 : Int32)), .val (.ref b), .val (.int (1 : Int32)), .val (.int (2 : Int32)), .val (.int (1 : Int32)), .val (.int c1)] [(.int (1 : Int32)), (.ref b)])) (fun tq kq => XS.iloadN X2.here hx rfl (hb hby own_d5_27) rfl kq) ?_
  refine own_st (T2.setTop (mkF m 30 #[.val (.ref t), .val (.int (1 : Int32)), .val (.ref b), .val (.int (1 : Int32)), .val (.int (2 : Int32)), .val (.int (1 : Int32)), .val (.int c1)] [(.int c1), (.int (1 : Int32)), (.ref b)])) (fun tq kq => XS.iload X2.here hx rfl (hb hby own_d5_28) rfl kq) ?_
  refine own_st (T2.setTop (mkF m 31 #[.val (.ref t), .val (.int (1 : Int32)), .val (.ref b), .val (.int (1 : Int32)), .val (.int (2 : Int32)), .val (.int (1 : Int32)), .val (.int c1)] [(.int (c1.toInt8.toInt32)), (.int (1 : Int32)), (.ref b)])) (fun tq kq => XS.i2b X2.here hx rfl (hb hby own_d5_30) rfl kq) ?_
  obtain ⟨cl7, q7a, q7b, q7c, q7d, q7e, q7f⟩ := id f5
  obtain ⟨T7, h7, X7, e7, W7, st7⟩ := stB X2 hx hZ e2 q7a (j := (1 : Int32)) (inb_of q7c ⟨by decide, by decide⟩) (g := (mkF m 31 #[.val (.ref t), .val (.int (1 : Int32)), .val (.ref b), .val (.int (1 : Int32)), .val (.int (2 : Int32)), .val (.int (1 : Int32)), .val (.int c1)] [(.int (c1.toInt8.toInt32)), (.int (1 : Int32)), (.ref b)])) rfl rfl (hb hby own_d5_31)
  have N7 := Fr.snoc X7 N2 gb
  have O7 := O2.wr W7 gb
  have K7 := K2.wr W7 (Or.inl (List.mem_of_getElem? (i := 0) rfl))
  have f8 := (f3.other W7 tb)
  have f10 : Arv Z h7 b kb .byte (2 : Int32) [(.int (c0.toInt8.toInt32)), (.int (c1.toInt8.toInt32))] (.int (0 : Int32)) := (show nar .byte (c1.toInt8.toInt32) = (c1.toInt8.toInt32) from (own_narB _)) ▸ Arv.set q7a q7b q7c q7d q7e q7f (fits_nar_byte _) W7 1 (by decide) (show 1 < 2 by decide)
  refine own_st (T7.setTop (mkF m 32 #[.val (.ref t), .val (.int (1 : Int32)), .val (.ref b), .val (.int (1 : Int32)), .val (.int (2 : Int32)), .val (.int (1 : Int32)), .val (.int c1)] [])) st7 ?_
  refine own_st (T7.setTop (mkF m 35 #[.val (.ref t), .val (.int (2 : Int32)), .val (.ref b), .val (.int (1 : Int32)), .val (.int (2 : Int32)), .val (.int (1 : Int32)), .val (.int c1)] [])) (fun tq kq => XS.iinc X7.here hx rfl (hb hby own_d5_32) rfl (l' := #[.val (.ref t), .val (.int (2 : Int32)), .val (.ref b), .val (.int (1 : Int32)), .val (.int (2 : Int32)), .val (.int (1 : Int32)), .val (.int c1)]) rfl kq) ?_
  refine own_st (T7.setTop (mkF m 38 #[.val (.ref t), .val (.int (2 : Int32)), .val (.ref b), .val (.int (2 : Int32)), .val (.int (2 : Int32)), .val (.int (1 : Int32)), .val (.int c1)] [])) (fun tq kq => XS.iinc X7.here hx rfl (hb hby own_d5_35) rfl (l' := #[.val (.ref t), .val (.int (2 : Int32)), .val (.ref b), .val (.int (2 : Int32)), .val (.int (2 : Int32)), .val (.int (1 : Int32)), .val (.int c1)]) rfl kq) ?_
  refine own_st (T7.setTop (mkF m 41 #[.val (.ref t), .val (.int (2 : Int32)), .val (.ref b), .val (.int (2 : Int32)), .val (.int (2 : Int32)), .val (.int (2 : Int32)), .val (.int c1)] [])) (fun tq kq => XS.iinc X7.here hx rfl (hb hby own_d5_38) rfl (l' := #[.val (.ref t), .val (.int (2 : Int32)), .val (.ref b), .val (.int (2 : Int32)), .val (.int (2 : Int32)), .val (.int (2 : Int32)), .val (.int c1)]) rfl kq) ?_
  refine own_st (T7.setTop (mkF m 3 #[.val (.ref t), .val (.int (2 : Int32)), .val (.ref b), .val (.int (2 : Int32)), .val (.int (2 : Int32)), .val (.int (2 : Int32)), .val (.int c1)] [])) (fun tq kq => XS.goto X7.here hx rfl (pc0 := 41) (pc' := 3) rfl (hb hby own_d5_41) (by decide) (by decide) kq) ?_
  refine own_st (T7.setTop (mkF m 5 #[.val (.ref t), .val (.int (2 : Int32)), .val (.ref b), .val (.int (2 : Int32)), .val (.int (2 : Int32)), .val (.int (2 : Int32)), .val (.int c1)] [(.int (2 : Int32))])) (fun tq kq => XS.iload X7.here hx rfl (hb hby own_d5_3) rfl kq) ?_
  refine own_st (T7.setTop (mkF m 7 #[.val (.ref t), .val (.int (2 : Int32)), .val (.ref b), .val (.int (2 : Int32)), .val (.int (2 : Int32)), .val (.int (2 : Int32)), .val (.int c1)] [(.int (2 : Int32)), (.int (2 : Int32))])) (fun tq kq => XS.iload X7.here hx rfl (hb hby own_d5_5) rfl kq) ?_
  refine own_st (T7.setTop (mkF m 44 #[.val (.ref t), .val (.int (2 : Int32)), .val (.ref b), .val (.int (2 : Int32)), .val (.int (2 : Int32)), .val (.int (2 : Int32)), .val (.int c1)] [])) (fun tq kq => XS.icmpYes X7.here hx rfl (pc0 := 7) (pc' := 44) rfl (hb hby own_d5_7) rfl (flt ((by decide) : ¬ ((2 : Int32) < (2 : Int32)))).2.1 (by decide) (by decide) kq) ?_
  refine own_st (T7.setTop (mkF m 46 #[.val (.ref t), .val (.int (2 : Int32)), .val (.ref b), .val (.int (2 : Int32)), .val (.int (2 : Int32)), .val (.int (2 : Int32)), .val (.int c1)] [(.int (2 : Int32))])) (fun tq kq => XS.iload X7.here hx rfl (hb hby own_d5_44) rfl kq) ?_
  exact own_ret X7 hlk (v := some (.int (2 : Int32))) (fun h => by rw [hret] at h; cases h) e7 (⟨rfl, N7, K7, f10⟩) (by decide) (by decide) (fun fs hr => retI X7 hx hret (hb hby own_d5_46) hr)
theorem own_d4_0 : decode jdk_52_method_16_code 0 = .ok (.iload_n 2, 1) := by decide +kernel
theorem own_d4_1 : decode jdk_52_method_16_code 1 = .ok (.newarray .byte, 2) := by decide +kernel
theorem own_d4_3 : decode jdk_52_method_16_code 3 = .ok (.astore_n 3, 1) := by decide +kernel
theorem own_d4_4 : decode jdk_52_method_16_code 4 = .ok (.aload_n 0, 1) := by decide +kernel
theorem own_d4_5 : decode jdk_52_method_16_code 5 = .ok (.iload_n 1, 1) := by decide +kernel
theorem own_d4_6 : decode jdk_52_method_16_code 6 = .ok (.aload_n 3, 1) := by decide +kernel
theorem own_d4_7 : decode jdk_52_method_16_code 7 = .ok (.iconst 0, 1) := by decide +kernel
theorem own_d4_8 : decode jdk_52_method_16_code 8 = .ok (.iload_n 2, 1) := by decide +kernel
theorem own_pd__28_5bCI_5bBII_29I : parseMethodDescriptor "([CI[BII)I" = some ⟨[(.array .char), .int, (.array .byte), .int, .int], some .int⟩ := by decide +kernel
theorem own_d4_9 : decode jdk_52_method_16_code 9 = .ok (.invokestatic 115, 3) := by decide +kernel
theorem own_d4_12 : decode jdk_52_method_16_code 12 = .ok (.istore 4, 2) := by decide +kernel
theorem own_d4_14 : decode jdk_52_method_16_code 14 = .ok (.iload 4, 2) := by decide +kernel
theorem own_d4_16 : decode jdk_52_method_16_code 16 = .ok (.iload_n 2, 1) := by decide +kernel
theorem own_d4_17 : decode jdk_52_method_16_code 17 = .ok (.if_icmp .eq 40, 3) := by decide +kernel
theorem own_d4_57 : decode jdk_52_method_16_code 57 = .ok (.aload_n 3, 1) := by decide +kernel
theorem own_d4_58 : decode jdk_52_method_16_code 58 = .ok (.areturn, 1) := by decide +kernel
set_option maxRecDepth 65536 in
set_option maxHeartbeats 40000000 in
theorem own_comp3_2 (l : Launch) (Z : State) (a0 : Array Value) (hw : ∀ d ∈ tables_1, d.before a0 Z = true) (ws : List Jvm.Cond) (t : Addr) (kt : ClassId) (c0 c1 : Int32) (h0 : Heap) (O0 : Old Z Z.heap.size h0) (Atx : Arv Z h0 t kt .char (2 : Int32) [(.int c0), (.int c1)] (.int (0 : Int32))) (r0a : ¬ (c0 < (0 : Int32))) (r0b : ¬ ((255 : Int32) < c0)) (r1a : ¬ (c1 < (0 : Int32))) (r1b : ¬ ((255 : Int32) < c1)) :
    ownMet l (⟨"java/lang/StringUTF16", "compress", "([CII)[B"⟩ : MethodName) jdk_52_method_16_code 6 (some (.array .byte)) ws ({ frames := 1, cells := 1, slots := 2, locals := 18 } : Room) Z #[(.ref t), (.int (0 : Int32)), (.int (2 : Int32))] h0 (fun v h L => ∃ (b : Addr) (kb : ClassId), v = some (.ref b) ∧ Fr Z.heap.size L ∧ Keep h0 h [] ∧ Z.heap.size ≤ b ∧ h0.size ≤ b ∧ Arv Z h b kb .byte (2 : Int32) [(.int (c0.toInt8.toInt32)), (.int (c1.toInt8.toInt32))] (.int (0 : Int32))) := by
  refine own_met (plainFor_of_name own_pn_java_lang_StringUTF16) ?_
  intro p e s m below meth c s₁ hx hby hml hown hnm hret hlk hZ e0 X0
  refine own_cast (show _ = (mkF m 0 #[.val (.ref t), .val (.int (0 : Int32)), .val (.int (2 : Int32)), .unset, .unset, .unset] []) by first | (simp [entryFrame, mkF, argsToLocals, Value.category]; done) | rfl) ?_
  refine own_st (s₁.setTop (mkF m 1 #[.val (.ref t), .val (.int (0 : Int32)), .val (.int (2 : Int32)), .unset, .unset, .unset] [(.int (2 : Int32))])) (fun tq kq => XS.iloadN X0.here hx rfl (hb hby own_d4_0) rfl kq) ?_
  obtain ⟨T1, h1, cA1, X1, e1, E1, A1, st1⟩ := newP X0 hx hZ (hw _ (List.mem_of_getElem? (i := 19) rfl)) e0 (g := (mkF m 1 #[.val (.ref t), .val (.int (0 : Int32)), .val (.int (2 : Int32)), .unset, .unset, .unset] [(.int (2 : Int32))])) rfl (hb hby own_d4_1) rfl (by decide) (cap := 2) (by decide) (by decide) (by decide) (by decide)
  obtain ⟨b1, g1⟩ : ∃ z, z = h0.size := ⟨_, rfl⟩
  have z1 : Z.heap.size ≤ b1 := Nat.le_trans O0.2.1 (Nat.le_of_eq g1.symm)
  have net_1 : t ≠ b1 := Nat.ne_of_lt (Nat.lt_of_lt_of_le Atx.lt (Nat.le_of_eq g1.symm))
  have s1 : h0.size ≤ b1 := Nat.le_trans (Keep.refl h0 []).1 (Nat.le_of_eq g1.symm)
  rw [← g1] at A1 st1
  have f2 := (Atx.ext E1)
  have O1 := O0.ext E1
  have K1 := (Keep.refl h0 []).ext E1
  have f3 : Arv Z h1 b1 cA1 .byte (2 : Int32) [(.int (0 : Int32)), (.int (0 : Int32))] (.int (0 : Int32)) := (Arv.new A1 (by decide)).pad (pad_rep [] (.int (0 : Int32)) 2)
  refine own_st (T1.setTop (mkF m 3 #[.val (.ref t), .val (.int (0 : Int32)), .val (.int (2 : Int32)), .unset, .unset, .unset] [(.ref b1)])) st1 ?_
  refine own_st (T1.setTop (mkF m 4 #[.val (.ref t), .val (.int (0 : Int32)), .val (.int (2 : Int32)), .val (.ref b1), .unset, .unset] [])) (fun tq kq => XS.astoreN X1.here hx rfl (hb hby own_d4_3) rfl (by rfl) (l' := #[.val (.ref t), .val (.int (0 : Int32)), .val (.int (2 : Int32)), .val (.ref b1), .unset, .unset]) rfl kq) ?_
  refine own_st (T1.setTop (mkF m 5 #[.val (.ref t), .val (.int (0 : Int32)), .val (.int (2 : Int32)), .val (.ref b1), .unset, .unset] [(.ref t)])) (fun tq kq => XS.aloadN X1.here hx rfl (hb hby own_d4_4) rfl (by rfl) kq) ?_
  refine own_st (T1.setTop (mkF m 6 #[.val (.ref t), .val (.int (0 : Int32)), .val (.int (2 : Int32)), .val (.ref b1), .unset, .unset] [(.int (0 : Int32)), (.ref t)])) (fun tq kq => XS.iloadN X1.here hx rfl (hb hby own_d4_5) rfl kq) ?_
  refine own_st (T1.setTop (mkF m 7 #[.val (.ref t), .val (.int (0 : Int32)), .val (.int (2 : Int32)), .val (.ref b1), .unset, .unset] [(.ref b1), (.int (0 : Int32)), (.ref t)])) (fun tq kq => XS.aloadN X1.here hx rfl (hb hby own_d4_6) rfl (by rfl) kq) ?_
  refine own_st (T1.setTop (mkF m 8 #[.val (.ref t), .val (.int (0 : Int32)), .val (.int (2 : Int32)), .val (.ref b1), .unset, .unset] [(.int (0 : Int32)), (.ref b1), (.int (0 : Int32)), (.ref t)])) (fun tq kq => XS.iconst X1.here hx rfl (hb hby own_d4_7) kq) ?_
  refine own_st (T1.setTop (mkF m 9 #[.val (.ref t), .val (.int (0 : Int32)), .val (.int (2 : Int32)), .val (.ref b1), .unset, .unset] [(.int (2 : Int32)), (.int (0 : Int32)), (.ref b1), (.int (0 : Int32)), (.ref t)])) (fun tq kq => XS.iloadN X1.here hx rfl (hb hby own_d4_8) rfl kq) ?_
  obtain ⟨v4, T4, L4, X4, q4, st4⟩ := own_callS X1 hx hZ hown (hw _ (List.mem_of_getElem? (i := 20) rfl)) (hw _ (List.mem_of_getElem? (i := 21) rfl)) (hw _ (List.mem_of_getElem? (i := 17) rfl)) (hw _ (List.mem_of_getElem? (i := 22) rfl)) (argsL := [(.ref t), (.int (0 : Int32)), (.ref b1), (.int (0 : Int32)), (.int (2 : Int32))]) (own_comp5_2 l Z a0 hw [] t b1 kt cA1 c0 c1 h1 O1 f2 f3 net_1 z1 r0a r0b r1a r1b) 0 (by decide) (by decide) (by decide) (by decide) (by decide) e1 (g := (mkF m 9 #[.val (.ref t), .val (.int (0 : Int32)), .val (.int (2 : Int32)), .val (.ref b1), .unset, .unset] [(.int (2 : Int32)), (.int (0 : Int32)), (.ref b1), (.int (0 : Int32)), (.ref t)])) rfl (by rw [hml]; rfl) [] (lenOf own_pd__28_5bCI_5bBII_29I rfl) rfl (by show 2 * 0 + _ ≤ _; exact Nat.le_of_eq rfl) (hb hby own_d4_9)
  obtain ⟨rfl, N4q, K4q, f4q⟩ := q4
  have N4 := Fr.app (Fr.nil _) N4q
  have f5 := (f2.keep K4q (ninS net_1 nin0))
  have O4 := O1.keep K4q (allS z1 all0)
  have K4 := K1.trans K4q (allS (Or.inr s1) all0)
  refine own_st (T4.setTop (mkF m 12 #[.val (.ref t), .val (.int (0 : Int32)), .val (.int (2 : Int32)), .val (.ref b1), .unset, .unset] [(.int (2 : Int32))])) st4 ?_
  refine own_st (T4.setTop (mkF m 14 #[.val (.ref t), .val (.int (0 : Int32)), .val (.int (2 : Int32)), .val (.ref b1), .val (.int (2 : Int32)), .unset] [])) (fun tq kq => XS.istore X4.here hx rfl (hb hby own_d4_12) rfl (l' := #[.val (.ref t), .val (.int (0 : Int32)), .val (.int (2 : Int32)), .val (.ref b1), .val (.int (2 : Int32)), .unset]) rfl kq) ?_
  refine own_st (T4.setTop (mkF m 16 #[.val (.ref t), .val (.int (0 : Int32)), .val (.int (2 : Int32)), .val (.ref b1), .val (.int (2 : Int32)), .unset] [(.int (2 : Int32))])) (fun tq kq => XS.iload X4.here hx rfl (hb hby own_d4_14) rfl kq) ?_
  refine own_st (T4.setTop (mkF m 17 #[.val (.ref t), .val (.int (0 : Int32)), .val (.int (2 : Int32)), .val (.ref b1), .val (.int (2 : Int32)), .unset] [(.int (2 : Int32)), (.int (2 : Int32))])) (fun tq kq => XS.iloadN X4.here hx rfl (hb hby own_d4_16) rfl kq) ?_
  refine own_st (T4.setTop (mkF m 57 #[.val (.ref t), .val (.int (0 : Int32)), .val (.int (2 : Int32)), .val (.ref b1), .val (.int (2 : Int32)), .unset] [])) (fun tq kq => XS.icmpYes X4.here hx rfl (pc0 := 17) (pc' := 57) rfl (hb hby own_d4_17) rfl (teq ((by decide) : (2 : Int32) = (2 : Int32))).1 (by decide) (by decide) kq) ?_
  refine own_st (T4.setTop (mkF m 58 #[.val (.ref t), .val (.int (0 : Int32)), .val (.int (2 : Int32)), .val (.ref b1), .val (.int (2 : Int32)), .unset] [(.ref b1)])) (fun tq kq => XS.aloadN X4.here hx rfl (hb hby own_d4_57) rfl (by rfl) kq) ?_
  exact own_ret X4 hlk (v := some (.ref b1)) (fun h => by rw [hret] at h; cases h) rfl (⟨_, _, rfl, N4, K4, z1, s1, f4q⟩) (by decide) (by decide) (fun fs hr => retOut X4 hx hret rfl (Or.inr (Or.inr (Or.inr (Or.inr ⟨rfl, rfl, rfl⟩)))) (hb hby own_d4_58) hr)
theorem own_d6_0 : decode jdk_52_method_15_code 0 = .ok (.iload_n 1, 1) := by decide +kernel
theorem own_d6_1 : decode jdk_52_method_15_code 1 = .ok (.aload_n 0, 1) := by decide +kernel
theorem own_d6_2 : decode jdk_52_method_15_code 2 = .ok (.arraylength, 1) := by decide +kernel
theorem own_d6_3 : decode jdk_52_method_15_code 3 = .ok (.isub, 1) := by decide +kernel
theorem own_d6_4 : decode jdk_52_method_15_code 4 = .ok (.bipush 31, 2) := by decide +kernel
theorem own_d6_6 : decode jdk_52_method_15_code 6 = .ok (.iushr, 1) := by decide +kernel
theorem own_d6_7 : decode jdk_52_method_15_code 7 = .ok (.i2b, 1) := by decide +kernel
theorem own_d6_8 : decode jdk_52_method_15_code 8 = .ok (.ireturn, 1) := by decide +kernel
set_option maxRecDepth 65536 in
set_option maxHeartbeats 40000000 in
theorem own_cfal_2 (l : Launch) (Z : State) (a0 : Array Value) (hw : ∀ d ∈ tables_1, d.before a0 Z = true) (ws : List Jvm.Cond) (b : Addr) (kb : ClassId) (vs : List Value) (h0 : Heap) (O0 : Old Z Z.heap.size h0) (Ab : Arv Z h0 b kb .byte (2 : Int32) vs (.int (0 : Int32))) :
    ownMet l (⟨"java/lang/StringUTF16", "coderFromArrayLen", "([BI)B"⟩ : MethodName) jdk_52_method_15_code 2 (some .byte) ws ({ frames := 0, cells := 0, slots := 0, locals := 0 } : Room) Z #[(.ref b), (.int (2 : Int32))] h0 (fun v h L => v = some (.int (0 : Int32)) ∧ Fr Z.heap.size L ∧ h = h0) := by
  refine own_met (plainFor_of_name own_pn_java_lang_StringUTF16) ?_
  intro p e s m below meth c s₁ hx hby hml hown hnm hret hlk hZ e0 X0
  refine own_cast (show _ = (mkF m 0 #[.val (.ref b), .val (.int (2 : Int32))] []) by first | (simp [entryFrame, mkF, argsToLocals, Value.category]; done) | rfl) ?_
  refine own_st (s₁.setTop (mkF m 1 #[.val (.ref b), .val (.int (2 : Int32))] [(.int (2 : Int32))])) (fun tq kq => XS.iloadN X0.here hx rfl (hb hby own_d6_0) rfl kq) ?_
  refine own_st (s₁.setTop (mkF m 2 #[.val (.ref b), .val (.int (2 : Int32))] [(.ref b), (.int (2 : Int32))])) (fun tq kq => XS.aloadN X0.here hx rfl (hb hby own_d6_1) rfl (by rfl) kq) ?_
  obtain ⟨cl1, q1a, q1b, q1c, q1d, q1e, q1f⟩ := id Ab
  refine own_st (s₁.setTop (mkF m 3 #[.val (.ref b), .val (.int (2 : Int32))] [(.int (2 : Int32)), (.int (2 : Int32))])) (fun tq kq => X0.arraylength hx (by rw [e0]; exact q1a.1) (State.isArrayOf_alike hZ.alike q1a.2.1) (g := (mkF m 2 #[.val (.ref b), .val (.int (2 : Int32))] [(.ref b), (.int (2 : Int32))])) rfl rfl (hb hby own_d6_2) tq (by rw [len_of q1c q1d]; exact kq)) ?_
  refine own_st (s₁.setTop (mkF m 4 #[.val (.ref b), .val (.int (2 : Int32))] [(.int (0 : Int32))])) (fun tq kq => XS.isub X0.here hx rfl (hb hby own_d6_3) rfl kq) ?_
  refine own_st (s₁.setTop (mkF m 6 #[.val (.ref b), .val (.int (2 : Int32))] [(.int (31 : Int32)), (.int (0 : Int32))])) (fun tq kq => XS.bipush X0.here hx rfl (hb hby own_d6_4) kq) ?_
  refine own_st (s₁.setTop (mkF m 7 #[.val (.ref b), .val (.int (2 : Int32))] [(.int (0 : Int32))])) (fun tq kq => XS.iushr X0.here hx rfl (hb hby own_d6_6) rfl kq) ?_
  refine own_st (s₁.setTop (mkF m 8 #[.val (.ref b), .val (.int (2 : Int32))] [(.int (0 : Int32))])) (fun tq kq => XS.i2b X0.here hx rfl (hb hby own_d6_7) rfl kq) ?_
  exact own_ret X0 hlk (v := some (.int (0 : Int32))) (fun h => by rw [hret] at h; cases h) e0 (⟨rfl, (Fr.nil _), rfl⟩) (by decide) (by decide) (fun fs hr => own_retN X0 hx (t := .byte) hret (by simp) (hb hby own_d6_8) (by decide) hr)
theorem own_d2_0 : decode jdk_42_method_149_code 0 = .ok (.aload_n 0, 1) := by decide +kernel
theorem own_d2_1 : decode jdk_42_method_149_code 1 = .ok (.invokespecial 1, 3) := by decide +kernel
theorem own_d2_4 : decode jdk_42_method_149_code 4 = .ok (.iload_n 3, 1) := by decide +kernel
theorem own_d2_5 : decode jdk_42_method_149_code 5 = .ok (.ifCond .ne 22, 3) := by decide +kernel
theorem own_d2_27 : decode jdk_42_method_149_code 27 = .ok (.getstatic 38, 3) := by decide +kernel
theorem own_d2_30 : decode jdk_42_method_149_code 30 = .ok (.ifCond .eq 28, 3) := by decide +kernel
theorem own_d2_33 : decode jdk_42_method_149_code 33 = .ok (.aload_n 1, 1) := by decide +kernel
theorem own_d2_34 : decode jdk_42_method_149_code 34 = .ok (.iload_n 2, 1) := by decide +kernel
theorem own_d2_35 : decode jdk_42_method_149_code 35 = .ok (.iload_n 3, 1) := by decide +kernel
theorem own_pd__28_5bCII_29_5bB : parseMethodDescriptor "([CII)[B" = some ⟨[(.array .char), .int, .int], some (.array .byte)⟩ := by decide +kernel
theorem own_d2_36 : decode jdk_42_method_149_code 36 = .ok (.invokestatic 177, 3) := by decide +kernel
theorem own_d2_39 : decode jdk_42_method_149_code 39 = .ok (.astore 5, 2) := by decide +kernel
theorem own_d2_41 : decode jdk_42_method_149_code 41 = .ok (.aload_n 0, 1) := by decide +kernel
theorem own_d2_42 : decode jdk_42_method_149_code 42 = .ok (.aload 5, 2) := by decide +kernel
theorem own_d2_44 : decode jdk_42_method_149_code 44 = .ok (.iload_n 3, 1) := by decide +kernel
theorem own_pd__28_5bBI_29B : parseMethodDescriptor "([BI)B" = some ⟨[(.array .byte), .int], some .byte⟩ := by decide +kernel
theorem own_d2_45 : decode jdk_42_method_149_code 45 = .ok (.invokestatic 47, 3) := by decide +kernel
theorem own_d2_48 : decode jdk_42_method_149_code 48 = .ok (.putfield 15, 3) := by decide +kernel
theorem own_d2_51 : decode jdk_42_method_149_code 51 = .ok (.aload_n 0, 1) := by decide +kernel
theorem own_d2_52 : decode jdk_42_method_149_code 52 = .ok (.aload 5, 2) := by decide +kernel
theorem own_d2_54 : decode jdk_42_method_149_code 54 = .ok (.putfield 9, 3) := by decide +kernel
theorem own_d2_57 : decode jdk_42_method_149_code 57 = .ok (.return_, 1) := by decide +kernel
theorem own_pn_java_lang_String : plainName "java/lang/String" = true := by first | (simp [plainName, overriddenIn]; done) | decide +kernel
set_option maxRecDepth 65536 in
set_option maxHeartbeats 40000000 in
theorem own_sinit4_2 (l : Launch) (Z : State) (a0 : Array Value) (hw : ∀ d ∈ tables_1, d.before a0 Z = true) (ws : List Jvm.Cond) (cz : Int32) (a t : Addr) (kt : ClassId) (c0 c1 : Int32) (h0 : Heap) (O0 : Old Z Z.heap.size h0) (SC : Sta Z Z.heap "java/lang/String" "COMPACT_STRINGS" "Z" (.int cz)) (hcz : ¬ (cz = (0 : Int32))) (E0 : Exa Z h0 a "java/lang/String") (FV : Fld Z h0 a "java/lang/String" "value" "[B" .null) (FC : Fld Z h0 a "java/lang/String" "coder" "B" (.int (0 : Int32))) (g0 : Z.heap.size ≤ a) (Atx : Arv Z h0 t kt .char (2 : Int32) [(.int c0), (.int c1)] (.int (0 : Int32))) (ta : t ≠ a) (r0a : ¬ (c0 < (0 : Int32))) (r0b : ¬ ((255 : Int32) < c0)) (r1a : ¬ (c1 < (0 : Int32))) (r1b : ¬ ((255 : Int32) < c1)) :
    ownMet l (⟨"java/lang/String", "<init>", "([CIILjava/lang/Void;)V"⟩ : MethodName) jdk_42_method_149_code 6 none ws ({ frames := 2, cells := 1, slots := 2, locals := 35 } : Room) Z #[(.ref a), (.ref t), (.int (0 : Int32)), (.int (2 : Int32)), .null] h0 (fun v h L => ∃ (b : Addr) (kb : ClassId), v = none ∧ Fr Z.heap.size L ∧ Keep h0 h [a] ∧ Z.heap.size ≤ b ∧ h0.size ≤ b ∧ Fld Z h a "java/lang/String" "value" "[B" (.ref b) ∧ Fld Z h a "java/lang/String" "coder" "B" (.int (0 : Int32)) ∧ Arv Z h b kb .byte (2 : Int32) [(.int (c0.toInt8.toInt32)), (.int (c1.toInt8.toInt32))] (.int (0 : Int32))) := by
  refine own_met (plainFor_of_name own_pn_java_lang_String) ?_
  intro p e s m below meth c s₁ hx hby hml hown hnm hret hlk hZ e0 X0
  refine own_cast (show _ = (mkF m 0 #[.val (.ref a), .val (.ref t), .val (.int (0 : Int32)), .val (.int (2 : Int32)), .val .null, .unset] []) by first | (simp [entryFrame, mkF, argsToLocals, Value.category]; done) | rfl) ?_
  refine own_st (s₁.setTop (mkF m 1 #[.val (.ref a), .val (.ref t), .val (.int (0 : Int32)), .val (.int (2 : Int32)), .val .null, .unset] [(.ref a)])) (fun tq kq => XS.aloadN X0.here hx rfl (hb hby own_d2_0) rfl (by rfl) kq) ?_
  obtain ⟨T1, X1, e1, st1⟩ := initO X0 hx hZ hown (hw _ (List.mem_of_getElem? (i := 11) rfl)) (hw _ (List.mem_of_getElem? (i := 12) rfl)) (hw _ (List.mem_of_getElem? (i := 13) rfl)) e0 (g := (mkF m 1 #[.val (.ref a), .val (.ref t), .val (.int (0 : Int32)), .val (.int (2 : Int32)), .val .null, .unset] [(.ref a)])) rfl (by rw [hml]; rfl) rfl (hb hby own_d2_1) (by decide) (W := 0) (by show 2 * 0 + _ ≤ _; exact Nat.le_of_eq rfl) (by decide)
  refine own_st (T1.setTop (mkF m 4 #[.val (.ref a), .val (.ref t), .val (.int (0 : Int32)), .val (.int (2 : Int32)), .val .null, .unset] [])) st1 ?_
  refine own_st (T1.setTop (mkF m 5 #[.val (.ref a), .val (.ref t), .val (.int (0 : Int32)), .val (.int (2 : Int32)), .val .null, .unset] [(.int (2 : Int32))])) (fun tq kq => XS.iloadN X1.here hx rfl (hb hby own_d2_4) rfl kq) ?_
  refine own_st (T1.setTop (mkF m 27 #[.val (.ref a), .val (.ref t), .val (.int (0 : Int32)), .val (.int (2 : Int32)), .val .null, .unset] [])) (fun tq kq => XS.ifYes X1.here hx rfl (pc0 := 5) (pc' := 27) rfl (hb hby own_d2_5) rfl ((if0 _ _).trans (feq ((by decide) : ¬ ((2 : Int32) = (0 : Int32)))).2) (by decide) (by decide) kq) ?_
  obtain ⟨T2, X2, e2, st2⟩ := getS2 X1 hx hZ hown (host := "") (Or.inl (hw _ (List.mem_of_getElem? (i := 14) rfl))) Via.refl e1 (SC.ext O0.2) (g := (mkF m 27 #[.val (.ref a), .val (.ref t), .val (.int (0 : Int32)), .val (.int (2 : Int32)), .val .null, .unset] [])) rfl (hb hby own_d2_27)
  refine own_st (T2.setTop (mkF m 30 #[.val (.ref a), .val (.ref t), .val (.int (0 : Int32)), .val (.int (2 : Int32)), .val .null, .unset] [(.int cz)])) st2 ?_
  refine own_st (T2.setTop (mkF m 33 #[.val (.ref a), .val (.ref t), .val (.int (0 : Int32)), .val (.int (2 : Int32)), .val .null, .unset] [])) (fun tq kq => XS.ifNo X2.here hx rfl (hb hby own_d2_30) rfl ((if0 _ _).trans (feq (hcz : ¬ (cz = (0 : Int32)))).1) kq) ?_
  refine own_st (T2.setTop (mkF m 34 #[.val (.ref a), .val (.ref t), .val (.int (0 : Int32)), .val (.int (2 : Int32)), .val .null, .unset] [(.ref t)])) (fun tq kq => XS.aloadN X2.here hx rfl (hb hby own_d2_33) rfl (by rfl) kq) ?_
  refine own_st (T2.setTop (mkF m 35 #[.val (.ref a), .val (.ref t), .val (.int (0 : Int32)), .val (.int (2 : Int32)), .val .null, .unset] [(.int (0 : Int32)), (.ref t)])) (fun tq kq => XS.iloadN X2.here hx rfl (hb hby own_d2_34) rfl kq) ?_
  refine own_st (T2.setTop (mkF m 36 #[.val (.ref a), .val (.ref t), .val (.int (0 : Int32)), .val (.int (2 : Int32)), .val .null, .unset] [(.int (2 : Int32)), (.int (0 : Int32)), (.ref t)])) (fun tq kq => XS.iloadN X2.here hx rfl (hb hby own_d2_35) rfl kq) ?_
  obtain ⟨v3, T3, L3, X3, q3, st3⟩ := own_callS X2 hx hZ hown (hw _ (List.mem_of_getElem? (i := 15) rfl)) (hw _ (List.mem_of_getElem? (i := 16) rfl)) (hw _ (List.mem_of_getElem? (i := 17) rfl)) (hw _ (List.mem_of_getElem? (i := 18) rfl)) (argsL := [(.ref t), (.int (0 : Int32)), (.int (2 : Int32))]) (own_comp3_2 l Z a0 hw [] t kt c0 c1 h0 O0 Atx r0a r0b r1a r1b) 0 (by decide) (by decide) (by decide) (by decide) (by decide) e2 (g := (mkF m 36 #[.val (.ref a), .val (.ref t), .val (.int (0 : Int32)), .val (.int (2 : Int32)), .val .null, .unset] [(.int (2 : Int32)), (.int (0 : Int32)), (.ref t)])) rfl (by rw [hml]; rfl) [] (lenOf own_pd__28_5bCII_29_5bB rfl) rfl (by show 2 * 0 + _ ≤ _; exact Nat.le_of_eq rfl) (hb hby own_d2_36)
  obtain ⟨b3, kb3, rfl, N3q, K3q, z3, s3q, f3q⟩ := q3
  have N3 := Fr.app (Fr.nil _) N3q
  have nf3_a : a ≠ b3 := Nat.ne_of_lt (Nat.lt_of_lt_of_le E0.lt s3q)
  have nf3_t : t ≠ b3 := Nat.ne_of_lt (Nat.lt_of_lt_of_le Atx.lt s3q)
  have s3 : h0.size ≤ b3 := Nat.le_trans (Keep.refl h0 [a]).1 s3q
  have f4 := (E0.keep K3q)
  have f5 := (FV.keep K3q nin0)
  have f6 := (FC.keep K3q nin0)
  have f7 := (Atx.keep K3q nin0)
  have O3 := O0.keep K3q all0
  have K3 := (Keep.refl h0 [a]).trans K3q all0
  refine own_st (T3.setTop (mkF m 39 #[.val (.ref a), .val (.ref t), .val (.int (0 : Int32)), .val (.int (2 : Int32)), .val .null, .unset] [(.ref b3)])) st3 ?_
  refine own_st (T3.setTop (mkF m 41 #[.val (.ref a), .val (.ref t), .val (.int (0 : Int32)), .val (.int (2 : Int32)), .val .null, .val (.ref b3)] [])) (fun tq kq => XS.astore X3.here hx rfl (hb hby own_d2_39) rfl (by rfl) (l' := #[.val (.ref a), .val (.ref t), .val (.int (0 : Int32)), .val (.int (2 : Int32)), .val .null, .val (.ref b3)]) rfl kq) ?_
  refine own_st (T3.setTop (mkF m 42 #[.val (.ref a), .val (.ref t), .val (.int (0 : Int32)), .val (.int (2 : Int32)), .val .null, .val (.ref b3)] [(.ref a)])) (fun tq kq => XS.aloadN X3.here hx rfl (hb hby own_d2_41) rfl (by rfl) kq) ?_
  refine own_st (T3.setTop (mkF m 44 #[.val (.ref a), .val (.ref t), .val (.int (0 : Int32)), .val (.int (2 : Int32)), .val .null, .val (.ref b3)] [(.ref b3), (.ref a)])) (fun tq kq => XS.aload X3.here hx rfl (hb hby own_d2_42) rfl (by rfl) kq) ?_
  refine own_st (T3.setTop (mkF m 45 #[.val (.ref a), .val (.ref t), .val (.int (0 : Int32)), .val (.int (2 : Int32)), .val .null, .val (.ref b3)] [(.int (2 : Int32)), (.ref b3), (.ref a)])) (fun tq kq => XS.iloadN X3.here hx rfl (hb hby own_d2_44) rfl kq) ?_
  obtain ⟨v8, T8, L8, X8, q8, st8⟩ := own_callS X3 hx hZ hown (hw _ (List.mem_of_getElem? (i := 23) rfl)) (hw _ (List.mem_of_getElem? (i := 24) rfl)) (hw _ (List.mem_of_getElem? (i := 17) rfl)) (hw _ (List.mem_of_getElem? (i := 25) rfl)) (argsL := [(.ref b3), (.int (2 : Int32))]) (own_cfal_2 l Z a0 hw [] b3 kb3 [(.int (c0.toInt8.toInt32)), (.int (c1.toInt8.toInt32))] T3.heap O3 f3q) 1 (by decide) (by decide) (by decide) (by decide) (by decide) rfl (g := (mkF m 45 #[.val (.ref a), .val (.ref t), .val (.int (0 : Int32)), .val (.int (2 : Int32)), .val .null, .val (.ref b3)] [(.int (2 : Int32)), (.ref b3), (.ref a)])) rfl (by rw [hml]; rfl) [(.ref a)] (lenOf own_pd__28_5bBI_29B rfl) rfl (by show 2 * 0 + _ ≤ _; exact Nat.le_of_eq rfl) (hb hby own_d2_45)
  obtain ⟨rfl, N8q, e8⟩ := q8
  have N8 := Fr.app N3 N8q
  refine own_st (T8.setTop (mkF m 48 #[.val (.ref a), .val (.ref t), .val (.int (0 : Int32)), .val (.int (2 : Int32)), .val .null, .val (.ref b3)] [(.int (0 : Int32)), (.ref a)])) st8 ?_
  obtain ⟨T9, h9, X9, e9, W9, st9⟩ := putF X8 hx hZ hown (host := "") (Or.inl (hw _ (List.mem_of_getElem? (i := 26) rfl))) Via.refl e8 f6 f4 (Or.inr ⟨(hw _ (List.mem_of_getElem? (i := 27) rfl)), rfl, hnm⟩) (hw _ (List.mem_of_getElem? (i := 2) rfl)) (ty := .byte) (by decide) (by rfl) (by rfl) (g := (mkF m 48 #[.val (.ref a), .val (.ref t), .val (.int (0 : Int32)), .val (.int (2 : Int32)), .val .null, .val (.ref b3)] [(.int (0 : Int32)), (.ref a)])) rfl rfl (hb hby own_d2_48)
  have N9 := Fr.snoc X9 N8 g0
  have O9 := O3.wr W9 g0
  have K9 := K3.wr W9 (Or.inl (List.mem_of_getElem? (i := 0) rfl))
  have f10 := (f4.wr W9)
  have f11 := (f5.other W9 (Or.inr (slot_ne (Or.inr (hw _ (List.mem_of_getElem? (i := 29) rfl))) (Or.inr (hw _ (List.mem_of_getElem? (i := 27) rfl))) (by decide) (t := (.array .byte)) (t' := .byte) (by decide) (by decide))))
  have f13 := (f7.other W9 ta)
  have f14 := (f3q.other W9 (Ne.symm nf3_a))
  have f15 := (f6.same W9)
  refine own_st (T9.setTop (mkF m 51 #[.val (.ref a), .val (.ref t), .val (.int (0 : Int32)), .val (.int (2 : Int32)), .val .null, .val (.ref b3)] [])) st9 ?_
  refine own_st (T9.setTop (mkF m 52 #[.val (.ref a), .val (.ref t), .val (.int (0 : Int32)), .val (.int (2 : Int32)), .val .null, .val (.ref b3)] [(.ref a)])) (fun tq kq => XS.aloadN X9.here hx rfl (hb hby own_d2_51) rfl (by rfl) kq) ?_
  refine own_st (T9.setTop (mkF m 54 #[.val (.ref a), .val (.ref t), .val (.int (0 : Int32)), .val (.int (2 : Int32)), .val .null, .val (.ref b3)] [(.ref b3), (.ref a)])) (fun tq kq => XS.aload X9.here hx rfl (hb hby own_d2_52) rfl (by rfl) kq) ?_
  obtain ⟨T16, h16, X16, e16, W16, st16⟩ := putF X9 hx hZ hown (host := "") (Or.inl (hw _ (List.mem_of_getElem? (i := 28) rfl))) Via.refl e9 f11 f10 (Or.inr ⟨(hw _ (List.mem_of_getElem? (i := 29) rfl)), rfl, hnm⟩) (hw _ (List.mem_of_getElem? (i := 2) rfl)) (ty := (.array .byte)) (by decide) (by rfl) (by rfl) (g := (mkF m 54 #[.val (.ref a), .val (.ref t), .val (.int (0 : Int32)), .val (.int (2 : Int32)), .val .null, .val (.ref b3)] [(.ref b3), (.ref a)])) rfl rfl (hb hby own_d2_54)
  have N16 := Fr.snoc X16 N9 g0
  have O16 := O9.wr W16 g0
  have K16 := K9.wr W16 (Or.inl (List.mem_of_getElem? (i := 0) rfl))
  have f17 := (f10.wr W16)
  have f19 := (f15.other W16 (Or.inr (slot_ne (Or.inr (hw _ (List.mem_of_getElem? (i := 27) rfl))) (Or.inr (hw _ (List.mem_of_getElem? (i := 29) rfl))) (by decide) (t := .byte) (t' := (.array .byte)) (by decide) (by decide))))
  have f20 := (f13.other W16 ta)
  have f21 := (f14.other W16 (Ne.symm nf3_a))
  have f22 := (f11.same W16)
  refine own_st (T16.setTop (mkF m 57 #[.val (.ref a), .val (.ref t), .val (.int (0 : Int32)), .val (.int (2 : Int32)), .val .null, .val (.ref b3)] [])) st16 ?_
  exact own_ret X16 hlk (v := none) (fun _ => rfl) e16 (⟨_, _, rfl, N16, K16, z3, s3, f22, f19, f21⟩) (by decide) (by decide) (fun fs hr => X16.returnOut hx hret (hb hby own_d2_57) hr)
theorem own_d1_0 : decode jdk_42_method_3_code 0 = .ok (.aload_n 0, 1) := by decide +kernel
theorem own_d1_1 : decode jdk_42_method_3_code 1 = .ok (.aload_n 1, 1) := by decide +kernel
theorem own_d1_2 : decode jdk_42_method_3_code 2 = .ok (.iconst 0, 1) := by decide +kernel
theorem own_d1_3 : decode jdk_42_method_3_code 3 = .ok (.aload_n 1, 1) := by decide +kernel
theorem own_d1_4 : decode jdk_42_method_3_code 4 = .ok (.arraylength, 1) := by decide +kernel
theorem own_d1_5 : decode jdk_42_method_3_code 5 = .ok (.aconst_null, 1) := by decide +kernel
theorem own_pd__28_5bCIILjava_2flang_2fVoid_3b_29V : parseMethodDescriptor "([CIILjava/lang/Void;)V" = some ⟨[(.array .char), .int, .int, (.object "java/lang/Void")], none⟩ := by decide +kernel
theorem own_d1_6 : decode jdk_42_method_3_code 6 = .ok (.invokespecial 27, 3) := by decide +kernel
theorem own_d1_9 : decode jdk_42_method_3_code 9 = .ok (.return_, 1) := by decide +kernel
set_option maxRecDepth 65536 in
set_option maxHeartbeats 40000000 in
theorem own_sinit1_2 (l : Launch) (Z : State) (a0 : Array Value) (hw : ∀ d ∈ tables_1, d.before a0 Z = true) (ws : List Jvm.Cond) (cz : Int32) (a t : Addr) (kt : ClassId) (c0 c1 : Int32) (h0 : Heap) (O0 : Old Z Z.heap.size h0) (SC : Sta Z Z.heap "java/lang/String" "COMPACT_STRINGS" "Z" (.int cz)) (hcz : ¬ (cz = (0 : Int32))) (E0 : Exa Z h0 a "java/lang/String") (FV : Fld Z h0 a "java/lang/String" "value" "[B" .null) (FC : Fld Z h0 a "java/lang/String" "coder" "B" (.int (0 : Int32))) (g0 : Z.heap.size ≤ a) (Atx : Arv Z h0 t kt .char (2 : Int32) [(.int c0), (.int c1)] (.int (0 : Int32))) (ta : t ≠ a) (r0a : ¬ (c0 < (0 : Int32))) (r0b : ¬ ((255 : Int32) < c0)) (r1a : ¬ (c1 < (0 : Int32))) (r1b : ¬ ((255 : Int32) < c1)) :
    ownMet l (⟨"java/lang/String", "<init>", "([C)V"⟩ : MethodName) jdk_42_method_3_code 2 none ws ({ frames := 3, cells := 1, slots := 2, locals := 52 } : Room) Z #[(.ref a), (.ref t)] h0 (fun v h L => ∃ (b : Addr) (kb : ClassId), v = none ∧ Fr Z.heap.size L ∧ Keep h0 h [a] ∧ Z.heap.size ≤ b ∧ h0.size ≤ b ∧ Fld Z h a "java/lang/String" "value" "[B" (.ref b) ∧ Fld Z h a "java/lang/String" "coder" "B" (.int (0 : Int32)) ∧ Arv Z h b kb .byte (2 : Int32) [(.int (c0.toInt8.toInt32)), (.int (c1.toInt8.toInt32))] (.int (0 : Int32))) := by
  refine own_met (plainFor_of_name own_pn_java_lang_String) ?_
  intro p e s m below meth c s₁ hx hby hml hown hnm hret hlk hZ e0 X0
  refine own_cast (show _ = (mkF m 0 #[.val (.ref a), .val (.ref t)] []) by first | (simp [entryFrame, mkF, argsToLocals, Value.category]; done) | rfl) ?_
  refine own_st (s₁.setTop (mkF m 1 #[.val (.ref a), .val (.ref t)] [(.ref a)])) (fun tq kq => XS.aloadN X0.here hx rfl (hb hby own_d1_0) rfl (by rfl) kq) ?_
  refine own_st (s₁.setTop (mkF m 2 #[.val (.ref a), .val (.ref t)] [(.ref t), (.ref a)])) (fun tq kq => XS.aloadN X0.here hx rfl (hb hby own_d1_1) rfl (by rfl) kq) ?_
  refine own_st (s₁.setTop (mkF m 3 #[.val (.ref a), .val (.ref t)] [(.int (0 : Int32)), (.ref t), (.ref a)])) (fun tq kq => XS.iconst X0.here hx rfl (hb hby own_d1_2) kq) ?_
  refine own_st (s₁.setTop (mkF m 4 #[.val (.ref a), .val (.ref t)] [(.ref t), (.int (0 : Int32)), (.ref t), (.ref a)])) (fun tq kq => XS.aloadN X0.here hx rfl (hb hby own_d1_3) rfl (by rfl) kq) ?_
  obtain ⟨cl1, q1a, q1b, q1c, q1d, q1e, q1f⟩ := id Atx
  refine own_st (s₁.setTop (mkF m 5 #[.val (.ref a), .val (.ref t)] [(.int (2 : Int32)), (.int (0 : Int32)), (.ref t), (.ref a)])) (fun tq kq => X0.arraylength hx (by rw [e0]; exact q1a.1) (State.isArrayOf_alike hZ.alike q1a.2.1) (g := (mkF m 4 #[.val (.ref a), .val (.ref t)] [(.ref t), (.int (0 : Int32)), (.ref t), (.ref a)])) rfl rfl (hb hby own_d1_4) tq (by rw [len_of q1c q1d]; exact kq)) ?_
  refine own_st (s₁.setTop (mkF m 6 #[.val (.ref a), .val (.ref t)] [.null, (.int (2 : Int32)), (.int (0 : Int32)), (.ref t), (.ref a)])) (fun tq kq => XS.aconstNull X0.here hx rfl (hb hby own_d1_5) kq) ?_
  obtain ⟨v2, T2, L2, X2, q2, st2⟩ := own_callI X0 hx hZ hown (y := (⟨"java/lang/String", "<init>", "([CIILjava/lang/Void;)V"⟩ : MethodName)) rfl (hw _ (List.mem_of_getElem? (i := 7) rfl)) (hw _ (List.mem_of_getElem? (i := 8) rfl)) (hw _ (List.mem_of_getElem? (i := 3) rfl)) (hw _ (List.mem_of_getElem? (i := 10) rfl)) (a := a) (argsL := [(.ref t), (.int (0 : Int32)), (.int (2 : Int32)), .null]) (own_sinit4_2 l Z a0 hw [] cz a t kt c0 c1 h0 O0 SC hcz E0 FV FC g0 Atx ta r0a r0b r1a r1b) 0 (by decide) (by decide) (by decide) (by decide) (by decide) e0 (g := (mkF m 6 #[.val (.ref a), .val (.ref t)] [.null, (.int (2 : Int32)), (.int (0 : Int32)), (.ref t), (.ref a)])) rfl (by rw [hml]; rfl) [] (lenOf own_pd__28_5bCIILjava_2flang_2fVoid_3b_29V rfl) rfl (by show 2 * 0 + _ ≤ _; exact Nat.le_of_eq rfl) (hb hby own_d1_6)
  obtain ⟨b2, kb2, rfl, N2q, K2q, z2, s2q, fv2, fc2, f2q⟩ := q2
  have N2 := Fr.app (Fr.nil _) N2q
  have nf2_a : a ≠ b2 := Nat.ne_of_lt (Nat.lt_of_lt_of_le E0.lt s2q)
  have nf2_t : t ≠ b2 := Nat.ne_of_lt (Nat.lt_of_lt_of_le Atx.lt s2q)
  have s2 : h0.size ≤ b2 := Nat.le_trans (Keep.refl h0 [a]).1 s2q
  have f3 := (E0.keep K2q)
  have f6 := (Atx.keep K2q (ninS ta nin0))
  have O2 := O0.keep K2q (allS g0 all0)
  have K2 := (Keep.refl h0 [a]).trans K2q (allS (Or.inl (List.mem_of_getElem? (i := 0) rfl)) all0)
  refine own_st (T2.setTop (mkF m 9 #[.val (.ref a), .val (.ref t)] [])) st2 ?_
  exact own_ret X2 hlk (v := none) (fun _ => rfl) rfl (⟨_, _, rfl, N2, K2, z2, s2, fv2, fc2, f2q⟩) (by decide) (by decide) (fun fs hr => X2.returnOut hx hret (hb hby own_d1_9) hr)
theorem own_d9_0 : decode jdk_30_method_1_code 0 = .ok (.aload_n 0, 1) := by decide +kernel
theorem own_d9_1 : decode jdk_30_method_1_code 1 = .ok (.invokespecial 1, 3) := by decide +kernel
theorem own_d9_4 : decode jdk_30_method_1_code 4 = .ok (.return_, 1) := by decide +kernel
theorem own_pn_java_lang_Record : plainName "java/lang/Record" = true := by first | (simp [plainName, overriddenIn]; done) | decide +kernel
set_option maxRecDepth 65536 in
set_option maxHeartbeats 40000000 in
theorem own_sup_Record (l : Launch) (Z : State) (a0 : Array Value) (hw : ∀ d ∈ tables_1, d.before a0 Z = true) (ws : List Jvm.Cond) (a : Addr) (h0 : Heap) (O0 : Old Z Z.heap.size h0) :
    ownMet l (⟨"java/lang/Record", "<init>", "()V"⟩ : MethodName) jdk_30_method_1_code 1 none ws ({ frames := 1, cells := 0, slots := 0, locals := 12 } : Room) Z #[(.ref a)] h0 (fun v h L => v = none ∧ Fr Z.heap.size L ∧ h = h0) := by
  refine own_met (plainFor_of_name own_pn_java_lang_Record) ?_
  intro p e s m below meth c s₁ hx hby hml hown hnm hret hlk hZ e0 X0
  refine own_cast (show _ = (mkF m 0 #[.val (.ref a)] []) by first | (simp [entryFrame, mkF, argsToLocals, Value.category]; done) | rfl) ?_
  refine own_st (s₁.setTop (mkF m 1 #[.val (.ref a)] [(.ref a)])) (fun tq kq => XS.aloadN X0.here hx rfl (hb hby own_d9_0) rfl (by rfl) kq) ?_
  obtain ⟨T1, X1, e1, st1⟩ := initO X0 hx hZ hown (hw _ (List.mem_of_getElem? (i := 50) rfl)) (hw _ (List.mem_of_getElem? (i := 12) rfl)) (hw _ (List.mem_of_getElem? (i := 13) rfl)) e0 (g := (mkF m 1 #[.val (.ref a)] [(.ref a)])) rfl (by rw [hml]; rfl) rfl (hb hby own_d9_1) (by decide) (W := 0) (by show 2 * 0 + _ ≤ _; exact Nat.le_of_eq rfl) (by decide)
  refine own_st (T1.setTop (mkF m 4 #[.val (.ref a)] [])) st1 ?_
  exact own_ret X1 hlk (v := none) (fun _ => rfl) e1 (⟨rfl, (Fr.nil _), rfl⟩) (by decide) (by decide) (fun fs hr => X1.returnOut hx hret (hb hby own_d9_4) hr)
theorem own_d8_0 : decode prog_2_method_1_code 0 = .ok (.aload_n 0, 1) := by decide +kernel
theorem own_pd__28_29V : parseMethodDescriptor "()V" = some ⟨[], none⟩ := by decide +kernel
theorem own_d8_1 : decode prog_2_method_1_code 1 = .ok (.invokespecial 1, 3) := by decide +kernel
theorem own_d8_4 : decode prog_2_method_1_code 4 = .ok (.aload_n 0, 1) := by decide +kernel
theorem own_d8_5 : decode prog_2_method_1_code 5 = .ok (.aload_n 1, 1) := by decide +kernel
theorem own_d8_6 : decode prog_2_method_1_code 6 = .ok (.putfield 7, 3) := by decide +kernel
theorem own_d8_9 : decode prog_2_method_1_code 9 = .ok (.aload_n 0, 1) := by decide +kernel
theorem own_d8_10 : decode prog_2_method_1_code 10 = .ok (.aload_n 2, 1) := by decide +kernel
theorem own_d8_11 : decode prog_2_method_1_code 11 = .ok (.putfield 13, 3) := by decide +kernel
theorem own_d8_14 : decode prog_2_method_1_code 14 = .ok (.aload_n 0, 1) := by decide +kernel
theorem own_d8_15 : decode prog_2_method_1_code 15 = .ok (.aload_n 3, 1) := by decide +kernel
theorem own_d8_16 : decode prog_2_method_1_code 16 = .ok (.putfield 16, 3) := by decide +kernel
theorem own_d8_19 : decode prog_2_method_1_code 19 = .ok (.return_, 1) := by decide +kernel
theorem own_pn_com_example_gridclause_gridclause_cli_Option : plainName "com/example/gridclause/gridclause/cli/Option" = true := by first | (simp [plainName, overriddenIn]; done) | decide +kernel
set_option maxRecDepth 65536 in
set_option maxHeartbeats 40000000 in
theorem own_ctor_Option (l : Launch) (Z : State) (a0 : Array Value) (hw : ∀ d ∈ tables_1, d.before a0 Z = true) (ws : List Jvm.Cond) (a : Addr) (x0 : Addr) (x1 : Addr) (x2 : Addr) (h0 : Heap) (O0 : Old Z Z.heap.size h0) (E0 : Exa Z h0 a "com/example/gridclause/gridclause/cli/Option") (g0 : Z.heap.size ≤ a) (F0 : Fld Z h0 a "com/example/gridclause/gridclause/cli/Option" "name" "Ljava/lang/String;" .null) (F1 : Fld Z h0 a "com/example/gridclause/gridclause/cli/Option" "label" "Ljava/lang/String;" .null) (F2 : Fld Z h0 a "com/example/gridclause/gridclause/cli/Option" "use" "Lcom/example/gridclause/gridclause/cli/Option$Use;" .null) :
    ownMet l (⟨"com/example/gridclause/gridclause/cli/Option", "<init>", "(Ljava/lang/String;Ljava/lang/String;Lcom/example/gridclause/gridclause/cli/Option$Use;)V"⟩ : MethodName) prog_2_method_1_code 4 none ws ({ frames := 2, cells := 0, slots := 0, locals := 24 } : Room) Z #[(.ref a), (.ref x0), (.ref x1), (.ref x2)] h0 (fun v h L => v = none ∧ Fr Z.heap.size L ∧ Keep h0 h [a] ∧ Fld Z h a "com/example/gridclause/gridclause/cli/Option" "name" "Ljava/lang/String;" (.ref x0) ∧ Fld Z h a "com/example/gridclause/gridclause/cli/Option" "label" "Ljava/lang/String;" (.ref x1) ∧ Fld Z h a "com/example/gridclause/gridclause/cli/Option" "use" "Lcom/example/gridclause/gridclause/cli/Option$Use;" (.ref x2)) := by
  refine own_met (plainFor_of_name own_pn_com_example_gridclause_gridclause_cli_Option) ?_
  intro p e s m below meth c s₁ hx hby hml hown hnm hret hlk hZ e0 X0
  refine own_cast (show _ = (mkF m 0 #[.val (.ref a), .val (.ref x0), .val (.ref x1), .val (.ref x2)] []) by first | (simp [entryFrame, mkF, argsToLocals, Value.category]; done) | rfl) ?_
  refine own_st (s₁.setTop (mkF m 1 #[.val (.ref a), .val (.ref x0), .val (.ref x1), .val (.ref x2)] [(.ref a)])) (fun tq kq => XS.aloadN X0.here hx rfl (hb hby own_d8_0) rfl (by rfl) kq) ?_
  obtain ⟨v1, T1, L1, X1, q1, st1⟩ := own_callI X0 hx hZ hown (y := (⟨"java/lang/Record", "<init>", "()V"⟩ : MethodName)) rfl (hw _ (List.mem_of_getElem? (i := 45) rfl)) (hw _ (List.mem_of_getElem? (i := 46) rfl)) (hw _ (List.mem_of_getElem? (i := 48) rfl)) (hw _ (List.mem_of_getElem? (i := 49) rfl)) (a := a) (argsL := []) (own_sup_Record l Z a0 hw [] a h0 O0) 0 (by decide) (by decide) (by decide) (by decide) (by decide) e0 (g := (mkF m 1 #[.val (.ref a), .val (.ref x0), .val (.ref x1), .val (.ref x2)] [(.ref a)])) rfl (by rw [hml]; rfl) [] (lenOf own_pd__28_29V rfl) rfl (by show 2 * 0 + _ ≤ _; exact Nat.le_of_eq rfl) (hb hby own_d8_1)
  obtain ⟨rfl, N1q, e1⟩ := q1
  have N1 := Fr.app (Fr.nil _) N1q
  refine own_st (T1.setTop (mkF m 4 #[.val (.ref a), .val (.ref x0), .val (.ref x1), .val (.ref x2)] [])) st1 ?_
  refine own_st (T1.setTop (mkF m 5 #[.val (.ref a), .val (.ref x0), .val (.ref x1), .val (.ref x2)] [(.ref a)])) (fun tq kq => XS.aloadN X1.here hx rfl (hb hby own_d8_4) rfl (by rfl) kq) ?_
  refine own_st (T1.setTop (mkF m 6 #[.val (.ref a), .val (.ref x0), .val (.ref x1), .val (.ref x2)] [(.ref x0), (.ref a)])) (fun tq kq => XS.aloadN X1.here hx rfl (hb hby own_d8_5) rfl (by rfl) kq) ?_
  obtain ⟨T2, h2, X2, e2, W2, st2⟩ := putF X1 hx hZ hown (host := "") (Or.inl (hw _ (List.mem_of_getElem? (i := 51) rfl))) Via.refl e1 F0 E0 (Or.inr ⟨(hw _ (List.mem_of_getElem? (i := 52) rfl)), rfl, hnm⟩) (hw _ (List.mem_of_getElem? (i := 38) rfl)) (ty := (.object "java/lang/String")) (by decide) (by rfl) (by rfl) (g := (mkF m 6 #[.val (.ref a), .val (.ref x0), .val (.ref x1), .val (.ref x2)] [(.ref x0), (.ref a)])) rfl rfl (hb hby own_d8_6)
  have N2 := Fr.snoc X2 N1 g0
  have O2 := O0.wr W2 g0
  have K2 := (Keep.refl h0 [a]).wr W2 (Or.inl (List.mem_of_getElem? (i := 0) rfl))
  have f3 := (E0.wr W2)
  have f5 := (F1.other W2 (Or.inr (slot_ne (Or.inr (hw _ (List.mem_of_getElem? (i := 54) rfl))) (Or.inr (hw _ (List.mem_of_getElem? (i := 52) rfl))) (by decide) (t := (.object "java/lang/String")) (t' := (.object "java/lang/String")) (by decide) (by decide))))
  have f6 := (F2.other W2 (Or.inr (slot_ne (Or.inr (hw _ (List.mem_of_getElem? (i := 56) rfl))) (Or.inr (hw _ (List.mem_of_getElem? (i := 52) rfl))) (by decide) (t := (.object "com/example/gridclause/gridclause/cli/Option$Use")) (t' := (.object "java/lang/String")) (by decide) (by decide))))
  have f7 := (F0.same W2)
  refine own_st (T2.setTop (mkF m 9 #[.val (.ref a), .val (.ref x0), .val (.ref x1), .val (.ref x2)] [])) st2 ?_
  refine own_st (T2.setTop (mkF m 10 #[.val (.ref a), .val (.ref x0), .val (.ref x1), .val (.ref x2)] [(.ref a)])) (fun tq kq => XS.aloadN X2.here hx rfl (hb hby own_d8_9) rfl (by rfl) kq) ?_
  refine own_st (T2.setTop (mkF m 11 #[.val (.ref a), .val (.ref x0), .val (.ref x1), .val (.ref x2)] [(.ref x1), (.ref a)])) (fun tq kq => XS.aloadN X2.here hx rfl (hb hby own_d8_10) rfl (by rfl) kq) ?_
  obtain ⟨T8, h8, X8, e8, W8, st8⟩ := putF X2 hx hZ hown (host := "") (Or.inl (hw _ (List.mem_of_getElem? (i := 53) rfl))) Via.refl e2 f5 f3 (Or.inr ⟨(hw _ (List.mem_of_getElem? (i := 54) rfl)), rfl, hnm⟩) (hw _ (List.mem_of_getElem? (i := 38) rfl)) (ty := (.object "java/lang/String")) (by decide) (by rfl) (by rfl) (g := (mkF m 11 #[.val (.ref a), .val (.ref x0), .val (.ref x1), .val (.ref x2)] [(.ref x1), (.ref a)])) rfl rfl (hb hby own_d8_11)
  have N8 := Fr.snoc X8 N2 g0
  have O8 := O2.wr W8 g0
  have K8 := K2.wr W8 (Or.inl (List.mem_of_getElem? (i := 0) rfl))
  have f9 := (f3.wr W8)
  have f10 := (f7.other W8 (Or.inr (slot_ne (Or.inr (hw _ (List.mem_of_getElem? (i := 52) rfl))) (Or.inr (hw _ (List.mem_of_getElem? (i := 54) rfl))) (by decide) (t := (.object "java/lang/String")) (t' := (.object "java/lang/String")) (by decide) (by decide))))
  have f12 := (f6.other W8 (Or.inr (slot_ne (Or.inr (hw _ (List.mem_of_getElem? (i := 56) rfl))) (Or.inr (hw _ (List.mem_of_getElem? (i := 54) rfl))) (by decide) (t := (.object "com/example/gridclause/gridclause/cli/Option$Use")) (t' := (.object "java/lang/String")) (by decide) (by decide))))
  have f13 := (f5.same W8)
  refine own_st (T8.setTop (mkF m 14 #[.val (.ref a), .val (.ref x0), .val (.ref x1), .val (.ref x2)] [])) st8 ?_
  refine own_st (T8.setTop (mkF m 15 #[.val (.ref a), .val (.ref x0), .val (.ref x1), .val (.ref x2)] [(.ref a)])) (fun tq kq => XS.aloadN X8.here hx rfl (hb hby own_d8_14) rfl (by rfl) kq) ?_
  refine own_st (T8.setTop (mkF m 16 #[.val (.ref a), .val (.ref x0), .val (.ref x1), .val (.ref x2)] [(.ref x2), (.ref a)])) (fun tq kq => XS.aloadN X8.here hx rfl (hb hby own_d8_15) rfl (by rfl) kq) ?_
  obtain ⟨T14, h14, X14, e14, W14, st14⟩ := putF X8 hx hZ hown (host := "") (Or.inl (hw _ (List.mem_of_getElem? (i := 55) rfl))) Via.refl e8 f12 f9 (Or.inr ⟨(hw _ (List.mem_of_getElem? (i := 56) rfl)), rfl, hnm⟩) (hw _ (List.mem_of_getElem? (i := 38) rfl)) (ty := (.object "com/example/gridclause/gridclause/cli/Option$Use")) (by decide) (by rfl) (by rfl) (g := (mkF m 16 #[.val (.ref a), .val (.ref x0), .val (.ref x1), .val (.ref x2)] [(.ref x2), (.ref a)])) rfl rfl (hb hby own_d8_16)
  have N14 := Fr.snoc X14 N8 g0
  have O14 := O8.wr W14 g0
  have K14 := K8.wr W14 (Or.inl (List.mem_of_getElem? (i := 0) rfl))
  have f15 := (f9.wr W14)
  have f16 := (f10.other W14 (Or.inr (slot_ne (Or.inr (hw _ (List.mem_of_getElem? (i := 52) rfl))) (Or.inr (hw _ (List.mem_of_getElem? (i := 56) rfl))) (by decide) (t := (.object "java/lang/String")) (t' := (.object "com/example/gridclause/gridclause/cli/Option$Use")) (by decide) (by decide))))
  have f17 := (f13.other W14 (Or.inr (slot_ne (Or.inr (hw _ (List.mem_of_getElem? (i := 54) rfl))) (Or.inr (hw _ (List.mem_of_getElem? (i := 56) rfl))) (by decide) (t := (.object "java/lang/String")) (t' := (.object "com/example/gridclause/gridclause/cli/Option$Use")) (by decide) (by decide))))
  have f19 := (f12.same W14)
  refine own_st (T14.setTop (mkF m 19 #[.val (.ref a), .val (.ref x0), .val (.ref x1), .val (.ref x2)] [])) st14 ?_
  exact own_ret X14 hlk (v := none) (fun _ => rfl) e14 (⟨rfl, N14, K14, f16, f17, f19⟩) (by decide) (by decide) (fun fs hr => X14.returnOut hx hret (hb hby own_d8_19) hr)
theorem own_d10_0 : decode prog_2_method_12_code 0 = .ok (.aload_n 0, 1) := by decide +kernel
theorem own_d10_1 : decode prog_2_method_12_code 1 = .ok (.getfield 7, 3) := by decide +kernel
theorem own_d10_4 : decode prog_2_method_12_code 4 = .ok (.areturn, 1) := by decide +kernel
set_option maxRecDepth 65536 in
set_option maxHeartbeats 40000000 in
theorem own_get_Option_name (l : Launch) (Z : State) (a0 : Array Value) (hw : ∀ d ∈ tables_1, d.before a0 Z = true) (ws : List Jvm.Cond) (a : Addr) (x : Addr) (h0 : Heap) (O0 : Old Z Z.heap.size h0) (F : Fld Z h0 a "com/example/gridclause/gridclause/cli/Option" "name" "Ljava/lang/String;" (.ref x)) :
    ownMet l (⟨"com/example/gridclause/gridclause/cli/Option", "name", "()Ljava/lang/String;"⟩ : MethodName) prog_2_method_12_code 1 (some (.object "java/lang/String")) ws ({ frames := 0, cells := 0, slots := 0, locals := 0 } : Room) Z #[(.ref a)] h0 (fun v h L => v = some (.ref x) ∧ Fr Z.heap.size L ∧ h = h0) := by
  refine own_met (plainFor_of_name own_pn_com_example_gridclause_gridclause_cli_Option) ?_
  intro p e s m below meth c s₁ hx hby hml hown hnm hret hlk hZ e0 X0
  refine own_cast (show _ = (mkF m 0 #[.val (.ref a)] []) by first | (simp [entryFrame, mkF, argsToLocals, Value.category]; done) | rfl) ?_
  refine own_st (s₁.setTop (mkF m 1 #[.val (.ref a)] [(.ref a)])) (fun tq kq => XS.aloadN X0.here hx rfl (hb hby own_d10_0) rfl (by rfl) kq) ?_
  obtain ⟨T1, X1, e1, st1⟩ := getF X0 hx hZ hown (host := "") (Or.inl (hw _ (List.mem_of_getElem? (i := 51) rfl))) Via.refl e0 F (g := (mkF m 1 #[.val (.ref a)] [(.ref a)])) rfl rfl (hb hby own_d10_1)
  refine own_st (T1.setTop (mkF m 4 #[.val (.ref a)] [(.ref x)])) st1 ?_
  exact own_ret X1 hlk (v := some (.ref x)) (fun h => by rw [hret] at h; cases h) e1 (⟨rfl, (Fr.nil _), rfl⟩) (by decide) (by decide) (fun fs hr => retOut X1 hx hret rfl (Or.inr (Or.inr (Or.inr (Or.inr ⟨rfl, rfl, rfl⟩)))) (hb hby own_d10_4) hr)
theorem own_d11_0 : decode prog_2_method_13_code 0 = .ok (.aload_n 0, 1) := by decide +kernel
theorem own_d11_1 : decode prog_2_method_13_code 1 = .ok (.getfield 13, 3) := by decide +kernel
theorem own_d11_4 : decode prog_2_method_13_code 4 = .ok (.areturn, 1) := by decide +kernel
set_option maxRecDepth 65536 in
set_option maxHeartbeats 40000000 in
theorem own_get_Option_label (l : Launch) (Z : State) (a0 : Array Value) (hw : ∀ d ∈ tables_1, d.before a0 Z = true) (ws : List Jvm.Cond) (a : Addr) (x : Addr) (h0 : Heap) (O0 : Old Z Z.heap.size h0) (F : Fld Z h0 a "com/example/gridclause/gridclause/cli/Option" "label" "Ljava/lang/String;" (.ref x)) :
    ownMet l (⟨"com/example/gridclause/gridclause/cli/Option", "label", "()Ljava/lang/String;"⟩ : MethodName) prog_2_method_13_code 1 (some (.object "java/lang/String")) ws ({ frames := 0, cells := 0, slots := 0, locals := 0 } : Room) Z #[(.ref a)] h0 (fun v h L => v = some (.ref x) ∧ Fr Z.heap.size L ∧ h = h0) := by
  refine own_met (plainFor_of_name own_pn_com_example_gridclause_gridclause_cli_Option) ?_
  intro p e s m below meth c s₁ hx hby hml hown hnm hret hlk hZ e0 X0
  refine own_cast (show _ = (mkF m 0 #[.val (.ref a)] []) by first | (simp [entryFrame, mkF, argsToLocals, Value.category]; done) | rfl) ?_
  refine own_st (s₁.setTop (mkF m 1 #[.val (.ref a)] [(.ref a)])) (fun tq kq => XS.aloadN X0.here hx rfl (hb hby own_d11_0) rfl (by rfl) kq) ?_
  obtain ⟨T1, X1, e1, st1⟩ := getF X0 hx hZ hown (host := "") (Or.inl (hw _ (List.mem_of_getElem? (i := 53) rfl))) Via.refl e0 F (g := (mkF m 1 #[.val (.ref a)] [(.ref a)])) rfl rfl (hb hby own_d11_1)
  refine own_st (T1.setTop (mkF m 4 #[.val (.ref a)] [(.ref x)])) st1 ?_
  exact own_ret X1 hlk (v := some (.ref x)) (fun h => by rw [hret] at h; cases h) e1 (⟨rfl, (Fr.nil _), rfl⟩) (by decide) (by decide) (fun fs hr => retOut X1 hx hret rfl (Or.inr (Or.inr (Or.inr (Or.inr ⟨rfl, rfl, rfl⟩)))) (hb hby own_d11_4) hr)
theorem own_d12_0 : decode prog_2_method_14_code 0 = .ok (.aload_n 0, 1) := by decide +kernel
theorem own_d12_1 : decode prog_2_method_14_code 1 = .ok (.getfield 16, 3) := by decide +kernel
theorem own_d12_4 : decode prog_2_method_14_code 4 = .ok (.areturn, 1) := by decide +kernel
set_option maxRecDepth 65536 in
set_option maxHeartbeats 40000000 in
theorem own_get_Option_use (l : Launch) (Z : State) (a0 : Array Value) (hw : ∀ d ∈ tables_1, d.before a0 Z = true) (ws : List Jvm.Cond) (a : Addr) (x : Addr) (h0 : Heap) (O0 : Old Z Z.heap.size h0) (F : Fld Z h0 a "com/example/gridclause/gridclause/cli/Option" "use" "Lcom/example/gridclause/gridclause/cli/Option$Use;" (.ref x)) :
    ownMet l (⟨"com/example/gridclause/gridclause/cli/Option", "use", "()Lcom/example/gridclause/gridclause/cli/Option$Use;"⟩ : MethodName) prog_2_method_14_code 1 (some (.object "com/example/gridclause/gridclause/cli/Option$Use")) ws ({ frames := 0, cells := 0, slots := 0, locals := 0 } : Room) Z #[(.ref a)] h0 (fun v h L => v = some (.ref x) ∧ Fr Z.heap.size L ∧ h = h0) := by
  refine own_met (plainFor_of_name own_pn_com_example_gridclause_gridclause_cli_Option) ?_
  intro p e s m below meth c s₁ hx hby hml hown hnm hret hlk hZ e0 X0
  refine own_cast (show _ = (mkF m 0 #[.val (.ref a)] []) by first | (simp [entryFrame, mkF, argsToLocals, Value.category]; done) | rfl) ?_
  refine own_st (s₁.setTop (mkF m 1 #[.val (.ref a)] [(.ref a)])) (fun tq kq => XS.aloadN X0.here hx rfl (hb hby own_d12_0) rfl (by rfl) kq) ?_
  obtain ⟨T1, X1, e1, st1⟩ := getF X0 hx hZ hown (host := "") (Or.inl (hw _ (List.mem_of_getElem? (i := 55) rfl))) Via.refl e0 F (g := (mkF m 1 #[.val (.ref a)] [(.ref a)])) rfl rfl (hb hby own_d12_1)
  refine own_st (T1.setTop (mkF m 4 #[.val (.ref a)] [(.ref x)])) st1 ?_
  exact own_ret X1 hlk (v := some (.ref x)) (fun h => by rw [hret] at h; cases h) e1 (⟨rfl, (Fr.nil _), rfl⟩) (by decide) (by decide) (fun fs hr => retOut X1 hx hret rfl (Or.inr (Or.inr (Or.inr (Or.inr ⟨rfl, rfl, rfl⟩)))) (hb hby own_d12_4) hr)
theorem own_d7_0 : decode prog_2_method_3_code 0 = .ok (.new 8, 3) := by decide +kernel
theorem own_d7_3 : decode prog_2_method_3_code 3 = .ok (.dup, 1) := by decide +kernel
theorem own_d7_4 : decode prog_2_method_3_code 4 = .ok (.aload_n 0, 1) := by decide +kernel
theorem own_d7_5 : decode prog_2_method_3_code 5 = .ok (.aload_n 1, 1) := by decide +kernel
theorem own_d7_6 : decode prog_2_method_3_code 6 = .ok (.getstatic 28, 3) := by decide +kernel
theorem own_pd__28Ljava_2flang_2fString_3bLjava_2flang_2fString_3bLcom_2fexample_2fgridclause_2fgridclause_2fcli_2fOption_24Use_3b_29V : parseMethodDescriptor "(Ljava/lang/String;Ljava/lang/String;Lcom/example/gridclause/gridclause/cli/Option$Use;)V" = some ⟨[(.object "java/lang/String"), (.object "java/lang/String"), (.object "com/example/gridclause/gridclause/cli/Option$Use")], none⟩ := by decide +kernel
theorem own_d7_9 : decode prog_2_method_3_code 9 = .ok (.invokespecial 25, 3) := by decide +kernel
theorem own_d7_12 : decode prog_2_method_3_code 12 = .ok (.areturn, 1) := by decide +kernel
set_option maxRecDepth 65536 in
set_option maxHeartbeats 40000000 in
theorem own_optional (l : Launch) (Z : State) (a0 : Array Value) (hw : ∀ d ∈ tables_1, d.before a0 Z = true) (ws : List Jvm.Cond) (x0 x1 wu : Addr) (h0 : Heap) (O0 : Old Z Z.heap.size h0) (SU : Sta Z Z.heap "com/example/gridclause/gridclause/cli/Option$Use" "OPTIONAL" "Lcom/example/gridclause/gridclause/cli/Option$Use;" (.ref wu)) :
    ownMet l (⟨"com/example/gridclause/gridclause/cli/Option", "optional", "(Ljava/lang/String;Ljava/lang/String;)Lcom/example/gridclause/gridclause/cli/Option;"⟩ : MethodName) prog_2_method_3_code 2 (some (.object "com/example/gridclause/gridclause/cli/Option")) ws ({ frames := 3, cells := 1, slots := 3, locals := 40 } : Room) Z #[(.ref x0), (.ref x1)] h0 (fun v h L => ∃ o : Addr, v = some (.ref o) ∧ Fr Z.heap.size L ∧ Keep h0 h [] ∧ Z.heap.size ≤ o ∧ Exa Z h o "com/example/gridclause/gridclause/cli/Option" ∧ Fld Z h o "com/example/gridclause/gridclause/cli/Option" "name" "Ljava/lang/String;" (.ref x0) ∧ Fld Z h o "com/example/gridclause/gridclause/cli/Option" "label" "Ljava/lang/String;" (.ref x1) ∧ Fld Z h o "com/example/gridclause/gridclause/cli/Option" "use" "Lcom/example/gridclause/gridclause/cli/Option$Use;" (.ref wu)) := by
  refine own_met (plainFor_of_name own_pn_com_example_gridclause_gridclause_cli_Option) ?_
  intro p e s m below meth c s₁ hx hby hml hown hnm hret hlk hZ e0 X0
  refine own_cast (show _ = (mkF m 0 #[.val (.ref x0), .val (.ref x1)] []) by first | (simp [entryFrame, mkF, argsToLocals, Value.category]; done) | rfl) ?_
  obtain ⟨T1, h1, X1, e1, E1, A1, D1, -, st1⟩ := newO X0 hx hZ hown (hw _ (List.mem_of_getElem? (i := 37) rfl)) (hw _ (List.mem_of_getElem? (i := 38) rfl)) (hw _ (List.mem_of_getElem? (i := 35) rfl)) e0 (g := (mkF m 0 #[.val (.ref x0), .val (.ref x1)] [])) rfl (hb hby own_d7_0) (by decide) (by decide)
  obtain ⟨b1, g1⟩ : ∃ z, z = h0.size := ⟨_, rfl⟩
  have z1 : Z.heap.size ≤ b1 := Nat.le_trans O0.2.1 (Nat.le_of_eq g1.symm)
  have s1 : h0.size ≤ b1 := Nat.le_trans (Keep.refl h0 []).1 (Nat.le_of_eq g1.symm)
  rw [← g1] at A1 D1 st1
  have O1 := O0.ext E1
  have K1 := (Keep.refl h0 []).ext E1
  have f2 : Fld Z h1 b1 "com/example/gridclause/gridclause/cli/Option" "name" "Ljava/lang/String;" .null := D1 (Or.inr (hw _ (List.mem_of_getElem? (i := 52) rfl))) (ty := (.object "java/lang/String")) (by decide)
  have f3 : Fld Z h1 b1 "com/example/gridclause/gridclause/cli/Option" "label" "Ljava/lang/String;" .null := D1 (Or.inr (hw _ (List.mem_of_getElem? (i := 54) rfl))) (ty := (.object "java/lang/String")) (by decide)
  have f4 : Fld Z h1 b1 "com/example/gridclause/gridclause/cli/Option" "use" "Lcom/example/gridclause/gridclause/cli/Option$Use;" .null := D1 (Or.inr (hw _ (List.mem_of_getElem? (i := 56) rfl))) (ty := (.object "com/example/gridclause/gridclause/cli/Option$Use")) (by decide)
  refine own_st (T1.setTop (mkF m 3 #[.val (.ref x0), .val (.ref x1)] [(.ref b1)])) st1 ?_
  refine own_st (T1.setTop (mkF m 4 #[.val (.ref x0), .val (.ref x1)] [(.ref b1), (.ref b1)])) (fun tq kq => XS.dup X1.here hx rfl (hb hby own_d7_3) rfl (by rfl) kq) ?_
  refine own_st (T1.setTop (mkF m 5 #[.val (.ref x0), .val (.ref x1)] [(.ref x0), (.ref b1), (.ref b1)])) (fun tq kq => XS.aloadN X1.here hx rfl (hb hby own_d7_4) rfl (by rfl) kq) ?_
  refine own_st (T1.setTop (mkF m 6 #[.val (.ref x0), .val (.ref x1)] [(.ref x1), (.ref x0), (.ref b1), (.ref b1)])) (fun tq kq => XS.aloadN X1.here hx rfl (hb hby own_d7_5) rfl (by rfl) kq) ?_
  obtain ⟨T5, X5, e5, st5⟩ := getS2 X1 hx hZ hown (host := "") (Or.inl (hw _ (List.mem_of_getElem? (i := 39) rfl))) Via.refl e1 (SU.ext O1.2) (g := (mkF m 6 #[.val (.ref x0), .val (.ref x1)] [(.ref x1), (.ref x0), (.ref b1), (.ref b1)])) rfl (hb hby own_d7_6)
  refine own_st (T5.setTop (mkF m 9 #[.val (.ref x0), .val (.ref x1)] [(.ref wu), (.ref x1), (.ref x0), (.ref b1), (.ref b1)])) st5 ?_
  obtain ⟨v6, T6, L6, X6, q6, st6⟩ := own_callI X5 hx hZ hown (y := (⟨"com/example/gridclause/gridclause/cli/Option", "<init>", "(Ljava/lang/String;Ljava/lang/String;Lcom/example/gridclause/gridclause/cli/Option$Use;)V"⟩ : MethodName)) rfl (hw _ (List.mem_of_getElem? (i := 42) rfl)) (hw _ (List.mem_of_getElem? (i := 43) rfl)) (hw _ (List.mem_of_getElem? (i := 35) rfl)) (hw _ (List.mem_of_getElem? (i := 44) rfl)) (a := b1) (argsL := [(.ref x0), (.ref x1), (.ref wu)]) (own_ctor_Option l Z a0 hw [] b1 x0 x1 wu h1 O1 A1 z1 f2 f3 f4) 1 (by decide) (by decide) (by decide) (by decide) (by decide) e5 (g := (mkF m 9 #[.val (.ref x0), .val (.ref x1)] [(.ref wu), (.ref x1), (.ref x0), (.ref b1), (.ref b1)])) rfl (by rw [hml]; rfl) [(.ref b1)] (lenOf own_pd__28Ljava_2flang_2fString_3bLjava_2flang_2fString_3bLcom_2fexample_2fgridclause_2fgridclause_2fcli_2fOption_24Use_3b_29V rfl) rfl (by show 2 * 0 + _ ≤ _; exact Nat.le_of_eq rfl) (hb hby own_d7_9)
  obtain ⟨rfl, N6q, K6q, f6_0, f6_1, f6_2⟩ := q6
  have N6 := Fr.app (Fr.nil _) N6q
  have f7 := (A1.keep K6q)
  have O6 := O1.keep K6q (allS z1 all0)
  have K6 := K1.trans K6q (allS (Or.inr s1) all0)
  refine own_st (T6.setTop (mkF m 12 #[.val (.ref x0), .val (.ref x1)] [(.ref b1)])) st6 ?_
  exact own_ret X6 hlk (v := some (.ref b1)) (fun h => by rw [hret] at h; cases h) rfl (⟨_, rfl, N6, K6, z1, f7, f6_0, f6_1, f6_2⟩) (by decide) (by decide) (fun fs hr => retOut X6 hx hret rfl (Or.inr (Or.inr (Or.inr (Or.inr ⟨rfl, rfl, rfl⟩)))) (hb hby own_d7_12) hr)
def own_EL : List (String × Nat) := []
theorem own_hEL {Z : State} {a0 : Array Value} (hw : ∀ d ∈ tables_1, d.before a0 Z = true) : EW Z a0 own_EL := EW.nil
theorem own_wS {Z : State} {a0 : Array Value} (hw : ∀ d ∈ tables_1, d.before a0 Z = true) : ∀ a ∈ Bundle.stringAtoms, a.before a0 Z = true := fun d hd => by
  simp only [Bundle.stringAtoms, List.mem_cons, List.not_mem_nil, or_false] at hd
  rcases hd with rfl | rfl | rfl | rfl | rfl | rfl | rfl
  · exact hw _ (List.mem_of_getElem? (i := 3) rfl)
  · exact hw _ (List.mem_of_getElem? (i := 2) rfl)
  · exact hw _ (List.mem_of_getElem? (i := 19) rfl)
  · exact hw _ (List.mem_of_getElem? (i := 29) rfl)
  · exact hw _ (List.mem_of_getElem? (i := 27) rfl)
  · exact hw _ (List.mem_of_getElem? (i := 31) rfl)
  · exact hw _ (List.mem_of_getElem? (i := 32) rfl)
theorem own_pd__28_5bC_29V : parseMethodDescriptor "([C)V" = some ⟨[(.array .char)], none⟩ := by decide +kernel
theorem own_pd__28Ljava_2flang_2fString_3bLjava_2flang_2fString_3b_29Lcom_2fexample_2fgridclause_2fgridclause_2fcli_2fOption_3b : parseMethodDescriptor "(Ljava/lang/String;Ljava/lang/String;)Lcom/example/gridclause/gridclause/cli/Option;" = some ⟨[(.object "java/lang/String"), (.object "java/lang/String")], some (.object "com/example/gridclause/gridclause/cli/Option")⟩ := by decide +kernel
theorem own_pd__28_29Ljava_2flang_2fString_3b : parseMethodDescriptor "()Ljava/lang/String;" = some ⟨[], some (.object "java/lang/String")⟩ := by decide +kernel
theorem own_pd__28_29Lcom_2fexample_2fgridclause_2fgridclause_2fcli_2fOption_24Use_3b : parseMethodDescriptor "()Lcom/example/gridclause/gridclause/cli/Option$Use;" = some ⟨[], some (.object "com/example/gridclause/gridclause/cli/Option$Use")⟩ := by decide +kernel
theorem own_pn_com_example_gridclause_gridclause_cli_OptionOptionalPinLaw : plainName "com/example/gridclause/gridclause/cli/OptionOptionalPinLaw" = true := by first | (simp [plainName, overriddenIn]; done) | decide +kernel
set_option maxRecDepth 65536 in
set_option maxHeartbeats 40000000 in
theorem own_law (l : Launch) (Z : State) (a0 : Array Value) (hw : ∀ d ∈ tables_1, d.before a0 Z = true) (ws : List Jvm.Cond) (cz : Int32) (i j f : Int32) (wu : Addr) (h0 : Heap) (O0 : Old Z Z.heap.size h0) (SC : Sta Z Z.heap "java/lang/String" "COMPACT_STRINGS" "Z" (.int cz)) (hcz : ¬ (cz = (0 : Int32))) (SU : Sta Z Z.heap "com/example/gridclause/gridclause/cli/Option$Use" "OPTIONAL" "Lcom/example/gridclause/gridclause/cli/Option$Use;" (.ref wu)) :
    ownMetW l x code maxLocals ret ws room_1 Z own_EL [] #[(.int i), (.int j), (.int f)] h0 (fun v vm h L => v = some (.int 1) ∧ Fr Z.heap.size L) := by
  have hEL := own_hEL hw
  refine own_metW (plainFor_of_name own_pn_com_example_gridclause_gridclause_cli_OptionOptionalPinLaw) ?_
  intro p e s m below meth c s₁ hx hby hml hown hnm hret hlk hZ e0 X0 hS0 R0 hsf
  refine own_cast (show _ = (mkF m 0 #[.val (.int i), .val (.int j), .val (.int f), .unset, .unset, .unset, .unset, .unset, .unset, .unset, .unset] []) by first | (simp [entryFrame, mkF, argsToLocals, Value.category, maxLocals]; done) | rfl) ?_
  refine own_st (s₁.setTop (mkF m 1 #[.val (.int i), .val (.int j), .val (.int f), .unset, .unset, .unset, .unset, .unset, .unset, .unset, .unset] [(.int (2 : Int32))])) (fun tq kq => XS.iconst X0.here hx rfl (hb hby at_0) kq) ?_
  obtain ⟨T1, h1, cA1, X1, e1, E1, A1, st1⟩ := newP X0 hx hZ (hw _ (List.mem_of_getElem? (i := 0) rfl)) e0 (g := (mkF m 1 #[.val (.int i), .val (.int j), .val (.int f), .unset, .unset, .unset, .unset, .unset, .unset, .unset, .unset] [(.int (2 : Int32))])) rfl (hb hby at_1) rfl (by decide) (cap := 2) (by decide) (by decide) (by decide) (by decide)
  obtain ⟨b1, g1⟩ : ∃ z, z = h0.size := ⟨_, rfl⟩
  have z1 : Z.heap.size ≤ b1 := Nat.le_trans O0.2.1 (Nat.le_of_eq g1.symm)
  have s1 : h0.size ≤ b1 := Nat.le_trans (Keep.refl h0 []).1 (Nat.le_of_eq g1.symm)
  rw [← g1] at A1 st1
  have R1 := R0.trans (CHr.ext E1 R0.1)
  have sf1_b1 := Safe.ext E1 R0.1 (Safe.new (Nat.le_of_eq g1.symm))
  have O1 := O0.ext E1
  have K1 := (Keep.refl h0 []).ext E1
  have f2 : Arv Z h1 b1 cA1 .char (2 : Int32) [(.int (0 : Int32)), (.int (0 : Int32))] (.int (0 : Int32)) := (Arv.new A1 (by decide)).pad (pad_rep [] (.int (0 : Int32)) 2)
  refine own_st (T1.setTop (mkF m 3 #[.val (.int i), .val (.int j), .val (.int f), .unset, .unset, .unset, .unset, .unset, .unset, .unset, .unset] [(.ref b1)])) st1 ?_
  refine own_st (T1.setTop (mkF m 4 #[.val (.int i), .val (.int j), .val (.int f), .val (.ref b1), .unset, .unset, .unset, .unset, .unset, .unset, .unset] [])) (fun tq kq => XS.astoreN X1.here hx rfl (hb hby at_3) rfl (by rfl) (l' := #[.val (.int i), .val (.int j), .val (.int f), .val (.ref b1), .unset, .unset, .unset, .unset, .unset, .unset, .unset]) rfl kq) ?_
  refine own_st (T1.setTop (mkF m 5 #[.val (.int i), .val (.int j), .val (.int f), .val (.ref b1), .unset, .unset, .unset, .unset, .unset, .unset, .unset] [(.ref b1)])) (fun tq kq => XS.aloadN X1.here hx rfl (hb hby at_4) rfl (by rfl) kq) ?_
  refine own_st (T1.setTop (mkF m 6 #[.val (.int i), .val (.int j), .val (.int f), .val (.ref b1), .unset, .unset, .unset, .unset, .unset, .unset, .unset] [(.int (0 : Int32)), (.ref b1)])) (fun tq kq => XS.iconst X1.here hx rfl (hb hby at_5) kq) ?_
  refine own_st (T1.setTop (mkF m 7 #[.val (.int i), .val (.int j), .val (.int f), .val (.ref b1), .unset, .unset, .unset, .unset, .unset, .unset, .unset] [(.int i), (.int (0 : Int32)), (.ref b1)])) (fun tq kq => XS.iloadN X1.here hx rfl (hb hby at_6) rfl kq) ?_
  refine own_st (T1.setTop (mkF m 10 #[.val (.int i), .val (.int j), .val (.int f), .val (.ref b1), .unset, .unset, .unset, .unset, .unset, .unset, .unset] [(.int (255 : Int32)), (.int i), (.int (0 : Int32)), (.ref b1)])) (fun tq kq => XS.sipush X1.here hx rfl (hb hby at_7) kq) ?_
  refine own_st (T1.setTop (mkF m 11 #[.val (.int i), .val (.int j), .val (.int f), .val (.ref b1), .unset, .unset, .unset, .unset, .unset, .unset, .unset] [(.int (i &&& (255 : Int32))), (.int (0 : Int32)), (.ref b1)])) (fun tq kq => XS.iand X1.here hx rfl (hb hby at_10) rfl kq) ?_
  refine own_st (T1.setTop (mkF m 12 #[.val (.int i), .val (.int j), .val (.int f), .val (.ref b1), .unset, .unset, .unset, .unset, .unset, .unset, .unset] [(.int (i &&& (255 : Int32))), (.int (0 : Int32)), (.ref b1)])) (fun tq kq => XS.i2c X1.here hx rfl (hb hby at_11) rfl (by rw [i2c_mask]; exact kq)) ?_
  obtain ⟨cl3, q3a, q3b, q3c, q3d, q3e, q3f⟩ := id f2
  obtain ⟨T3, h3, X3, e3, W3, st3⟩ := stC X1 hx hZ e1 q3a (j := (0 : Int32)) (inb_of q3c ⟨by decide, by decide⟩) (g := (mkF m 12 #[.val (.int i), .val (.int j), .val (.int f), .val (.ref b1), .unset, .unset, .unset, .unset, .unset, .unset, .unset] [(.int (i &&& (255 : Int32))), (.int (0 : Int32)), (.ref b1)])) rfl rfl (hb hby at_12)
  have N3 := Fr.snoc X3 (Fr.nil _) z1
  have O3 := O1.wr W3 z1
  have R3 := R1.trans (CHr.wr W3 sf1_b1 R1.1)
  have sf3_b1 := Safe.wr W3 sf1_b1 R1.1 sf1_b1
  have K3 := K1.wr W3 (Or.inr s1)
  have f5 : Arv Z h3 b1 cA1 .char (2 : Int32) [(.int (i &&& (255 : Int32))), (.int (0 : Int32))] (.int (0 : Int32)) := (show nar .char (i &&& (255 : Int32)) = (i &&& (255 : Int32)) from (i2c_mask _)) ▸ Arv.set q3a q3b q3c q3d q3e q3f (fits_nar_char _) W3 0 (by decide) (show 0 < 2 by decide)
  refine own_st (T3.setTop (mkF m 13 #[.val (.int i), .val (.int j), .val (.int f), .val (.ref b1), .unset, .unset, .unset, .unset, .unset, .unset, .unset] [])) st3 ?_
  refine own_st (T3.setTop (mkF m 14 #[.val (.int i), .val (.int j), .val (.int f), .val (.ref b1), .unset, .unset, .unset, .unset, .unset, .unset, .unset] [(.ref b1)])) (fun tq kq => XS.aloadN X3.here hx rfl (hb hby at_13) rfl (by rfl) kq) ?_
  refine own_st (T3.setTop (mkF m 15 #[.val (.int i), .val (.int j), .val (.int f), .val (.ref b1), .unset, .unset, .unset, .unset, .unset, .unset, .unset] [(.int (1 : Int32)), (.ref b1)])) (fun tq kq => XS.iconst X3.here hx rfl (hb hby at_14) kq) ?_
  refine own_st (T3.setTop (mkF m 16 #[.val (.int i), .val (.int j), .val (.int f), .val (.ref b1), .unset, .unset, .unset, .unset, .unset, .unset, .unset] [(.int i), (.int (1 : Int32)), (.ref b1)])) (fun tq kq => XS.iloadN X3.here hx rfl (hb hby at_15) rfl kq) ?_
  refine own_st (T3.setTop (mkF m 18 #[.val (.int i), .val (.int j), .val (.int f), .val (.ref b1), .unset, .unset, .unset, .unset, .unset, .unset, .unset] [(.int (8 : Int32)), (.int i), (.int (1 : Int32)), (.ref b1)])) (fun tq kq => XS.bipush X3.here hx rfl (hb hby at_16) kq) ?_
  refine own_st (T3.setTop (mkF m 19 #[.val (.int i), .val (.int j), .val (.int f), .val (.ref b1), .unset, .unset, .unset, .unset, .unset, .unset, .unset] [(.int ((i.toUInt32 >>> ((8 : Int32) &&& 31).toUInt32).toInt32)), (.int (1 : Int32)), (.ref b1)])) (fun tq kq => XS.iushr X3.here hx rfl (hb hby at_18) rfl kq) ?_
  refine own_st (T3.setTop (mkF m 22 #[.val (.int i), .val (.int j), .val (.int f), .val (.ref b1), .unset, .unset, .unset, .unset, .unset, .unset, .unset] [(.int (255 : Int32)), (.int ((i.toUInt32 >>> ((8 : Int32) &&& 31).toUInt32).toInt32)), (.int (1 : Int32)), (.ref b1)])) (fun tq kq => XS.sipush X3.here hx rfl (hb hby at_19) kq) ?_
  refine own_st (T3.setTop (mkF m 23 #[.val (.int i), .val (.int j), .val (.int f), .val (.ref b1), .unset, .unset, .unset, .unset, .unset, .unset, .unset] [(.int (((i.toUInt32 >>> ((8 : Int32) &&& 31).toUInt32).toInt32) &&& (255 : Int32))), (.int (1 : Int32)), (.ref b1)])) (fun tq kq => XS.iand X3.here hx rfl (hb hby at_22) rfl kq) ?_
  refine own_st (T3.setTop (mkF m 24 #[.val (.int i), .val (.int j), .val (.int f), .val (.ref b1), .unset, .unset, .unset, .unset, .unset, .unset, .unset] [(.int (((i.toUInt32 >>> ((8 : Int32) &&& 31).toUInt32).toInt32) &&& (255 : Int32))), (.int (1 : Int32)), (.ref b1)])) (fun tq kq => XS.i2c X3.here hx rfl (hb hby at_23) rfl (by rw [i2c_mask]; exact kq)) ?_
  obtain ⟨cl6, q6a, q6b, q6c, q6d, q6e, q6f⟩ := id f5
  obtain ⟨T6, h6, X6, e6, W6, st6⟩ := stC X3 hx hZ e3 q6a (j := (1 : Int32)) (inb_of q6c ⟨by decide, by decide⟩) (g := (mkF m 24 #[.val (.int i), .val (.int j), .val (.int f), .val (.ref b1), .unset, .unset, .unset, .unset, .unset, .unset, .unset] [(.int (((i.toUInt32 >>> ((8 : Int32) &&& 31).toUInt32).toInt32) &&& (255 : Int32))), (.int (1 : Int32)), (.ref b1)])) rfl rfl (hb hby at_24)
  have N6 := Fr.snoc X6 N3 z1
  have O6 := O3.wr W6 z1
  have R6 := R3.trans (CHr.wr W6 sf3_b1 R3.1)
  have sf6_b1 := Safe.wr W6 sf3_b1 R3.1 sf3_b1
  have K6 := K3.wr W6 (Or.inr s1)
  have f8 : Arv Z h6 b1 cA1 .char (2 : Int32) [(.int (i &&& (255 : Int32))), (.int (((i.toUInt32 >>> ((8 : Int32) &&& 31).toUInt32).toInt32) &&& (255 : Int32)))] (.int (0 : Int32)) := (show nar .char (((i.toUInt32 >>> ((8 : Int32) &&& 31).toUInt32).toInt32) &&& (255 : Int32)) = (((i.toUInt32 >>> ((8 : Int32) &&& 31).toUInt32).toInt32) &&& (255 : Int32)) from (i2c_mask _)) ▸ Arv.set q6a q6b q6c q6d q6e q6f (fits_nar_char _) W6 1 (by decide) (show 1 < 2 by decide)
  refine own_st (T6.setTop (mkF m 25 #[.val (.int i), .val (.int j), .val (.int f), .val (.ref b1), .unset, .unset, .unset, .unset, .unset, .unset, .unset] [])) st6 ?_
  refine own_st (T6.setTop (mkF m 26 #[.val (.int i), .val (.int j), .val (.int f), .val (.ref b1), .unset, .unset, .unset, .unset, .unset, .unset, .unset] [(.int (2 : Int32))])) (fun tq kq => XS.iconst X6.here hx rfl (hb hby at_25) kq) ?_
  obtain ⟨T9, h9, cA9, X9, e9, E9, A9, st9⟩ := newP X6 hx hZ (hw _ (List.mem_of_getElem? (i := 0) rfl)) e6 (g := (mkF m 26 #[.val (.int i), .val (.int j), .val (.int f), .val (.ref b1), .unset, .unset, .unset, .unset, .unset, .unset, .unset] [(.int (2 : Int32))])) rfl (hb hby at_26) rfl (by decide) (cap := 2) (by decide) (by decide) (by decide) (by decide)
  obtain ⟨b9, g9⟩ : ∃ z, z = h6.size := ⟨_, rfl⟩
  have z9 : Z.heap.size ≤ b9 := Nat.le_trans O6.2.1 (Nat.le_of_eq g9.symm)
  have neb1_9 : b1 ≠ b9 := Nat.ne_of_lt (Nat.lt_of_lt_of_le f8.lt (Nat.le_of_eq g9.symm))
  have s9 : h0.size ≤ b9 := Nat.le_trans K6.1 (Nat.le_of_eq g9.symm)
  rw [← g9] at A9 st9
  have f10 := (f8.ext E9)
  have R9 := R6.trans (CHr.ext E9 R6.1)
  have sf9_b1 := Safe.ext E9 R6.1 sf6_b1
  have sf9_b9 := Safe.ext E9 R6.1 (Safe.new (Nat.le_of_eq g9.symm))
  have O9 := O6.ext E9
  have K9 := K6.ext E9
  have f11 : Arv Z h9 b9 cA9 .char (2 : Int32) [(.int (0 : Int32)), (.int (0 : Int32))] (.int (0 : Int32)) := (Arv.new A9 (by decide)).pad (pad_rep [] (.int (0 : Int32)) 2)
  refine own_st (T9.setTop (mkF m 28 #[.val (.int i), .val (.int j), .val (.int f), .val (.ref b1), .unset, .unset, .unset, .unset, .unset, .unset, .unset] [(.ref b9)])) st9 ?_
  refine own_st (T9.setTop (mkF m 30 #[.val (.int i), .val (.int j), .val (.int f), .val (.ref b1), .val (.ref b9), .unset, .unset, .unset, .unset, .unset, .unset] [])) (fun tq kq => XS.astore X9.here hx rfl (hb hby at_28) rfl (by rfl) (l' := #[.val (.int i), .val (.int j), .val (.int f), .val (.ref b1), .val (.ref b9), .unset, .unset, .unset, .unset, .unset, .unset]) rfl kq) ?_
  refine own_st (T9.setTop (mkF m 32 #[.val (.int i), .val (.int j), .val (.int f), .val (.ref b1), .val (.ref b9), .unset, .unset, .unset, .unset, .unset, .unset] [(.ref b9)])) (fun tq kq => XS.aload X9.here hx rfl (hb hby at_30) rfl (by rfl) kq) ?_
  refine own_st (T9.setTop (mkF m 33 #[.val (.int i), .val (.int j), .val (.int f), .val (.ref b1), .val (.ref b9), .unset, .unset, .unset, .unset, .unset, .unset] [(.int (0 : Int32)), (.ref b9)])) (fun tq kq => XS.iconst X9.here hx rfl (hb hby at_32) kq) ?_
  refine own_st (T9.setTop (mkF m 34 #[.val (.int i), .val (.int j), .val (.int f), .val (.ref b1), .val (.ref b9), .unset, .unset, .unset, .unset, .unset, .unset] [(.int j), (.int (0 : Int32)), (.ref b9)])) (fun tq kq => XS.iloadN X9.here hx rfl (hb hby at_33) rfl kq) ?_
  refine own_st (T9.setTop (mkF m 37 #[.val (.int i), .val (.int j), .val (.int f), .val (.ref b1), .val (.ref b9), .unset, .unset, .unset, .unset, .unset, .unset] [(.int (255 : Int32)), (.int j), (.int (0 : Int32)), (.ref b9)])) (fun tq kq => XS.sipush X9.here hx rfl (hb hby at_34) kq) ?_
  refine own_st (T9.setTop (mkF m 38 #[.val (.int i), .val (.int j), .val (.int f), .val (.ref b1), .val (.ref b9), .unset, .unset, .unset, .unset, .unset, .unset] [(.int (j &&& (255 : Int32))), (.int (0 : Int32)), (.ref b9)])) (fun tq kq => XS.iand X9.here hx rfl (hb hby at_37) rfl kq) ?_
  refine own_st (T9.setTop (mkF m 39 #[.val (.int i), .val (.int j), .val (.int f), .val (.ref b1), .val (.ref b9), .unset, .unset, .unset, .unset, .unset, .unset] [(.int (j &&& (255 : Int32))), (.int (0 : Int32)), (.ref b9)])) (fun tq kq => XS.i2c X9.here hx rfl (hb hby at_38) rfl (by rw [i2c_mask]; exact kq)) ?_
  obtain ⟨cl12, q12a, q12b, q12c, q12d, q12e, q12f⟩ := id f11
  obtain ⟨T12, h12, X12, e12, W12, st12⟩ := stC X9 hx hZ e9 q12a (j := (0 : Int32)) (inb_of q12c ⟨by decide, by decide⟩) (g := (mkF m 39 #[.val (.int i), .val (.int j), .val (.int f), .val (.ref b1), .val (.ref b9), .unset, .unset, .unset, .unset, .unset, .unset] [(.int (j &&& (255 : Int32))), (.int (0 : Int32)), (.ref b9)])) rfl rfl (hb hby at_39)
  have N12 := Fr.snoc X12 N6 z9
  have O12 := O9.wr W12 z9
  have R12 := R9.trans (CHr.wr W12 sf9_b9 R9.1)
  have sf12_b1 := Safe.wr W12 sf9_b9 R9.1 sf9_b1
  have sf12_b9 := Safe.wr W12 sf9_b9 R9.1 sf9_b9
  have K12 := K9.wr W12 (Or.inr s9)
  have f13 := (f10.other W12 neb1_9)
  have f15 : Arv Z h12 b9 cA9 .char (2 : Int32) [(.int (j &&& (255 : Int32))), (.int (0 : Int32))] (.int (0 : Int32)) := (show nar .char (j &&& (255 : Int32)) = (j &&& (255 : Int32)) from (i2c_mask _)) ▸ Arv.set q12a q12b q12c q12d q12e q12f (fits_nar_char _) W12 0 (by decide) (show 0 < 2 by decide)
  refine own_st (T12.setTop (mkF m 40 #[.val (.int i), .val (.int j), .val (.int f), .val (.ref b1), .val (.ref b9), .unset, .unset, .unset, .unset, .unset, .unset] [])) st12 ?_
  refine own_st (T12.setTop (mkF m 42 #[.val (.int i), .val (.int j), .val (.int f), .val (.ref b1), .val (.ref b9), .unset, .unset, .unset, .unset, .unset, .unset] [(.ref b9)])) (fun tq kq => XS.aload X12.here hx rfl (hb hby at_40) rfl (by rfl) kq) ?_
  refine own_st (T12.setTop (mkF m 43 #[.val (.int i), .val (.int j), .val (.int f), .val (.ref b1), .val (.ref b9), .unset, .unset, .unset, .unset, .unset, .unset] [(.int (1 : Int32)), (.ref b9)])) (fun tq kq => XS.iconst X12.here hx rfl (hb hby at_42) kq) ?_
  refine own_st (T12.setTop (mkF m 44 #[.val (.int i), .val (.int j), .val (.int f), .val (.ref b1), .val (.ref b9), .unset, .unset, .unset, .unset, .unset, .unset] [(.int j), (.int (1 : Int32)), (.ref b9)])) (fun tq kq => XS.iloadN X12.here hx rfl (hb hby at_43) rfl kq) ?_
  refine own_st (T12.setTop (mkF m 46 #[.val (.int i), .val (.int j), .val (.int f), .val (.ref b1), .val (.ref b9), .unset, .unset, .unset, .unset, .unset, .unset] [(.int (8 : Int32)), (.int j), (.int (1 : Int32)), (.ref b9)])) (fun tq kq => XS.bipush X12.here hx rfl (hb hby at_44) kq) ?_
  refine own_st (T12.setTop (mkF m 47 #[.val (.int i), .val (.int j), .val (.int f), .val (.ref b1), .val (.ref b9), .unset, .unset, .unset, .unset, .unset, .unset] [(.int ((j.toUInt32 >>> ((8 : Int32) &&& 31).toUInt32).toInt32)), (.int (1 : Int32)), (.ref b9)])) (fun tq kq => XS.iushr X12.here hx rfl (hb hby at_46) rfl kq) ?_
  refine own_st (T12.setTop (mkF m 50 #[.val (.int i), .val (.int j), .val (.int f), .val (.ref b1), .val (.ref b9), .unset, .unset, .unset, .unset, .unset, .unset] [(.int (255 : Int32)), (.int ((j.toUInt32 >>> ((8 : Int32) &&& 31).toUInt32).toInt32)), (.int (1 : Int32)), (.ref b9)])) (fun tq kq => XS.sipush X12.here hx rfl (hb hby at_47) kq) ?_
  refine own_st (T12.setTop (mkF m 51 #[.val (.int i), .val (.int j), .val (.int f), .val (.ref b1), .val (.ref b9), .unset, .unset, .unset, .unset, .unset, .unset] [(.int (((j.toUInt32 >>> ((8 : Int32) &&& 31).toUInt32).toInt32) &&& (255 : Int32))), (.int (1 : Int32)), (.ref b9)])) (fun tq kq => XS.iand X12.here hx rfl (hb hby at_50) rfl kq) ?_
  refine own_st (T12.setTop (mkF m 52 #[.val (.int i), .val (.int j), .val (.int f), .val (.ref b1), .val (.ref b9), .unset, .unset, .unset, .unset, .unset, .unset] [(.int (((j.toUInt32 >>> ((8 : Int32) &&& 31).toUInt32).toInt32) &&& (255 : Int32))), (.int (1 : Int32)), (.ref b9)])) (fun tq kq => XS.i2c X12.here hx rfl (hb hby at_51) rfl (by rw [i2c_mask]; exact kq)) ?_
  obtain ⟨cl16, q16a, q16b, q16c, q16d, q16e, q16f⟩ := id f15
  obtain ⟨T16, h16, X16, e16, W16, st16⟩ := stC X12 hx hZ e12 q16a (j := (1 : Int32)) (inb_of q16c ⟨by decide, by decide⟩) (g := (mkF m 52 #[.val (.int i), .val (.int j), .val (.int f), .val (.ref b1), .val (.ref b9), .unset, .unset, .unset, .unset, .unset, .unset] [(.int (((j.toUInt32 >>> ((8 : Int32) &&& 31).toUInt32).toInt32) &&& (255 : Int32))), (.int (1 : Int32)), (.ref b9)])) rfl rfl (hb hby at_52)
  have N16 := Fr.snoc X16 N12 z9
  have O16 := O12.wr W16 z9
  have R16 := R12.trans (CHr.wr W16 sf12_b9 R12.1)
  have sf16_b1 := Safe.wr W16 sf12_b9 R12.1 sf12_b1
  have sf16_b9 := Safe.wr W16 sf12_b9 R12.1 sf12_b9
  have K16 := K12.wr W16 (Or.inr s9)
  have f17 := (f13.other W16 neb1_9)
  have f19 : Arv Z h16 b9 cA9 .char (2 : Int32) [(.int (j &&& (255 : Int32))), (.int (((j.toUInt32 >>> ((8 : Int32) &&& 31).toUInt32).toInt32) &&& (255 : Int32)))] (.int (0 : Int32)) := (show nar .char (((j.toUInt32 >>> ((8 : Int32) &&& 31).toUInt32).toInt32) &&& (255 : Int32)) = (((j.toUInt32 >>> ((8 : Int32) &&& 31).toUInt32).toInt32) &&& (255 : Int32)) from (i2c_mask _)) ▸ Arv.set q16a q16b q16c q16d q16e q16f (fits_nar_char _) W16 1 (by decide) (show 1 < 2 by decide)
  refine own_st (T16.setTop (mkF m 53 #[.val (.int i), .val (.int j), .val (.int f), .val (.ref b1), .val (.ref b9), .unset, .unset, .unset, .unset, .unset, .unset] [])) st16 ?_
  refine own_st (T16.setTop (mkF m 54 #[.val (.int i), .val (.int j), .val (.int f), .val (.ref b1), .val (.ref b9), .unset, .unset, .unset, .unset, .unset, .unset] [(.int f)])) (fun tq kq => XS.iloadN X16.here hx rfl (hb hby at_53) rfl kq) ?_
  refine own_st (T16.setTop (mkF m 55 #[.val (.int i), .val (.int j), .val (.int f), .val (.ref b1), .val (.ref b9), .unset, .unset, .unset, .unset, .unset, .unset] [(.int (1 : Int32)), (.int f)])) (fun tq kq => XS.iconst X16.here hx rfl (hb hby at_54) kq) ?_
  refine own_st (T16.setTop (mkF m 56 #[.val (.int i), .val (.int j), .val (.int f), .val (.ref b1), .val (.ref b9), .unset, .unset, .unset, .unset, .unset, .unset] [(.int (f &&& (1 : Int32)))])) (fun tq kq => XS.iand X16.here hx rfl (hb hby at_55) rfl kq) ?_
  by_cases c56_20 : (f &&& (1 : Int32)) = (0 : Int32)
  · skip
    refine own_st (T16.setTop (mkF m 64 #[.val (.int i), .val (.int j), .val (.int f), .val (.ref b1), .val (.ref b9), .unset, .unset, .unset, .unset, .unset, .unset] [])) (fun tq kq => XS.ifYes X16.here hx rfl (pc0 := 56) (pc' := 64) rfl (hb hby at_56) rfl ((if0 _ _).trans (teq (c56_20 : (f &&& (1 : Int32)) = (0 : Int32))).1) (by decide) (by decide) kq) ?_
    obtain ⟨T21, h21, X21, e21, E21, A21, D21, -, st21⟩ := newO X16 hx hZ hown (hw _ (List.mem_of_getElem? (i := 1) rfl)) (hw _ (List.mem_of_getElem? (i := 2) rfl)) (hw _ (List.mem_of_getElem? (i := 3) rfl)) e16 (g := (mkF m 64 #[.val (.int i), .val (.int j), .val (.int f), .val (.ref b1), .val (.ref b9), .unset, .unset, .unset, .unset, .unset, .unset] [])) rfl (hb hby at_64) (by decide) (by decide)
    obtain ⟨b21, g21⟩ : ∃ z, z = h16.size := ⟨_, rfl⟩
    have z21 : Z.heap.size ≤ b21 := Nat.le_trans O16.2.1 (Nat.le_of_eq g21.symm)
    have neb1_21 : b1 ≠ b21 := Nat.ne_of_lt (Nat.lt_of_lt_of_le f17.lt (Nat.le_of_eq g21.symm))
    have neb9_21 : b9 ≠ b21 := Nat.ne_of_lt (Nat.lt_of_lt_of_le f19.lt (Nat.le_of_eq g21.symm))
    have s21 : h0.size ≤ b21 := Nat.le_trans K16.1 (Nat.le_of_eq g21.symm)
    rw [← g21] at A21 D21 st21
    have f22 := (f17.ext E21)
    have f23 := (f19.ext E21)
    have R21 := R16.trans (CHr.ext E21 R16.1)
    have sf21_b1 := Safe.ext E21 R16.1 sf16_b1
    have sf21_b9 := Safe.ext E21 R16.1 sf16_b9
    have sf21_b21 := Safe.ext E21 R16.1 (Safe.new (Nat.le_of_eq g21.symm))
    have O21 := O16.ext E21
    have K21 := K16.ext E21
    have f24 : Fld Z h21 b21 "java/lang/String" "coder" "B" (.int (0 : Int32)) := D21 (Or.inr (hw _ (List.mem_of_getElem? (i := 27) rfl))) (ty := .byte) (by decide)
    have f25 : Fld Z h21 b21 "java/lang/String" "value" "[B" .null := D21 (Or.inr (hw _ (List.mem_of_getElem? (i := 29) rfl))) (ty := (.array .byte)) (by decide)
    refine own_st (T21.setTop (mkF m 67 #[.val (.int i), .val (.int j), .val (.int f), .val (.ref b1), .val (.ref b9), .unset, .unset, .unset, .unset, .unset, .unset] [(.ref b21)])) st21 ?_
    refine own_st (T21.setTop (mkF m 68 #[.val (.int i), .val (.int j), .val (.int f), .val (.ref b1), .val (.ref b9), .unset, .unset, .unset, .unset, .unset, .unset] [(.ref b21), (.ref b21)])) (fun tq kq => XS.dup X21.here hx rfl (hb hby at_67) rfl (by rfl) kq) ?_
    refine own_st (T21.setTop (mkF m 69 #[.val (.int i), .val (.int j), .val (.int f), .val (.ref b1), .val (.ref b9), .unset, .unset, .unset, .unset, .unset, .unset] [(.ref b1), (.ref b21), (.ref b21)])) (fun tq kq => XS.aloadN X21.here hx rfl (hb hby at_68) rfl (by rfl) kq) ?_
    obtain ⟨v26, T26, L26, X26, q26, st26⟩ := own_callI X21 hx hZ hown (y := (⟨"java/lang/String", "<init>", "([C)V"⟩ : MethodName)) rfl (hw _ (List.mem_of_getElem? (i := 4) rfl)) (hw _ (List.mem_of_getElem? (i := 5) rfl)) (hw _ (List.mem_of_getElem? (i := 3) rfl)) (hw _ (List.mem_of_getElem? (i := 6) rfl)) (a := b21) (argsL := [(.ref b1)]) (own_sinit1_2 l Z a0 hw [] cz b21 b1 cA1 (i &&& (255 : Int32)) (((i.toUInt32 >>> ((8 : Int32) &&& 31).toUInt32).toInt32) &&& (255 : Int32)) h21 O21 SC hcz A21 f25 f24 z21 f22 neb1_21 (own_m0 _) (own_m1 _) (own_m0 _) (own_m1 _)) 1 (by decide) (by decide) (by decide) (by decide) (by decide) e21 (g := (mkF m 69 #[.val (.int i), .val (.int j), .val (.int f), .val (.ref b1), .val (.ref b9), .unset, .unset, .unset, .unset, .unset, .unset] [(.ref b1), (.ref b21), (.ref b21)])) rfl (by rw [hml]; rfl) [(.ref b21)] (lenOf own_pd__28_5bC_29V rfl) rfl (by show 2 * 0 + _ ≤ _; exact Nat.le_of_eq rfl) (hb hby at_69)
    obtain ⟨b26, kb26, rfl, N26q, K26q, z26, s26q, fv26, fc26, f26q⟩ := q26
    have N26 := Fr.app N16 N26q
    have nf26_b1 : b1 ≠ b26 := Nat.ne_of_lt (Nat.lt_of_lt_of_le f22.lt s26q)
    have nf26_b9 : b9 ≠ b26 := Nat.ne_of_lt (Nat.lt_of_lt_of_le f23.lt s26q)
    have nf26_b21 : b21 ≠ b26 := Nat.ne_of_lt (Nat.lt_of_lt_of_le A21.lt s26q)
    have s26 : h0.size ≤ b26 := Nat.le_trans K21.1 s26q
    have f27 := (f22.keep K26q (ninS neb1_21 nin0))
    have f28 := (f23.keep K26q (ninS neb9_21 nin0))
    have f29 := (A21.keep K26q)
    have O26 := O21.keep K26q (allS z21 all0)
    have R26 := R21.trans (CHr.keep K26q (allS sf21_b21 all0) R21.1)
    have sf26_b1 := Safe.keep K26q (allS sf21_b21 all0) R21.1 sf21_b1
    have sf26_b9 := Safe.keep K26q (allS sf21_b21 all0) R21.1 sf21_b9
    have sf26_b21 := Safe.keep K26q (allS sf21_b21 all0) R21.1 sf21_b21
    have K26 := K21.trans K26q (allS (Or.inr s21) all0)
    refine own_st (T26.setTop (mkF m 72 #[.val (.int i), .val (.int j), .val (.int f), .val (.ref b1), .val (.ref b9), .unset, .unset, .unset, .unset, .unset, .unset] [(.ref b21)])) st26 ?_
    refine own_st (T26.setTop (mkF m 74 #[.val (.int i), .val (.int j), .val (.int f), .val (.ref b1), .val (.ref b9), .val (.ref b21), .unset, .unset, .unset, .unset, .unset] [])) (fun tq kq => XS.astore X26.here hx rfl (hb hby at_72) rfl (by rfl) (l' := #[.val (.int i), .val (.int j), .val (.int f), .val (.ref b1), .val (.ref b9), .val (.ref b21), .unset, .unset, .unset, .unset, .unset]) rfl kq) ?_
    refine own_st (T26.setTop (mkF m 75 #[.val (.int i), .val (.int j), .val (.int f), .val (.ref b1), .val (.ref b9), .val (.ref b21), .unset, .unset, .unset, .unset, .unset] [(.int f)])) (fun tq kq => XS.iloadN X26.here hx rfl (hb hby at_74) rfl kq) ?_
    refine own_st (T26.setTop (mkF m 76 #[.val (.int i), .val (.int j), .val (.int f), .val (.ref b1), .val (.ref b9), .val (.ref b21), .unset, .unset, .unset, .unset, .unset] [(.int (2 : Int32)), (.int f)])) (fun tq kq => XS.iconst X26.here hx rfl (hb hby at_75) kq) ?_
    refine own_st (T26.setTop (mkF m 77 #[.val (.int i), .val (.int j), .val (.int f), .val (.ref b1), .val (.ref b9), .val (.ref b21), .unset, .unset, .unset, .unset, .unset] [(.int (f &&& (2 : Int32)))])) (fun tq kq => XS.iand X26.here hx rfl (hb hby at_76) rfl kq) ?_
    by_cases c77_32 : (f &&& (2 : Int32)) = (0 : Int32)
    · skip
      refine own_st (T26.setTop (mkF m 85 #[.val (.int i), .val (.int j), .val (.int f), .val (.ref b1), .val (.ref b9), .val (.ref b21), .unset, .unset, .unset, .unset, .unset] [])) (fun tq kq => XS.ifYes X26.here hx rfl (pc0 := 77) (pc' := 85) rfl (hb hby at_77) rfl ((if0 _ _).trans (teq (c77_32 : (f &&& (2 : Int32)) = (0 : Int32))).1) (by decide) (by decide) kq) ?_
      obtain ⟨T33, h33, X33, e33, E33, A33, D33, -, st33⟩ := newO X26 hx hZ hown (hw _ (List.mem_of_getElem? (i := 1) rfl)) (hw _ (List.mem_of_getElem? (i := 2) rfl)) (hw _ (List.mem_of_getElem? (i := 3) rfl)) rfl (g := (mkF m 85 #[.val (.int i), .val (.int j), .val (.int f), .val (.ref b1), .val (.ref b9), .val (.ref b21), .unset, .unset, .unset, .unset, .unset] [])) rfl (hb hby at_85) (by decide) (by decide)
      obtain ⟨b33, g33⟩ : ∃ z, z = T26.heap.size := ⟨_, rfl⟩
      have z33 : Z.heap.size ≤ b33 := Nat.le_trans O26.2.1 (Nat.le_of_eq g33.symm)
      have neb1_33 : b1 ≠ b33 := Nat.ne_of_lt (Nat.lt_of_lt_of_le f27.lt (Nat.le_of_eq g33.symm))
      have neb9_33 : b9 ≠ b33 := Nat.ne_of_lt (Nat.lt_of_lt_of_le f28.lt (Nat.le_of_eq g33.symm))
      have neb21_33 : b21 ≠ b33 := Nat.ne_of_lt (Nat.lt_of_lt_of_le f29.lt (Nat.le_of_eq g33.symm))
      have neb26_33 : b26 ≠ b33 := Nat.ne_of_lt (Nat.lt_of_lt_of_le f26q.lt (Nat.le_of_eq g33.symm))
      have s33 : h0.size ≤ b33 := Nat.le_trans K26.1 (Nat.le_of_eq g33.symm)
      rw [← g33] at A33 D33 st33
      have f34 := (f27.ext E33)
      have f35 := (f28.ext E33)
      have f36 := (f29.ext E33)
      have f37 := (f26q.ext E33)
      have f38 := (fv26.ext E33)
      have f39 := (fc26.ext E33)
      have R33 := R26.trans (CHr.ext E33 R26.1)
      have sf33_b1 := Safe.ext E33 R26.1 sf26_b1
      have sf33_b9 := Safe.ext E33 R26.1 sf26_b9
      have sf33_b21 := Safe.ext E33 R26.1 sf26_b21
      have sf33_b33 := Safe.ext E33 R26.1 (Safe.new (Nat.le_of_eq g33.symm))
      have O33 := O26.ext E33
      have K33 := K26.ext E33
      have f40 : Fld Z h33 b33 "java/lang/String" "coder" "B" (.int (0 : Int32)) := D33 (Or.inr (hw _ (List.mem_of_getElem? (i := 27) rfl))) (ty := .byte) (by decide)
      have f41 : Fld Z h33 b33 "java/lang/String" "value" "[B" .null := D33 (Or.inr (hw _ (List.mem_of_getElem? (i := 29) rfl))) (ty := (.array .byte)) (by decide)
      refine own_st (T33.setTop (mkF m 88 #[.val (.int i), .val (.int j), .val (.int f), .val (.ref b1), .val (.ref b9), .val (.ref b21), .unset, .unset, .unset, .unset, .unset] [(.ref b33)])) st33 ?_
      refine own_st (T33.setTop (mkF m 89 #[.val (.int i), .val (.int j), .val (.int f), .val (.ref b1), .val (.ref b9), .val (.ref b21), .unset, .unset, .unset, .unset, .unset] [(.ref b33), (.ref b33)])) (fun tq kq => XS.dup X33.here hx rfl (hb hby at_88) rfl (by rfl) kq) ?_
      refine own_st (T33.setTop (mkF m 91 #[.val (.int i), .val (.int j), .val (.int f), .val (.ref b1), .val (.ref b9), .val (.ref b21), .unset, .unset, .unset, .unset, .unset] [(.ref b9), (.ref b33), (.ref b33)])) (fun tq kq => XS.aload X33.here hx rfl (hb hby at_89) rfl (by rfl) kq) ?_
      obtain ⟨v42, T42, L42, X42, q42, st42⟩ := own_callI X33 hx hZ hown (y := (⟨"java/lang/String", "<init>", "([C)V"⟩ : MethodName)) rfl (hw _ (List.mem_of_getElem? (i := 4) rfl)) (hw _ (List.mem_of_getElem? (i := 5) rfl)) (hw _ (List.mem_of_getElem? (i := 3) rfl)) (hw _ (List.mem_of_getElem? (i := 6) rfl)) (a := b33) (argsL := [(.ref b9)]) (own_sinit1_2 l Z a0 hw [] cz b33 b9 cA9 (j &&& (255 : Int32)) (((j.toUInt32 >>> ((8 : Int32) &&& 31).toUInt32).toInt32) &&& (255 : Int32)) h33 O33 SC hcz A33 f41 f40 z33 f35 neb9_33 (own_m0 _) (own_m1 _) (own_m0 _) (own_m1 _)) 1 (by decide) (by decide) (by decide) (by decide) (by decide) e33 (g := (mkF m 91 #[.val (.int i), .val (.int j), .val (.int f), .val (.ref b1), .val (.ref b9), .val (.ref b21), .unset, .unset, .unset, .unset, .unset] [(.ref b9), (.ref b33), (.ref b33)])) rfl (by rw [hml]; rfl) [(.ref b33)] (lenOf own_pd__28_5bC_29V rfl) rfl (by show 2 * 0 + _ ≤ _; exact Nat.le_of_eq rfl) (hb hby at_91)
      obtain ⟨b42, kb42, rfl, N42q, K42q, z42, s42q, fv42, fc42, f42q⟩ := q42
      have N42 := Fr.app N26 N42q
      have nf42_b1 : b1 ≠ b42 := Nat.ne_of_lt (Nat.lt_of_lt_of_le f34.lt s42q)
      have nf42_b9 : b9 ≠ b42 := Nat.ne_of_lt (Nat.lt_of_lt_of_le f35.lt s42q)
      have nf42_b21 : b21 ≠ b42 := Nat.ne_of_lt (Nat.lt_of_lt_of_le f36.lt s42q)
      have nf42_b26 : b26 ≠ b42 := Nat.ne_of_lt (Nat.lt_of_lt_of_le f37.lt s42q)
      have nf42_b33 : b33 ≠ b42 := Nat.ne_of_lt (Nat.lt_of_lt_of_le A33.lt s42q)
      have s42 : h0.size ≤ b42 := Nat.le_trans K33.1 s42q
      have f43 := (f34.keep K42q (ninS neb1_33 nin0))
      have f44 := (f35.keep K42q (ninS neb9_33 nin0))
      have f45 := (f36.keep K42q)
      have f46 := (f37.keep K42q (ninS neb26_33 nin0))
      have f47 := (f38.keep K42q (ninS neb21_33 nin0))
      have f48 := (f39.keep K42q (ninS neb21_33 nin0))
      have f49 := (A33.keep K42q)
      have O42 := O33.keep K42q (allS z33 all0)
      have R42 := R33.trans (CHr.keep K42q (allS sf33_b33 all0) R33.1)
      have sf42_b1 := Safe.keep K42q (allS sf33_b33 all0) R33.1 sf33_b1
      have sf42_b9 := Safe.keep K42q (allS sf33_b33 all0) R33.1 sf33_b9
      have sf42_b21 := Safe.keep K42q (allS sf33_b33 all0) R33.1 sf33_b21
      have sf42_b33 := Safe.keep K42q (allS sf33_b33 all0) R33.1 sf33_b33
      have K42 := K33.trans K42q (allS (Or.inr s33) all0)
      refine own_st (T42.setTop (mkF m 94 #[.val (.int i), .val (.int j), .val (.int f), .val (.ref b1), .val (.ref b9), .val (.ref b21), .unset, .unset, .unset, .unset, .unset] [(.ref b33)])) st42 ?_
      refine own_st (T42.setTop (mkF m 96 #[.val (.int i), .val (.int j), .val (.int f), .val (.ref b1), .val (.ref b9), .val (.ref b21), .val (.ref b33), .unset, .unset, .unset, .unset] [])) (fun tq kq => XS.astore X42.here hx rfl (hb hby at_94) rfl (by rfl) (l' := #[.val (.int i), .val (.int j), .val (.int f), .val (.ref b1), .val (.ref b9), .val (.ref b21), .val (.ref b33), .unset, .unset, .unset, .unset]) rfl kq) ?_
      refine own_st (T42.setTop (mkF m 97 #[.val (.int i), .val (.int j), .val (.int f), .val (.ref b1), .val (.ref b9), .val (.ref b21), .val (.ref b33), .unset, .unset, .unset, .unset] [(.int f)])) (fun tq kq => XS.iloadN X42.here hx rfl (hb hby at_96) rfl kq) ?_
      refine own_st (T42.setTop (mkF m 98 #[.val (.int i), .val (.int j), .val (.int f), .val (.ref b1), .val (.ref b9), .val (.ref b21), .val (.ref b33), .unset, .unset, .unset, .unset] [(.int (4 : Int32)), (.int f)])) (fun tq kq => XS.iconst X42.here hx rfl (hb hby at_97) kq) ?_
      refine own_st (T42.setTop (mkF m 99 #[.val (.int i), .val (.int j), .val (.int f), .val (.ref b1), .val (.ref b9), .val (.ref b21), .val (.ref b33), .unset, .unset, .unset, .unset] [(.int (f &&& (4 : Int32)))])) (fun tq kq => XS.iand X42.here hx rfl (hb hby at_98) rfl kq) ?_
      by_cases c99_52 : (f &&& (4 : Int32)) = (0 : Int32)
      · skip
        refine own_st (T42.setTop (mkF m 106 #[.val (.int i), .val (.int j), .val (.int f), .val (.ref b1), .val (.ref b9), .val (.ref b21), .val (.ref b33), .unset, .unset, .unset, .unset] [])) (fun tq kq => XS.ifYes X42.here hx rfl (pc0 := 99) (pc' := 106) rfl (hb hby at_99) rfl ((if0 _ _).trans (teq (c99_52 : (f &&& (4 : Int32)) = (0 : Int32))).1) (by decide) (by decide) kq) ?_
        refine own_st (T42.setTop (mkF m 108 #[.val (.int i), .val (.int j), .val (.int f), .val (.ref b1), .val (.ref b9), .val (.ref b21), .val (.ref b33), .unset, .unset, .unset, .unset] [(.ref b21)])) (fun tq kq => XS.aload X42.here hx rfl (hb hby at_106) rfl (by rfl) kq) ?_
        refine own_st (T42.setTop (mkF m 110 #[.val (.int i), .val (.int j), .val (.int f), .val (.ref b1), .val (.ref b9), .val (.ref b21), .val (.ref b33), .unset, .unset, .unset, .unset] [(.ref b33), (.ref b21)])) (fun tq kq => XS.aload X42.here hx rfl (hb hby at_108) rfl (by rfl) kq) ?_
        obtain ⟨v53, T53, L53, X53, q53, st53⟩ := own_callS X42 hx hZ hown (hw _ (List.mem_of_getElem? (i := 33) rfl)) (hw _ (List.mem_of_getElem? (i := 34) rfl)) (hw _ (List.mem_of_getElem? (i := 35) rfl)) (hw _ (List.mem_of_getElem? (i := 36) rfl)) (argsL := [(.ref b21), (.ref b33)]) (own_optional l Z a0 hw [] b21 b33 wu T42.heap O42 SU) 0 (by decide) (by decide) (by decide) (by decide) (by decide) rfl (g := (mkF m 110 #[.val (.int i), .val (.int j), .val (.int f), .val (.ref b1), .val (.ref b9), .val (.ref b21), .val (.ref b33), .unset, .unset, .unset, .unset] [(.ref b33), (.ref b21)])) rfl (by rw [hml]; rfl) [] (lenOf own_pd__28Ljava_2flang_2fString_3bLjava_2flang_2fString_3b_29Lcom_2fexample_2fgridclause_2fgridclause_2fcli_2fOption_3b rfl) rfl (by show 2 * 0 + _ ≤ _; exact Nat.le_of_eq rfl) (hb hby at_110)
        obtain ⟨o53, rfl, N53q, K53q, z53, E53q, f53_0, f53_1, f53_2⟩ := q53
        have N53 := Fr.app N42 N53q
        have f54 := (f43.keep K53q nin0)
        have f55 := (f44.keep K53q nin0)
        have f56 := (f45.keep K53q)
        have f57 := (f46.keep K53q nin0)
        have f58 := (f47.keep K53q nin0)
        have f59 := (f48.keep K53q nin0)
        have f60 := (f49.keep K53q)
        have f61 := (f42q.keep K53q nin0)
        have f62 := (fv42.keep K53q nin0)
        have f63 := (fc42.keep K53q nin0)
        have O53 := O42.keep K53q all0
        have R53 := R42.trans (CHr.keep K53q all0 R42.1)
        have sf53_b1 := Safe.keep K53q all0 R42.1 sf42_b1
        have sf53_b9 := Safe.keep K53q all0 R42.1 sf42_b9
        have sf53_b21 := Safe.keep K53q all0 R42.1 sf42_b21
        have sf53_b33 := Safe.keep K53q all0 R42.1 sf42_b33
        have K53 := K42.trans K53q all0
        refine own_st (T53.setTop (mkF m 113 #[.val (.int i), .val (.int j), .val (.int f), .val (.ref b1), .val (.ref b9), .val (.ref b21), .val (.ref b33), .unset, .unset, .unset, .unset] [(.ref o53)])) st53 ?_
        refine own_st (T53.setTop (mkF m 115 #[.val (.int i), .val (.int j), .val (.int f), .val (.ref b1), .val (.ref b9), .val (.ref b21), .val (.ref b33), .val (.ref o53), .unset, .unset, .unset] [])) (fun tq kq => XS.astore X53.here hx rfl (hb hby at_113) rfl (by rfl) (l' := #[.val (.int i), .val (.int j), .val (.int f), .val (.ref b1), .val (.ref b9), .val (.ref b21), .val (.ref b33), .val (.ref o53), .unset, .unset, .unset]) rfl kq) ?_
        refine own_st (T53.setTop (mkF m 117 #[.val (.int i), .val (.int j), .val (.int f), .val (.ref b1), .val (.ref b9), .val (.ref b21), .val (.ref b33), .val (.ref o53), .unset, .unset, .unset] [(.ref o53)])) (fun tq kq => XS.aload X53.here hx rfl (hb hby at_115) rfl (by rfl) kq) ?_
        refine own_st (T53.setTop (mkF m 122 #[.val (.int i), .val (.int j), .val (.int f), .val (.ref b1), .val (.ref b9), .val (.ref b21), .val (.ref b33), .val (.ref o53), .unset, .unset, .unset] [])) (fun tq kq => XS.ifnonnullYes X53.here hx rfl (pc0 := 117) (pc' := 122) rfl (hb hby at_117) rfl (by decide) (by decide) kq) ?_
        refine own_st (T53.setTop (mkF m 124 #[.val (.int i), .val (.int j), .val (.int f), .val (.ref b1), .val (.ref b9), .val (.ref b21), .val (.ref b33), .val (.ref o53), .unset, .unset, .unset] [(.ref o53)])) (fun tq kq => XS.aload X53.here hx rfl (hb hby at_122) rfl (by rfl) kq) ?_
        obtain ⟨v64, T64, L64, X64, q64, st64⟩ := own_callV X53 hx hZ hown (y := (⟨"com/example/gridclause/gridclause/cli/Option", "name", "()Ljava/lang/String;"⟩ : MethodName)) (z := (⟨"com/example/gridclause/gridclause/cli/Option", "name", "()Ljava/lang/String;"⟩ : MethodName)) (hw _ (List.mem_of_getElem? (i := 57) rfl)) (hw _ (List.mem_of_getElem? (i := 58) rfl)) (notFace_of_selects (args := a0) (hw _ (List.mem_of_getElem? (i := 60) rfl))) (hw _ (List.mem_of_getElem? (i := 60) rfl)) (hw _ (List.mem_of_getElem? (i := 59) rfl)) (hw _ (List.mem_of_getElem? (i := 35) rfl)) (hw _ (List.mem_of_getElem? (i := 61) rfl)) E53q (b := o53) (argsL := []) (own_get_Option_name l Z a0 hw [] o53 b21 T53.heap O53 f53_0) 0 (by decide) (by decide) (by decide) (by decide) (by decide) rfl (g := (mkF m 124 #[.val (.int i), .val (.int j), .val (.int f), .val (.ref b1), .val (.ref b9), .val (.ref b21), .val (.ref b33), .val (.ref o53), .unset, .unset, .unset] [(.ref o53)])) rfl (by rw [hml]; rfl) [] (lenOf own_pd__28_29Ljava_2flang_2fString_3b rfl) rfl (by show 2 * 0 + _ ≤ _; exact Nat.le_of_eq rfl) (hb hby at_124)
        obtain ⟨rfl, N64q, e64⟩ := q64
        have N64 := Fr.app N53 N64q
        refine own_st (T64.setTop (mkF m 127 #[.val (.int i), .val (.int j), .val (.int f), .val (.ref b1), .val (.ref b9), .val (.ref b21), .val (.ref b33), .val (.ref o53), .unset, .unset, .unset] [(.ref b21)])) st64 ?_
        refine own_st (T64.setTop (mkF m 129 #[.val (.int i), .val (.int j), .val (.int f), .val (.ref b1), .val (.ref b9), .val (.ref b21), .val (.ref b33), .val (.ref o53), .unset, .unset, .unset] [(.ref b21), (.ref b21)])) (fun tq kq => XS.aload X64.here hx rfl (hb hby at_127) rfl (by rfl) kq) ?_
        refine own_st (T64.setTop (mkF m 132 #[.val (.int i), .val (.int j), .val (.int f), .val (.ref b1), .val (.ref b9), .val (.ref b21), .val (.ref b33), .val (.ref o53), .unset, .unset, .unset] [])) (fun tq kq => Jvm.RoadKit.acmp (g := (mkF m 129 #[.val (.int i), .val (.int j), .val (.int f), .val (.ref b1), .val (.ref b9), .val (.ref b21), .val (.ref b33), .val (.ref o53), .unset, .unset, .unset] [(.ref b21), (.ref b21)])) X64 hx rfl (by rfl) (by rfl) (pc0 := 129) (pc' := 132) (same := true) rfl (hb hby at_129) rfl (decide_eq_true (congrArg Value.ref (rfl : b21 = b21))) (by decide) (by decide) kq) ?_
        refine own_st (T64.setTop (mkF m 133 #[.val (.int i), .val (.int j), .val (.int f), .val (.ref b1), .val (.ref b9), .val (.ref b21), .val (.ref b33), .val (.ref o53), .unset, .unset, .unset] [(.int (1 : Int32))])) (fun tq kq => XS.iconst X64.here hx rfl (hb hby at_132) kq) ?_
        refine own_st (T64.setTop (mkF m 137 #[.val (.int i), .val (.int j), .val (.int f), .val (.ref b1), .val (.ref b9), .val (.ref b21), .val (.ref b33), .val (.ref o53), .unset, .unset, .unset] [(.int (1 : Int32))])) (fun tq kq => XS.goto X64.here hx rfl (pc0 := 133) (pc' := 137) rfl (hb hby at_133) (by decide) (by decide) kq) ?_
        refine own_st (T64.setTop (mkF m 139 #[.val (.int i), .val (.int j), .val (.int f), .val (.ref b1), .val (.ref b9), .val (.ref b21), .val (.ref b33), .val (.ref o53), .val (.int (1 : Int32)), .unset, .unset] [])) (fun tq kq => XS.istore X64.here hx rfl (hb hby at_137) rfl (l' := #[.val (.int i), .val (.int j), .val (.int f), .val (.ref b1), .val (.ref b9), .val (.ref b21), .val (.ref b33), .val (.ref o53), .val (.int (1 : Int32)), .unset, .unset]) rfl kq) ?_
        refine own_st (T64.setTop (mkF m 141 #[.val (.int i), .val (.int j), .val (.int f), .val (.ref b1), .val (.ref b9), .val (.ref b21), .val (.ref b33), .val (.ref o53), .val (.int (1 : Int32)), .unset, .unset] [(.ref o53)])) (fun tq kq => XS.aload X64.here hx rfl (hb hby at_139) rfl (by rfl) kq) ?_
        obtain ⟨v65, T65, L65, X65, q65, st65⟩ := own_callV X64 hx hZ hown (y := (⟨"com/example/gridclause/gridclause/cli/Option", "label", "()Ljava/lang/String;"⟩ : MethodName)) (z := (⟨"com/example/gridclause/gridclause/cli/Option", "label", "()Ljava/lang/String;"⟩ : MethodName)) (hw _ (List.mem_of_getElem? (i := 62) rfl)) (hw _ (List.mem_of_getElem? (i := 63) rfl)) (notFace_of_selects (args := a0) (hw _ (List.mem_of_getElem? (i := 65) rfl))) (hw _ (List.mem_of_getElem? (i := 65) rfl)) (hw _ (List.mem_of_getElem? (i := 64) rfl)) (hw _ (List.mem_of_getElem? (i := 35) rfl)) (hw _ (List.mem_of_getElem? (i := 66) rfl)) E53q (b := o53) (argsL := []) (own_get_Option_label l Z a0 hw [] o53 b33 T53.heap O53 f53_1) 0 (by decide) (by decide) (by decide) (by decide) (by decide) e64 (g := (mkF m 141 #[.val (.int i), .val (.int j), .val (.int f), .val (.ref b1), .val (.ref b9), .val (.ref b21), .val (.ref b33), .val (.ref o53), .val (.int (1 : Int32)), .unset, .unset] [(.ref o53)])) rfl (by rw [hml]; rfl) [] (lenOf own_pd__28_29Ljava_2flang_2fString_3b rfl) rfl (by show 2 * 0 + _ ≤ _; exact Nat.le_of_eq rfl) (hb hby at_141)
        obtain ⟨rfl, N65q, e65⟩ := q65
        have N65 := Fr.app N64 N65q
        refine own_st (T65.setTop (mkF m 144 #[.val (.int i), .val (.int j), .val (.int f), .val (.ref b1), .val (.ref b9), .val (.ref b21), .val (.ref b33), .val (.ref o53), .val (.int (1 : Int32)), .unset, .unset] [(.ref b33)])) st65 ?_
        refine own_st (T65.setTop (mkF m 146 #[.val (.int i), .val (.int j), .val (.int f), .val (.ref b1), .val (.ref b9), .val (.ref b21), .val (.ref b33), .val (.ref o53), .val (.int (1 : Int32)), .unset, .unset] [(.ref b33), (.ref b33)])) (fun tq kq => XS.aload X65.here hx rfl (hb hby at_144) rfl (by rfl) kq) ?_
        refine own_st (T65.setTop (mkF m 149 #[.val (.int i), .val (.int j), .val (.int f), .val (.ref b1), .val (.ref b9), .val (.ref b21), .val (.ref b33), .val (.ref o53), .val (.int (1 : Int32)), .unset, .unset] [])) (fun tq kq => Jvm.RoadKit.acmp (g := (mkF m 146 #[.val (.int i), .val (.int j), .val (.int f), .val (.ref b1), .val (.ref b9), .val (.ref b21), .val (.ref b33), .val (.ref o53), .val (.int (1 : Int32)), .unset, .unset] [(.ref b33), (.ref b33)])) X65 hx rfl (by rfl) (by rfl) (pc0 := 146) (pc' := 149) (same := true) rfl (hb hby at_146) rfl (decide_eq_true (congrArg Value.ref (rfl : b33 = b33))) (by decide) (by decide) kq) ?_
        refine own_st (T65.setTop (mkF m 150 #[.val (.int i), .val (.int j), .val (.int f), .val (.ref b1), .val (.ref b9), .val (.ref b21), .val (.ref b33), .val (.ref o53), .val (.int (1 : Int32)), .unset, .unset] [(.int (1 : Int32))])) (fun tq kq => XS.iconst X65.here hx rfl (hb hby at_149) kq) ?_
        refine own_st (T65.setTop (mkF m 154 #[.val (.int i), .val (.int j), .val (.int f), .val (.ref b1), .val (.ref b9), .val (.ref b21), .val (.ref b33), .val (.ref o53), .val (.int (1 : Int32)), .unset, .unset] [(.int (1 : Int32))])) (fun tq kq => XS.goto X65.here hx rfl (pc0 := 150) (pc' := 154) rfl (hb hby at_150) (by decide) (by decide) kq) ?_
        refine own_st (T65.setTop (mkF m 156 #[.val (.int i), .val (.int j), .val (.int f), .val (.ref b1), .val (.ref b9), .val (.ref b21), .val (.ref b33), .val (.ref o53), .val (.int (1 : Int32)), .val (.int (1 : Int32)), .unset] [])) (fun tq kq => XS.istore X65.here hx rfl (hb hby at_154) rfl (l' := #[.val (.int i), .val (.int j), .val (.int f), .val (.ref b1), .val (.ref b9), .val (.ref b21), .val (.ref b33), .val (.ref o53), .val (.int (1 : Int32)), .val (.int (1 : Int32)), .unset]) rfl kq) ?_
        refine own_st (T65.setTop (mkF m 158 #[.val (.int i), .val (.int j), .val (.int f), .val (.ref b1), .val (.ref b9), .val (.ref b21), .val (.ref b33), .val (.ref o53), .val (.int (1 : Int32)), .val (.int (1 : Int32)), .unset] [(.ref o53)])) (fun tq kq => XS.aload X65.here hx rfl (hb hby at_156) rfl (by rfl) kq) ?_
        obtain ⟨v66, T66, L66, X66, q66, st66⟩ := own_callV X65 hx hZ hown (y := (⟨"com/example/gridclause/gridclause/cli/Option", "use", "()Lcom/example/gridclause/gridclause/cli/Option$Use;"⟩ : MethodName)) (z := (⟨"com/example/gridclause/gridclause/cli/Option", "use", "()Lcom/example/gridclause/gridclause/cli/Option$Use;"⟩ : MethodName)) (hw _ (List.mem_of_getElem? (i := 67) rfl)) (hw _ (List.mem_of_getElem? (i := 68) rfl)) (notFace_of_selects (args := a0) (hw _ (List.mem_of_getElem? (i := 70) rfl))) (hw _ (List.mem_of_getElem? (i := 70) rfl)) (hw _ (List.mem_of_getElem? (i := 69) rfl)) (hw _ (List.mem_of_getElem? (i := 35) rfl)) (hw _ (List.mem_of_getElem? (i := 71) rfl)) E53q (b := o53) (argsL := []) (own_get_Option_use l Z a0 hw [] o53 wu T53.heap O53 f53_2) 0 (by decide) (by decide) (by decide) (by decide) (by decide) e65 (g := (mkF m 158 #[.val (.int i), .val (.int j), .val (.int f), .val (.ref b1), .val (.ref b9), .val (.ref b21), .val (.ref b33), .val (.ref o53), .val (.int (1 : Int32)), .val (.int (1 : Int32)), .unset] [(.ref o53)])) rfl (by rw [hml]; rfl) [] (lenOf own_pd__28_29Lcom_2fexample_2fgridclause_2fgridclause_2fcli_2fOption_24Use_3b rfl) rfl (by show 2 * 0 + _ ≤ _; exact Nat.le_of_eq rfl) (hb hby at_158)
        obtain ⟨rfl, N66q, e66⟩ := q66
        have N66 := Fr.app N65 N66q
        refine own_st (T66.setTop (mkF m 161 #[.val (.int i), .val (.int j), .val (.int f), .val (.ref b1), .val (.ref b9), .val (.ref b21), .val (.ref b33), .val (.ref o53), .val (.int (1 : Int32)), .val (.int (1 : Int32)), .unset] [(.ref wu)])) st66 ?_
        obtain ⟨T67, X67, e67, st67⟩ := getS2 X66 hx hZ hown (host := "") (Or.inl (hw _ (List.mem_of_getElem? (i := 72) rfl))) Via.refl e66 (SU.ext O53.2) (g := (mkF m 161 #[.val (.int i), .val (.int j), .val (.int f), .val (.ref b1), .val (.ref b9), .val (.ref b21), .val (.ref b33), .val (.ref o53), .val (.int (1 : Int32)), .val (.int (1 : Int32)), .unset] [(.ref wu)])) rfl (hb hby at_161)
        refine own_st (T67.setTop (mkF m 164 #[.val (.int i), .val (.int j), .val (.int f), .val (.ref b1), .val (.ref b9), .val (.ref b21), .val (.ref b33), .val (.ref o53), .val (.int (1 : Int32)), .val (.int (1 : Int32)), .unset] [(.ref wu), (.ref wu)])) st67 ?_
        refine own_st (T67.setTop (mkF m 167 #[.val (.int i), .val (.int j), .val (.int f), .val (.ref b1), .val (.ref b9), .val (.ref b21), .val (.ref b33), .val (.ref o53), .val (.int (1 : Int32)), .val (.int (1 : Int32)), .unset] [])) (fun tq kq => Jvm.RoadKit.acmp (g := (mkF m 164 #[.val (.int i), .val (.int j), .val (.int f), .val (.ref b1), .val (.ref b9), .val (.ref b21), .val (.ref b33), .val (.ref o53), .val (.int (1 : Int32)), .val (.int (1 : Int32)), .unset] [(.ref wu), (.ref wu)])) X67 hx rfl (by rfl) (by rfl) (pc0 := 164) (pc' := 167) (same := true) rfl (hb hby at_164) rfl (decide_eq_true (congrArg Value.ref (rfl : wu = wu))) (by decide) (by decide) kq) ?_
        refine own_st (T67.setTop (mkF m 168 #[.val (.int i), .val (.int j), .val (.int f), .val (.ref b1), .val (.ref b9), .val (.ref b21), .val (.ref b33), .val (.ref o53), .val (.int (1 : Int32)), .val (.int (1 : Int32)), .unset] [(.int (1 : Int32))])) (fun tq kq => XS.iconst X67.here hx rfl (hb hby at_167) kq) ?_
        refine own_st (T67.setTop (mkF m 172 #[.val (.int i), .val (.int j), .val (.int f), .val (.ref b1), .val (.ref b9), .val (.ref b21), .val (.ref b33), .val (.ref o53), .val (.int (1 : Int32)), .val (.int (1 : Int32)), .unset] [(.int (1 : Int32))])) (fun tq kq => XS.goto X67.here hx rfl (pc0 := 168) (pc' := 172) rfl (hb hby at_168) (by decide) (by decide) kq) ?_
        refine own_st (T67.setTop (mkF m 174 #[.val (.int i), .val (.int j), .val (.int f), .val (.ref b1), .val (.ref b9), .val (.ref b21), .val (.ref b33), .val (.ref o53), .val (.int (1 : Int32)), .val (.int (1 : Int32)), .val (.int (1 : Int32))] [])) (fun tq kq => XS.istore X67.here hx rfl (hb hby at_172) rfl (l' := #[.val (.int i), .val (.int j), .val (.int f), .val (.ref b1), .val (.ref b9), .val (.ref b21), .val (.ref b33), .val (.ref o53), .val (.int (1 : Int32)), .val (.int (1 : Int32)), .val (.int (1 : Int32))]) rfl kq) ?_
        refine own_st (T67.setTop (mkF m 176 #[.val (.int i), .val (.int j), .val (.int f), .val (.ref b1), .val (.ref b9), .val (.ref b21), .val (.ref b33), .val (.ref o53), .val (.int (1 : Int32)), .val (.int (1 : Int32)), .val (.int (1 : Int32))] [(.int (1 : Int32))])) (fun tq kq => XS.iload X67.here hx rfl (hb hby at_174) rfl kq) ?_
        refine own_st (T67.setTop (mkF m 179 #[.val (.int i), .val (.int j), .val (.int f), .val (.ref b1), .val (.ref b9), .val (.ref b21), .val (.ref b33), .val (.ref o53), .val (.int (1 : Int32)), .val (.int (1 : Int32)), .val (.int (1 : Int32))] [])) (fun tq kq => XS.ifNo X67.here hx rfl (hb hby at_176) rfl ((if0 _ _).trans (feq ((by decide) : ¬ ((1 : Int32) = (0 : Int32)))).1) kq) ?_
        refine own_st (T67.setTop (mkF m 181 #[.val (.int i), .val (.int j), .val (.int f), .val (.ref b1), .val (.ref b9), .val (.ref b21), .val (.ref b33), .val (.ref o53), .val (.int (1 : Int32)), .val (.int (1 : Int32)), .val (.int (1 : Int32))] [(.int (1 : Int32))])) (fun tq kq => XS.iload X67.here hx rfl (hb hby at_179) rfl kq) ?_
        refine own_st (T67.setTop (mkF m 184 #[.val (.int i), .val (.int j), .val (.int f), .val (.ref b1), .val (.ref b9), .val (.ref b21), .val (.ref b33), .val (.ref o53), .val (.int (1 : Int32)), .val (.int (1 : Int32)), .val (.int (1 : Int32))] [])) (fun tq kq => XS.ifNo X67.here hx rfl (hb hby at_181) rfl ((if0 _ _).trans (feq ((by decide) : ¬ ((1 : Int32) = (0 : Int32)))).1) kq) ?_
        refine own_st (T67.setTop (mkF m 186 #[.val (.int i), .val (.int j), .val (.int f), .val (.ref b1), .val (.ref b9), .val (.ref b21), .val (.ref b33), .val (.ref o53), .val (.int (1 : Int32)), .val (.int (1 : Int32)), .val (.int (1 : Int32))] [(.int (1 : Int32))])) (fun tq kq => XS.iload X67.here hx rfl (hb hby at_184) rfl kq) ?_
        refine own_st (T67.setTop (mkF m 189 #[.val (.int i), .val (.int j), .val (.int f), .val (.ref b1), .val (.ref b9), .val (.ref b21), .val (.ref b33), .val (.ref o53), .val (.int (1 : Int32)), .val (.int (1 : Int32)), .val (.int (1 : Int32))] [])) (fun tq kq => XS.ifNo X67.here hx rfl (hb hby at_186) rfl ((if0 _ _).trans (feq ((by decide) : ¬ ((1 : Int32) = (0 : Int32)))).1) kq) ?_
        refine own_st (T67.setTop (mkF m 190 #[.val (.int i), .val (.int j), .val (.int f), .val (.ref b1), .val (.ref b9), .val (.ref b21), .val (.ref b33), .val (.ref o53), .val (.int (1 : Int32)), .val (.int (1 : Int32)), .val (.int (1 : Int32))] [(.int (1 : Int32))])) (fun tq kq => XS.iconst X67.here hx rfl (hb hby at_189) kq) ?_
        refine own_st (T67.setTop (mkF m 194 #[.val (.int i), .val (.int j), .val (.int f), .val (.ref b1), .val (.ref b9), .val (.ref b21), .val (.ref b33), .val (.ref o53), .val (.int (1 : Int32)), .val (.int (1 : Int32)), .val (.int (1 : Int32))] [(.int (1 : Int32))])) (fun tq kq => XS.goto X67.here hx rfl (pc0 := 190) (pc' := 194) rfl (hb hby at_190) (by decide) (by decide) kq) ?_
        exact own_retW X67 hlk hS0 (Nat.le_trans (Nat.le_trans (Nat.le_trans (Nat.le_trans (Nat.le_trans (Nat.le_trans (Nat.le_trans (Nat.le_trans (Nat.le_trans (Nat.le_trans (Nat.le_trans (Nat.zero_le _) E1.1) (Nat.le_of_eq W3.size.symm)) (Nat.le_of_eq W6.size.symm)) E9.1) (Nat.le_of_eq W12.size.symm)) (Nat.le_of_eq W16.size.symm)) E21.1) K26q.1) E33.1) K42q.1) K53q.1) hZ hEL R53 (v := some (.int (1 : Int32))) (fun h => by rw [hret] at h; cases h) e67 (fun vm1 C1 => ⟨rfl, N66⟩) (by decide) (by decide) (fun fs hr => own_retN X67 hx (t := .boolean) hret (by simp) (hb hby at_194) rfl hr)
      · skip
        refine own_st (T42.setTop (mkF m 102 #[.val (.int i), .val (.int j), .val (.int f), .val (.ref b1), .val (.ref b9), .val (.ref b21), .val (.ref b33), .unset, .unset, .unset, .unset] [])) (fun tq kq => XS.ifNo X42.here hx rfl (hb hby at_99) rfl ((if0 _ _).trans (feq (c99_52 : ¬ ((f &&& (4 : Int32)) = (0 : Int32)))).1) kq) ?_
        refine own_st (T42.setTop (mkF m 104 #[.val (.int i), .val (.int j), .val (.int f), .val (.ref b1), .val (.ref b9), .val (.ref b21), .val (.ref b33), .unset, .unset, .unset, .unset] [(.ref b21)])) (fun tq kq => XS.aload X42.here hx rfl (hb hby at_102) rfl (by rfl) kq) ?_
        refine own_st (T42.setTop (mkF m 106 #[.val (.int i), .val (.int j), .val (.int f), .val (.ref b1), .val (.ref b9), .val (.ref b21), .val (.ref b21), .unset, .unset, .unset, .unset] [])) (fun tq kq => XS.astore X42.here hx rfl (hb hby at_104) rfl (by rfl) (l' := #[.val (.int i), .val (.int j), .val (.int f), .val (.ref b1), .val (.ref b9), .val (.ref b21), .val (.ref b21), .unset, .unset, .unset, .unset]) rfl kq) ?_
        refine own_st (T42.setTop (mkF m 108 #[.val (.int i), .val (.int j), .val (.int f), .val (.ref b1), .val (.ref b9), .val (.ref b21), .val (.ref b21), .unset, .unset, .unset, .unset] [(.ref b21)])) (fun tq kq => XS.aload X42.here hx rfl (hb hby at_106) rfl (by rfl) kq) ?_
        refine own_st (T42.setTop (mkF m 110 #[.val (.int i), .val (.int j), .val (.int f), .val (.ref b1), .val (.ref b9), .val (.ref b21), .val (.ref b21), .unset, .unset, .unset, .unset] [(.ref b21), (.ref b21)])) (fun tq kq => XS.aload X42.here hx rfl (hb hby at_108) rfl (by rfl) kq) ?_
        obtain ⟨v68, T68, L68, X68, q68, st68⟩ := own_callS X42 hx hZ hown (hw _ (List.mem_of_getElem? (i := 33) rfl)) (hw _ (List.mem_of_getElem? (i := 34) rfl)) (hw _ (List.mem_of_getElem? (i := 35) rfl)) (hw _ (List.mem_of_getElem? (i := 36) rfl)) (argsL := [(.ref b21), (.ref b21)]) (own_optional l Z a0 hw [] b21 b21 wu T42.heap O42 SU) 0 (by decide) (by decide) (by decide) (by decide) (by decide) rfl (g := (mkF m 110 #[.val (.int i), .val (.int j), .val (.int f), .val (.ref b1), .val (.ref b9), .val (.ref b21), .val (.ref b21), .unset, .unset, .unset, .unset] [(.ref b21), (.ref b21)])) rfl (by rw [hml]; rfl) [] (lenOf own_pd__28Ljava_2flang_2fString_3bLjava_2flang_2fString_3b_29Lcom_2fexample_2fgridclause_2fgridclause_2fcli_2fOption_3b rfl) rfl (by show 2 * 0 + _ ≤ _; exact Nat.le_of_eq rfl) (hb hby at_110)
        obtain ⟨o68, rfl, N68q, K68q, z68, E68q, f68_0, f68_1, f68_2⟩ := q68
        have N68 := Fr.app N42 N68q
        have f69 := (f43.keep K68q nin0)
        have f70 := (f44.keep K68q nin0)
        have f71 := (f45.keep K68q)
        have f72 := (f46.keep K68q nin0)
        have f73 := (f47.keep K68q nin0)
        have f74 := (f48.keep K68q nin0)
        have f75 := (f49.keep K68q)
        have f76 := (f42q.keep K68q nin0)
        have f77 := (fv42.keep K68q nin0)
        have f78 := (fc42.keep K68q nin0)
        have O68 := O42.keep K68q all0
        have R68 := R42.trans (CHr.keep K68q all0 R42.1)
        have sf68_b1 := Safe.keep K68q all0 R42.1 sf42_b1
        have sf68_b9 := Safe.keep K68q all0 R42.1 sf42_b9
        have sf68_b21 := Safe.keep K68q all0 R42.1 sf42_b21
        have sf68_b33 := Safe.keep K68q all0 R42.1 sf42_b33
        have K68 := K42.trans K68q all0
        refine own_st (T68.setTop (mkF m 113 #[.val (.int i), .val (.int j), .val (.int f), .val (.ref b1), .val (.ref b9), .val (.ref b21), .val (.ref b21), .unset, .unset, .unset, .unset] [(.ref o68)])) st68 ?_
        refine own_st (T68.setTop (mkF m 115 #[.val (.int i), .val (.int j), .val (.int f), .val (.ref b1), .val (.ref b9), .val (.ref b21), .val (.ref b21), .val (.ref o68), .unset, .unset, .unset] [])) (fun tq kq => XS.astore X68.here hx rfl (hb hby at_113) rfl (by rfl) (l' := #[.val (.int i), .val (.int j), .val (.int f), .val (.ref b1), .val (.ref b9), .val (.ref b21), .val (.ref b21), .val (.ref o68), .unset, .unset, .unset]) rfl kq) ?_
        refine own_st (T68.setTop (mkF m 117 #[.val (.int i), .val (.int j), .val (.int f), .val (.ref b1), .val (.ref b9), .val (.ref b21), .val (.ref b21), .val (.ref o68), .unset, .unset, .unset] [(.ref o68)])) (fun tq kq => XS.aload X68.here hx rfl (hb hby at_115) rfl (by rfl) kq) ?_
        refine own_st (T68.setTop (mkF m 122 #[.val (.int i), .val (.int j), .val (.int f), .val (.ref b1), .val (.ref b9), .val (.ref b21), .val (.ref b21), .val (.ref o68), .unset, .unset, .unset] [])) (fun tq kq => XS.ifnonnullYes X68.here hx rfl (pc0 := 117) (pc' := 122) rfl (hb hby at_117) rfl (by decide) (by decide) kq) ?_
        refine own_st (T68.setTop (mkF m 124 #[.val (.int i), .val (.int j), .val (.int f), .val (.ref b1), .val (.ref b9), .val (.ref b21), .val (.ref b21), .val (.ref o68), .unset, .unset, .unset] [(.ref o68)])) (fun tq kq => XS.aload X68.here hx rfl (hb hby at_122) rfl (by rfl) kq) ?_
        obtain ⟨v79, T79, L79, X79, q79, st79⟩ := own_callV X68 hx hZ hown (y := (⟨"com/example/gridclause/gridclause/cli/Option", "name", "()Ljava/lang/String;"⟩ : MethodName)) (z := (⟨"com/example/gridclause/gridclause/cli/Option", "name", "()Ljava/lang/String;"⟩ : MethodName)) (hw _ (List.mem_of_getElem? (i := 57) rfl)) (hw _ (List.mem_of_getElem? (i := 58) rfl)) (notFace_of_selects (args := a0) (hw _ (List.mem_of_getElem? (i := 60) rfl))) (hw _ (List.mem_of_getElem? (i := 60) rfl)) (hw _ (List.mem_of_getElem? (i := 59) rfl)) (hw _ (List.mem_of_getElem? (i := 35) rfl)) (hw _ (List.mem_of_getElem? (i := 61) rfl)) E68q (b := o68) (argsL := []) (own_get_Option_name l Z a0 hw [] o68 b21 T68.heap O68 f68_0) 0 (by decide) (by decide) (by decide) (by decide) (by decide) rfl (g := (mkF m 124 #[.val (.int i), .val (.int j), .val (.int f), .val (.ref b1), .val (.ref b9), .val (.ref b21), .val (.ref b21), .val (.ref o68), .unset, .unset, .unset] [(.ref o68)])) rfl (by rw [hml]; rfl) [] (lenOf own_pd__28_29Ljava_2flang_2fString_3b rfl) rfl (by show 2 * 0 + _ ≤ _; exact Nat.le_of_eq rfl) (hb hby at_124)
        obtain ⟨rfl, N79q, e79⟩ := q79
        have N79 := Fr.app N68 N79q
        refine own_st (T79.setTop (mkF m 127 #[.val (.int i), .val (.int j), .val (.int f), .val (.ref b1), .val (.ref b9), .val (.ref b21), .val (.ref b21), .val (.ref o68), .unset, .unset, .unset] [(.ref b21)])) st79 ?_
        refine own_st (T79.setTop (mkF m 129 #[.val (.int i), .val (.int j), .val (.int f), .val (.ref b1), .val (.ref b9), .val (.ref b21), .val (.ref b21), .val (.ref o68), .unset, .unset, .unset] [(.ref b21), (.ref b21)])) (fun tq kq => XS.aload X79.here hx rfl (hb hby at_127) rfl (by rfl) kq) ?_
        refine own_st (T79.setTop (mkF m 132 #[.val (.int i), .val (.int j), .val (.int f), .val (.ref b1), .val (.ref b9), .val (.ref b21), .val (.ref b21), .val (.ref o68), .unset, .unset, .unset] [])) (fun tq kq => Jvm.RoadKit.acmp (g := (mkF m 129 #[.val (.int i), .val (.int j), .val (.int f), .val (.ref b1), .val (.ref b9), .val (.ref b21), .val (.ref b21), .val (.ref o68), .unset, .unset, .unset] [(.ref b21), (.ref b21)])) X79 hx rfl (by rfl) (by rfl) (pc0 := 129) (pc' := 132) (same := true) rfl (hb hby at_129) rfl (decide_eq_true (congrArg Value.ref (rfl : b21 = b21))) (by decide) (by decide) kq) ?_
        refine own_st (T79.setTop (mkF m 133 #[.val (.int i), .val (.int j), .val (.int f), .val (.ref b1), .val (.ref b9), .val (.ref b21), .val (.ref b21), .val (.ref o68), .unset, .unset, .unset] [(.int (1 : Int32))])) (fun tq kq => XS.iconst X79.here hx rfl (hb hby at_132) kq) ?_
        refine own_st (T79.setTop (mkF m 137 #[.val (.int i), .val (.int j), .val (.int f), .val (.ref b1), .val (.ref b9), .val (.ref b21), .val (.ref b21), .val (.ref o68), .unset, .unset, .unset] [(.int (1 : Int32))])) (fun tq kq => XS.goto X79.here hx rfl (pc0 := 133) (pc' := 137) rfl (hb hby at_133) (by decide) (by decide) kq) ?_
        refine own_st (T79.setTop (mkF m 139 #[.val (.int i), .val (.int j), .val (.int f), .val (.ref b1), .val (.ref b9), .val (.ref b21), .val (.ref b21), .val (.ref o68), .val (.int (1 : Int32)), .unset, .unset] [])) (fun tq kq => XS.istore X79.here hx rfl (hb hby at_137) rfl (l' := #[.val (.int i), .val (.int j), .val (.int f), .val (.ref b1), .val (.ref b9), .val (.ref b21), .val (.ref b21), .val (.ref o68), .val (.int (1 : Int32)), .unset, .unset]) rfl kq) ?_
        refine own_st (T79.setTop (mkF m 141 #[.val (.int i), .val (.int j), .val (.int f), .val (.ref b1), .val (.ref b9), .val (.ref b21), .val (.ref b21), .val (.ref o68), .val (.int (1 : Int32)), .unset, .unset] [(.ref o68)])) (fun tq kq => XS.aload X79.here hx rfl (hb hby at_139) rfl (by rfl) kq) ?_
        obtain ⟨v80, T80, L80, X80, q80, st80⟩ := own_callV X79 hx hZ hown (y := (⟨"com/example/gridclause/gridclause/cli/Option", "label", "()Ljava/lang/String;"⟩ : MethodName)) (z := (⟨"com/example/gridclause/gridclause/cli/Option", "label", "()Ljava/lang/String;"⟩ : MethodName)) (hw _ (List.mem_of_getElem? (i := 62) rfl)) (hw _ (List.mem_of_getElem? (i := 63) rfl)) (notFace_of_selects (args := a0) (hw _ (List.mem_of_getElem? (i := 65) rfl))) (hw _ (List.mem_of_getElem? (i := 65) rfl)) (hw _ (List.mem_of_getElem? (i := 64) rfl)) (hw _ (List.mem_of_getElem? (i := 35) rfl)) (hw _ (List.mem_of_getElem? (i := 66) rfl)) E68q (b := o68) (argsL := []) (own_get_Option_label l Z a0 hw [] o68 b21 T68.heap O68 f68_1) 0 (by decide) (by decide) (by decide) (by decide) (by decide) e79 (g := (mkF m 141 #[.val (.int i), .val (.int j), .val (.int f), .val (.ref b1), .val (.ref b9), .val (.ref b21), .val (.ref b21), .val (.ref o68), .val (.int (1 : Int32)), .unset, .unset] [(.ref o68)])) rfl (by rw [hml]; rfl) [] (lenOf own_pd__28_29Ljava_2flang_2fString_3b rfl) rfl (by show 2 * 0 + _ ≤ _; exact Nat.le_of_eq rfl) (hb hby at_141)
        obtain ⟨rfl, N80q, e80⟩ := q80
        have N80 := Fr.app N79 N80q
        refine own_st (T80.setTop (mkF m 144 #[.val (.int i), .val (.int j), .val (.int f), .val (.ref b1), .val (.ref b9), .val (.ref b21), .val (.ref b21), .val (.ref o68), .val (.int (1 : Int32)), .unset, .unset] [(.ref b21)])) st80 ?_
        refine own_st (T80.setTop (mkF m 146 #[.val (.int i), .val (.int j), .val (.int f), .val (.ref b1), .val (.ref b9), .val (.ref b21), .val (.ref b21), .val (.ref o68), .val (.int (1 : Int32)), .unset, .unset] [(.ref b21), (.ref b21)])) (fun tq kq => XS.aload X80.here hx rfl (hb hby at_144) rfl (by rfl) kq) ?_
        refine own_st (T80.setTop (mkF m 149 #[.val (.int i), .val (.int j), .val (.int f), .val (.ref b1), .val (.ref b9), .val (.ref b21), .val (.ref b21), .val (.ref o68), .val (.int (1 : Int32)), .unset, .unset] [])) (fun tq kq => Jvm.RoadKit.acmp (g := (mkF m 146 #[.val (.int i), .val (.int j), .val (.int f), .val (.ref b1), .val (.ref b9), .val (.ref b21), .val (.ref b21), .val (.ref o68), .val (.int (1 : Int32)), .unset, .unset] [(.ref b21), (.ref b21)])) X80 hx rfl (by rfl) (by rfl) (pc0 := 146) (pc' := 149) (same := true) rfl (hb hby at_146) rfl (decide_eq_true (congrArg Value.ref (rfl : b21 = b21))) (by decide) (by decide) kq) ?_
        refine own_st (T80.setTop (mkF m 150 #[.val (.int i), .val (.int j), .val (.int f), .val (.ref b1), .val (.ref b9), .val (.ref b21), .val (.ref b21), .val (.ref o68), .val (.int (1 : Int32)), .unset, .unset] [(.int (1 : Int32))])) (fun tq kq => XS.iconst X80.here hx rfl (hb hby at_149) kq) ?_
        refine own_st (T80.setTop (mkF m 154 #[.val (.int i), .val (.int j), .val (.int f), .val (.ref b1), .val (.ref b9), .val (.ref b21), .val (.ref b21), .val (.ref o68), .val (.int (1 : Int32)), .unset, .unset] [(.int (1 : Int32))])) (fun tq kq => XS.goto X80.here hx rfl (pc0 := 150) (pc' := 154) rfl (hb hby at_150) (by decide) (by decide) kq) ?_
        refine own_st (T80.setTop (mkF m 156 #[.val (.int i), .val (.int j), .val (.int f), .val (.ref b1), .val (.ref b9), .val (.ref b21), .val (.ref b21), .val (.ref o68), .val (.int (1 : Int32)), .val (.int (1 : Int32)), .unset] [])) (fun tq kq => XS.istore X80.here hx rfl (hb hby at_154) rfl (l' := #[.val (.int i), .val (.int j), .val (.int f), .val (.ref b1), .val (.ref b9), .val (.ref b21), .val (.ref b21), .val (.ref o68), .val (.int (1 : Int32)), .val (.int (1 : Int32)), .unset]) rfl kq) ?_
        refine own_st (T80.setTop (mkF m 158 #[.val (.int i), .val (.int j), .val (.int f), .val (.ref b1), .val (.ref b9), .val (.ref b21), .val (.ref b21), .val (.ref o68), .val (.int (1 : Int32)), .val (.int (1 : Int32)), .unset] [(.ref o68)])) (fun tq kq => XS.aload X80.here hx rfl (hb hby at_156) rfl (by rfl) kq) ?_
        obtain ⟨v81, T81, L81, X81, q81, st81⟩ := own_callV X80 hx hZ hown (y := (⟨"com/example/gridclause/gridclause/cli/Option", "use", "()Lcom/example/gridclause/gridclause/cli/Option$Use;"⟩ : MethodName)) (z := (⟨"com/example/gridclause/gridclause/cli/Option", "use", "()Lcom/example/gridclause/gridclause/cli/Option$Use;"⟩ : MethodName)) (hw _ (List.mem_of_getElem? (i := 67) rfl)) (hw _ (List.mem_of_getElem? (i := 68) rfl)) (notFace_of_selects (args := a0) (hw _ (List.mem_of_getElem? (i := 70) rfl))) (hw _ (List.mem_of_getElem? (i := 70) rfl)) (hw _ (List.mem_of_getElem? (i := 69) rfl)) (hw _ (List.mem_of_getElem? (i := 35) rfl)) (hw _ (List.mem_of_getElem? (i := 71) rfl)) E68q (b := o68) (argsL := []) (own_get_Option_use l Z a0 hw [] o68 wu T68.heap O68 f68_2) 0 (by decide) (by decide) (by decide) (by decide) (by decide) e80 (g := (mkF m 158 #[.val (.int i), .val (.int j), .val (.int f), .val (.ref b1), .val (.ref b9), .val (.ref b21), .val (.ref b21), .val (.ref o68), .val (.int (1 : Int32)), .val (.int (1 : Int32)), .unset] [(.ref o68)])) rfl (by rw [hml]; rfl) [] (lenOf own_pd__28_29Lcom_2fexample_2fgridclause_2fgridclause_2fcli_2fOption_24Use_3b rfl) rfl (by show 2 * 0 + _ ≤ _; exact Nat.le_of_eq rfl) (hb hby at_158)
        obtain ⟨rfl, N81q, e81⟩ := q81
        have N81 := Fr.app N80 N81q
        refine own_st (T81.setTop (mkF m 161 #[.val (.int i), .val (.int j), .val (.int f), .val (.ref b1), .val (.ref b9), .val (.ref b21), .val (.ref b21), .val (.ref o68), .val (.int (1 : Int32)), .val (.int (1 : Int32)), .unset] [(.ref wu)])) st81 ?_
        obtain ⟨T82, X82, e82, st82⟩ := getS2 X81 hx hZ hown (host := "") (Or.inl (hw _ (List.mem_of_getElem? (i := 72) rfl))) Via.refl e81 (SU.ext O68.2) (g := (mkF m 161 #[.val (.int i), .val (.int j), .val (.int f), .val (.ref b1), .val (.ref b9), .val (.ref b21), .val (.ref b21), .val (.ref o68), .val (.int (1 : Int32)), .val (.int (1 : Int32)), .unset] [(.ref wu)])) rfl (hb hby at_161)
        refine own_st (T82.setTop (mkF m 164 #[.val (.int i), .val (.int j), .val (.int f), .val (.ref b1), .val (.ref b9), .val (.ref b21), .val (.ref b21), .val (.ref o68), .val (.int (1 : Int32)), .val (.int (1 : Int32)), .unset] [(.ref wu), (.ref wu)])) st82 ?_
        refine own_st (T82.setTop (mkF m 167 #[.val (.int i), .val (.int j), .val (.int f), .val (.ref b1), .val (.ref b9), .val (.ref b21), .val (.ref b21), .val (.ref o68), .val (.int (1 : Int32)), .val (.int (1 : Int32)), .unset] [])) (fun tq kq => Jvm.RoadKit.acmp (g := (mkF m 164 #[.val (.int i), .val (.int j), .val (.int f), .val (.ref b1), .val (.ref b9), .val (.ref b21), .val (.ref b21), .val (.ref o68), .val (.int (1 : Int32)), .val (.int (1 : Int32)), .unset] [(.ref wu), (.ref wu)])) X82 hx rfl (by rfl) (by rfl) (pc0 := 164) (pc' := 167) (same := true) rfl (hb hby at_164) rfl (decide_eq_true (congrArg Value.ref (rfl : wu = wu))) (by decide) (by decide) kq) ?_
        refine own_st (T82.setTop (mkF m 168 #[.val (.int i), .val (.int j), .val (.int f), .val (.ref b1), .val (.ref b9), .val (.ref b21), .val (.ref b21), .val (.ref o68), .val (.int (1 : Int32)), .val (.int (1 : Int32)), .unset] [(.int (1 : Int32))])) (fun tq kq => XS.iconst X82.here hx rfl (hb hby at_167) kq) ?_
        refine own_st (T82.setTop (mkF m 172 #[.val (.int i), .val (.int j), .val (.int f), .val (.ref b1), .val (.ref b9), .val (.ref b21), .val (.ref b21), .val (.ref o68), .val (.int (1 : Int32)), .val (.int (1 : Int32)), .unset] [(.int (1 : Int32))])) (fun tq kq => XS.goto X82.here hx rfl (pc0 := 168) (pc' := 172) rfl (hb hby at_168) (by decide) (by decide) kq) ?_
        refine own_st (T82.setTop (mkF m 174 #[.val (.int i), .val (.int j), .val (.int f), .val (.ref b1), .val (.ref b9), .val (.ref b21), .val (.ref b21), .val (.ref o68), .val (.int (1 : Int32)), .val (.int (1 : Int32)), .val (.int (1 : Int32))] [])) (fun tq kq => XS.istore X82.here hx rfl (hb hby at_172) rfl (l' := #[.val (.int i), .val (.int j), .val (.int f), .val (.ref b1), .val (.ref b9), .val (.ref b21), .val (.ref b21), .val (.ref o68), .val (.int (1 : Int32)), .val (.int (1 : Int32)), .val (.int (1 : Int32))]) rfl kq) ?_
        refine own_st (T82.setTop (mkF m 176 #[.val (.int i), .val (.int j), .val (.int f), .val (.ref b1), .val (.ref b9), .val (.ref b21), .val (.ref b21), .val (.ref o68), .val (.int (1 : Int32)), .val (.int (1 : Int32)), .val (.int (1 : Int32))] [(.int (1 : Int32))])) (fun tq kq => XS.iload X82.here hx rfl (hb hby at_174) rfl kq) ?_
        refine own_st (T82.setTop (mkF m 179 #[.val (.int i), .val (.int j), .val (.int f), .val (.ref b1), .val (.ref b9), .val (.ref b21), .val (.ref b21), .val (.ref o68), .val (.int (1 : Int32)), .val (.int (1 : Int32)), .val (.int (1 : Int32))] [])) (fun tq kq => XS.ifNo X82.here hx rfl (hb hby at_176) rfl ((if0 _ _).trans (feq ((by decide) : ¬ ((1 : Int32) = (0 : Int32)))).1) kq) ?_
        refine own_st (T82.setTop (mkF m 181 #[.val (.int i), .val (.int j), .val (.int f), .val (.ref b1), .val (.ref b9), .val (.ref b21), .val (.ref b21), .val (.ref o68), .val (.int (1 : Int32)), .val (.int (1 : Int32)), .val (.int (1 : Int32))] [(.int (1 : Int32))])) (fun tq kq => XS.iload X82.here hx rfl (hb hby at_179) rfl kq) ?_
        refine own_st (T82.setTop (mkF m 184 #[.val (.int i), .val (.int j), .val (.int f), .val (.ref b1), .val (.ref b9), .val (.ref b21), .val (.ref b21), .val (.ref o68), .val (.int (1 : Int32)), .val (.int (1 : Int32)), .val (.int (1 : Int32))] [])) (fun tq kq => XS.ifNo X82.here hx rfl (hb hby at_181) rfl ((if0 _ _).trans (feq ((by decide) : ¬ ((1 : Int32) = (0 : Int32)))).1) kq) ?_
        refine own_st (T82.setTop (mkF m 186 #[.val (.int i), .val (.int j), .val (.int f), .val (.ref b1), .val (.ref b9), .val (.ref b21), .val (.ref b21), .val (.ref o68), .val (.int (1 : Int32)), .val (.int (1 : Int32)), .val (.int (1 : Int32))] [(.int (1 : Int32))])) (fun tq kq => XS.iload X82.here hx rfl (hb hby at_184) rfl kq) ?_
        refine own_st (T82.setTop (mkF m 189 #[.val (.int i), .val (.int j), .val (.int f), .val (.ref b1), .val (.ref b9), .val (.ref b21), .val (.ref b21), .val (.ref o68), .val (.int (1 : Int32)), .val (.int (1 : Int32)), .val (.int (1 : Int32))] [])) (fun tq kq => XS.ifNo X82.here hx rfl (hb hby at_186) rfl ((if0 _ _).trans (feq ((by decide) : ¬ ((1 : Int32) = (0 : Int32)))).1) kq) ?_
        refine own_st (T82.setTop (mkF m 190 #[.val (.int i), .val (.int j), .val (.int f), .val (.ref b1), .val (.ref b9), .val (.ref b21), .val (.ref b21), .val (.ref o68), .val (.int (1 : Int32)), .val (.int (1 : Int32)), .val (.int (1 : Int32))] [(.int (1 : Int32))])) (fun tq kq => XS.iconst X82.here hx rfl (hb hby at_189) kq) ?_
        refine own_st (T82.setTop (mkF m 194 #[.val (.int i), .val (.int j), .val (.int f), .val (.ref b1), .val (.ref b9), .val (.ref b21), .val (.ref b21), .val (.ref o68), .val (.int (1 : Int32)), .val (.int (1 : Int32)), .val (.int (1 : Int32))] [(.int (1 : Int32))])) (fun tq kq => XS.goto X82.here hx rfl (pc0 := 190) (pc' := 194) rfl (hb hby at_190) (by decide) (by decide) kq) ?_
        exact own_retW X82 hlk hS0 (Nat.le_trans (Nat.le_trans (Nat.le_trans (Nat.le_trans (Nat.le_trans (Nat.le_trans (Nat.le_trans (Nat.le_trans (Nat.le_trans (Nat.le_trans (Nat.le_trans (Nat.zero_le _) E1.1) (Nat.le_of_eq W3.size.symm)) (Nat.le_of_eq W6.size.symm)) E9.1) (Nat.le_of_eq W12.size.symm)) (Nat.le_of_eq W16.size.symm)) E21.1) K26q.1) E33.1) K42q.1) K68q.1) hZ hEL R68 (v := some (.int (1 : Int32))) (fun h => by rw [hret] at h; cases h) e82 (fun vm1 C1 => ⟨rfl, N81⟩) (by decide) (by decide) (fun fs hr => own_retN X82 hx (t := .boolean) hret (by simp) (hb hby at_194) rfl hr)
    · skip
      refine own_st (T26.setTop (mkF m 80 #[.val (.int i), .val (.int j), .val (.int f), .val (.ref b1), .val (.ref b9), .val (.ref b21), .unset, .unset, .unset, .unset, .unset] [])) (fun tq kq => XS.ifNo X26.here hx rfl (hb hby at_77) rfl ((if0 _ _).trans (feq (c77_32 : ¬ ((f &&& (2 : Int32)) = (0 : Int32)))).1) kq) ?_
      obtain ⟨a83, T83, h83, k83, X83, e83, E83, hS83, hk83, hZ83, hown83, C83, -, st83⟩ := ldcOH X26 hx hZ hown (hw _ (List.mem_of_getElem? (i := 30) rfl)) (own_wS hw) rfl hS0 (Nat.le_trans (Nat.le_trans (Nat.le_trans (Nat.le_trans (Nat.le_trans (Nat.le_trans (Nat.le_trans (Nat.le_trans (Nat.zero_le _) E1.1) (Nat.le_of_eq W3.size.symm)) (Nat.le_of_eq W6.size.symm)) E9.1) (Nat.le_of_eq W12.size.symm)) (Nat.le_of_eq W16.size.symm)) E21.1) K26q.1) hEL R26.1 (g := (mkF m 80 #[.val (.int i), .val (.int j), .val (.int f), .val (.ref b1), .val (.ref b9), .val (.ref b21), .unset, .unset, .unset, .unset, .unset] [])) rfl (hb hby at_80) (n := 0) (by decide) (by decide) (by decide) (by decide)
      have sf83_b1 := C83.safe f27.lt sf26_b1
      have sf83_b9 := C83.safe f28.lt sf26_b9
      have sf83_b21 := C83.safe f29.lt sf26_b21
      have R83 := R26.trans C83
      have f84 := (f27.ext E83)
      have f85 := (f28.ext E83)
      have f86 := (f29.ext E83)
      have f87 := (f26q.ext E83)
      have f88 := (fv26.ext E83)
      have f89 := (fc26.ext E83)
      have O83 := O26.ext E83
      have K83 := K26.ext E83
      refine own_st (T83.setTop (mkF m 82 #[.val (.int i), .val (.int j), .val (.int f), .val (.ref b1), .val (.ref b9), .val (.ref b21), .unset, .unset, .unset, .unset, .unset] [(.ref a83)])) st83 ?_
      refine own_st (T83.setTop (mkF m 94 #[.val (.int i), .val (.int j), .val (.int f), .val (.ref b1), .val (.ref b9), .val (.ref b21), .unset, .unset, .unset, .unset, .unset] [(.ref a83)])) (fun tq kq => XS.goto X83.here hx rfl (pc0 := 82) (pc' := 94) rfl (hb hby at_82) (by decide) (by decide) kq) ?_
      refine own_st (T83.setTop (mkF m 96 #[.val (.int i), .val (.int j), .val (.int f), .val (.ref b1), .val (.ref b9), .val (.ref b21), .val (.ref a83), .unset, .unset, .unset, .unset] [])) (fun tq kq => XS.astore X83.here hx rfl (hb hby at_94) rfl (by rfl) (l' := #[.val (.int i), .val (.int j), .val (.int f), .val (.ref b1), .val (.ref b9), .val (.ref b21), .val (.ref a83), .unset, .unset, .unset, .unset]) rfl kq) ?_
      refine own_st (T83.setTop (mkF m 97 #[.val (.int i), .val (.int j), .val (.int f), .val (.ref b1), .val (.ref b9), .val (.ref b21), .val (.ref a83), .unset, .unset, .unset, .unset] [(.int f)])) (fun tq kq => XS.iloadN X83.here hx rfl (hb hby at_96) rfl kq) ?_
      refine own_st (T83.setTop (mkF m 98 #[.val (.int i), .val (.int j), .val (.int f), .val (.ref b1), .val (.ref b9), .val (.ref b21), .val (.ref a83), .unset, .unset, .unset, .unset] [(.int (4 : Int32)), (.int f)])) (fun tq kq => XS.iconst X83.here hx rfl (hb hby at_97) kq) ?_
      refine own_st (T83.setTop (mkF m 99 #[.val (.int i), .val (.int j), .val (.int f), .val (.ref b1), .val (.ref b9), .val (.ref b21), .val (.ref a83), .unset, .unset, .unset, .unset] [(.int (f &&& (4 : Int32)))])) (fun tq kq => XS.iand X83.here hx rfl (hb hby at_98) rfl kq) ?_
      by_cases c99_90 : (f &&& (4 : Int32)) = (0 : Int32)
      · skip
        refine own_st (T83.setTop (mkF m 106 #[.val (.int i), .val (.int j), .val (.int f), .val (.ref b1), .val (.ref b9), .val (.ref b21), .val (.ref a83), .unset, .unset, .unset, .unset] [])) (fun tq kq => XS.ifYes X83.here hx rfl (pc0 := 99) (pc' := 106) rfl (hb hby at_99) rfl ((if0 _ _).trans (teq (c99_90 : (f &&& (4 : Int32)) = (0 : Int32))).1) (by decide) (by decide) kq) ?_
        refine own_st (T83.setTop (mkF m 108 #[.val (.int i), .val (.int j), .val (.int f), .val (.ref b1), .val (.ref b9), .val (.ref b21), .val (.ref a83), .unset, .unset, .unset, .unset] [(.ref b21)])) (fun tq kq => XS.aload X83.here hx rfl (hb hby at_106) rfl (by rfl) kq) ?_
        refine own_st (T83.setTop (mkF m 110 #[.val (.int i), .val (.int j), .val (.int f), .val (.ref b1), .val (.ref b9), .val (.ref b21), .val (.ref a83), .unset, .unset, .unset, .unset] [(.ref a83), (.ref b21)])) (fun tq kq => XS.aload X83.here hx rfl (hb hby at_108) rfl (by rfl) kq) ?_
        obtain ⟨v91, T91, L91, X91, q91, st91⟩ := own_callS X83 hx hZ83 hown83 (hw _ (List.mem_of_getElem? (i := 33) rfl)) (hw _ (List.mem_of_getElem? (i := 34) rfl)) (hw _ (List.mem_of_getElem? (i := 35) rfl)) (hw _ (List.mem_of_getElem? (i := 36) rfl)) (argsL := [(.ref b21), (.ref a83)]) (own_optional l Z a0 hw [] b21 a83 wu h83 O83 SU) 0 (by decide) (by decide) (by decide) (by decide) (by decide) e83 (g := (mkF m 110 #[.val (.int i), .val (.int j), .val (.int f), .val (.ref b1), .val (.ref b9), .val (.ref b21), .val (.ref a83), .unset, .unset, .unset, .unset] [(.ref a83), (.ref b21)])) rfl (by rw [hml]; rfl) [] (lenOf own_pd__28Ljava_2flang_2fString_3bLjava_2flang_2fString_3b_29Lcom_2fexample_2fgridclause_2fgridclause_2fcli_2fOption_3b rfl) rfl (by show 2 * 0 + _ ≤ _; exact Nat.le_of_eq rfl) (hb hby at_110)
        obtain ⟨o91, rfl, N91q, K91q, z91, E91q, f91_0, f91_1, f91_2⟩ := q91
        have N91 := Fr.app N26 N91q
        have f92 := (f84.keep K91q nin0)
        have f93 := (f85.keep K91q nin0)
        have f94 := (f86.keep K91q)
        have f95 := (f87.keep K91q nin0)
        have f96 := (f88.keep K91q nin0)
        have f97 := (f89.keep K91q nin0)
        have O91 := O83.keep K91q all0
        have R91 := R83.trans (CHr.keep K91q all0 R83.1)
        have sf91_b1 := Safe.keep K91q all0 R83.1 sf83_b1
        have sf91_b9 := Safe.keep K91q all0 R83.1 sf83_b9
        have sf91_b21 := Safe.keep K91q all0 R83.1 sf83_b21
        have K91 := K83.trans K91q all0
        refine own_st (T91.setTop (mkF m 113 #[.val (.int i), .val (.int j), .val (.int f), .val (.ref b1), .val (.ref b9), .val (.ref b21), .val (.ref a83), .unset, .unset, .unset, .unset] [(.ref o91)])) st91 ?_
        refine own_st (T91.setTop (mkF m 115 #[.val (.int i), .val (.int j), .val (.int f), .val (.ref b1), .val (.ref b9), .val (.ref b21), .val (.ref a83), .val (.ref o91), .unset, .unset, .unset] [])) (fun tq kq => XS.astore X91.here hx rfl (hb hby at_113) rfl (by rfl) (l' := #[.val (.int i), .val (.int j), .val (.int f), .val (.ref b1), .val (.ref b9), .val (.ref b21), .val (.ref a83), .val (.ref o91), .unset, .unset, .unset]) rfl kq) ?_
        refine own_st (T91.setTop (mkF m 117 #[.val (.int i), .val (.int j), .val (.int f), .val (.ref b1), .val (.ref b9), .val (.ref b21), .val (.ref a83), .val (.ref o91), .unset, .unset, .unset] [(.ref o91)])) (fun tq kq => XS.aload X91.here hx rfl (hb hby at_115) rfl (by rfl) kq) ?_
        refine own_st (T91.setTop (mkF m 122 #[.val (.int i), .val (.int j), .val (.int f), .val (.ref b1), .val (.ref b9), .val (.ref b21), .val (.ref a83), .val (.ref o91), .unset, .unset, .unset] [])) (fun tq kq => XS.ifnonnullYes X91.here hx rfl (pc0 := 117) (pc' := 122) rfl (hb hby at_117) rfl (by decide) (by decide) kq) ?_
        refine own_st (T91.setTop (mkF m 124 #[.val (.int i), .val (.int j), .val (.int f), .val (.ref b1), .val (.ref b9), .val (.ref b21), .val (.ref a83), .val (.ref o91), .unset, .unset, .unset] [(.ref o91)])) (fun tq kq => XS.aload X91.here hx rfl (hb hby at_122) rfl (by rfl) kq) ?_
        obtain ⟨v98, T98, L98, X98, q98, st98⟩ := own_callV X91 hx hZ83 hown83 (y := (⟨"com/example/gridclause/gridclause/cli/Option", "name", "()Ljava/lang/String;"⟩ : MethodName)) (z := (⟨"com/example/gridclause/gridclause/cli/Option", "name", "()Ljava/lang/String;"⟩ : MethodName)) (hw _ (List.mem_of_getElem? (i := 57) rfl)) (hw _ (List.mem_of_getElem? (i := 58) rfl)) (notFace_of_selects (args := a0) (hw _ (List.mem_of_getElem? (i := 60) rfl))) (hw _ (List.mem_of_getElem? (i := 60) rfl)) (hw _ (List.mem_of_getElem? (i := 59) rfl)) (hw _ (List.mem_of_getElem? (i := 35) rfl)) (hw _ (List.mem_of_getElem? (i := 61) rfl)) E91q (b := o91) (argsL := []) (own_get_Option_name l Z a0 hw [] o91 b21 T91.heap O91 f91_0) 0 (by decide) (by decide) (by decide) (by decide) (by decide) rfl (g := (mkF m 124 #[.val (.int i), .val (.int j), .val (.int f), .val (.ref b1), .val (.ref b9), .val (.ref b21), .val (.ref a83), .val (.ref o91), .unset, .unset, .unset] [(.ref o91)])) rfl (by rw [hml]; rfl) [] (lenOf own_pd__28_29Ljava_2flang_2fString_3b rfl) rfl (by show 2 * 0 + _ ≤ _; exact Nat.le_of_eq rfl) (hb hby at_124)
        obtain ⟨rfl, N98q, e98⟩ := q98
        have N98 := Fr.app N91 N98q
        refine own_st (T98.setTop (mkF m 127 #[.val (.int i), .val (.int j), .val (.int f), .val (.ref b1), .val (.ref b9), .val (.ref b21), .val (.ref a83), .val (.ref o91), .unset, .unset, .unset] [(.ref b21)])) st98 ?_
        refine own_st (T98.setTop (mkF m 129 #[.val (.int i), .val (.int j), .val (.int f), .val (.ref b1), .val (.ref b9), .val (.ref b21), .val (.ref a83), .val (.ref o91), .unset, .unset, .unset] [(.ref b21), (.ref b21)])) (fun tq kq => XS.aload X98.here hx rfl (hb hby at_127) rfl (by rfl) kq) ?_
        refine own_st (T98.setTop (mkF m 132 #[.val (.int i), .val (.int j), .val (.int f), .val (.ref b1), .val (.ref b9), .val (.ref b21), .val (.ref a83), .val (.ref o91), .unset, .unset, .unset] [])) (fun tq kq => Jvm.RoadKit.acmp (g := (mkF m 129 #[.val (.int i), .val (.int j), .val (.int f), .val (.ref b1), .val (.ref b9), .val (.ref b21), .val (.ref a83), .val (.ref o91), .unset, .unset, .unset] [(.ref b21), (.ref b21)])) X98 hx rfl (by rfl) (by rfl) (pc0 := 129) (pc' := 132) (same := true) rfl (hb hby at_129) rfl (decide_eq_true (congrArg Value.ref (rfl : b21 = b21))) (by decide) (by decide) kq) ?_
        refine own_st (T98.setTop (mkF m 133 #[.val (.int i), .val (.int j), .val (.int f), .val (.ref b1), .val (.ref b9), .val (.ref b21), .val (.ref a83), .val (.ref o91), .unset, .unset, .unset] [(.int (1 : Int32))])) (fun tq kq => XS.iconst X98.here hx rfl (hb hby at_132) kq) ?_
        refine own_st (T98.setTop (mkF m 137 #[.val (.int i), .val (.int j), .val (.int f), .val (.ref b1), .val (.ref b9), .val (.ref b21), .val (.ref a83), .val (.ref o91), .unset, .unset, .unset] [(.int (1 : Int32))])) (fun tq kq => XS.goto X98.here hx rfl (pc0 := 133) (pc' := 137) rfl (hb hby at_133) (by decide) (by decide) kq) ?_
        refine own_st (T98.setTop (mkF m 139 #[.val (.int i), .val (.int j), .val (.int f), .val (.ref b1), .val (.ref b9), .val (.ref b21), .val (.ref a83), .val (.ref o91), .val (.int (1 : Int32)), .unset, .unset] [])) (fun tq kq => XS.istore X98.here hx rfl (hb hby at_137) rfl (l' := #[.val (.int i), .val (.int j), .val (.int f), .val (.ref b1), .val (.ref b9), .val (.ref b21), .val (.ref a83), .val (.ref o91), .val (.int (1 : Int32)), .unset, .unset]) rfl kq) ?_
        refine own_st (T98.setTop (mkF m 141 #[.val (.int i), .val (.int j), .val (.int f), .val (.ref b1), .val (.ref b9), .val (.ref b21), .val (.ref a83), .val (.ref o91), .val (.int (1 : Int32)), .unset, .unset] [(.ref o91)])) (fun tq kq => XS.aload X98.here hx rfl (hb hby at_139) rfl (by rfl) kq) ?_
        obtain ⟨v99, T99, L99, X99, q99, st99⟩ := own_callV X98 hx hZ83 hown83 (y := (⟨"com/example/gridclause/gridclause/cli/Option", "label", "()Ljava/lang/String;"⟩ : MethodName)) (z := (⟨"com/example/gridclause/gridclause/cli/Option", "label", "()Ljava/lang/String;"⟩ : MethodName)) (hw _ (List.mem_of_getElem? (i := 62) rfl)) (hw _ (List.mem_of_getElem? (i := 63) rfl)) (notFace_of_selects (args := a0) (hw _ (List.mem_of_getElem? (i := 65) rfl))) (hw _ (List.mem_of_getElem? (i := 65) rfl)) (hw _ (List.mem_of_getElem? (i := 64) rfl)) (hw _ (List.mem_of_getElem? (i := 35) rfl)) (hw _ (List.mem_of_getElem? (i := 66) rfl)) E91q (b := o91) (argsL := []) (own_get_Option_label l Z a0 hw [] o91 a83 T91.heap O91 f91_1) 0 (by decide) (by decide) (by decide) (by decide) (by decide) e98 (g := (mkF m 141 #[.val (.int i), .val (.int j), .val (.int f), .val (.ref b1), .val (.ref b9), .val (.ref b21), .val (.ref a83), .val (.ref o91), .val (.int (1 : Int32)), .unset, .unset] [(.ref o91)])) rfl (by rw [hml]; rfl) [] (lenOf own_pd__28_29Ljava_2flang_2fString_3b rfl) rfl (by show 2 * 0 + _ ≤ _; exact Nat.le_of_eq rfl) (hb hby at_141)
        obtain ⟨rfl, N99q, e99⟩ := q99
        have N99 := Fr.app N98 N99q
        refine own_st (T99.setTop (mkF m 144 #[.val (.int i), .val (.int j), .val (.int f), .val (.ref b1), .val (.ref b9), .val (.ref b21), .val (.ref a83), .val (.ref o91), .val (.int (1 : Int32)), .unset, .unset] [(.ref a83)])) st99 ?_
        refine own_st (T99.setTop (mkF m 146 #[.val (.int i), .val (.int j), .val (.int f), .val (.ref b1), .val (.ref b9), .val (.ref b21), .val (.ref a83), .val (.ref o91), .val (.int (1 : Int32)), .unset, .unset] [(.ref a83), (.ref a83)])) (fun tq kq => XS.aload X99.here hx rfl (hb hby at_144) rfl (by rfl) kq) ?_
        refine own_st (T99.setTop (mkF m 149 #[.val (.int i), .val (.int j), .val (.int f), .val (.ref b1), .val (.ref b9), .val (.ref b21), .val (.ref a83), .val (.ref o91), .val (.int (1 : Int32)), .unset, .unset] [])) (fun tq kq => Jvm.RoadKit.acmp (g := (mkF m 146 #[.val (.int i), .val (.int j), .val (.int f), .val (.ref b1), .val (.ref b9), .val (.ref b21), .val (.ref a83), .val (.ref o91), .val (.int (1 : Int32)), .unset, .unset] [(.ref a83), (.ref a83)])) X99 hx rfl (by rfl) (by rfl) (pc0 := 146) (pc' := 149) (same := true) rfl (hb hby at_146) rfl (decide_eq_true (congrArg Value.ref (rfl : a83 = a83))) (by decide) (by decide) kq) ?_
        refine own_st (T99.setTop (mkF m 150 #[.val (.int i), .val (.int j), .val (.int f), .val (.ref b1), .val (.ref b9), .val (.ref b21), .val (.ref a83), .val (.ref o91), .val (.int (1 : Int32)), .unset, .unset] [(.int (1 : Int32))])) (fun tq kq => XS.iconst X99.here hx rfl (hb hby at_149) kq) ?_
        refine own_st (T99.setTop (mkF m 154 #[.val (.int i), .val (.int j), .val (.int f), .val (.ref b1), .val (.ref b9), .val (.ref b21), .val (.ref a83), .val (.ref o91), .val (.int (1 : Int32)), .unset, .unset] [(.int (1 : Int32))])) (fun tq kq => XS.goto X99.here hx rfl (pc0 := 150) (pc' := 154) rfl (hb hby at_150) (by decide) (by decide) kq) ?_
        refine own_st (T99.setTop (mkF m 156 #[.val (.int i), .val (.int j), .val (.int f), .val (.ref b1), .val (.ref b9), .val (.ref b21), .val (.ref a83), .val (.ref o91), .val (.int (1 : Int32)), .val (.int (1 : Int32)), .unset] [])) (fun tq kq => XS.istore X99.here hx rfl (hb hby at_154) rfl (l' := #[.val (.int i), .val (.int j), .val (.int f), .val (.ref b1), .val (.ref b9), .val (.ref b21), .val (.ref a83), .val (.ref o91), .val (.int (1 : Int32)), .val (.int (1 : Int32)), .unset]) rfl kq) ?_
        refine own_st (T99.setTop (mkF m 158 #[.val (.int i), .val (.int j), .val (.int f), .val (.ref b1), .val (.ref b9), .val (.ref b21), .val (.ref a83), .val (.ref o91), .val (.int (1 : Int32)), .val (.int (1 : Int32)), .unset] [(.ref o91)])) (fun tq kq => XS.aload X99.here hx rfl (hb hby at_156) rfl (by rfl) kq) ?_
        obtain ⟨v100, T100, L100, X100, q100, st100⟩ := own_callV X99 hx hZ83 hown83 (y := (⟨"com/example/gridclause/gridclause/cli/Option", "use", "()Lcom/example/gridclause/gridclause/cli/Option$Use;"⟩ : MethodName)) (z := (⟨"com/example/gridclause/gridclause/cli/Option", "use", "()Lcom/example/gridclause/gridclause/cli/Option$Use;"⟩ : MethodName)) (hw _ (List.mem_of_getElem? (i := 67) rfl)) (hw _ (List.mem_of_getElem? (i := 68) rfl)) (notFace_of_selects (args := a0) (hw _ (List.mem_of_getElem? (i := 70) rfl))) (hw _ (List.mem_of_getElem? (i := 70) rfl)) (hw _ (List.mem_of_getElem? (i := 69) rfl)) (hw _ (List.mem_of_getElem? (i := 35) rfl)) (hw _ (List.mem_of_getElem? (i := 71) rfl)) E91q (b := o91) (argsL := []) (own_get_Option_use l Z a0 hw [] o91 wu T91.heap O91 f91_2) 0 (by decide) (by decide) (by decide) (by decide) (by decide) e99 (g := (mkF m 158 #[.val (.int i), .val (.int j), .val (.int f), .val (.ref b1), .val (.ref b9), .val (.ref b21), .val (.ref a83), .val (.ref o91), .val (.int (1 : Int32)), .val (.int (1 : Int32)), .unset] [(.ref o91)])) rfl (by rw [hml]; rfl) [] (lenOf own_pd__28_29Lcom_2fexample_2fgridclause_2fgridclause_2fcli_2fOption_24Use_3b rfl) rfl (by show 2 * 0 + _ ≤ _; exact Nat.le_of_eq rfl) (hb hby at_158)
        obtain ⟨rfl, N100q, e100⟩ := q100
        have N100 := Fr.app N99 N100q
        refine own_st (T100.setTop (mkF m 161 #[.val (.int i), .val (.int j), .val (.int f), .val (.ref b1), .val (.ref b9), .val (.ref b21), .val (.ref a83), .val (.ref o91), .val (.int (1 : Int32)), .val (.int (1 : Int32)), .unset] [(.ref wu)])) st100 ?_
        obtain ⟨T101, X101, e101, st101⟩ := getS2 X100 hx hZ83 hown83 (host := "") (Or.inl (hw _ (List.mem_of_getElem? (i := 72) rfl))) Via.refl e100 (SU.ext O91.2) (g := (mkF m 161 #[.val (.int i), .val (.int j), .val (.int f), .val (.ref b1), .val (.ref b9), .val (.ref b21), .val (.ref a83), .val (.ref o91), .val (.int (1 : Int32)), .val (.int (1 : Int32)), .unset] [(.ref wu)])) rfl (hb hby at_161)
        refine own_st (T101.setTop (mkF m 164 #[.val (.int i), .val (.int j), .val (.int f), .val (.ref b1), .val (.ref b9), .val (.ref b21), .val (.ref a83), .val (.ref o91), .val (.int (1 : Int32)), .val (.int (1 : Int32)), .unset] [(.ref wu), (.ref wu)])) st101 ?_
        refine own_st (T101.setTop (mkF m 167 #[.val (.int i), .val (.int j), .val (.int f), .val (.ref b1), .val (.ref b9), .val (.ref b21), .val (.ref a83), .val (.ref o91), .val (.int (1 : Int32)), .val (.int (1 : Int32)), .unset] [])) (fun tq kq => Jvm.RoadKit.acmp (g := (mkF m 164 #[.val (.int i), .val (.int j), .val (.int f), .val (.ref b1), .val (.ref b9), .val (.ref b21), .val (.ref a83), .val (.ref o91), .val (.int (1 : Int32)), .val (.int (1 : Int32)), .unset] [(.ref wu), (.ref wu)])) X101 hx rfl (by rfl) (by rfl) (pc0 := 164) (pc' := 167) (same := true) rfl (hb hby at_164) rfl (decide_eq_true (congrArg Value.ref (rfl : wu = wu))) (by decide) (by decide) kq) ?_
        refine own_st (T101.setTop (mkF m 168 #[.val (.int i), .val (.int j), .val (.int f), .val (.ref b1), .val (.ref b9), .val (.ref b21), .val (.ref a83), .val (.ref o91), .val (.int (1 : Int32)), .val (.int (1 : Int32)), .unset] [(.int (1 : Int32))])) (fun tq kq => XS.iconst X101.here hx rfl (hb hby at_167) kq) ?_
        refine own_st (T101.setTop (mkF m 172 #[.val (.int i), .val (.int j), .val (.int f), .val (.ref b1), .val (.ref b9), .val (.ref b21), .val (.ref a83), .val (.ref o91), .val (.int (1 : Int32)), .val (.int (1 : Int32)), .unset] [(.int (1 : Int32))])) (fun tq kq => XS.goto X101.here hx rfl (pc0 := 168) (pc' := 172) rfl (hb hby at_168) (by decide) (by decide) kq) ?_
        refine own_st (T101.setTop (mkF m 174 #[.val (.int i), .val (.int j), .val (.int f), .val (.ref b1), .val (.ref b9), .val (.ref b21), .val (.ref a83), .val (.ref o91), .val (.int (1 : Int32)), .val (.int (1 : Int32)), .val (.int (1 : Int32))] [])) (fun tq kq => XS.istore X101.here hx rfl (hb hby at_172) rfl (l' := #[.val (.int i), .val (.int j), .val (.int f), .val (.ref b1), .val (.ref b9), .val (.ref b21), .val (.ref a83), .val (.ref o91), .val (.int (1 : Int32)), .val (.int (1 : Int32)), .val (.int (1 : Int32))]) rfl kq) ?_
        refine own_st (T101.setTop (mkF m 176 #[.val (.int i), .val (.int j), .val (.int f), .val (.ref b1), .val (.ref b9), .val (.ref b21), .val (.ref a83), .val (.ref o91), .val (.int (1 : Int32)), .val (.int (1 : Int32)), .val (.int (1 : Int32))] [(.int (1 : Int32))])) (fun tq kq => XS.iload X101.here hx rfl (hb hby at_174) rfl kq) ?_
        refine own_st (T101.setTop (mkF m 179 #[.val (.int i), .val (.int j), .val (.int f), .val (.ref b1), .val (.ref b9), .val (.ref b21), .val (.ref a83), .val (.ref o91), .val (.int (1 : Int32)), .val (.int (1 : Int32)), .val (.int (1 : Int32))] [])) (fun tq kq => XS.ifNo X101.here hx rfl (hb hby at_176) rfl ((if0 _ _).trans (feq ((by decide) : ¬ ((1 : Int32) = (0 : Int32)))).1) kq) ?_
        refine own_st (T101.setTop (mkF m 181 #[.val (.int i), .val (.int j), .val (.int f), .val (.ref b1), .val (.ref b9), .val (.ref b21), .val (.ref a83), .val (.ref o91), .val (.int (1 : Int32)), .val (.int (1 : Int32)), .val (.int (1 : Int32))] [(.int (1 : Int32))])) (fun tq kq => XS.iload X101.here hx rfl (hb hby at_179) rfl kq) ?_
        refine own_st (T101.setTop (mkF m 184 #[.val (.int i), .val (.int j), .val (.int f), .val (.ref b1), .val (.ref b9), .val (.ref b21), .val (.ref a83), .val (.ref o91), .val (.int (1 : Int32)), .val (.int (1 : Int32)), .val (.int (1 : Int32))] [])) (fun tq kq => XS.ifNo X101.here hx rfl (hb hby at_181) rfl ((if0 _ _).trans (feq ((by decide) : ¬ ((1 : Int32) = (0 : Int32)))).1) kq) ?_
        refine own_st (T101.setTop (mkF m 186 #[.val (.int i), .val (.int j), .val (.int f), .val (.ref b1), .val (.ref b9), .val (.ref b21), .val (.ref a83), .val (.ref o91), .val (.int (1 : Int32)), .val (.int (1 : Int32)), .val (.int (1 : Int32))] [(.int (1 : Int32))])) (fun tq kq => XS.iload X101.here hx rfl (hb hby at_184) rfl kq) ?_
        refine own_st (T101.setTop (mkF m 189 #[.val (.int i), .val (.int j), .val (.int f), .val (.ref b1), .val (.ref b9), .val (.ref b21), .val (.ref a83), .val (.ref o91), .val (.int (1 : Int32)), .val (.int (1 : Int32)), .val (.int (1 : Int32))] [])) (fun tq kq => XS.ifNo X101.here hx rfl (hb hby at_186) rfl ((if0 _ _).trans (feq ((by decide) : ¬ ((1 : Int32) = (0 : Int32)))).1) kq) ?_
        refine own_st (T101.setTop (mkF m 190 #[.val (.int i), .val (.int j), .val (.int f), .val (.ref b1), .val (.ref b9), .val (.ref b21), .val (.ref a83), .val (.ref o91), .val (.int (1 : Int32)), .val (.int (1 : Int32)), .val (.int (1 : Int32))] [(.int (1 : Int32))])) (fun tq kq => XS.iconst X101.here hx rfl (hb hby at_189) kq) ?_
        refine own_st (T101.setTop (mkF m 194 #[.val (.int i), .val (.int j), .val (.int f), .val (.ref b1), .val (.ref b9), .val (.ref b21), .val (.ref a83), .val (.ref o91), .val (.int (1 : Int32)), .val (.int (1 : Int32)), .val (.int (1 : Int32))] [(.int (1 : Int32))])) (fun tq kq => XS.goto X101.here hx rfl (pc0 := 190) (pc' := 194) rfl (hb hby at_190) (by decide) (by decide) kq) ?_
        exact own_retW X101 hlk hS83 (Nat.le_trans hk83 K91q.1) hZ83 hEL R91 (v := some (.int (1 : Int32))) (fun h => by rw [hret] at h; cases h) e101 (fun vm1 C1 => ⟨rfl, N100⟩) (by decide) (by decide) (fun fs hr => own_retN X101 hx (t := .boolean) hret (by simp) (hb hby at_194) rfl hr)
      · skip
        refine own_st (T83.setTop (mkF m 102 #[.val (.int i), .val (.int j), .val (.int f), .val (.ref b1), .val (.ref b9), .val (.ref b21), .val (.ref a83), .unset, .unset, .unset, .unset] [])) (fun tq kq => XS.ifNo X83.here hx rfl (hb hby at_99) rfl ((if0 _ _).trans (feq (c99_90 : ¬ ((f &&& (4 : Int32)) = (0 : Int32)))).1) kq) ?_
        refine own_st (T83.setTop (mkF m 104 #[.val (.int i), .val (.int j), .val (.int f), .val (.ref b1), .val (.ref b9), .val (.ref b21), .val (.ref a83), .unset, .unset, .unset, .unset] [(.ref b21)])) (fun tq kq => XS.aload X83.here hx rfl (hb hby at_102) rfl (by rfl) kq) ?_
        refine own_st (T83.setTop (mkF m 106 #[.val (.int i), .val (.int j), .val (.int f), .val (.ref b1), .val (.ref b9), .val (.ref b21), .val (.ref b21), .unset, .unset, .unset, .unset] [])) (fun tq kq => XS.astore X83.here hx rfl (hb hby at_104) rfl (by rfl) (l' := #[.val (.int i), .val (.int j), .val (.int f), .val (.ref b1), .val (.ref b9), .val (.ref b21), .val (.ref b21), .unset, .unset, .unset, .unset]) rfl kq) ?_
        refine own_st (T83.setTop (mkF m 108 #[.val (.int i), .val (.int j), .val (.int f), .val (.ref b1), .val (.ref b9), .val (.ref b21), .val (.ref b21), .unset, .unset, .unset, .unset] [(.ref b21)])) (fun tq kq => XS.aload X83.here hx rfl (hb hby at_106) rfl (by rfl) kq) ?_
        refine own_st (T83.setTop (mkF m 110 #[.val (.int i), .val (.int j), .val (.int f), .val (.ref b1), .val (.ref b9), .val (.ref b21), .val (.ref b21), .unset, .unset, .unset, .unset] [(.ref b21), (.ref b21)])) (fun tq kq => XS.aload X83.here hx rfl (hb hby at_108) rfl (by rfl) kq) ?_
        obtain ⟨v102, T102, L102, X102, q102, st102⟩ := own_callS X83 hx hZ83 hown83 (hw _ (List.mem_of_getElem? (i := 33) rfl)) (hw _ (List.mem_of_getElem? (i := 34) rfl)) (hw _ (List.mem_of_getElem? (i := 35) rfl)) (hw _ (List.mem_of_getElem? (i := 36) rfl)) (argsL := [(.ref b21), (.ref b21)]) (own_optional l Z a0 hw [] b21 b21 wu h83 O83 SU) 0 (by decide) (by decide) (by decide) (by decide) (by decide) e83 (g := (mkF m 110 #[.val (.int i), .val (.int j), .val (.int f), .val (.ref b1), .val (.ref b9), .val (.ref b21), .val (.ref b21), .unset, .unset, .unset, .unset] [(.ref b21), (.ref b21)])) rfl (by rw [hml]; rfl) [] (lenOf own_pd__28Ljava_2flang_2fString_3bLjava_2flang_2fString_3b_29Lcom_2fexample_2fgridclause_2fgridclause_2fcli_2fOption_3b rfl) rfl (by show 2 * 0 + _ ≤ _; exact Nat.le_of_eq rfl) (hb hby at_110)
        obtain ⟨o102, rfl, N102q, K102q, z102, E102q, f102_0, f102_1, f102_2⟩ := q102
        have N102 := Fr.app N26 N102q
        have f103 := (f84.keep K102q nin0)
        have f104 := (f85.keep K102q nin0)
        have f105 := (f86.keep K102q)
        have f106 := (f87.keep K102q nin0)
        have f107 := (f88.keep K102q nin0)
        have f108 := (f89.keep K102q nin0)
        have O102 := O83.keep K102q all0
        have R102 := R83.trans (CHr.keep K102q all0 R83.1)
        have sf102_b1 := Safe.keep K102q all0 R83.1 sf83_b1
        have sf102_b9 := Safe.keep K102q all0 R83.1 sf83_b9
        have sf102_b21 := Safe.keep K102q all0 R83.1 sf83_b21
        have K102 := K83.trans K102q all0
        refine own_st (T102.setTop (mkF m 113 #[.val (.int i), .val (.int j), .val (.int f), .val (.ref b1), .val (.ref b9), .val (.ref b21), .val (.ref b21), .unset, .unset, .unset, .unset] [(.ref o102)])) st102 ?_
        refine own_st (T102.setTop (mkF m 115 #[.val (.int i), .val (.int j), .val (.int f), .val (.ref b1), .val (.ref b9), .val (.ref b21), .val (.ref b21), .val (.ref o102), .unset, .unset, .unset] [])) (fun tq kq => XS.astore X102.here hx rfl (hb hby at_113) rfl (by rfl) (l' := #[.val (.int i), .val (.int j), .val (.int f), .val (.ref b1), .val (.ref b9), .val (.ref b21), .val (.ref b21), .val (.ref o102), .unset, .unset, .unset]) rfl kq) ?_
        refine own_st (T102.setTop (mkF m 117 #[.val (.int i), .val (.int j), .val (.int f), .val (.ref b1), .val (.ref b9), .val (.ref b21), .val (.ref b21), .val (.ref o102), .unset, .unset, .unset] [(.ref o102)])) (fun tq kq => XS.aload X102.here hx rfl (hb hby at_115) rfl (by rfl) kq) ?_
        refine own_st (T102.setTop (mkF m 122 #[.val (.int i), .val (.int j), .val (.int f), .val (.ref b1), .val (.ref b9), .val (.ref b21), .val (.ref b21), .val (.ref o102), .unset, .unset, .unset] [])) (fun tq kq => XS.ifnonnullYes X102.here hx rfl (pc0 := 117) (pc' := 122) rfl (hb hby at_117) rfl (by decide) (by decide) kq) ?_
        refine own_st (T102.setTop (mkF m 124 #[.val (.int i), .val (.int j), .val (.int f), .val (.ref b1), .val (.ref b9), .val (.ref b21), .val (.ref b21), .val (.ref o102), .unset, .unset, .unset] [(.ref o102)])) (fun tq kq => XS.aload X102.here hx rfl (hb hby at_122) rfl (by rfl) kq) ?_
        obtain ⟨v109, T109, L109, X109, q109, st109⟩ := own_callV X102 hx hZ83 hown83 (y := (⟨"com/example/gridclause/gridclause/cli/Option", "name", "()Ljava/lang/String;"⟩ : MethodName)) (z := (⟨"com/example/gridclause/gridclause/cli/Option", "name", "()Ljava/lang/String;"⟩ : MethodName)) (hw _ (List.mem_of_getElem? (i := 57) rfl)) (hw _ (List.mem_of_getElem? (i := 58) rfl)) (notFace_of_selects (args := a0) (hw _ (List.mem_of_getElem? (i := 60) rfl))) (hw _ (List.mem_of_getElem? (i := 60) rfl)) (hw _ (List.mem_of_getElem? (i := 59) rfl)) (hw _ (List.mem_of_getElem? (i := 35) rfl)) (hw _ (List.mem_of_getElem? (i := 61) rfl)) E102q (b := o102) (argsL := []) (own_get_Option_name l Z a0 hw [] o102 b21 T102.heap O102 f102_0) 0 (by decide) (by decide) (by decide) (by decide) (by decide) rfl (g := (mkF m 124 #[.val (.int i), .val (.int j), .val (.int f), .val (.ref b1), .val (.ref b9), .val (.ref b21), .val (.ref b21), .val (.ref o102), .unset, .unset, .unset] [(.ref o102)])) rfl (by rw [hml]; rfl) [] (lenOf own_pd__28_29Ljava_2flang_2fString_3b rfl) rfl (by show 2 * 0 + _ ≤ _; exact Nat.le_of_eq rfl) (hb hby at_124)
        obtain ⟨rfl, N109q, e109⟩ := q109
        have N109 := Fr.app N102 N109q
        refine own_st (T109.setTop (mkF m 127 #[.val (.int i), .val (.int j), .val (.int f), .val (.ref b1), .val (.ref b9), .val (.ref b21), .val (.ref b21), .val (.ref o102), .unset, .unset, .unset] [(.ref b21)])) st109 ?_
        refine own_st (T109.setTop (mkF m 129 #[.val (.int i), .val (.int j), .val (.int f), .val (.ref b1), .val (.ref b9), .val (.ref b21), .val (.ref b21), .val (.ref o102), .unset, .unset, .unset] [(.ref b21), (.ref b21)])) (fun tq kq => XS.aload X109.here hx rfl (hb hby at_127) rfl (by rfl) kq) ?_
        refine own_st (T109.setTop (mkF m 132 #[.val (.int i), .val (.int j), .val (.int f), .val (.ref b1), .val (.ref b9), .val (.ref b21), .val (.ref b21), .val (.ref o102), .unset, .unset, .unset] [])) (fun tq kq => Jvm.RoadKit.acmp (g := (mkF m 129 #[.val (.int i), .val (.int j), .val (.int f), .val (.ref b1), .val (.ref b9), .val (.ref b21), .val (.ref b21), .val (.ref o102), .unset, .unset, .unset] [(.ref b21), (.ref b21)])) X109 hx rfl (by rfl) (by rfl) (pc0 := 129) (pc' := 132) (same := true) rfl (hb hby at_129) rfl (decide_eq_true (congrArg Value.ref (rfl : b21 = b21))) (by decide) (by decide) kq) ?_
        refine own_st (T109.setTop (mkF m 133 #[.val (.int i), .val (.int j), .val (.int f), .val (.ref b1), .val (.ref b9), .val (.ref b21), .val (.ref b21), .val (.ref o102), .unset, .unset, .unset] [(.int (1 : Int32))])) (fun tq kq => XS.iconst X109.here hx rfl (hb hby at_132) kq) ?_
        refine own_st (T109.setTop (mkF m 137 #[.val (.int i), .val (.int j), .val (.int f), .val (.ref b1), .val (.ref b9), .val (.ref b21), .val (.ref b21), .val (.ref o102), .unset, .unset, .unset] [(.int (1 : Int32))])) (fun tq kq => XS.goto X109.here hx rfl (pc0 := 133) (pc' := 137) rfl (hb hby at_133) (by decide) (by decide) kq) ?_
        refine own_st (T109.setTop (mkF m 139 #[.val (.int i), .val (.int j), .val (.int f), .val (.ref b1), .val (.ref b9), .val (.ref b21), .val (.ref b21), .val (.ref o102), .val (.int (1 : Int32)), .unset, .unset] [])) (fun tq kq => XS.istore X109.here hx rfl (hb hby at_137) rfl (l' := #[.val (.int i), .val (.int j), .val (.int f), .val (.ref b1), .val (.ref b9), .val (.ref b21), .val (.ref b21), .val (.ref o102), .val (.int (1 : Int32)), .unset, .unset]) rfl kq) ?_
        refine own_st (T109.setTop (mkF m 141 #[.val (.int i), .val (.int j), .val (.int f), .val (.ref b1), .val (.ref b9), .val (.ref b21), .val (.ref b21), .val (.ref o102), .val (.int (1 : Int32)), .unset, .unset] [(.ref o102)])) (fun tq kq => XS.aload X109.here hx rfl (hb hby at_139) rfl (by rfl) kq) ?_
        obtain ⟨v110, T110, L110, X110, q110, st110⟩ := own_callV X109 hx hZ83 hown83 (y := (⟨"com/example/gridclause/gridclause/cli/Option", "label", "()Ljava/lang/String;"⟩ : MethodName)) (z := (⟨"com/example/gridclause/gridclause/cli/Option", "label", "()Ljava/lang/String;"⟩ : MethodName)) (hw _ (List.mem_of_getElem? (i := 62) rfl)) (hw _ (List.mem_of_getElem? (i := 63) rfl)) (notFace_of_selects (args := a0) (hw _ (List.mem_of_getElem? (i := 65) rfl))) (hw _ (List.mem_of_getElem? (i := 65) rfl)) (hw _ (List.mem_of_getElem? (i := 64) rfl)) (hw _ (List.mem_of_getElem? (i := 35) rfl)) (hw _ (List.mem_of_getElem? (i := 66) rfl)) E102q (b := o102) (argsL := []) (own_get_Option_label l Z a0 hw [] o102 b21 T102.heap O102 f102_1) 0 (by decide) (by decide) (by decide) (by decide) (by decide) e109 (g := (mkF m 141 #[.val (.int i), .val (.int j), .val (.int f), .val (.ref b1), .val (.ref b9), .val (.ref b21), .val (.ref b21), .val (.ref o102), .val (.int (1 : Int32)), .unset, .unset] [(.ref o102)])) rfl (by rw [hml]; rfl) [] (lenOf own_pd__28_29Ljava_2flang_2fString_3b rfl) rfl (by show 2 * 0 + _ ≤ _; exact Nat.le_of_eq rfl) (hb hby at_141)
        obtain ⟨rfl, N110q, e110⟩ := q110
        have N110 := Fr.app N109 N110q
        refine own_st (T110.setTop (mkF m 144 #[.val (.int i), .val (.int j), .val (.int f), .val (.ref b1), .val (.ref b9), .val (.ref b21), .val (.ref b21), .val (.ref o102), .val (.int (1 : Int32)), .unset, .unset] [(.ref b21)])) st110 ?_
        refine own_st (T110.setTop (mkF m 146 #[.val (.int i), .val (.int j), .val (.int f), .val (.ref b1), .val (.ref b9), .val (.ref b21), .val (.ref b21), .val (.ref o102), .val (.int (1 : Int32)), .unset, .unset] [(.ref b21), (.ref b21)])) (fun tq kq => XS.aload X110.here hx rfl (hb hby at_144) rfl (by rfl) kq) ?_
        refine own_st (T110.setTop (mkF m 149 #[.val (.int i), .val (.int j), .val (.int f), .val (.ref b1), .val (.ref b9), .val (.ref b21), .val (.ref b21), .val (.ref o102), .val (.int (1 : Int32)), .unset, .unset] [])) (fun tq kq => Jvm.RoadKit.acmp (g := (mkF m 146 #[.val (.int i), .val (.int j), .val (.int f), .val (.ref b1), .val (.ref b9), .val (.ref b21), .val (.ref b21), .val (.ref o102), .val (.int (1 : Int32)), .unset, .unset] [(.ref b21), (.ref b21)])) X110 hx rfl (by rfl) (by rfl) (pc0 := 146) (pc' := 149) (same := true) rfl (hb hby at_146) rfl (decide_eq_true (congrArg Value.ref (rfl : b21 = b21))) (by decide) (by decide) kq) ?_
        refine own_st (T110.setTop (mkF m 150 #[.val (.int i), .val (.int j), .val (.int f), .val (.ref b1), .val (.ref b9), .val (.ref b21), .val (.ref b21), .val (.ref o102), .val (.int (1 : Int32)), .unset, .unset] [(.int (1 : Int32))])) (fun tq kq => XS.iconst X110.here hx rfl (hb hby at_149) kq) ?_
        refine own_st (T110.setTop (mkF m 154 #[.val (.int i), .val (.int j), .val (.int f), .val (.ref b1), .val (.ref b9), .val (.ref b21), .val (.ref b21), .val (.ref o102), .val (.int (1 : Int32)), .unset, .unset] [(.int (1 : Int32))])) (fun tq kq => XS.goto X110.here hx rfl (pc0 := 150) (pc' := 154) rfl (hb hby at_150) (by decide) (by decide) kq) ?_
        refine own_st (T110.setTop (mkF m 156 #[.val (.int i), .val (.int j), .val (.int f), .val (.ref b1), .val (.ref b9), .val (.ref b21), .val (.ref b21), .val (.ref o102), .val (.int (1 : Int32)), .val (.int (1 : Int32)), .unset] [])) (fun tq kq => XS.istore X110.here hx rfl (hb hby at_154) rfl (l' := #[.val (.int i), .val (.int j), .val (.int f), .val (.ref b1), .val (.ref b9), .val (.ref b21), .val (.ref b21), .val (.ref o102), .val (.int (1 : Int32)), .val (.int (1 : Int32)), .unset]) rfl kq) ?_
        refine own_st (T110.setTop (mkF m 158 #[.val (.int i), .val (.int j), .val (.int f), .val (.ref b1), .val (.ref b9), .val (.ref b21), .val (.ref b21), .val (.ref o102), .val (.int (1 : Int32)), .val (.int (1 : Int32)), .unset] [(.ref o102)])) (fun tq kq => XS.aload X110.here hx rfl (hb hby at_156) rfl (by rfl) kq) ?_
        obtain ⟨v111, T111, L111, X111, q111, st111⟩ := own_callV X110 hx hZ83 hown83 (y := (⟨"com/example/gridclause/gridclause/cli/Option", "use", "()Lcom/example/gridclause/gridclause/cli/Option$Use;"⟩ : MethodName)) (z := (⟨"com/example/gridclause/gridclause/cli/Option", "use", "()Lcom/example/gridclause/gridclause/cli/Option$Use;"⟩ : MethodName)) (hw _ (List.mem_of_getElem? (i := 67) rfl)) (hw _ (List.mem_of_getElem? (i := 68) rfl)) (notFace_of_selects (args := a0) (hw _ (List.mem_of_getElem? (i := 70) rfl))) (hw _ (List.mem_of_getElem? (i := 70) rfl)) (hw _ (List.mem_of_getElem? (i := 69) rfl)) (hw _ (List.mem_of_getElem? (i := 35) rfl)) (hw _ (List.mem_of_getElem? (i := 71) rfl)) E102q (b := o102) (argsL := []) (own_get_Option_use l Z a0 hw [] o102 wu T102.heap O102 f102_2) 0 (by decide) (by decide) (by decide) (by decide) (by decide) e110 (g := (mkF m 158 #[.val (.int i), .val (.int j), .val (.int f), .val (.ref b1), .val (.ref b9), .val (.ref b21), .val (.ref b21), .val (.ref o102), .val (.int (1 : Int32)), .val (.int (1 : Int32)), .unset] [(.ref o102)])) rfl (by rw [hml]; rfl) [] (lenOf own_pd__28_29Lcom_2fexample_2fgridclause_2fgridclause_2fcli_2fOption_24Use_3b rfl) rfl (by show 2 * 0 + _ ≤ _; exact Nat.le_of_eq rfl) (hb hby at_158)
        obtain ⟨rfl, N111q, e111⟩ := q111
        have N111 := Fr.app N110 N111q
        refine own_st (T111.setTop (mkF m 161 #[.val (.int i), .val (.int j), .val (.int f), .val (.ref b1), .val (.ref b9), .val (.ref b21), .val (.ref b21), .val (.ref o102), .val (.int (1 : Int32)), .val (.int (1 : Int32)), .unset] [(.ref wu)])) st111 ?_
        obtain ⟨T112, X112, e112, st112⟩ := getS2 X111 hx hZ83 hown83 (host := "") (Or.inl (hw _ (List.mem_of_getElem? (i := 72) rfl))) Via.refl e111 (SU.ext O102.2) (g := (mkF m 161 #[.val (.int i), .val (.int j), .val (.int f), .val (.ref b1), .val (.ref b9), .val (.ref b21), .val (.ref b21), .val (.ref o102), .val (.int (1 : Int32)), .val (.int (1 : Int32)), .unset] [(.ref wu)])) rfl (hb hby at_161)
        refine own_st (T112.setTop (mkF m 164 #[.val (.int i), .val (.int j), .val (.int f), .val (.ref b1), .val (.ref b9), .val (.ref b21), .val (.ref b21), .val (.ref o102), .val (.int (1 : Int32)), .val (.int (1 : Int32)), .unset] [(.ref wu), (.ref wu)])) st112 ?_
        refine own_st (T112.setTop (mkF m 167 #[.val (.int i), .val (.int j), .val (.int f), .val (.ref b1), .val (.ref b9), .val (.ref b21), .val (.ref b21), .val (.ref o102), .val (.int (1 : Int32)), .val (.int (1 : Int32)), .unset] [])) (fun tq kq => Jvm.RoadKit.acmp (g := (mkF m 164 #[.val (.int i), .val (.int j), .val (.int f), .val (.ref b1), .val (.ref b9), .val (.ref b21), .val (.ref b21), .val (.ref o102), .val (.int (1 : Int32)), .val (.int (1 : Int32)), .unset] [(.ref wu), (.ref wu)])) X112 hx rfl (by rfl) (by rfl) (pc0 := 164) (pc' := 167) (same := true) rfl (hb hby at_164) rfl (decide_eq_true (congrArg Value.ref (rfl : wu = wu))) (by decide) (by decide) kq) ?_
        refine own_st (T112.setTop (mkF m 168 #[.val (.int i), .val (.int j), .val (.int f), .val (.ref b1), .val (.ref b9), .val (.ref b21), .val (.ref b21), .val (.ref o102), .val (.int (1 : Int32)), .val (.int (1 : Int32)), .unset] [(.int (1 : Int32))])) (fun tq kq => XS.iconst X112.here hx rfl (hb hby at_167) kq) ?_
        refine own_st (T112.setTop (mkF m 172 #[.val (.int i), .val (.int j), .val (.int f), .val (.ref b1), .val (.ref b9), .val (.ref b21), .val (.ref b21), .val (.ref o102), .val (.int (1 : Int32)), .val (.int (1 : Int32)), .unset] [(.int (1 : Int32))])) (fun tq kq => XS.goto X112.here hx rfl (pc0 := 168) (pc' := 172) rfl (hb hby at_168) (by decide) (by decide) kq) ?_
        refine own_st (T112.setTop (mkF m 174 #[.val (.int i), .val (.int j), .val (.int f), .val (.ref b1), .val (.ref b9), .val (.ref b21), .val (.ref b21), .val (.ref o102), .val (.int (1 : Int32)), .val (.int (1 : Int32)), .val (.int (1 : Int32))] [])) (fun tq kq => XS.istore X112.here hx rfl (hb hby at_172) rfl (l' := #[.val (.int i), .val (.int j), .val (.int f), .val (.ref b1), .val (.ref b9), .val (.ref b21), .val (.ref b21), .val (.ref o102), .val (.int (1 : Int32)), .val (.int (1 : Int32)), .val (.int (1 : Int32))]) rfl kq) ?_
        refine own_st (T112.setTop (mkF m 176 #[.val (.int i), .val (.int j), .val (.int f), .val (.ref b1), .val (.ref b9), .val (.ref b21), .val (.ref b21), .val (.ref o102), .val (.int (1 : Int32)), .val (.int (1 : Int32)), .val (.int (1 : Int32))] [(.int (1 : Int32))])) (fun tq kq => XS.iload X112.here hx rfl (hb hby at_174) rfl kq) ?_
        refine own_st (T112.setTop (mkF m 179 #[.val (.int i), .val (.int j), .val (.int f), .val (.ref b1), .val (.ref b9), .val (.ref b21), .val (.ref b21), .val (.ref o102), .val (.int (1 : Int32)), .val (.int (1 : Int32)), .val (.int (1 : Int32))] [])) (fun tq kq => XS.ifNo X112.here hx rfl (hb hby at_176) rfl ((if0 _ _).trans (feq ((by decide) : ¬ ((1 : Int32) = (0 : Int32)))).1) kq) ?_
        refine own_st (T112.setTop (mkF m 181 #[.val (.int i), .val (.int j), .val (.int f), .val (.ref b1), .val (.ref b9), .val (.ref b21), .val (.ref b21), .val (.ref o102), .val (.int (1 : Int32)), .val (.int (1 : Int32)), .val (.int (1 : Int32))] [(.int (1 : Int32))])) (fun tq kq => XS.iload X112.here hx rfl (hb hby at_179) rfl kq) ?_
        refine own_st (T112.setTop (mkF m 184 #[.val (.int i), .val (.int j), .val (.int f), .val (.ref b1), .val (.ref b9), .val (.ref b21), .val (.ref b21), .val (.ref o102), .val (.int (1 : Int32)), .val (.int (1 : Int32)), .val (.int (1 : Int32))] [])) (fun tq kq => XS.ifNo X112.here hx rfl (hb hby at_181) rfl ((if0 _ _).trans (feq ((by decide) : ¬ ((1 : Int32) = (0 : Int32)))).1) kq) ?_
        refine own_st (T112.setTop (mkF m 186 #[.val (.int i), .val (.int j), .val (.int f), .val (.ref b1), .val (.ref b9), .val (.ref b21), .val (.ref b21), .val (.ref o102), .val (.int (1 : Int32)), .val (.int (1 : Int32)), .val (.int (1 : Int32))] [(.int (1 : Int32))])) (fun tq kq => XS.iload X112.here hx rfl (hb hby at_184) rfl kq) ?_
        refine own_st (T112.setTop (mkF m 189 #[.val (.int i), .val (.int j), .val (.int f), .val (.ref b1), .val (.ref b9), .val (.ref b21), .val (.ref b21), .val (.ref o102), .val (.int (1 : Int32)), .val (.int (1 : Int32)), .val (.int (1 : Int32))] [])) (fun tq kq => XS.ifNo X112.here hx rfl (hb hby at_186) rfl ((if0 _ _).trans (feq ((by decide) : ¬ ((1 : Int32) = (0 : Int32)))).1) kq) ?_
        refine own_st (T112.setTop (mkF m 190 #[.val (.int i), .val (.int j), .val (.int f), .val (.ref b1), .val (.ref b9), .val (.ref b21), .val (.ref b21), .val (.ref o102), .val (.int (1 : Int32)), .val (.int (1 : Int32)), .val (.int (1 : Int32))] [(.int (1 : Int32))])) (fun tq kq => XS.iconst X112.here hx rfl (hb hby at_189) kq) ?_
        refine own_st (T112.setTop (mkF m 194 #[.val (.int i), .val (.int j), .val (.int f), .val (.ref b1), .val (.ref b9), .val (.ref b21), .val (.ref b21), .val (.ref o102), .val (.int (1 : Int32)), .val (.int (1 : Int32)), .val (.int (1 : Int32))] [(.int (1 : Int32))])) (fun tq kq => XS.goto X112.here hx rfl (pc0 := 190) (pc' := 194) rfl (hb hby at_190) (by decide) (by decide) kq) ?_
        exact own_retW X112 hlk hS83 (Nat.le_trans hk83 K102q.1) hZ83 hEL R102 (v := some (.int (1 : Int32))) (fun h => by rw [hret] at h; cases h) e112 (fun vm1 C1 => ⟨rfl, N111⟩) (by decide) (by decide) (fun fs hr => own_retN X112 hx (t := .boolean) hret (by simp) (hb hby at_194) rfl hr)
  · skip
    refine own_st (T16.setTop (mkF m 59 #[.val (.int i), .val (.int j), .val (.int f), .val (.ref b1), .val (.ref b9), .unset, .unset, .unset, .unset, .unset, .unset] [])) (fun tq kq => XS.ifNo X16.here hx rfl (hb hby at_56) rfl ((if0 _ _).trans (feq (c56_20 : ¬ ((f &&& (1 : Int32)) = (0 : Int32)))).1) kq) ?_
    obtain ⟨a113, T113, h113, k113, X113, e113, E113, hS113, hk113, hZ113, hown113, C113, -, st113⟩ := ldcOH X16 hx hZ hown (hw _ (List.mem_of_getElem? (i := 30) rfl)) (own_wS hw) e16 hS0 (Nat.le_trans (Nat.le_trans (Nat.le_trans (Nat.le_trans (Nat.le_trans (Nat.le_trans (Nat.zero_le _) E1.1) (Nat.le_of_eq W3.size.symm)) (Nat.le_of_eq W6.size.symm)) E9.1) (Nat.le_of_eq W12.size.symm)) (Nat.le_of_eq W16.size.symm)) hEL R16.1 (g := (mkF m 59 #[.val (.int i), .val (.int j), .val (.int f), .val (.ref b1), .val (.ref b9), .unset, .unset, .unset, .unset, .unset, .unset] [])) rfl (hb hby at_59) (n := 0) (by decide) (by decide) (by decide) (by decide)
    have sf113_b1 := C113.safe f17.lt sf16_b1
    have sf113_b9 := C113.safe f19.lt sf16_b9
    have R113 := R16.trans C113
    have f114 := (f17.ext E113)
    have f115 := (f19.ext E113)
    have O113 := O16.ext E113
    have K113 := K16.ext E113
    refine own_st (T113.setTop (mkF m 61 #[.val (.int i), .val (.int j), .val (.int f), .val (.ref b1), .val (.ref b9), .unset, .unset, .unset, .unset, .unset, .unset] [(.ref a113)])) st113 ?_
    refine own_st (T113.setTop (mkF m 72 #[.val (.int i), .val (.int j), .val (.int f), .val (.ref b1), .val (.ref b9), .unset, .unset, .unset, .unset, .unset, .unset] [(.ref a113)])) (fun tq kq => XS.goto X113.here hx rfl (pc0 := 61) (pc' := 72) rfl (hb hby at_61) (by decide) (by decide) kq) ?_
    refine own_st (T113.setTop (mkF m 74 #[.val (.int i), .val (.int j), .val (.int f), .val (.ref b1), .val (.ref b9), .val (.ref a113), .unset, .unset, .unset, .unset, .unset] [])) (fun tq kq => XS.astore X113.here hx rfl (hb hby at_72) rfl (by rfl) (l' := #[.val (.int i), .val (.int j), .val (.int f), .val (.ref b1), .val (.ref b9), .val (.ref a113), .unset, .unset, .unset, .unset, .unset]) rfl kq) ?_
    refine own_st (T113.setTop (mkF m 75 #[.val (.int i), .val (.int j), .val (.int f), .val (.ref b1), .val (.ref b9), .val (.ref a113), .unset, .unset, .unset, .unset, .unset] [(.int f)])) (fun tq kq => XS.iloadN X113.here hx rfl (hb hby at_74) rfl kq) ?_
    refine own_st (T113.setTop (mkF m 76 #[.val (.int i), .val (.int j), .val (.int f), .val (.ref b1), .val (.ref b9), .val (.ref a113), .unset, .unset, .unset, .unset, .unset] [(.int (2 : Int32)), (.int f)])) (fun tq kq => XS.iconst X113.here hx rfl (hb hby at_75) kq) ?_
    refine own_st (T113.setTop (mkF m 77 #[.val (.int i), .val (.int j), .val (.int f), .val (.ref b1), .val (.ref b9), .val (.ref a113), .unset, .unset, .unset, .unset, .unset] [(.int (f &&& (2 : Int32)))])) (fun tq kq => XS.iand X113.here hx rfl (hb hby at_76) rfl kq) ?_
    by_cases c77_116 : (f &&& (2 : Int32)) = (0 : Int32)
    · skip
      refine own_st (T113.setTop (mkF m 85 #[.val (.int i), .val (.int j), .val (.int f), .val (.ref b1), .val (.ref b9), .val (.ref a113), .unset, .unset, .unset, .unset, .unset] [])) (fun tq kq => XS.ifYes X113.here hx rfl (pc0 := 77) (pc' := 85) rfl (hb hby at_77) rfl ((if0 _ _).trans (teq (c77_116 : (f &&& (2 : Int32)) = (0 : Int32))).1) (by decide) (by decide) kq) ?_
      obtain ⟨T117, h117, X117, e117, E117, A117, D117, -, st117⟩ := newO X113 hx hZ113 hown113 (hw _ (List.mem_of_getElem? (i := 1) rfl)) (hw _ (List.mem_of_getElem? (i := 2) rfl)) (hw _ (List.mem_of_getElem? (i := 3) rfl)) e113 (g := (mkF m 85 #[.val (.int i), .val (.int j), .val (.int f), .val (.ref b1), .val (.ref b9), .val (.ref a113), .unset, .unset, .unset, .unset, .unset] [])) rfl (hb hby at_85) (by decide) (by decide)
      obtain ⟨b117, g117⟩ : ∃ z, z = h113.size := ⟨_, rfl⟩
      have z117 : Z.heap.size ≤ b117 := Nat.le_trans O113.2.1 (Nat.le_of_eq g117.symm)
      have neb1_117 : b1 ≠ b117 := Nat.ne_of_lt (Nat.lt_of_lt_of_le f114.lt (Nat.le_of_eq g117.symm))
      have neb9_117 : b9 ≠ b117 := Nat.ne_of_lt (Nat.lt_of_lt_of_le f115.lt (Nat.le_of_eq g117.symm))
      have s117 : h0.size ≤ b117 := Nat.le_trans K113.1 (Nat.le_of_eq g117.symm)
      rw [← g117] at A117 D117 st117
      have f118 := (f114.ext E117)
      have f119 := (f115.ext E117)
      have R117 := R113.trans (CHr.ext E117 R113.1)
      have sf117_b1 := Safe.ext E117 R113.1 sf113_b1
      have sf117_b9 := Safe.ext E117 R113.1 sf113_b9
      have sf117_b117 := Safe.ext E117 R113.1 (Safe.new (Nat.le_of_eq g117.symm))
      have O117 := O113.ext E117
      have K117 := K113.ext E117
      have f120 : Fld Z h117 b117 "java/lang/String" "coder" "B" (.int (0 : Int32)) := D117 (Or.inr (hw _ (List.mem_of_getElem? (i := 27) rfl))) (ty := .byte) (by decide)
      have f121 : Fld Z h117 b117 "java/lang/String" "value" "[B" .null := D117 (Or.inr (hw _ (List.mem_of_getElem? (i := 29) rfl))) (ty := (.array .byte)) (by decide)
      refine own_st (T117.setTop (mkF m 88 #[.val (.int i), .val (.int j), .val (.int f), .val (.ref b1), .val (.ref b9), .val (.ref a113), .unset, .unset, .unset, .unset, .unset] [(.ref b117)])) st117 ?_
      refine own_st (T117.setTop (mkF m 89 #[.val (.int i), .val (.int j), .val (.int f), .val (.ref b1), .val (.ref b9), .val (.ref a113), .unset, .unset, .unset, .unset, .unset] [(.ref b117), (.ref b117)])) (fun tq kq => XS.dup X117.here hx rfl (hb hby at_88) rfl (by rfl) kq) ?_
      refine own_st (T117.setTop (mkF m 91 #[.val (.int i), .val (.int j), .val (.int f), .val (.ref b1), .val (.ref b9), .val (.ref a113), .unset, .unset, .unset, .unset, .unset] [(.ref b9), (.ref b117), (.ref b117)])) (fun tq kq => XS.aload X117.here hx rfl (hb hby at_89) rfl (by rfl) kq) ?_
      obtain ⟨v122, T122, L122, X122, q122, st122⟩ := own_callI X117 hx hZ113 hown113 (y := (⟨"java/lang/String", "<init>", "([C)V"⟩ : MethodName)) rfl (hw _ (List.mem_of_getElem? (i := 4) rfl)) (hw _ (List.mem_of_getElem? (i := 5) rfl)) (hw _ (List.mem_of_getElem? (i := 3) rfl)) (hw _ (List.mem_of_getElem? (i := 6) rfl)) (a := b117) (argsL := [(.ref b9)]) (own_sinit1_2 l Z a0 hw [] cz b117 b9 cA9 (j &&& (255 : Int32)) (((j.toUInt32 >>> ((8 : Int32) &&& 31).toUInt32).toInt32) &&& (255 : Int32)) h117 O117 SC hcz A117 f121 f120 z117 f119 neb9_117 (own_m0 _) (own_m1 _) (own_m0 _) (own_m1 _)) 1 (by decide) (by decide) (by decide) (by decide) (by decide) e117 (g := (mkF m 91 #[.val (.int i), .val (.int j), .val (.int f), .val (.ref b1), .val (.ref b9), .val (.ref a113), .unset, .unset, .unset, .unset, .unset] [(.ref b9), (.ref b117), (.ref b117)])) rfl (by rw [hml]; rfl) [(.ref b117)] (lenOf own_pd__28_5bC_29V rfl) rfl (by show 2 * 0 + _ ≤ _; exact Nat.le_of_eq rfl) (hb hby at_91)
      obtain ⟨b122, kb122, rfl, N122q, K122q, z122, s122q, fv122, fc122, f122q⟩ := q122
      have N122 := Fr.app N16 N122q
      have nf122_b1 : b1 ≠ b122 := Nat.ne_of_lt (Nat.lt_of_lt_of_le f118.lt s122q)
      have nf122_b9 : b9 ≠ b122 := Nat.ne_of_lt (Nat.lt_of_lt_of_le f119.lt s122q)
      have nf122_b117 : b117 ≠ b122 := Nat.ne_of_lt (Nat.lt_of_lt_of_le A117.lt s122q)
      have s122 : h0.size ≤ b122 := Nat.le_trans K117.1 s122q
      have f123 := (f118.keep K122q (ninS neb1_117 nin0))
      have f124 := (f119.keep K122q (ninS neb9_117 nin0))
      have f125 := (A117.keep K122q)
      have O122 := O117.keep K122q (allS z117 all0)
      have R122 := R117.trans (CHr.keep K122q (allS sf117_b117 all0) R117.1)
      have sf122_b1 := Safe.keep K122q (allS sf117_b117 all0) R117.1 sf117_b1
      have sf122_b9 := Safe.keep K122q (allS sf117_b117 all0) R117.1 sf117_b9
      have sf122_b117 := Safe.keep K122q (allS sf117_b117 all0) R117.1 sf117_b117
      have K122 := K117.trans K122q (allS (Or.inr s117) all0)
      refine own_st (T122.setTop (mkF m 94 #[.val (.int i), .val (.int j), .val (.int f), .val (.ref b1), .val (.ref b9), .val (.ref a113), .unset, .unset, .unset, .unset, .unset] [(.ref b117)])) st122 ?_
      refine own_st (T122.setTop (mkF m 96 #[.val (.int i), .val (.int j), .val (.int f), .val (.ref b1), .val (.ref b9), .val (.ref a113), .val (.ref b117), .unset, .unset, .unset, .unset] [])) (fun tq kq => XS.astore X122.here hx rfl (hb hby at_94) rfl (by rfl) (l' := #[.val (.int i), .val (.int j), .val (.int f), .val (.ref b1), .val (.ref b9), .val (.ref a113), .val (.ref b117), .unset, .unset, .unset, .unset]) rfl kq) ?_
      refine own_st (T122.setTop (mkF m 97 #[.val (.int i), .val (.int j), .val (.int f), .val (.ref b1), .val (.ref b9), .val (.ref a113), .val (.ref b117), .unset, .unset, .unset, .unset] [(.int f)])) (fun tq kq => XS.iloadN X122.here hx rfl (hb hby at_96) rfl kq) ?_
      refine own_st (T122.setTop (mkF m 98 #[.val (.int i), .val (.int j), .val (.int f), .val (.ref b1), .val (.ref b9), .val (.ref a113), .val (.ref b117), .unset, .unset, .unset, .unset] [(.int (4 : Int32)), (.int f)])) (fun tq kq => XS.iconst X122.here hx rfl (hb hby at_97) kq) ?_
      refine own_st (T122.setTop (mkF m 99 #[.val (.int i), .val (.int j), .val (.int f), .val (.ref b1), .val (.ref b9), .val (.ref a113), .val (.ref b117), .unset, .unset, .unset, .unset] [(.int (f &&& (4 : Int32)))])) (fun tq kq => XS.iand X122.here hx rfl (hb hby at_98) rfl kq) ?_
      by_cases c99_128 : (f &&& (4 : Int32)) = (0 : Int32)
      · skip
        refine own_st (T122.setTop (mkF m 106 #[.val (.int i), .val (.int j), .val (.int f), .val (.ref b1), .val (.ref b9), .val (.ref a113), .val (.ref b117), .unset, .unset, .unset, .unset] [])) (fun tq kq => XS.ifYes X122.here hx rfl (pc0 := 99) (pc' := 106) rfl (hb hby at_99) rfl ((if0 _ _).trans (teq (c99_128 : (f &&& (4 : Int32)) = (0 : Int32))).1) (by decide) (by decide) kq) ?_
        refine own_st (T122.setTop (mkF m 108 #[.val (.int i), .val (.int j), .val (.int f), .val (.ref b1), .val (.ref b9), .val (.ref a113), .val (.ref b117), .unset, .unset, .unset, .unset] [(.ref a113)])) (fun tq kq => XS.aload X122.here hx rfl (hb hby at_106) rfl (by rfl) kq) ?_
        refine own_st (T122.setTop (mkF m 110 #[.val (.int i), .val (.int j), .val (.int f), .val (.ref b1), .val (.ref b9), .val (.ref a113), .val (.ref b117), .unset, .unset, .unset, .unset] [(.ref b117), (.ref a113)])) (fun tq kq => XS.aload X122.here hx rfl (hb hby at_108) rfl (by rfl) kq) ?_
        obtain ⟨v129, T129, L129, X129, q129, st129⟩ := own_callS X122 hx hZ113 hown113 (hw _ (List.mem_of_getElem? (i := 33) rfl)) (hw _ (List.mem_of_getElem? (i := 34) rfl)) (hw _ (List.mem_of_getElem? (i := 35) rfl)) (hw _ (List.mem_of_getElem? (i := 36) rfl)) (argsL := [(.ref a113), (.ref b117)]) (own_optional l Z a0 hw [] a113 b117 wu T122.heap O122 SU) 0 (by decide) (by decide) (by decide) (by decide) (by decide) rfl (g := (mkF m 110 #[.val (.int i), .val (.int j), .val (.int f), .val (.ref b1), .val (.ref b9), .val (.ref a113), .val (.ref b117), .unset, .unset, .unset, .unset] [(.ref b117), (.ref a113)])) rfl (by rw [hml]; rfl) [] (lenOf own_pd__28Ljava_2flang_2fString_3bLjava_2flang_2fString_3b_29Lcom_2fexample_2fgridclause_2fgridclause_2fcli_2fOption_3b rfl) rfl (by show 2 * 0 + _ ≤ _; exact Nat.le_of_eq rfl) (hb hby at_110)
        obtain ⟨o129, rfl, N129q, K129q, z129, E129q, f129_0, f129_1, f129_2⟩ := q129
        have N129 := Fr.app N122 N129q
        have f130 := (f123.keep K129q nin0)
        have f131 := (f124.keep K129q nin0)
        have f132 := (f125.keep K129q)
        have f133 := (f122q.keep K129q nin0)
        have f134 := (fv122.keep K129q nin0)
        have f135 := (fc122.keep K129q nin0)
        have O129 := O122.keep K129q all0
        have R129 := R122.trans (CHr.keep K129q all0 R122.1)
        have sf129_b1 := Safe.keep K129q all0 R122.1 sf122_b1
        have sf129_b9 := Safe.keep K129q all0 R122.1 sf122_b9
        have sf129_b117 := Safe.keep K129q all0 R122.1 sf122_b117
        have K129 := K122.trans K129q all0
        refine own_st (T129.setTop (mkF m 113 #[.val (.int i), .val (.int j), .val (.int f), .val (.ref b1), .val (.ref b9), .val (.ref a113), .val (.ref b117), .unset, .unset, .unset, .unset] [(.ref o129)])) st129 ?_
        refine own_st (T129.setTop (mkF m 115 #[.val (.int i), .val (.int j), .val (.int f), .val (.ref b1), .val (.ref b9), .val (.ref a113), .val (.ref b117), .val (.ref o129), .unset, .unset, .unset] [])) (fun tq kq => XS.astore X129.here hx rfl (hb hby at_113) rfl (by rfl) (l' := #[.val (.int i), .val (.int j), .val (.int f), .val (.ref b1), .val (.ref b9), .val (.ref a113), .val (.ref b117), .val (.ref o129), .unset, .unset, .unset]) rfl kq) ?_
        refine own_st (T129.setTop (mkF m 117 #[.val (.int i), .val (.int j), .val (.int f), .val (.ref b1), .val (.ref b9), .val (.ref a113), .val (.ref b117), .val (.ref o129), .unset, .unset, .unset] [(.ref o129)])) (fun tq kq => XS.aload X129.here hx rfl (hb hby at_115) rfl (by rfl) kq) ?_
        refine own_st (T129.setTop (mkF m 122 #[.val (.int i), .val (.int j), .val (.int f), .val (.ref b1), .val (.ref b9), .val (.ref a113), .val (.ref b117), .val (.ref o129), .unset, .unset, .unset] [])) (fun tq kq => XS.ifnonnullYes X129.here hx rfl (pc0 := 117) (pc' := 122) rfl (hb hby at_117) rfl (by decide) (by decide) kq) ?_
        refine own_st (T129.setTop (mkF m 124 #[.val (.int i), .val (.int j), .val (.int f), .val (.ref b1), .val (.ref b9), .val (.ref a113), .val (.ref b117), .val (.ref o129), .unset, .unset, .unset] [(.ref o129)])) (fun tq kq => XS.aload X129.here hx rfl (hb hby at_122) rfl (by rfl) kq) ?_
        obtain ⟨v136, T136, L136, X136, q136, st136⟩ := own_callV X129 hx hZ113 hown113 (y := (⟨"com/example/gridclause/gridclause/cli/Option", "name", "()Ljava/lang/String;"⟩ : MethodName)) (z := (⟨"com/example/gridclause/gridclause/cli/Option", "name", "()Ljava/lang/String;"⟩ : MethodName)) (hw _ (List.mem_of_getElem? (i := 57) rfl)) (hw _ (List.mem_of_getElem? (i := 58) rfl)) (notFace_of_selects (args := a0) (hw _ (List.mem_of_getElem? (i := 60) rfl))) (hw _ (List.mem_of_getElem? (i := 60) rfl)) (hw _ (List.mem_of_getElem? (i := 59) rfl)) (hw _ (List.mem_of_getElem? (i := 35) rfl)) (hw _ (List.mem_of_getElem? (i := 61) rfl)) E129q (b := o129) (argsL := []) (own_get_Option_name l Z a0 hw [] o129 a113 T129.heap O129 f129_0) 0 (by decide) (by decide) (by decide) (by decide) (by decide) rfl (g := (mkF m 124 #[.val (.int i), .val (.int j), .val (.int f), .val (.ref b1), .val (.ref b9), .val (.ref a113), .val (.ref b117), .val (.ref o129), .unset, .unset, .unset] [(.ref o129)])) rfl (by rw [hml]; rfl) [] (lenOf own_pd__28_29Ljava_2flang_2fString_3b rfl) rfl (by show 2 * 0 + _ ≤ _; exact Nat.le_of_eq rfl) (hb hby at_124)
        obtain ⟨rfl, N136q, e136⟩ := q136
        have N136 := Fr.app N129 N136q
        refine own_st (T136.setTop (mkF m 127 #[.val (.int i), .val (.int j), .val (.int f), .val (.ref b1), .val (.ref b9), .val (.ref a113), .val (.ref b117), .val (.ref o129), .unset, .unset, .unset] [(.ref a113)])) st136 ?_
        refine own_st (T136.setTop (mkF m 129 #[.val (.int i), .val (.int j), .val (.int f), .val (.ref b1), .val (.ref b9), .val (.ref a113), .val (.ref b117), .val (.ref o129), .unset, .unset, .unset] [(.ref a113), (.ref a113)])) (fun tq kq => XS.aload X136.here hx rfl (hb hby at_127) rfl (by rfl) kq) ?_
        refine own_st (T136.setTop (mkF m 132 #[.val (.int i), .val (.int j), .val (.int f), .val (.ref b1), .val (.ref b9), .val (.ref a113), .val (.ref b117), .val (.ref o129), .unset, .unset, .unset] [])) (fun tq kq => Jvm.RoadKit.acmp (g := (mkF m 129 #[.val (.int i), .val (.int j), .val (.int f), .val (.ref b1), .val (.ref b9), .val (.ref a113), .val (.ref b117), .val (.ref o129), .unset, .unset, .unset] [(.ref a113), (.ref a113)])) X136 hx rfl (by rfl) (by rfl) (pc0 := 129) (pc' := 132) (same := true) rfl (hb hby at_129) rfl (decide_eq_true (congrArg Value.ref (rfl : a113 = a113))) (by decide) (by decide) kq) ?_
        refine own_st (T136.setTop (mkF m 133 #[.val (.int i), .val (.int j), .val (.int f), .val (.ref b1), .val (.ref b9), .val (.ref a113), .val (.ref b117), .val (.ref o129), .unset, .unset, .unset] [(.int (1 : Int32))])) (fun tq kq => XS.iconst X136.here hx rfl (hb hby at_132) kq) ?_
        refine own_st (T136.setTop (mkF m 137 #[.val (.int i), .val (.int j), .val (.int f), .val (.ref b1), .val (.ref b9), .val (.ref a113), .val (.ref b117), .val (.ref o129), .unset, .unset, .unset] [(.int (1 : Int32))])) (fun tq kq => XS.goto X136.here hx rfl (pc0 := 133) (pc' := 137) rfl (hb hby at_133) (by decide) (by decide) kq) ?_
        refine own_st (T136.setTop (mkF m 139 #[.val (.int i), .val (.int j), .val (.int f), .val (.ref b1), .val (.ref b9), .val (.ref a113), .val (.ref b117), .val (.ref o129), .val (.int (1 : Int32)), .unset, .unset] [])) (fun tq kq => XS.istore X136.here hx rfl (hb hby at_137) rfl (l' := #[.val (.int i), .val (.int j), .val (.int f), .val (.ref b1), .val (.ref b9), .val (.ref a113), .val (.ref b117), .val (.ref o129), .val (.int (1 : Int32)), .unset, .unset]) rfl kq) ?_
        refine own_st (T136.setTop (mkF m 141 #[.val (.int i), .val (.int j), .val (.int f), .val (.ref b1), .val (.ref b9), .val (.ref a113), .val (.ref b117), .val (.ref o129), .val (.int (1 : Int32)), .unset, .unset] [(.ref o129)])) (fun tq kq => XS.aload X136.here hx rfl (hb hby at_139) rfl (by rfl) kq) ?_
        obtain ⟨v137, T137, L137, X137, q137, st137⟩ := own_callV X136 hx hZ113 hown113 (y := (⟨"com/example/gridclause/gridclause/cli/Option", "label", "()Ljava/lang/String;"⟩ : MethodName)) (z := (⟨"com/example/gridclause/gridclause/cli/Option", "label", "()Ljava/lang/String;"⟩ : MethodName)) (hw _ (List.mem_of_getElem? (i := 62) rfl)) (hw _ (List.mem_of_getElem? (i := 63) rfl)) (notFace_of_selects (args := a0) (hw _ (List.mem_of_getElem? (i := 65) rfl))) (hw _ (List.mem_of_getElem? (i := 65) rfl)) (hw _ (List.mem_of_getElem? (i := 64) rfl)) (hw _ (List.mem_of_getElem? (i := 35) rfl)) (hw _ (List.mem_of_getElem? (i := 66) rfl)) E129q (b := o129) (argsL := []) (own_get_Option_label l Z a0 hw [] o129 b117 T129.heap O129 f129_1) 0 (by decide) (by decide) (by decide) (by decide) (by decide) e136 (g := (mkF m 141 #[.val (.int i), .val (.int j), .val (.int f), .val (.ref b1), .val (.ref b9), .val (.ref a113), .val (.ref b117), .val (.ref o129), .val (.int (1 : Int32)), .unset, .unset] [(.ref o129)])) rfl (by rw [hml]; rfl) [] (lenOf own_pd__28_29Ljava_2flang_2fString_3b rfl) rfl (by show 2 * 0 + _ ≤ _; exact Nat.le_of_eq rfl) (hb hby at_141)
        obtain ⟨rfl, N137q, e137⟩ := q137
        have N137 := Fr.app N136 N137q
        refine own_st (T137.setTop (mkF m 144 #[.val (.int i), .val (.int j), .val (.int f), .val (.ref b1), .val (.ref b9), .val (.ref a113), .val (.ref b117), .val (.ref o129), .val (.int (1 : Int32)), .unset, .unset] [(.ref b117)])) st137 ?_
        refine own_st (T137.setTop (mkF m 146 #[.val (.int i), .val (.int j), .val (.int f), .val (.ref b1), .val (.ref b9), .val (.ref a113), .val (.ref b117), .val (.ref o129), .val (.int (1 : Int32)), .unset, .unset] [(.ref b117), (.ref b117)])) (fun tq kq => XS.aload X137.here hx rfl (hb hby at_144) rfl (by rfl) kq) ?_
        refine own_st (T137.setTop (mkF m 149 #[.val (.int i), .val (.int j), .val (.int f), .val (.ref b1), .val (.ref b9), .val (.ref a113), .val (.ref b117), .val (.ref o129), .val (.int (1 : Int32)), .unset, .unset] [])) (fun tq kq => Jvm.RoadKit.acmp (g := (mkF m 146 #[.val (.int i), .val (.int j), .val (.int f), .val (.ref b1), .val (.ref b9), .val (.ref a113), .val (.ref b117), .val (.ref o129), .val (.int (1 : Int32)), .unset, .unset] [(.ref b117), (.ref b117)])) X137 hx rfl (by rfl) (by rfl) (pc0 := 146) (pc' := 149) (same := true) rfl (hb hby at_146) rfl (decide_eq_true (congrArg Value.ref (rfl : b117 = b117))) (by decide) (by decide) kq) ?_
        refine own_st (T137.setTop (mkF m 150 #[.val (.int i), .val (.int j), .val (.int f), .val (.ref b1), .val (.ref b9), .val (.ref a113), .val (.ref b117), .val (.ref o129), .val (.int (1 : Int32)), .unset, .unset] [(.int (1 : Int32))])) (fun tq kq => XS.iconst X137.here hx rfl (hb hby at_149) kq) ?_
        refine own_st (T137.setTop (mkF m 154 #[.val (.int i), .val (.int j), .val (.int f), .val (.ref b1), .val (.ref b9), .val (.ref a113), .val (.ref b117), .val (.ref o129), .val (.int (1 : Int32)), .unset, .unset] [(.int (1 : Int32))])) (fun tq kq => XS.goto X137.here hx rfl (pc0 := 150) (pc' := 154) rfl (hb hby at_150) (by decide) (by decide) kq) ?_
        refine own_st (T137.setTop (mkF m 156 #[.val (.int i), .val (.int j), .val (.int f), .val (.ref b1), .val (.ref b9), .val (.ref a113), .val (.ref b117), .val (.ref o129), .val (.int (1 : Int32)), .val (.int (1 : Int32)), .unset] [])) (fun tq kq => XS.istore X137.here hx rfl (hb hby at_154) rfl (l' := #[.val (.int i), .val (.int j), .val (.int f), .val (.ref b1), .val (.ref b9), .val (.ref a113), .val (.ref b117), .val (.ref o129), .val (.int (1 : Int32)), .val (.int (1 : Int32)), .unset]) rfl kq) ?_
        refine own_st (T137.setTop (mkF m 158 #[.val (.int i), .val (.int j), .val (.int f), .val (.ref b1), .val (.ref b9), .val (.ref a113), .val (.ref b117), .val (.ref o129), .val (.int (1 : Int32)), .val (.int (1 : Int32)), .unset] [(.ref o129)])) (fun tq kq => XS.aload X137.here hx rfl (hb hby at_156) rfl (by rfl) kq) ?_
        obtain ⟨v138, T138, L138, X138, q138, st138⟩ := own_callV X137 hx hZ113 hown113 (y := (⟨"com/example/gridclause/gridclause/cli/Option", "use", "()Lcom/example/gridclause/gridclause/cli/Option$Use;"⟩ : MethodName)) (z := (⟨"com/example/gridclause/gridclause/cli/Option", "use", "()Lcom/example/gridclause/gridclause/cli/Option$Use;"⟩ : MethodName)) (hw _ (List.mem_of_getElem? (i := 67) rfl)) (hw _ (List.mem_of_getElem? (i := 68) rfl)) (notFace_of_selects (args := a0) (hw _ (List.mem_of_getElem? (i := 70) rfl))) (hw _ (List.mem_of_getElem? (i := 70) rfl)) (hw _ (List.mem_of_getElem? (i := 69) rfl)) (hw _ (List.mem_of_getElem? (i := 35) rfl)) (hw _ (List.mem_of_getElem? (i := 71) rfl)) E129q (b := o129) (argsL := []) (own_get_Option_use l Z a0 hw [] o129 wu T129.heap O129 f129_2) 0 (by decide) (by decide) (by decide) (by decide) (by decide) e137 (g := (mkF m 158 #[.val (.int i), .val (.int j), .val (.int f), .val (.ref b1), .val (.ref b9), .val (.ref a113), .val (.ref b117), .val (.ref o129), .val (.int (1 : Int32)), .val (.int (1 : Int32)), .unset] [(.ref o129)])) rfl (by rw [hml]; rfl) [] (lenOf own_pd__28_29Lcom_2fexample_2fgridclause_2fgridclause_2fcli_2fOption_24Use_3b rfl) rfl (by show 2 * 0 + _ ≤ _; exact Nat.le_of_eq rfl) (hb hby at_158)
        obtain ⟨rfl, N138q, e138⟩ := q138
        have N138 := Fr.app N137 N138q
        refine own_st (T138.setTop (mkF m 161 #[.val (.int i), .val (.int j), .val (.int f), .val (.ref b1), .val (.ref b9), .val (.ref a113), .val (.ref b117), .val (.ref o129), .val (.int (1 : Int32)), .val (.int (1 : Int32)), .unset] [(.ref wu)])) st138 ?_
        obtain ⟨T139, X139, e139, st139⟩ := getS2 X138 hx hZ113 hown113 (host := "") (Or.inl (hw _ (List.mem_of_getElem? (i := 72) rfl))) Via.refl e138 (SU.ext O129.2) (g := (mkF m 161 #[.val (.int i), .val (.int j), .val (.int f), .val (.ref b1), .val (.ref b9), .val (.ref a113), .val (.ref b117), .val (.ref o129), .val (.int (1 : Int32)), .val (.int (1 : Int32)), .unset] [(.ref wu)])) rfl (hb hby at_161)
        refine own_st (T139.setTop (mkF m 164 #[.val (.int i), .val (.int j), .val (.int f), .val (.ref b1), .val (.ref b9), .val (.ref a113), .val (.ref b117), .val (.ref o129), .val (.int (1 : Int32)), .val (.int (1 : Int32)), .unset] [(.ref wu), (.ref wu)])) st139 ?_
        refine own_st (T139.setTop (mkF m 167 #[.val (.int i), .val (.int j), .val (.int f), .val (.ref b1), .val (.ref b9), .val (.ref a113), .val (.ref b117), .val (.ref o129), .val (.int (1 : Int32)), .val (.int (1 : Int32)), .unset] [])) (fun tq kq => Jvm.RoadKit.acmp (g := (mkF m 164 #[.val (.int i), .val (.int j), .val (.int f), .val (.ref b1), .val (.ref b9), .val (.ref a113), .val (.ref b117), .val (.ref o129), .val (.int (1 : Int32)), .val (.int (1 : Int32)), .unset] [(.ref wu), (.ref wu)])) X139 hx rfl (by rfl) (by rfl) (pc0 := 164) (pc' := 167) (same := true) rfl (hb hby at_164) rfl (decide_eq_true (congrArg Value.ref (rfl : wu = wu))) (by decide) (by decide) kq) ?_
        refine own_st (T139.setTop (mkF m 168 #[.val (.int i), .val (.int j), .val (.int f), .val (.ref b1), .val (.ref b9), .val (.ref a113), .val (.ref b117), .val (.ref o129), .val (.int (1 : Int32)), .val (.int (1 : Int32)), .unset] [(.int (1 : Int32))])) (fun tq kq => XS.iconst X139.here hx rfl (hb hby at_167) kq) ?_
        refine own_st (T139.setTop (mkF m 172 #[.val (.int i), .val (.int j), .val (.int f), .val (.ref b1), .val (.ref b9), .val (.ref a113), .val (.ref b117), .val (.ref o129), .val (.int (1 : Int32)), .val (.int (1 : Int32)), .unset] [(.int (1 : Int32))])) (fun tq kq => XS.goto X139.here hx rfl (pc0 := 168) (pc' := 172) rfl (hb hby at_168) (by decide) (by decide) kq) ?_
        refine own_st (T139.setTop (mkF m 174 #[.val (.int i), .val (.int j), .val (.int f), .val (.ref b1), .val (.ref b9), .val (.ref a113), .val (.ref b117), .val (.ref o129), .val (.int (1 : Int32)), .val (.int (1 : Int32)), .val (.int (1 : Int32))] [])) (fun tq kq => XS.istore X139.here hx rfl (hb hby at_172) rfl (l' := #[.val (.int i), .val (.int j), .val (.int f), .val (.ref b1), .val (.ref b9), .val (.ref a113), .val (.ref b117), .val (.ref o129), .val (.int (1 : Int32)), .val (.int (1 : Int32)), .val (.int (1 : Int32))]) rfl kq) ?_
        refine own_st (T139.setTop (mkF m 176 #[.val (.int i), .val (.int j), .val (.int f), .val (.ref b1), .val (.ref b9), .val (.ref a113), .val (.ref b117), .val (.ref o129), .val (.int (1 : Int32)), .val (.int (1 : Int32)), .val (.int (1 : Int32))] [(.int (1 : Int32))])) (fun tq kq => XS.iload X139.here hx rfl (hb hby at_174) rfl kq) ?_
        refine own_st (T139.setTop (mkF m 179 #[.val (.int i), .val (.int j), .val (.int f), .val (.ref b1), .val (.ref b9), .val (.ref a113), .val (.ref b117), .val (.ref o129), .val (.int (1 : Int32)), .val (.int (1 : Int32)), .val (.int (1 : Int32))] [])) (fun tq kq => XS.ifNo X139.here hx rfl (hb hby at_176) rfl ((if0 _ _).trans (feq ((by decide) : ¬ ((1 : Int32) = (0 : Int32)))).1) kq) ?_
        refine own_st (T139.setTop (mkF m 181 #[.val (.int i), .val (.int j), .val (.int f), .val (.ref b1), .val (.ref b9), .val (.ref a113), .val (.ref b117), .val (.ref o129), .val (.int (1 : Int32)), .val (.int (1 : Int32)), .val (.int (1 : Int32))] [(.int (1 : Int32))])) (fun tq kq => XS.iload X139.here hx rfl (hb hby at_179) rfl kq) ?_
        refine own_st (T139.setTop (mkF m 184 #[.val (.int i), .val (.int j), .val (.int f), .val (.ref b1), .val (.ref b9), .val (.ref a113), .val (.ref b117), .val (.ref o129), .val (.int (1 : Int32)), .val (.int (1 : Int32)), .val (.int (1 : Int32))] [])) (fun tq kq => XS.ifNo X139.here hx rfl (hb hby at_181) rfl ((if0 _ _).trans (feq ((by decide) : ¬ ((1 : Int32) = (0 : Int32)))).1) kq) ?_
        refine own_st (T139.setTop (mkF m 186 #[.val (.int i), .val (.int j), .val (.int f), .val (.ref b1), .val (.ref b9), .val (.ref a113), .val (.ref b117), .val (.ref o129), .val (.int (1 : Int32)), .val (.int (1 : Int32)), .val (.int (1 : Int32))] [(.int (1 : Int32))])) (fun tq kq => XS.iload X139.here hx rfl (hb hby at_184) rfl kq) ?_
        refine own_st (T139.setTop (mkF m 189 #[.val (.int i), .val (.int j), .val (.int f), .val (.ref b1), .val (.ref b9), .val (.ref a113), .val (.ref b117), .val (.ref o129), .val (.int (1 : Int32)), .val (.int (1 : Int32)), .val (.int (1 : Int32))] [])) (fun tq kq => XS.ifNo X139.here hx rfl (hb hby at_186) rfl ((if0 _ _).trans (feq ((by decide) : ¬ ((1 : Int32) = (0 : Int32)))).1) kq) ?_
        refine own_st (T139.setTop (mkF m 190 #[.val (.int i), .val (.int j), .val (.int f), .val (.ref b1), .val (.ref b9), .val (.ref a113), .val (.ref b117), .val (.ref o129), .val (.int (1 : Int32)), .val (.int (1 : Int32)), .val (.int (1 : Int32))] [(.int (1 : Int32))])) (fun tq kq => XS.iconst X139.here hx rfl (hb hby at_189) kq) ?_
        refine own_st (T139.setTop (mkF m 194 #[.val (.int i), .val (.int j), .val (.int f), .val (.ref b1), .val (.ref b9), .val (.ref a113), .val (.ref b117), .val (.ref o129), .val (.int (1 : Int32)), .val (.int (1 : Int32)), .val (.int (1 : Int32))] [(.int (1 : Int32))])) (fun tq kq => XS.goto X139.here hx rfl (pc0 := 190) (pc' := 194) rfl (hb hby at_190) (by decide) (by decide) kq) ?_
        exact own_retW X139 hlk hS113 (Nat.le_trans (Nat.le_trans (Nat.le_trans hk113 E117.1) K122q.1) K129q.1) hZ113 hEL R129 (v := some (.int (1 : Int32))) (fun h => by rw [hret] at h; cases h) e139 (fun vm1 C1 => ⟨rfl, N138⟩) (by decide) (by decide) (fun fs hr => own_retN X139 hx (t := .boolean) hret (by simp) (hb hby at_194) rfl hr)
      · skip
        refine own_st (T122.setTop (mkF m 102 #[.val (.int i), .val (.int j), .val (.int f), .val (.ref b1), .val (.ref b9), .val (.ref a113), .val (.ref b117), .unset, .unset, .unset, .unset] [])) (fun tq kq => XS.ifNo X122.here hx rfl (hb hby at_99) rfl ((if0 _ _).trans (feq (c99_128 : ¬ ((f &&& (4 : Int32)) = (0 : Int32)))).1) kq) ?_
        refine own_st (T122.setTop (mkF m 104 #[.val (.int i), .val (.int j), .val (.int f), .val (.ref b1), .val (.ref b9), .val (.ref a113), .val (.ref b117), .unset, .unset, .unset, .unset] [(.ref a113)])) (fun tq kq => XS.aload X122.here hx rfl (hb hby at_102) rfl (by rfl) kq) ?_
        refine own_st (T122.setTop (mkF m 106 #[.val (.int i), .val (.int j), .val (.int f), .val (.ref b1), .val (.ref b9), .val (.ref a113), .val (.ref a113), .unset, .unset, .unset, .unset] [])) (fun tq kq => XS.astore X122.here hx rfl (hb hby at_104) rfl (by rfl) (l' := #[.val (.int i), .val (.int j), .val (.int f), .val (.ref b1), .val (.ref b9), .val (.ref a113), .val (.ref a113), .unset, .unset, .unset, .unset]) rfl kq) ?_
        refine own_st (T122.setTop (mkF m 108 #[.val (.int i), .val (.int j), .val (.int f), .val (.ref b1), .val (.ref b9), .val (.ref a113), .val (.ref a113), .unset, .unset, .unset, .unset] [(.ref a113)])) (fun tq kq => XS.aload X122.here hx rfl (hb hby at_106) rfl (by rfl) kq) ?_
        refine own_st (T122.setTop (mkF m 110 #[.val (.int i), .val (.int j), .val (.int f), .val (.ref b1), .val (.ref b9), .val (.ref a113), .val (.ref a113), .unset, .unset, .unset, .unset] [(.ref a113), (.ref a113)])) (fun tq kq => XS.aload X122.here hx rfl (hb hby at_108) rfl (by rfl) kq) ?_
        obtain ⟨v140, T140, L140, X140, q140, st140⟩ := own_callS X122 hx hZ113 hown113 (hw _ (List.mem_of_getElem? (i := 33) rfl)) (hw _ (List.mem_of_getElem? (i := 34) rfl)) (hw _ (List.mem_of_getElem? (i := 35) rfl)) (hw _ (List.mem_of_getElem? (i := 36) rfl)) (argsL := [(.ref a113), (.ref a113)]) (own_optional l Z a0 hw [] a113 a113 wu T122.heap O122 SU) 0 (by decide) (by decide) (by decide) (by decide) (by decide) rfl (g := (mkF m 110 #[.val (.int i), .val (.int j), .val (.int f), .val (.ref b1), .val (.ref b9), .val (.ref a113), .val (.ref a113), .unset, .unset, .unset, .unset] [(.ref a113), (.ref a113)])) rfl (by rw [hml]; rfl) [] (lenOf own_pd__28Ljava_2flang_2fString_3bLjava_2flang_2fString_3b_29Lcom_2fexample_2fgridclause_2fgridclause_2fcli_2fOption_3b rfl) rfl (by show 2 * 0 + _ ≤ _; exact Nat.le_of_eq rfl) (hb hby at_110)
        obtain ⟨o140, rfl, N140q, K140q, z140, E140q, f140_0, f140_1, f140_2⟩ := q140
        have N140 := Fr.app N122 N140q
        have f141 := (f123.keep K140q nin0)
        have f142 := (f124.keep K140q nin0)
        have f143 := (f125.keep K140q)
        have f144 := (f122q.keep K140q nin0)
        have f145 := (fv122.keep K140q nin0)
        have f146 := (fc122.keep K140q nin0)
        have O140 := O122.keep K140q all0
        have R140 := R122.trans (CHr.keep K140q all0 R122.1)
        have sf140_b1 := Safe.keep K140q all0 R122.1 sf122_b1
        have sf140_b9 := Safe.keep K140q all0 R122.1 sf122_b9
        have sf140_b117 := Safe.keep K140q all0 R122.1 sf122_b117
        have K140 := K122.trans K140q all0
        refine own_st (T140.setTop (mkF m 113 #[.val (.int i), .val (.int j), .val (.int f), .val (.ref b1), .val (.ref b9), .val (.ref a113), .val (.ref a113), .unset, .unset, .unset, .unset] [(.ref o140)])) st140 ?_
        refine own_st (T140.setTop (mkF m 115 #[.val (.int i), .val (.int j), .val (.int f), .val (.ref b1), .val (.ref b9), .val (.ref a113), .val (.ref a113), .val (.ref o140), .unset, .unset, .unset] [])) (fun tq kq => XS.astore X140.here hx rfl (hb hby at_113) rfl (by rfl) (l' := #[.val (.int i), .val (.int j), .val (.int f), .val (.ref b1), .val (.ref b9), .val (.ref a113), .val (.ref a113), .val (.ref o140), .unset, .unset, .unset]) rfl kq) ?_
        refine own_st (T140.setTop (mkF m 117 #[.val (.int i), .val (.int j), .val (.int f), .val (.ref b1), .val (.ref b9), .val (.ref a113), .val (.ref a113), .val (.ref o140), .unset, .unset, .unset] [(.ref o140)])) (fun tq kq => XS.aload X140.here hx rfl (hb hby at_115) rfl (by rfl) kq) ?_
        refine own_st (T140.setTop (mkF m 122 #[.val (.int i), .val (.int j), .val (.int f), .val (.ref b1), .val (.ref b9), .val (.ref a113), .val (.ref a113), .val (.ref o140), .unset, .unset, .unset] [])) (fun tq kq => XS.ifnonnullYes X140.here hx rfl (pc0 := 117) (pc' := 122) rfl (hb hby at_117) rfl (by decide) (by decide) kq) ?_
        refine own_st (T140.setTop (mkF m 124 #[.val (.int i), .val (.int j), .val (.int f), .val (.ref b1), .val (.ref b9), .val (.ref a113), .val (.ref a113), .val (.ref o140), .unset, .unset, .unset] [(.ref o140)])) (fun tq kq => XS.aload X140.here hx rfl (hb hby at_122) rfl (by rfl) kq) ?_
        obtain ⟨v147, T147, L147, X147, q147, st147⟩ := own_callV X140 hx hZ113 hown113 (y := (⟨"com/example/gridclause/gridclause/cli/Option", "name", "()Ljava/lang/String;"⟩ : MethodName)) (z := (⟨"com/example/gridclause/gridclause/cli/Option", "name", "()Ljava/lang/String;"⟩ : MethodName)) (hw _ (List.mem_of_getElem? (i := 57) rfl)) (hw _ (List.mem_of_getElem? (i := 58) rfl)) (notFace_of_selects (args := a0) (hw _ (List.mem_of_getElem? (i := 60) rfl))) (hw _ (List.mem_of_getElem? (i := 60) rfl)) (hw _ (List.mem_of_getElem? (i := 59) rfl)) (hw _ (List.mem_of_getElem? (i := 35) rfl)) (hw _ (List.mem_of_getElem? (i := 61) rfl)) E140q (b := o140) (argsL := []) (own_get_Option_name l Z a0 hw [] o140 a113 T140.heap O140 f140_0) 0 (by decide) (by decide) (by decide) (by decide) (by decide) rfl (g := (mkF m 124 #[.val (.int i), .val (.int j), .val (.int f), .val (.ref b1), .val (.ref b9), .val (.ref a113), .val (.ref a113), .val (.ref o140), .unset, .unset, .unset] [(.ref o140)])) rfl (by rw [hml]; rfl) [] (lenOf own_pd__28_29Ljava_2flang_2fString_3b rfl) rfl (by show 2 * 0 + _ ≤ _; exact Nat.le_of_eq rfl) (hb hby at_124)
        obtain ⟨rfl, N147q, e147⟩ := q147
        have N147 := Fr.app N140 N147q
        refine own_st (T147.setTop (mkF m 127 #[.val (.int i), .val (.int j), .val (.int f), .val (.ref b1), .val (.ref b9), .val (.ref a113), .val (.ref a113), .val (.ref o140), .unset, .unset, .unset] [(.ref a113)])) st147 ?_
        refine own_st (T147.setTop (mkF m 129 #[.val (.int i), .val (.int j), .val (.int f), .val (.ref b1), .val (.ref b9), .val (.ref a113), .val (.ref a113), .val (.ref o140), .unset, .unset, .unset] [(.ref a113), (.ref a113)])) (fun tq kq => XS.aload X147.here hx rfl (hb hby at_127) rfl (by rfl) kq) ?_
        refine own_st (T147.setTop (mkF m 132 #[.val (.int i), .val (.int j), .val (.int f), .val (.ref b1), .val (.ref b9), .val (.ref a113), .val (.ref a113), .val (.ref o140), .unset, .unset, .unset] [])) (fun tq kq => Jvm.RoadKit.acmp (g := (mkF m 129 #[.val (.int i), .val (.int j), .val (.int f), .val (.ref b1), .val (.ref b9), .val (.ref a113), .val (.ref a113), .val (.ref o140), .unset, .unset, .unset] [(.ref a113), (.ref a113)])) X147 hx rfl (by rfl) (by rfl) (pc0 := 129) (pc' := 132) (same := true) rfl (hb hby at_129) rfl (decide_eq_true (congrArg Value.ref (rfl : a113 = a113))) (by decide) (by decide) kq) ?_
        refine own_st (T147.setTop (mkF m 133 #[.val (.int i), .val (.int j), .val (.int f), .val (.ref b1), .val (.ref b9), .val (.ref a113), .val (.ref a113), .val (.ref o140), .unset, .unset, .unset] [(.int (1 : Int32))])) (fun tq kq => XS.iconst X147.here hx rfl (hb hby at_132) kq) ?_
        refine own_st (T147.setTop (mkF m 137 #[.val (.int i), .val (.int j), .val (.int f), .val (.ref b1), .val (.ref b9), .val (.ref a113), .val (.ref a113), .val (.ref o140), .unset, .unset, .unset] [(.int (1 : Int32))])) (fun tq kq => XS.goto X147.here hx rfl (pc0 := 133) (pc' := 137) rfl (hb hby at_133) (by decide) (by decide) kq) ?_
        refine own_st (T147.setTop (mkF m 139 #[.val (.int i), .val (.int j), .val (.int f), .val (.ref b1), .val (.ref b9), .val (.ref a113), .val (.ref a113), .val (.ref o140), .val (.int (1 : Int32)), .unset, .unset] [])) (fun tq kq => XS.istore X147.here hx rfl (hb hby at_137) rfl (l' := #[.val (.int i), .val (.int j), .val (.int f), .val (.ref b1), .val (.ref b9), .val (.ref a113), .val (.ref a113), .val (.ref o140), .val (.int (1 : Int32)), .unset, .unset]) rfl kq) ?_
        refine own_st (T147.setTop (mkF m 141 #[.val (.int i), .val (.int j), .val (.int f), .val (.ref b1), .val (.ref b9), .val (.ref a113), .val (.ref a113), .val (.ref o140), .val (.int (1 : Int32)), .unset, .unset] [(.ref o140)])) (fun tq kq => XS.aload X147.here hx rfl (hb hby at_139) rfl (by rfl) kq) ?_
        obtain ⟨v148, T148, L148, X148, q148, st148⟩ := own_callV X147 hx hZ113 hown113 (y := (⟨"com/example/gridclause/gridclause/cli/Option", "label", "()Ljava/lang/String;"⟩ : MethodName)) (z := (⟨"com/example/gridclause/gridclause/cli/Option", "label", "()Ljava/lang/String;"⟩ : MethodName)) (hw _ (List.mem_of_getElem? (i := 62) rfl)) (hw _ (List.mem_of_getElem? (i := 63) rfl)) (notFace_of_selects (args := a0) (hw _ (List.mem_of_getElem? (i := 65) rfl))) (hw _ (List.mem_of_getElem? (i := 65) rfl)) (hw _ (List.mem_of_getElem? (i := 64) rfl)) (hw _ (List.mem_of_getElem? (i := 35) rfl)) (hw _ (List.mem_of_getElem? (i := 66) rfl)) E140q (b := o140) (argsL := []) (own_get_Option_label l Z a0 hw [] o140 a113 T140.heap O140 f140_1) 0 (by decide) (by decide) (by decide) (by decide) (by decide) e147 (g := (mkF m 141 #[.val (.int i), .val (.int j), .val (.int f), .val (.ref b1), .val (.ref b9), .val (.ref a113), .val (.ref a113), .val (.ref o140), .val (.int (1 : Int32)), .unset, .unset] [(.ref o140)])) rfl (by rw [hml]; rfl) [] (lenOf own_pd__28_29Ljava_2flang_2fString_3b rfl) rfl (by show 2 * 0 + _ ≤ _; exact Nat.le_of_eq rfl) (hb hby at_141)
        obtain ⟨rfl, N148q, e148⟩ := q148
        have N148 := Fr.app N147 N148q
        refine own_st (T148.setTop (mkF m 144 #[.val (.int i), .val (.int j), .val (.int f), .val (.ref b1), .val (.ref b9), .val (.ref a113), .val (.ref a113), .val (.ref o140), .val (.int (1 : Int32)), .unset, .unset] [(.ref a113)])) st148 ?_
        refine own_st (T148.setTop (mkF m 146 #[.val (.int i), .val (.int j), .val (.int f), .val (.ref b1), .val (.ref b9), .val (.ref a113), .val (.ref a113), .val (.ref o140), .val (.int (1 : Int32)), .unset, .unset] [(.ref a113), (.ref a113)])) (fun tq kq => XS.aload X148.here hx rfl (hb hby at_144) rfl (by rfl) kq) ?_
        refine own_st (T148.setTop (mkF m 149 #[.val (.int i), .val (.int j), .val (.int f), .val (.ref b1), .val (.ref b9), .val (.ref a113), .val (.ref a113), .val (.ref o140), .val (.int (1 : Int32)), .unset, .unset] [])) (fun tq kq => Jvm.RoadKit.acmp (g := (mkF m 146 #[.val (.int i), .val (.int j), .val (.int f), .val (.ref b1), .val (.ref b9), .val (.ref a113), .val (.ref a113), .val (.ref o140), .val (.int (1 : Int32)), .unset, .unset] [(.ref a113), (.ref a113)])) X148 hx rfl (by rfl) (by rfl) (pc0 := 146) (pc' := 149) (same := true) rfl (hb hby at_146) rfl (decide_eq_true (congrArg Value.ref (rfl : a113 = a113))) (by decide) (by decide) kq) ?_
        refine own_st (T148.setTop (mkF m 150 #[.val (.int i), .val (.int j), .val (.int f), .val (.ref b1), .val (.ref b9), .val (.ref a113), .val (.ref a113), .val (.ref o140), .val (.int (1 : Int32)), .unset, .unset] [(.int (1 : Int32))])) (fun tq kq => XS.iconst X148.here hx rfl (hb hby at_149) kq) ?_
        refine own_st (T148.setTop (mkF m 154 #[.val (.int i), .val (.int j), .val (.int f), .val (.ref b1), .val (.ref b9), .val (.ref a113), .val (.ref a113), .val (.ref o140), .val (.int (1 : Int32)), .unset, .unset] [(.int (1 : Int32))])) (fun tq kq => XS.goto X148.here hx rfl (pc0 := 150) (pc' := 154) rfl (hb hby at_150) (by decide) (by decide) kq) ?_
        refine own_st (T148.setTop (mkF m 156 #[.val (.int i), .val (.int j), .val (.int f), .val (.ref b1), .val (.ref b9), .val (.ref a113), .val (.ref a113), .val (.ref o140), .val (.int (1 : Int32)), .val (.int (1 : Int32)), .unset] [])) (fun tq kq => XS.istore X148.here hx rfl (hb hby at_154) rfl (l' := #[.val (.int i), .val (.int j), .val (.int f), .val (.ref b1), .val (.ref b9), .val (.ref a113), .val (.ref a113), .val (.ref o140), .val (.int (1 : Int32)), .val (.int (1 : Int32)), .unset]) rfl kq) ?_
        refine own_st (T148.setTop (mkF m 158 #[.val (.int i), .val (.int j), .val (.int f), .val (.ref b1), .val (.ref b9), .val (.ref a113), .val (.ref a113), .val (.ref o140), .val (.int (1 : Int32)), .val (.int (1 : Int32)), .unset] [(.ref o140)])) (fun tq kq => XS.aload X148.here hx rfl (hb hby at_156) rfl (by rfl) kq) ?_
        obtain ⟨v149, T149, L149, X149, q149, st149⟩ := own_callV X148 hx hZ113 hown113 (y := (⟨"com/example/gridclause/gridclause/cli/Option", "use", "()Lcom/example/gridclause/gridclause/cli/Option$Use;"⟩ : MethodName)) (z := (⟨"com/example/gridclause/gridclause/cli/Option", "use", "()Lcom/example/gridclause/gridclause/cli/Option$Use;"⟩ : MethodName)) (hw _ (List.mem_of_getElem? (i := 67) rfl)) (hw _ (List.mem_of_getElem? (i := 68) rfl)) (notFace_of_selects (args := a0) (hw _ (List.mem_of_getElem? (i := 70) rfl))) (hw _ (List.mem_of_getElem? (i := 70) rfl)) (hw _ (List.mem_of_getElem? (i := 69) rfl)) (hw _ (List.mem_of_getElem? (i := 35) rfl)) (hw _ (List.mem_of_getElem? (i := 71) rfl)) E140q (b := o140) (argsL := []) (own_get_Option_use l Z a0 hw [] o140 wu T140.heap O140 f140_2) 0 (by decide) (by decide) (by decide) (by decide) (by decide) e148 (g := (mkF m 158 #[.val (.int i), .val (.int j), .val (.int f), .val (.ref b1), .val (.ref b9), .val (.ref a113), .val (.ref a113), .val (.ref o140), .val (.int (1 : Int32)), .val (.int (1 : Int32)), .unset] [(.ref o140)])) rfl (by rw [hml]; rfl) [] (lenOf own_pd__28_29Lcom_2fexample_2fgridclause_2fgridclause_2fcli_2fOption_24Use_3b rfl) rfl (by show 2 * 0 + _ ≤ _; exact Nat.le_of_eq rfl) (hb hby at_158)
        obtain ⟨rfl, N149q, e149⟩ := q149
        have N149 := Fr.app N148 N149q
        refine own_st (T149.setTop (mkF m 161 #[.val (.int i), .val (.int j), .val (.int f), .val (.ref b1), .val (.ref b9), .val (.ref a113), .val (.ref a113), .val (.ref o140), .val (.int (1 : Int32)), .val (.int (1 : Int32)), .unset] [(.ref wu)])) st149 ?_
        obtain ⟨T150, X150, e150, st150⟩ := getS2 X149 hx hZ113 hown113 (host := "") (Or.inl (hw _ (List.mem_of_getElem? (i := 72) rfl))) Via.refl e149 (SU.ext O140.2) (g := (mkF m 161 #[.val (.int i), .val (.int j), .val (.int f), .val (.ref b1), .val (.ref b9), .val (.ref a113), .val (.ref a113), .val (.ref o140), .val (.int (1 : Int32)), .val (.int (1 : Int32)), .unset] [(.ref wu)])) rfl (hb hby at_161)
        refine own_st (T150.setTop (mkF m 164 #[.val (.int i), .val (.int j), .val (.int f), .val (.ref b1), .val (.ref b9), .val (.ref a113), .val (.ref a113), .val (.ref o140), .val (.int (1 : Int32)), .val (.int (1 : Int32)), .unset] [(.ref wu), (.ref wu)])) st150 ?_
        refine own_st (T150.setTop (mkF m 167 #[.val (.int i), .val (.int j), .val (.int f), .val (.ref b1), .val (.ref b9), .val (.ref a113), .val (.ref a113), .val (.ref o140), .val (.int (1 : Int32)), .val (.int (1 : Int32)), .unset] [])) (fun tq kq => Jvm.RoadKit.acmp (g := (mkF m 164 #[.val (.int i), .val (.int j), .val (.int f), .val (.ref b1), .val (.ref b9), .val (.ref a113), .val (.ref a113), .val (.ref o140), .val (.int (1 : Int32)), .val (.int (1 : Int32)), .unset] [(.ref wu), (.ref wu)])) X150 hx rfl (by rfl) (by rfl) (pc0 := 164) (pc' := 167) (same := true) rfl (hb hby at_164) rfl (decide_eq_true (congrArg Value.ref (rfl : wu = wu))) (by decide) (by decide) kq) ?_
        refine own_st (T150.setTop (mkF m 168 #[.val (.int i), .val (.int j), .val (.int f), .val (.ref b1), .val (.ref b9), .val (.ref a113), .val (.ref a113), .val (.ref o140), .val (.int (1 : Int32)), .val (.int (1 : Int32)), .unset] [(.int (1 : Int32))])) (fun tq kq => XS.iconst X150.here hx rfl (hb hby at_167) kq) ?_
        refine own_st (T150.setTop (mkF m 172 #[.val (.int i), .val (.int j), .val (.int f), .val (.ref b1), .val (.ref b9), .val (.ref a113), .val (.ref a113), .val (.ref o140), .val (.int (1 : Int32)), .val (.int (1 : Int32)), .unset] [(.int (1 : Int32))])) (fun tq kq => XS.goto X150.here hx rfl (pc0 := 168) (pc' := 172) rfl (hb hby at_168) (by decide) (by decide) kq) ?_
        refine own_st (T150.setTop (mkF m 174 #[.val (.int i), .val (.int j), .val (.int f), .val (.ref b1), .val (.ref b9), .val (.ref a113), .val (.ref a113), .val (.ref o140), .val (.int (1 : Int32)), .val (.int (1 : Int32)), .val (.int (1 : Int32))] [])) (fun tq kq => XS.istore X150.here hx rfl (hb hby at_172) rfl (l' := #[.val (.int i), .val (.int j), .val (.int f), .val (.ref b1), .val (.ref b9), .val (.ref a113), .val (.ref a113), .val (.ref o140), .val (.int (1 : Int32)), .val (.int (1 : Int32)), .val (.int (1 : Int32))]) rfl kq) ?_
        refine own_st (T150.setTop (mkF m 176 #[.val (.int i), .val (.int j), .val (.int f), .val (.ref b1), .val (.ref b9), .val (.ref a113), .val (.ref a113), .val (.ref o140), .val (.int (1 : Int32)), .val (.int (1 : Int32)), .val (.int (1 : Int32))] [(.int (1 : Int32))])) (fun tq kq => XS.iload X150.here hx rfl (hb hby at_174) rfl kq) ?_
        refine own_st (T150.setTop (mkF m 179 #[.val (.int i), .val (.int j), .val (.int f), .val (.ref b1), .val (.ref b9), .val (.ref a113), .val (.ref a113), .val (.ref o140), .val (.int (1 : Int32)), .val (.int (1 : Int32)), .val (.int (1 : Int32))] [])) (fun tq kq => XS.ifNo X150.here hx rfl (hb hby at_176) rfl ((if0 _ _).trans (feq ((by decide) : ¬ ((1 : Int32) = (0 : Int32)))).1) kq) ?_
        refine own_st (T150.setTop (mkF m 181 #[.val (.int i), .val (.int j), .val (.int f), .val (.ref b1), .val (.ref b9), .val (.ref a113), .val (.ref a113), .val (.ref o140), .val (.int (1 : Int32)), .val (.int (1 : Int32)), .val (.int (1 : Int32))] [(.int (1 : Int32))])) (fun tq kq => XS.iload X150.here hx rfl (hb hby at_179) rfl kq) ?_
        refine own_st (T150.setTop (mkF m 184 #[.val (.int i), .val (.int j), .val (.int f), .val (.ref b1), .val (.ref b9), .val (.ref a113), .val (.ref a113), .val (.ref o140), .val (.int (1 : Int32)), .val (.int (1 : Int32)), .val (.int (1 : Int32))] [])) (fun tq kq => XS.ifNo X150.here hx rfl (hb hby at_181) rfl ((if0 _ _).trans (feq ((by decide) : ¬ ((1 : Int32) = (0 : Int32)))).1) kq) ?_
        refine own_st (T150.setTop (mkF m 186 #[.val (.int i), .val (.int j), .val (.int f), .val (.ref b1), .val (.ref b9), .val (.ref a113), .val (.ref a113), .val (.ref o140), .val (.int (1 : Int32)), .val (.int (1 : Int32)), .val (.int (1 : Int32))] [(.int (1 : Int32))])) (fun tq kq => XS.iload X150.here hx rfl (hb hby at_184) rfl kq) ?_
        refine own_st (T150.setTop (mkF m 189 #[.val (.int i), .val (.int j), .val (.int f), .val (.ref b1), .val (.ref b9), .val (.ref a113), .val (.ref a113), .val (.ref o140), .val (.int (1 : Int32)), .val (.int (1 : Int32)), .val (.int (1 : Int32))] [])) (fun tq kq => XS.ifNo X150.here hx rfl (hb hby at_186) rfl ((if0 _ _).trans (feq ((by decide) : ¬ ((1 : Int32) = (0 : Int32)))).1) kq) ?_
        refine own_st (T150.setTop (mkF m 190 #[.val (.int i), .val (.int j), .val (.int f), .val (.ref b1), .val (.ref b9), .val (.ref a113), .val (.ref a113), .val (.ref o140), .val (.int (1 : Int32)), .val (.int (1 : Int32)), .val (.int (1 : Int32))] [(.int (1 : Int32))])) (fun tq kq => XS.iconst X150.here hx rfl (hb hby at_189) kq) ?_
        refine own_st (T150.setTop (mkF m 194 #[.val (.int i), .val (.int j), .val (.int f), .val (.ref b1), .val (.ref b9), .val (.ref a113), .val (.ref a113), .val (.ref o140), .val (.int (1 : Int32)), .val (.int (1 : Int32)), .val (.int (1 : Int32))] [(.int (1 : Int32))])) (fun tq kq => XS.goto X150.here hx rfl (pc0 := 190) (pc' := 194) rfl (hb hby at_190) (by decide) (by decide) kq) ?_
        exact own_retW X150 hlk hS113 (Nat.le_trans (Nat.le_trans (Nat.le_trans hk113 E117.1) K122q.1) K140q.1) hZ113 hEL R140 (v := some (.int (1 : Int32))) (fun h => by rw [hret] at h; cases h) e150 (fun vm1 C1 => ⟨rfl, N149⟩) (by decide) (by decide) (fun fs hr => own_retN X150 hx (t := .boolean) hret (by simp) (hb hby at_194) rfl hr)
    · skip
      refine own_st (T113.setTop (mkF m 80 #[.val (.int i), .val (.int j), .val (.int f), .val (.ref b1), .val (.ref b9), .val (.ref a113), .unset, .unset, .unset, .unset, .unset] [])) (fun tq kq => XS.ifNo X113.here hx rfl (hb hby at_77) rfl ((if0 _ _).trans (feq (c77_116 : ¬ ((f &&& (2 : Int32)) = (0 : Int32)))).1) kq) ?_
      obtain ⟨a151, T151, h151, k151, X151, e151, E151, hS151, hk151, hZ151, hown151, C151, -, st151⟩ := ldcOH X113 hx hZ113 hown113 (hw _ (List.mem_of_getElem? (i := 30) rfl)) (own_wS hw) e113 hS113 hk113 hEL R113.1 (g := (mkF m 80 #[.val (.int i), .val (.int j), .val (.int f), .val (.ref b1), .val (.ref b9), .val (.ref a113), .unset, .unset, .unset, .unset, .unset] [])) rfl (hb hby at_80) (n := 0) (by decide) (by decide) (by decide) (by decide)
      have sf151_b1 := C151.safe f114.lt sf113_b1
      have sf151_b9 := C151.safe f115.lt sf113_b9
      have R151 := R113.trans C151
      have f152 := (f114.ext E151)
      have f153 := (f115.ext E151)
      have O151 := O113.ext E151
      have K151 := K113.ext E151
      refine own_st (T151.setTop (mkF m 82 #[.val (.int i), .val (.int j), .val (.int f), .val (.ref b1), .val (.ref b9), .val (.ref a113), .unset, .unset, .unset, .unset, .unset] [(.ref a151)])) st151 ?_
      refine own_st (T151.setTop (mkF m 94 #[.val (.int i), .val (.int j), .val (.int f), .val (.ref b1), .val (.ref b9), .val (.ref a113), .unset, .unset, .unset, .unset, .unset] [(.ref a151)])) (fun tq kq => XS.goto X151.here hx rfl (pc0 := 82) (pc' := 94) rfl (hb hby at_82) (by decide) (by decide) kq) ?_
      refine own_st (T151.setTop (mkF m 96 #[.val (.int i), .val (.int j), .val (.int f), .val (.ref b1), .val (.ref b9), .val (.ref a113), .val (.ref a151), .unset, .unset, .unset, .unset] [])) (fun tq kq => XS.astore X151.here hx rfl (hb hby at_94) rfl (by rfl) (l' := #[.val (.int i), .val (.int j), .val (.int f), .val (.ref b1), .val (.ref b9), .val (.ref a113), .val (.ref a151), .unset, .unset, .unset, .unset]) rfl kq) ?_
      refine own_st (T151.setTop (mkF m 97 #[.val (.int i), .val (.int j), .val (.int f), .val (.ref b1), .val (.ref b9), .val (.ref a113), .val (.ref a151), .unset, .unset, .unset, .unset] [(.int f)])) (fun tq kq => XS.iloadN X151.here hx rfl (hb hby at_96) rfl kq) ?_
      refine own_st (T151.setTop (mkF m 98 #[.val (.int i), .val (.int j), .val (.int f), .val (.ref b1), .val (.ref b9), .val (.ref a113), .val (.ref a151), .unset, .unset, .unset, .unset] [(.int (4 : Int32)), (.int f)])) (fun tq kq => XS.iconst X151.here hx rfl (hb hby at_97) kq) ?_
      refine own_st (T151.setTop (mkF m 99 #[.val (.int i), .val (.int j), .val (.int f), .val (.ref b1), .val (.ref b9), .val (.ref a113), .val (.ref a151), .unset, .unset, .unset, .unset] [(.int (f &&& (4 : Int32)))])) (fun tq kq => XS.iand X151.here hx rfl (hb hby at_98) rfl kq) ?_
      by_cases c99_154 : (f &&& (4 : Int32)) = (0 : Int32)
      · skip
        refine own_st (T151.setTop (mkF m 106 #[.val (.int i), .val (.int j), .val (.int f), .val (.ref b1), .val (.ref b9), .val (.ref a113), .val (.ref a151), .unset, .unset, .unset, .unset] [])) (fun tq kq => XS.ifYes X151.here hx rfl (pc0 := 99) (pc' := 106) rfl (hb hby at_99) rfl ((if0 _ _).trans (teq (c99_154 : (f &&& (4 : Int32)) = (0 : Int32))).1) (by decide) (by decide) kq) ?_
        refine own_st (T151.setTop (mkF m 108 #[.val (.int i), .val (.int j), .val (.int f), .val (.ref b1), .val (.ref b9), .val (.ref a113), .val (.ref a151), .unset, .unset, .unset, .unset] [(.ref a113)])) (fun tq kq => XS.aload X151.here hx rfl (hb hby at_106) rfl (by rfl) kq) ?_
        refine own_st (T151.setTop (mkF m 110 #[.val (.int i), .val (.int j), .val (.int f), .val (.ref b1), .val (.ref b9), .val (.ref a113), .val (.ref a151), .unset, .unset, .unset, .unset] [(.ref a151), (.ref a113)])) (fun tq kq => XS.aload X151.here hx rfl (hb hby at_108) rfl (by rfl) kq) ?_
        obtain ⟨v155, T155, L155, X155, q155, st155⟩ := own_callS X151 hx hZ151 hown151 (hw _ (List.mem_of_getElem? (i := 33) rfl)) (hw _ (List.mem_of_getElem? (i := 34) rfl)) (hw _ (List.mem_of_getElem? (i := 35) rfl)) (hw _ (List.mem_of_getElem? (i := 36) rfl)) (argsL := [(.ref a113), (.ref a151)]) (own_optional l Z a0 hw [] a113 a151 wu h151 O151 SU) 0 (by decide) (by decide) (by decide) (by decide) (by decide) e151 (g := (mkF m 110 #[.val (.int i), .val (.int j), .val (.int f), .val (.ref b1), .val (.ref b9), .val (.ref a113), .val (.ref a151), .unset, .unset, .unset, .unset] [(.ref a151), (.ref a113)])) rfl (by rw [hml]; rfl) [] (lenOf own_pd__28Ljava_2flang_2fString_3bLjava_2flang_2fString_3b_29Lcom_2fexample_2fgridclause_2fgridclause_2fcli_2fOption_3b rfl) rfl (by show 2 * 0 + _ ≤ _; exact Nat.le_of_eq rfl) (hb hby at_110)
        obtain ⟨o155, rfl, N155q, K155q, z155, E155q, f155_0, f155_1, f155_2⟩ := q155
        have N155 := Fr.app N16 N155q
        have f156 := (f152.keep K155q nin0)
        have f157 := (f153.keep K155q nin0)
        have O155 := O151.keep K155q all0
        have R155 := R151.trans (CHr.keep K155q all0 R151.1)
        have sf155_b1 := Safe.keep K155q all0 R151.1 sf151_b1
        have sf155_b9 := Safe.keep K155q all0 R151.1 sf151_b9
        have K155 := K151.trans K155q all0
        refine own_st (T155.setTop (mkF m 113 #[.val (.int i), .val (.int j), .val (.int f), .val (.ref b1), .val (.ref b9), .val (.ref a113), .val (.ref a151), .unset, .unset, .unset, .unset] [(.ref o155)])) st155 ?_
        refine own_st (T155.setTop (mkF m 115 #[.val (.int i), .val (.int j), .val (.int f), .val (.ref b1), .val (.ref b9), .val (.ref a113), .val (.ref a151), .val (.ref o155), .unset, .unset, .unset] [])) (fun tq kq => XS.astore X155.here hx rfl (hb hby at_113) rfl (by rfl) (l' := #[.val (.int i), .val (.int j), .val (.int f), .val (.ref b1), .val (.ref b9), .val (.ref a113), .val (.ref a151), .val (.ref o155), .unset, .unset, .unset]) rfl kq) ?_
        refine own_st (T155.setTop (mkF m 117 #[.val (.int i), .val (.int j), .val (.int f), .val (.ref b1), .val (.ref b9), .val (.ref a113), .val (.ref a151), .val (.ref o155), .unset, .unset, .unset] [(.ref o155)])) (fun tq kq => XS.aload X155.here hx rfl (hb hby at_115) rfl (by rfl) kq) ?_
        refine own_st (T155.setTop (mkF m 122 #[.val (.int i), .val (.int j), .val (.int f), .val (.ref b1), .val (.ref b9), .val (.ref a113), .val (.ref a151), .val (.ref o155), .unset, .unset, .unset] [])) (fun tq kq => XS.ifnonnullYes X155.here hx rfl (pc0 := 117) (pc' := 122) rfl (hb hby at_117) rfl (by decide) (by decide) kq) ?_
        refine own_st (T155.setTop (mkF m 124 #[.val (.int i), .val (.int j), .val (.int f), .val (.ref b1), .val (.ref b9), .val (.ref a113), .val (.ref a151), .val (.ref o155), .unset, .unset, .unset] [(.ref o155)])) (fun tq kq => XS.aload X155.here hx rfl (hb hby at_122) rfl (by rfl) kq) ?_
        obtain ⟨v158, T158, L158, X158, q158, st158⟩ := own_callV X155 hx hZ151 hown151 (y := (⟨"com/example/gridclause/gridclause/cli/Option", "name", "()Ljava/lang/String;"⟩ : MethodName)) (z := (⟨"com/example/gridclause/gridclause/cli/Option", "name", "()Ljava/lang/String;"⟩ : MethodName)) (hw _ (List.mem_of_getElem? (i := 57) rfl)) (hw _ (List.mem_of_getElem? (i := 58) rfl)) (notFace_of_selects (args := a0) (hw _ (List.mem_of_getElem? (i := 60) rfl))) (hw _ (List.mem_of_getElem? (i := 60) rfl)) (hw _ (List.mem_of_getElem? (i := 59) rfl)) (hw _ (List.mem_of_getElem? (i := 35) rfl)) (hw _ (List.mem_of_getElem? (i := 61) rfl)) E155q (b := o155) (argsL := []) (own_get_Option_name l Z a0 hw [] o155 a113 T155.heap O155 f155_0) 0 (by decide) (by decide) (by decide) (by decide) (by decide) rfl (g := (mkF m 124 #[.val (.int i), .val (.int j), .val (.int f), .val (.ref b1), .val (.ref b9), .val (.ref a113), .val (.ref a151), .val (.ref o155), .unset, .unset, .unset] [(.ref o155)])) rfl (by rw [hml]; rfl) [] (lenOf own_pd__28_29Ljava_2flang_2fString_3b rfl) rfl (by show 2 * 0 + _ ≤ _; exact Nat.le_of_eq rfl) (hb hby at_124)
        obtain ⟨rfl, N158q, e158⟩ := q158
        have N158 := Fr.app N155 N158q
        refine own_st (T158.setTop (mkF m 127 #[.val (.int i), .val (.int j), .val (.int f), .val (.ref b1), .val (.ref b9), .val (.ref a113), .val (.ref a151), .val (.ref o155), .unset, .unset, .unset] [(.ref a113)])) st158 ?_
        refine own_st (T158.setTop (mkF m 129 #[.val (.int i), .val (.int j), .val (.int f), .val (.ref b1), .val (.ref b9), .val (.ref a113), .val (.ref a151), .val (.ref o155), .unset, .unset, .unset] [(.ref a113), (.ref a113)])) (fun tq kq => XS.aload X158.here hx rfl (hb hby at_127) rfl (by rfl) kq) ?_
        refine own_st (T158.setTop (mkF m 132 #[.val (.int i), .val (.int j), .val (.int f), .val (.ref b1), .val (.ref b9), .val (.ref a113), .val (.ref a151), .val (.ref o155), .unset, .unset, .unset] [])) (fun tq kq => Jvm.RoadKit.acmp (g := (mkF m 129 #[.val (.int i), .val (.int j), .val (.int f), .val (.ref b1), .val (.ref b9), .val (.ref a113), .val (.ref a151), .val (.ref o155), .unset, .unset, .unset] [(.ref a113), (.ref a113)])) X158 hx rfl (by rfl) (by rfl) (pc0 := 129) (pc' := 132) (same := true) rfl (hb hby at_129) rfl (decide_eq_true (congrArg Value.ref (rfl : a113 = a113))) (by decide) (by decide) kq) ?_
        refine own_st (T158.setTop (mkF m 133 #[.val (.int i), .val (.int j), .val (.int f), .val (.ref b1), .val (.ref b9), .val (.ref a113), .val (.ref a151), .val (.ref o155), .unset, .unset, .unset] [(.int (1 : Int32))])) (fun tq kq => XS.iconst X158.here hx rfl (hb hby at_132) kq) ?_
        refine own_st (T158.setTop (mkF m 137 #[.val (.int i), .val (.int j), .val (.int f), .val (.ref b1), .val (.ref b9), .val (.ref a113), .val (.ref a151), .val (.ref o155), .unset, .unset, .unset] [(.int (1 : Int32))])) (fun tq kq => XS.goto X158.here hx rfl (pc0 := 133) (pc' := 137) rfl (hb hby at_133) (by decide) (by decide) kq) ?_
        refine own_st (T158.setTop (mkF m 139 #[.val (.int i), .val (.int j), .val (.int f), .val (.ref b1), .val (.ref b9), .val (.ref a113), .val (.ref a151), .val (.ref o155), .val (.int (1 : Int32)), .unset, .unset] [])) (fun tq kq => XS.istore X158.here hx rfl (hb hby at_137) rfl (l' := #[.val (.int i), .val (.int j), .val (.int f), .val (.ref b1), .val (.ref b9), .val (.ref a113), .val (.ref a151), .val (.ref o155), .val (.int (1 : Int32)), .unset, .unset]) rfl kq) ?_
        refine own_st (T158.setTop (mkF m 141 #[.val (.int i), .val (.int j), .val (.int f), .val (.ref b1), .val (.ref b9), .val (.ref a113), .val (.ref a151), .val (.ref o155), .val (.int (1 : Int32)), .unset, .unset] [(.ref o155)])) (fun tq kq => XS.aload X158.here hx rfl (hb hby at_139) rfl (by rfl) kq) ?_
        obtain ⟨v159, T159, L159, X159, q159, st159⟩ := own_callV X158 hx hZ151 hown151 (y := (⟨"com/example/gridclause/gridclause/cli/Option", "label", "()Ljava/lang/String;"⟩ : MethodName)) (z := (⟨"com/example/gridclause/gridclause/cli/Option", "label", "()Ljava/lang/String;"⟩ : MethodName)) (hw _ (List.mem_of_getElem? (i := 62) rfl)) (hw _ (List.mem_of_getElem? (i := 63) rfl)) (notFace_of_selects (args := a0) (hw _ (List.mem_of_getElem? (i := 65) rfl))) (hw _ (List.mem_of_getElem? (i := 65) rfl)) (hw _ (List.mem_of_getElem? (i := 64) rfl)) (hw _ (List.mem_of_getElem? (i := 35) rfl)) (hw _ (List.mem_of_getElem? (i := 66) rfl)) E155q (b := o155) (argsL := []) (own_get_Option_label l Z a0 hw [] o155 a151 T155.heap O155 f155_1) 0 (by decide) (by decide) (by decide) (by decide) (by decide) e158 (g := (mkF m 141 #[.val (.int i), .val (.int j), .val (.int f), .val (.ref b1), .val (.ref b9), .val (.ref a113), .val (.ref a151), .val (.ref o155), .val (.int (1 : Int32)), .unset, .unset] [(.ref o155)])) rfl (by rw [hml]; rfl) [] (lenOf own_pd__28_29Ljava_2flang_2fString_3b rfl) rfl (by show 2 * 0 + _ ≤ _; exact Nat.le_of_eq rfl) (hb hby at_141)
        obtain ⟨rfl, N159q, e159⟩ := q159
        have N159 := Fr.app N158 N159q
        refine own_st (T159.setTop (mkF m 144 #[.val (.int i), .val (.int j), .val (.int f), .val (.ref b1), .val (.ref b9), .val (.ref a113), .val (.ref a151), .val (.ref o155), .val (.int (1 : Int32)), .unset, .unset] [(.ref a151)])) st159 ?_
        refine own_st (T159.setTop (mkF m 146 #[.val (.int i), .val (.int j), .val (.int f), .val (.ref b1), .val (.ref b9), .val (.ref a113), .val (.ref a151), .val (.ref o155), .val (.int (1 : Int32)), .unset, .unset] [(.ref a151), (.ref a151)])) (fun tq kq => XS.aload X159.here hx rfl (hb hby at_144) rfl (by rfl) kq) ?_
        refine own_st (T159.setTop (mkF m 149 #[.val (.int i), .val (.int j), .val (.int f), .val (.ref b1), .val (.ref b9), .val (.ref a113), .val (.ref a151), .val (.ref o155), .val (.int (1 : Int32)), .unset, .unset] [])) (fun tq kq => Jvm.RoadKit.acmp (g := (mkF m 146 #[.val (.int i), .val (.int j), .val (.int f), .val (.ref b1), .val (.ref b9), .val (.ref a113), .val (.ref a151), .val (.ref o155), .val (.int (1 : Int32)), .unset, .unset] [(.ref a151), (.ref a151)])) X159 hx rfl (by rfl) (by rfl) (pc0 := 146) (pc' := 149) (same := true) rfl (hb hby at_146) rfl (decide_eq_true (congrArg Value.ref (rfl : a151 = a151))) (by decide) (by decide) kq) ?_
        refine own_st (T159.setTop (mkF m 150 #[.val (.int i), .val (.int j), .val (.int f), .val (.ref b1), .val (.ref b9), .val (.ref a113), .val (.ref a151), .val (.ref o155), .val (.int (1 : Int32)), .unset, .unset] [(.int (1 : Int32))])) (fun tq kq => XS.iconst X159.here hx rfl (hb hby at_149) kq) ?_
        refine own_st (T159.setTop (mkF m 154 #[.val (.int i), .val (.int j), .val (.int f), .val (.ref b1), .val (.ref b9), .val (.ref a113), .val (.ref a151), .val (.ref o155), .val (.int (1 : Int32)), .unset, .unset] [(.int (1 : Int32))])) (fun tq kq => XS.goto X159.here hx rfl (pc0 := 150) (pc' := 154) rfl (hb hby at_150) (by decide) (by decide) kq) ?_
        refine own_st (T159.setTop (mkF m 156 #[.val (.int i), .val (.int j), .val (.int f), .val (.ref b1), .val (.ref b9), .val (.ref a113), .val (.ref a151), .val (.ref o155), .val (.int (1 : Int32)), .val (.int (1 : Int32)), .unset] [])) (fun tq kq => XS.istore X159.here hx rfl (hb hby at_154) rfl (l' := #[.val (.int i), .val (.int j), .val (.int f), .val (.ref b1), .val (.ref b9), .val (.ref a113), .val (.ref a151), .val (.ref o155), .val (.int (1 : Int32)), .val (.int (1 : Int32)), .unset]) rfl kq) ?_
        refine own_st (T159.setTop (mkF m 158 #[.val (.int i), .val (.int j), .val (.int f), .val (.ref b1), .val (.ref b9), .val (.ref a113), .val (.ref a151), .val (.ref o155), .val (.int (1 : Int32)), .val (.int (1 : Int32)), .unset] [(.ref o155)])) (fun tq kq => XS.aload X159.here hx rfl (hb hby at_156) rfl (by rfl) kq) ?_
        obtain ⟨v160, T160, L160, X160, q160, st160⟩ := own_callV X159 hx hZ151 hown151 (y := (⟨"com/example/gridclause/gridclause/cli/Option", "use", "()Lcom/example/gridclause/gridclause/cli/Option$Use;"⟩ : MethodName)) (z := (⟨"com/example/gridclause/gridclause/cli/Option", "use", "()Lcom/example/gridclause/gridclause/cli/Option$Use;"⟩ : MethodName)) (hw _ (List.mem_of_getElem? (i := 67) rfl)) (hw _ (List.mem_of_getElem? (i := 68) rfl)) (notFace_of_selects (args := a0) (hw _ (List.mem_of_getElem? (i := 70) rfl))) (hw _ (List.mem_of_getElem? (i := 70) rfl)) (hw _ (List.mem_of_getElem? (i := 69) rfl)) (hw _ (List.mem_of_getElem? (i := 35) rfl)) (hw _ (List.mem_of_getElem? (i := 71) rfl)) E155q (b := o155) (argsL := []) (own_get_Option_use l Z a0 hw [] o155 wu T155.heap O155 f155_2) 0 (by decide) (by decide) (by decide) (by decide) (by decide) e159 (g := (mkF m 158 #[.val (.int i), .val (.int j), .val (.int f), .val (.ref b1), .val (.ref b9), .val (.ref a113), .val (.ref a151), .val (.ref o155), .val (.int (1 : Int32)), .val (.int (1 : Int32)), .unset] [(.ref o155)])) rfl (by rw [hml]; rfl) [] (lenOf own_pd__28_29Lcom_2fexample_2fgridclause_2fgridclause_2fcli_2fOption_24Use_3b rfl) rfl (by show 2 * 0 + _ ≤ _; exact Nat.le_of_eq rfl) (hb hby at_158)
        obtain ⟨rfl, N160q, e160⟩ := q160
        have N160 := Fr.app N159 N160q
        refine own_st (T160.setTop (mkF m 161 #[.val (.int i), .val (.int j), .val (.int f), .val (.ref b1), .val (.ref b9), .val (.ref a113), .val (.ref a151), .val (.ref o155), .val (.int (1 : Int32)), .val (.int (1 : Int32)), .unset] [(.ref wu)])) st160 ?_
        obtain ⟨T161, X161, e161, st161⟩ := getS2 X160 hx hZ151 hown151 (host := "") (Or.inl (hw _ (List.mem_of_getElem? (i := 72) rfl))) Via.refl e160 (SU.ext O155.2) (g := (mkF m 161 #[.val (.int i), .val (.int j), .val (.int f), .val (.ref b1), .val (.ref b9), .val (.ref a113), .val (.ref a151), .val (.ref o155), .val (.int (1 : Int32)), .val (.int (1 : Int32)), .unset] [(.ref wu)])) rfl (hb hby at_161)
        refine own_st (T161.setTop (mkF m 164 #[.val (.int i), .val (.int j), .val (.int f), .val (.ref b1), .val (.ref b9), .val (.ref a113), .val (.ref a151), .val (.ref o155), .val (.int (1 : Int32)), .val (.int (1 : Int32)), .unset] [(.ref wu), (.ref wu)])) st161 ?_
        refine own_st (T161.setTop (mkF m 167 #[.val (.int i), .val (.int j), .val (.int f), .val (.ref b1), .val (.ref b9), .val (.ref a113), .val (.ref a151), .val (.ref o155), .val (.int (1 : Int32)), .val (.int (1 : Int32)), .unset] [])) (fun tq kq => Jvm.RoadKit.acmp (g := (mkF m 164 #[.val (.int i), .val (.int j), .val (.int f), .val (.ref b1), .val (.ref b9), .val (.ref a113), .val (.ref a151), .val (.ref o155), .val (.int (1 : Int32)), .val (.int (1 : Int32)), .unset] [(.ref wu), (.ref wu)])) X161 hx rfl (by rfl) (by rfl) (pc0 := 164) (pc' := 167) (same := true) rfl (hb hby at_164) rfl (decide_eq_true (congrArg Value.ref (rfl : wu = wu))) (by decide) (by decide) kq) ?_
        refine own_st (T161.setTop (mkF m 168 #[.val (.int i), .val (.int j), .val (.int f), .val (.ref b1), .val (.ref b9), .val (.ref a113), .val (.ref a151), .val (.ref o155), .val (.int (1 : Int32)), .val (.int (1 : Int32)), .unset] [(.int (1 : Int32))])) (fun tq kq => XS.iconst X161.here hx rfl (hb hby at_167) kq) ?_
        refine own_st (T161.setTop (mkF m 172 #[.val (.int i), .val (.int j), .val (.int f), .val (.ref b1), .val (.ref b9), .val (.ref a113), .val (.ref a151), .val (.ref o155), .val (.int (1 : Int32)), .val (.int (1 : Int32)), .unset] [(.int (1 : Int32))])) (fun tq kq => XS.goto X161.here hx rfl (pc0 := 168) (pc' := 172) rfl (hb hby at_168) (by decide) (by decide) kq) ?_
        refine own_st (T161.setTop (mkF m 174 #[.val (.int i), .val (.int j), .val (.int f), .val (.ref b1), .val (.ref b9), .val (.ref a113), .val (.ref a151), .val (.ref o155), .val (.int (1 : Int32)), .val (.int (1 : Int32)), .val (.int (1 : Int32))] [])) (fun tq kq => XS.istore X161.here hx rfl (hb hby at_172) rfl (l' := #[.val (.int i), .val (.int j), .val (.int f), .val (.ref b1), .val (.ref b9), .val (.ref a113), .val (.ref a151), .val (.ref o155), .val (.int (1 : Int32)), .val (.int (1 : Int32)), .val (.int (1 : Int32))]) rfl kq) ?_
        refine own_st (T161.setTop (mkF m 176 #[.val (.int i), .val (.int j), .val (.int f), .val (.ref b1), .val (.ref b9), .val (.ref a113), .val (.ref a151), .val (.ref o155), .val (.int (1 : Int32)), .val (.int (1 : Int32)), .val (.int (1 : Int32))] [(.int (1 : Int32))])) (fun tq kq => XS.iload X161.here hx rfl (hb hby at_174) rfl kq) ?_
        refine own_st (T161.setTop (mkF m 179 #[.val (.int i), .val (.int j), .val (.int f), .val (.ref b1), .val (.ref b9), .val (.ref a113), .val (.ref a151), .val (.ref o155), .val (.int (1 : Int32)), .val (.int (1 : Int32)), .val (.int (1 : Int32))] [])) (fun tq kq => XS.ifNo X161.here hx rfl (hb hby at_176) rfl ((if0 _ _).trans (feq ((by decide) : ¬ ((1 : Int32) = (0 : Int32)))).1) kq) ?_
        refine own_st (T161.setTop (mkF m 181 #[.val (.int i), .val (.int j), .val (.int f), .val (.ref b1), .val (.ref b9), .val (.ref a113), .val (.ref a151), .val (.ref o155), .val (.int (1 : Int32)), .val (.int (1 : Int32)), .val (.int (1 : Int32))] [(.int (1 : Int32))])) (fun tq kq => XS.iload X161.here hx rfl (hb hby at_179) rfl kq) ?_
        refine own_st (T161.setTop (mkF m 184 #[.val (.int i), .val (.int j), .val (.int f), .val (.ref b1), .val (.ref b9), .val (.ref a113), .val (.ref a151), .val (.ref o155), .val (.int (1 : Int32)), .val (.int (1 : Int32)), .val (.int (1 : Int32))] [])) (fun tq kq => XS.ifNo X161.here hx rfl (hb hby at_181) rfl ((if0 _ _).trans (feq ((by decide) : ¬ ((1 : Int32) = (0 : Int32)))).1) kq) ?_
        refine own_st (T161.setTop (mkF m 186 #[.val (.int i), .val (.int j), .val (.int f), .val (.ref b1), .val (.ref b9), .val (.ref a113), .val (.ref a151), .val (.ref o155), .val (.int (1 : Int32)), .val (.int (1 : Int32)), .val (.int (1 : Int32))] [(.int (1 : Int32))])) (fun tq kq => XS.iload X161.here hx rfl (hb hby at_184) rfl kq) ?_
        refine own_st (T161.setTop (mkF m 189 #[.val (.int i), .val (.int j), .val (.int f), .val (.ref b1), .val (.ref b9), .val (.ref a113), .val (.ref a151), .val (.ref o155), .val (.int (1 : Int32)), .val (.int (1 : Int32)), .val (.int (1 : Int32))] [])) (fun tq kq => XS.ifNo X161.here hx rfl (hb hby at_186) rfl ((if0 _ _).trans (feq ((by decide) : ¬ ((1 : Int32) = (0 : Int32)))).1) kq) ?_
        refine own_st (T161.setTop (mkF m 190 #[.val (.int i), .val (.int j), .val (.int f), .val (.ref b1), .val (.ref b9), .val (.ref a113), .val (.ref a151), .val (.ref o155), .val (.int (1 : Int32)), .val (.int (1 : Int32)), .val (.int (1 : Int32))] [(.int (1 : Int32))])) (fun tq kq => XS.iconst X161.here hx rfl (hb hby at_189) kq) ?_
        refine own_st (T161.setTop (mkF m 194 #[.val (.int i), .val (.int j), .val (.int f), .val (.ref b1), .val (.ref b9), .val (.ref a113), .val (.ref a151), .val (.ref o155), .val (.int (1 : Int32)), .val (.int (1 : Int32)), .val (.int (1 : Int32))] [(.int (1 : Int32))])) (fun tq kq => XS.goto X161.here hx rfl (pc0 := 190) (pc' := 194) rfl (hb hby at_190) (by decide) (by decide) kq) ?_
        exact own_retW X161 hlk hS151 (Nat.le_trans hk151 K155q.1) hZ151 hEL R155 (v := some (.int (1 : Int32))) (fun h => by rw [hret] at h; cases h) e161 (fun vm1 C1 => ⟨rfl, N160⟩) (by decide) (by decide) (fun fs hr => own_retN X161 hx (t := .boolean) hret (by simp) (hb hby at_194) rfl hr)
      · skip
        refine own_st (T151.setTop (mkF m 102 #[.val (.int i), .val (.int j), .val (.int f), .val (.ref b1), .val (.ref b9), .val (.ref a113), .val (.ref a151), .unset, .unset, .unset, .unset] [])) (fun tq kq => XS.ifNo X151.here hx rfl (hb hby at_99) rfl ((if0 _ _).trans (feq (c99_154 : ¬ ((f &&& (4 : Int32)) = (0 : Int32)))).1) kq) ?_
        refine own_st (T151.setTop (mkF m 104 #[.val (.int i), .val (.int j), .val (.int f), .val (.ref b1), .val (.ref b9), .val (.ref a113), .val (.ref a151), .unset, .unset, .unset, .unset] [(.ref a113)])) (fun tq kq => XS.aload X151.here hx rfl (hb hby at_102) rfl (by rfl) kq) ?_
        refine own_st (T151.setTop (mkF m 106 #[.val (.int i), .val (.int j), .val (.int f), .val (.ref b1), .val (.ref b9), .val (.ref a113), .val (.ref a113), .unset, .unset, .unset, .unset] [])) (fun tq kq => XS.astore X151.here hx rfl (hb hby at_104) rfl (by rfl) (l' := #[.val (.int i), .val (.int j), .val (.int f), .val (.ref b1), .val (.ref b9), .val (.ref a113), .val (.ref a113), .unset, .unset, .unset, .unset]) rfl kq) ?_
        refine own_st (T151.setTop (mkF m 108 #[.val (.int i), .val (.int j), .val (.int f), .val (.ref b1), .val (.ref b9), .val (.ref a113), .val (.ref a113), .unset, .unset, .unset, .unset] [(.ref a113)])) (fun tq kq => XS.aload X151.here hx rfl (hb hby at_106) rfl (by rfl) kq) ?_
        refine own_st (T151.setTop (mkF m 110 #[.val (.int i), .val (.int j), .val (.int f), .val (.ref b1), .val (.ref b9), .val (.ref a113), .val (.ref a113), .unset, .unset, .unset, .unset] [(.ref a113), (.ref a113)])) (fun tq kq => XS.aload X151.here hx rfl (hb hby at_108) rfl (by rfl) kq) ?_
        obtain ⟨v162, T162, L162, X162, q162, st162⟩ := own_callS X151 hx hZ151 hown151 (hw _ (List.mem_of_getElem? (i := 33) rfl)) (hw _ (List.mem_of_getElem? (i := 34) rfl)) (hw _ (List.mem_of_getElem? (i := 35) rfl)) (hw _ (List.mem_of_getElem? (i := 36) rfl)) (argsL := [(.ref a113), (.ref a113)]) (own_optional l Z a0 hw [] a113 a113 wu h151 O151 SU) 0 (by decide) (by decide) (by decide) (by decide) (by decide) e151 (g := (mkF m 110 #[.val (.int i), .val (.int j), .val (.int f), .val (.ref b1), .val (.ref b9), .val (.ref a113), .val (.ref a113), .unset, .unset, .unset, .unset] [(.ref a113), (.ref a113)])) rfl (by rw [hml]; rfl) [] (lenOf own_pd__28Ljava_2flang_2fString_3bLjava_2flang_2fString_3b_29Lcom_2fexample_2fgridclause_2fgridclause_2fcli_2fOption_3b rfl) rfl (by show 2 * 0 + _ ≤ _; exact Nat.le_of_eq rfl) (hb hby at_110)
        obtain ⟨o162, rfl, N162q, K162q, z162, E162q, f162_0, f162_1, f162_2⟩ := q162
        have N162 := Fr.app N16 N162q
        have f163 := (f152.keep K162q nin0)
        have f164 := (f153.keep K162q nin0)
        have O162 := O151.keep K162q all0
        have R162 := R151.trans (CHr.keep K162q all0 R151.1)
        have sf162_b1 := Safe.keep K162q all0 R151.1 sf151_b1
        have sf162_b9 := Safe.keep K162q all0 R151.1 sf151_b9
        have K162 := K151.trans K162q all0
        refine own_st (T162.setTop (mkF m 113 #[.val (.int i), .val (.int j), .val (.int f), .val (.ref b1), .val (.ref b9), .val (.ref a113), .val (.ref a113), .unset, .unset, .unset, .unset] [(.ref o162)])) st162 ?_
        refine own_st (T162.setTop (mkF m 115 #[.val (.int i), .val (.int j), .val (.int f), .val (.ref b1), .val (.ref b9), .val (.ref a113), .val (.ref a113), .val (.ref o162), .unset, .unset, .unset] [])) (fun tq kq => XS.astore X162.here hx rfl (hb hby at_113) rfl (by rfl) (l' := #[.val (.int i), .val (.int j), .val (.int f), .val (.ref b1), .val (.ref b9), .val (.ref a113), .val (.ref a113), .val (.ref o162), .unset, .unset, .unset]) rfl kq) ?_
        refine own_st (T162.setTop (mkF m 117 #[.val (.int i), .val (.int j), .val (.int f), .val (.ref b1), .val (.ref b9), .val (.ref a113), .val (.ref a113), .val (.ref o162), .unset, .unset, .unset] [(.ref o162)])) (fun tq kq => XS.aload X162.here hx rfl (hb hby at_115) rfl (by rfl) kq) ?_
        refine own_st (T162.setTop (mkF m 122 #[.val (.int i), .val (.int j), .val (.int f), .val (.ref b1), .val (.ref b9), .val (.ref a113), .val (.ref a113), .val (.ref o162), .unset, .unset, .unset] [])) (fun tq kq => XS.ifnonnullYes X162.here hx rfl (pc0 := 117) (pc' := 122) rfl (hb hby at_117) rfl (by decide) (by decide) kq) ?_
        refine own_st (T162.setTop (mkF m 124 #[.val (.int i), .val (.int j), .val (.int f), .val (.ref b1), .val (.ref b9), .val (.ref a113), .val (.ref a113), .val (.ref o162), .unset, .unset, .unset] [(.ref o162)])) (fun tq kq => XS.aload X162.here hx rfl (hb hby at_122) rfl (by rfl) kq) ?_
        obtain ⟨v165, T165, L165, X165, q165, st165⟩ := own_callV X162 hx hZ151 hown151 (y := (⟨"com/example/gridclause/gridclause/cli/Option", "name", "()Ljava/lang/String;"⟩ : MethodName)) (z := (⟨"com/example/gridclause/gridclause/cli/Option", "name", "()Ljava/lang/String;"⟩ : MethodName)) (hw _ (List.mem_of_getElem? (i := 57) rfl)) (hw _ (List.mem_of_getElem? (i := 58) rfl)) (notFace_of_selects (args := a0) (hw _ (List.mem_of_getElem? (i := 60) rfl))) (hw _ (List.mem_of_getElem? (i := 60) rfl)) (hw _ (List.mem_of_getElem? (i := 59) rfl)) (hw _ (List.mem_of_getElem? (i := 35) rfl)) (hw _ (List.mem_of_getElem? (i := 61) rfl)) E162q (b := o162) (argsL := []) (own_get_Option_name l Z a0 hw [] o162 a113 T162.heap O162 f162_0) 0 (by decide) (by decide) (by decide) (by decide) (by decide) rfl (g := (mkF m 124 #[.val (.int i), .val (.int j), .val (.int f), .val (.ref b1), .val (.ref b9), .val (.ref a113), .val (.ref a113), .val (.ref o162), .unset, .unset, .unset] [(.ref o162)])) rfl (by rw [hml]; rfl) [] (lenOf own_pd__28_29Ljava_2flang_2fString_3b rfl) rfl (by show 2 * 0 + _ ≤ _; exact Nat.le_of_eq rfl) (hb hby at_124)
        obtain ⟨rfl, N165q, e165⟩ := q165
        have N165 := Fr.app N162 N165q
        refine own_st (T165.setTop (mkF m 127 #[.val (.int i), .val (.int j), .val (.int f), .val (.ref b1), .val (.ref b9), .val (.ref a113), .val (.ref a113), .val (.ref o162), .unset, .unset, .unset] [(.ref a113)])) st165 ?_
        refine own_st (T165.setTop (mkF m 129 #[.val (.int i), .val (.int j), .val (.int f), .val (.ref b1), .val (.ref b9), .val (.ref a113), .val (.ref a113), .val (.ref o162), .unset, .unset, .unset] [(.ref a113), (.ref a113)])) (fun tq kq => XS.aload X165.here hx rfl (hb hby at_127) rfl (by rfl) kq) ?_
        refine own_st (T165.setTop (mkF m 132 #[.val (.int i), .val (.int j), .val (.int f), .val (.ref b1), .val (.ref b9), .val (.ref a113), .val (.ref a113), .val (.ref o162), .unset, .unset, .unset] [])) (fun tq kq => Jvm.RoadKit.acmp (g := (mkF m 129 #[.val (.int i), .val (.int j), .val (.int f), .val (.ref b1), .val (.ref b9), .val (.ref a113), .val (.ref a113), .val (.ref o162), .unset, .unset, .unset] [(.ref a113), (.ref a113)])) X165 hx rfl (by rfl) (by rfl) (pc0 := 129) (pc' := 132) (same := true) rfl (hb hby at_129) rfl (decide_eq_true (congrArg Value.ref (rfl : a113 = a113))) (by decide) (by decide) kq) ?_
        refine own_st (T165.setTop (mkF m 133 #[.val (.int i), .val (.int j), .val (.int f), .val (.ref b1), .val (.ref b9), .val (.ref a113), .val (.ref a113), .val (.ref o162), .unset, .unset, .unset] [(.int (1 : Int32))])) (fun tq kq => XS.iconst X165.here hx rfl (hb hby at_132) kq) ?_
        refine own_st (T165.setTop (mkF m 137 #[.val (.int i), .val (.int j), .val (.int f), .val (.ref b1), .val (.ref b9), .val (.ref a113), .val (.ref a113), .val (.ref o162), .unset, .unset, .unset] [(.int (1 : Int32))])) (fun tq kq => XS.goto X165.here hx rfl (pc0 := 133) (pc' := 137) rfl (hb hby at_133) (by decide) (by decide) kq) ?_
        refine own_st (T165.setTop (mkF m 139 #[.val (.int i), .val (.int j), .val (.int f), .val (.ref b1), .val (.ref b9), .val (.ref a113), .val (.ref a113), .val (.ref o162), .val (.int (1 : Int32)), .unset, .unset] [])) (fun tq kq => XS.istore X165.here hx rfl (hb hby at_137) rfl (l' := #[.val (.int i), .val (.int j), .val (.int f), .val (.ref b1), .val (.ref b9), .val (.ref a113), .val (.ref a113), .val (.ref o162), .val (.int (1 : Int32)), .unset, .unset]) rfl kq) ?_
        refine own_st (T165.setTop (mkF m 141 #[.val (.int i), .val (.int j), .val (.int f), .val (.ref b1), .val (.ref b9), .val (.ref a113), .val (.ref a113), .val (.ref o162), .val (.int (1 : Int32)), .unset, .unset] [(.ref o162)])) (fun tq kq => XS.aload X165.here hx rfl (hb hby at_139) rfl (by rfl) kq) ?_
        obtain ⟨v166, T166, L166, X166, q166, st166⟩ := own_callV X165 hx hZ151 hown151 (y := (⟨"com/example/gridclause/gridclause/cli/Option", "label", "()Ljava/lang/String;"⟩ : MethodName)) (z := (⟨"com/example/gridclause/gridclause/cli/Option", "label", "()Ljava/lang/String;"⟩ : MethodName)) (hw _ (List.mem_of_getElem? (i := 62) rfl)) (hw _ (List.mem_of_getElem? (i := 63) rfl)) (notFace_of_selects (args := a0) (hw _ (List.mem_of_getElem? (i := 65) rfl))) (hw _ (List.mem_of_getElem? (i := 65) rfl)) (hw _ (List.mem_of_getElem? (i := 64) rfl)) (hw _ (List.mem_of_getElem? (i := 35) rfl)) (hw _ (List.mem_of_getElem? (i := 66) rfl)) E162q (b := o162) (argsL := []) (own_get_Option_label l Z a0 hw [] o162 a113 T162.heap O162 f162_1) 0 (by decide) (by decide) (by decide) (by decide) (by decide) e165 (g := (mkF m 141 #[.val (.int i), .val (.int j), .val (.int f), .val (.ref b1), .val (.ref b9), .val (.ref a113), .val (.ref a113), .val (.ref o162), .val (.int (1 : Int32)), .unset, .unset] [(.ref o162)])) rfl (by rw [hml]; rfl) [] (lenOf own_pd__28_29Ljava_2flang_2fString_3b rfl) rfl (by show 2 * 0 + _ ≤ _; exact Nat.le_of_eq rfl) (hb hby at_141)
        obtain ⟨rfl, N166q, e166⟩ := q166
        have N166 := Fr.app N165 N166q
        refine own_st (T166.setTop (mkF m 144 #[.val (.int i), .val (.int j), .val (.int f), .val (.ref b1), .val (.ref b9), .val (.ref a113), .val (.ref a113), .val (.ref o162), .val (.int (1 : Int32)), .unset, .unset] [(.ref a113)])) st166 ?_
        refine own_st (T166.setTop (mkF m 146 #[.val (.int i), .val (.int j), .val (.int f), .val (.ref b1), .val (.ref b9), .val (.ref a113), .val (.ref a113), .val (.ref o162), .val (.int (1 : Int32)), .unset, .unset] [(.ref a113), (.ref a113)])) (fun tq kq => XS.aload X166.here hx rfl (hb hby at_144) rfl (by rfl) kq) ?_
        refine own_st (T166.setTop (mkF m 149 #[.val (.int i), .val (.int j), .val (.int f), .val (.ref b1), .val (.ref b9), .val (.ref a113), .val (.ref a113), .val (.ref o162), .val (.int (1 : Int32)), .unset, .unset] [])) (fun tq kq => Jvm.RoadKit.acmp (g := (mkF m 146 #[.val (.int i), .val (.int j), .val (.int f), .val (.ref b1), .val (.ref b9), .val (.ref a113), .val (.ref a113), .val (.ref o162), .val (.int (1 : Int32)), .unset, .unset] [(.ref a113), (.ref a113)])) X166 hx rfl (by rfl) (by rfl) (pc0 := 146) (pc' := 149) (same := true) rfl (hb hby at_146) rfl (decide_eq_true (congrArg Value.ref (rfl : a113 = a113))) (by decide) (by decide) kq) ?_
        refine own_st (T166.setTop (mkF m 150 #[.val (.int i), .val (.int j), .val (.int f), .val (.ref b1), .val (.ref b9), .val (.ref a113), .val (.ref a113), .val (.ref o162), .val (.int (1 : Int32)), .unset, .unset] [(.int (1 : Int32))])) (fun tq kq => XS.iconst X166.here hx rfl (hb hby at_149) kq) ?_
        refine own_st (T166.setTop (mkF m 154 #[.val (.int i), .val (.int j), .val (.int f), .val (.ref b1), .val (.ref b9), .val (.ref a113), .val (.ref a113), .val (.ref o162), .val (.int (1 : Int32)), .unset, .unset] [(.int (1 : Int32))])) (fun tq kq => XS.goto X166.here hx rfl (pc0 := 150) (pc' := 154) rfl (hb hby at_150) (by decide) (by decide) kq) ?_
        refine own_st (T166.setTop (mkF m 156 #[.val (.int i), .val (.int j), .val (.int f), .val (.ref b1), .val (.ref b9), .val (.ref a113), .val (.ref a113), .val (.ref o162), .val (.int (1 : Int32)), .val (.int (1 : Int32)), .unset] [])) (fun tq kq => XS.istore X166.here hx rfl (hb hby at_154) rfl (l' := #[.val (.int i), .val (.int j), .val (.int f), .val (.ref b1), .val (.ref b9), .val (.ref a113), .val (.ref a113), .val (.ref o162), .val (.int (1 : Int32)), .val (.int (1 : Int32)), .unset]) rfl kq) ?_
        refine own_st (T166.setTop (mkF m 158 #[.val (.int i), .val (.int j), .val (.int f), .val (.ref b1), .val (.ref b9), .val (.ref a113), .val (.ref a113), .val (.ref o162), .val (.int (1 : Int32)), .val (.int (1 : Int32)), .unset] [(.ref o162)])) (fun tq kq => XS.aload X166.here hx rfl (hb hby at_156) rfl (by rfl) kq) ?_
        obtain ⟨v167, T167, L167, X167, q167, st167⟩ := own_callV X166 hx hZ151 hown151 (y := (⟨"com/example/gridclause/gridclause/cli/Option", "use", "()Lcom/example/gridclause/gridclause/cli/Option$Use;"⟩ : MethodName)) (z := (⟨"com/example/gridclause/gridclause/cli/Option", "use", "()Lcom/example/gridclause/gridclause/cli/Option$Use;"⟩ : MethodName)) (hw _ (List.mem_of_getElem? (i := 67) rfl)) (hw _ (List.mem_of_getElem? (i := 68) rfl)) (notFace_of_selects (args := a0) (hw _ (List.mem_of_getElem? (i := 70) rfl))) (hw _ (List.mem_of_getElem? (i := 70) rfl)) (hw _ (List.mem_of_getElem? (i := 69) rfl)) (hw _ (List.mem_of_getElem? (i := 35) rfl)) (hw _ (List.mem_of_getElem? (i := 71) rfl)) E162q (b := o162) (argsL := []) (own_get_Option_use l Z a0 hw [] o162 wu T162.heap O162 f162_2) 0 (by decide) (by decide) (by decide) (by decide) (by decide) e166 (g := (mkF m 158 #[.val (.int i), .val (.int j), .val (.int f), .val (.ref b1), .val (.ref b9), .val (.ref a113), .val (.ref a113), .val (.ref o162), .val (.int (1 : Int32)), .val (.int (1 : Int32)), .unset] [(.ref o162)])) rfl (by rw [hml]; rfl) [] (lenOf own_pd__28_29Lcom_2fexample_2fgridclause_2fgridclause_2fcli_2fOption_24Use_3b rfl) rfl (by show 2 * 0 + _ ≤ _; exact Nat.le_of_eq rfl) (hb hby at_158)
        obtain ⟨rfl, N167q, e167⟩ := q167
        have N167 := Fr.app N166 N167q
        refine own_st (T167.setTop (mkF m 161 #[.val (.int i), .val (.int j), .val (.int f), .val (.ref b1), .val (.ref b9), .val (.ref a113), .val (.ref a113), .val (.ref o162), .val (.int (1 : Int32)), .val (.int (1 : Int32)), .unset] [(.ref wu)])) st167 ?_
        obtain ⟨T168, X168, e168, st168⟩ := getS2 X167 hx hZ151 hown151 (host := "") (Or.inl (hw _ (List.mem_of_getElem? (i := 72) rfl))) Via.refl e167 (SU.ext O162.2) (g := (mkF m 161 #[.val (.int i), .val (.int j), .val (.int f), .val (.ref b1), .val (.ref b9), .val (.ref a113), .val (.ref a113), .val (.ref o162), .val (.int (1 : Int32)), .val (.int (1 : Int32)), .unset] [(.ref wu)])) rfl (hb hby at_161)
        refine own_st (T168.setTop (mkF m 164 #[.val (.int i), .val (.int j), .val (.int f), .val (.ref b1), .val (.ref b9), .val (.ref a113), .val (.ref a113), .val (.ref o162), .val (.int (1 : Int32)), .val (.int (1 : Int32)), .unset] [(.ref wu), (.ref wu)])) st168 ?_
        refine own_st (T168.setTop (mkF m 167 #[.val (.int i), .val (.int j), .val (.int f), .val (.ref b1), .val (.ref b9), .val (.ref a113), .val (.ref a113), .val (.ref o162), .val (.int (1 : Int32)), .val (.int (1 : Int32)), .unset] [])) (fun tq kq => Jvm.RoadKit.acmp (g := (mkF m 164 #[.val (.int i), .val (.int j), .val (.int f), .val (.ref b1), .val (.ref b9), .val (.ref a113), .val (.ref a113), .val (.ref o162), .val (.int (1 : Int32)), .val (.int (1 : Int32)), .unset] [(.ref wu), (.ref wu)])) X168 hx rfl (by rfl) (by rfl) (pc0 := 164) (pc' := 167) (same := true) rfl (hb hby at_164) rfl (decide_eq_true (congrArg Value.ref (rfl : wu = wu))) (by decide) (by decide) kq) ?_
        refine own_st (T168.setTop (mkF m 168 #[.val (.int i), .val (.int j), .val (.int f), .val (.ref b1), .val (.ref b9), .val (.ref a113), .val (.ref a113), .val (.ref o162), .val (.int (1 : Int32)), .val (.int (1 : Int32)), .unset] [(.int (1 : Int32))])) (fun tq kq => XS.iconst X168.here hx rfl (hb hby at_167) kq) ?_
        refine own_st (T168.setTop (mkF m 172 #[.val (.int i), .val (.int j), .val (.int f), .val (.ref b1), .val (.ref b9), .val (.ref a113), .val (.ref a113), .val (.ref o162), .val (.int (1 : Int32)), .val (.int (1 : Int32)), .unset] [(.int (1 : Int32))])) (fun tq kq => XS.goto X168.here hx rfl (pc0 := 168) (pc' := 172) rfl (hb hby at_168) (by decide) (by decide) kq) ?_
        refine own_st (T168.setTop (mkF m 174 #[.val (.int i), .val (.int j), .val (.int f), .val (.ref b1), .val (.ref b9), .val (.ref a113), .val (.ref a113), .val (.ref o162), .val (.int (1 : Int32)), .val (.int (1 : Int32)), .val (.int (1 : Int32))] [])) (fun tq kq => XS.istore X168.here hx rfl (hb hby at_172) rfl (l' := #[.val (.int i), .val (.int j), .val (.int f), .val (.ref b1), .val (.ref b9), .val (.ref a113), .val (.ref a113), .val (.ref o162), .val (.int (1 : Int32)), .val (.int (1 : Int32)), .val (.int (1 : Int32))]) rfl kq) ?_
        refine own_st (T168.setTop (mkF m 176 #[.val (.int i), .val (.int j), .val (.int f), .val (.ref b1), .val (.ref b9), .val (.ref a113), .val (.ref a113), .val (.ref o162), .val (.int (1 : Int32)), .val (.int (1 : Int32)), .val (.int (1 : Int32))] [(.int (1 : Int32))])) (fun tq kq => XS.iload X168.here hx rfl (hb hby at_174) rfl kq) ?_
        refine own_st (T168.setTop (mkF m 179 #[.val (.int i), .val (.int j), .val (.int f), .val (.ref b1), .val (.ref b9), .val (.ref a113), .val (.ref a113), .val (.ref o162), .val (.int (1 : Int32)), .val (.int (1 : Int32)), .val (.int (1 : Int32))] [])) (fun tq kq => XS.ifNo X168.here hx rfl (hb hby at_176) rfl ((if0 _ _).trans (feq ((by decide) : ¬ ((1 : Int32) = (0 : Int32)))).1) kq) ?_
        refine own_st (T168.setTop (mkF m 181 #[.val (.int i), .val (.int j), .val (.int f), .val (.ref b1), .val (.ref b9), .val (.ref a113), .val (.ref a113), .val (.ref o162), .val (.int (1 : Int32)), .val (.int (1 : Int32)), .val (.int (1 : Int32))] [(.int (1 : Int32))])) (fun tq kq => XS.iload X168.here hx rfl (hb hby at_179) rfl kq) ?_
        refine own_st (T168.setTop (mkF m 184 #[.val (.int i), .val (.int j), .val (.int f), .val (.ref b1), .val (.ref b9), .val (.ref a113), .val (.ref a113), .val (.ref o162), .val (.int (1 : Int32)), .val (.int (1 : Int32)), .val (.int (1 : Int32))] [])) (fun tq kq => XS.ifNo X168.here hx rfl (hb hby at_181) rfl ((if0 _ _).trans (feq ((by decide) : ¬ ((1 : Int32) = (0 : Int32)))).1) kq) ?_
        refine own_st (T168.setTop (mkF m 186 #[.val (.int i), .val (.int j), .val (.int f), .val (.ref b1), .val (.ref b9), .val (.ref a113), .val (.ref a113), .val (.ref o162), .val (.int (1 : Int32)), .val (.int (1 : Int32)), .val (.int (1 : Int32))] [(.int (1 : Int32))])) (fun tq kq => XS.iload X168.here hx rfl (hb hby at_184) rfl kq) ?_
        refine own_st (T168.setTop (mkF m 189 #[.val (.int i), .val (.int j), .val (.int f), .val (.ref b1), .val (.ref b9), .val (.ref a113), .val (.ref a113), .val (.ref o162), .val (.int (1 : Int32)), .val (.int (1 : Int32)), .val (.int (1 : Int32))] [])) (fun tq kq => XS.ifNo X168.here hx rfl (hb hby at_186) rfl ((if0 _ _).trans (feq ((by decide) : ¬ ((1 : Int32) = (0 : Int32)))).1) kq) ?_
        refine own_st (T168.setTop (mkF m 190 #[.val (.int i), .val (.int j), .val (.int f), .val (.ref b1), .val (.ref b9), .val (.ref a113), .val (.ref a113), .val (.ref o162), .val (.int (1 : Int32)), .val (.int (1 : Int32)), .val (.int (1 : Int32))] [(.int (1 : Int32))])) (fun tq kq => XS.iconst X168.here hx rfl (hb hby at_189) kq) ?_
        refine own_st (T168.setTop (mkF m 194 #[.val (.int i), .val (.int j), .val (.int f), .val (.ref b1), .val (.ref b9), .val (.ref a113), .val (.ref a113), .val (.ref o162), .val (.int (1 : Int32)), .val (.int (1 : Int32)), .val (.int (1 : Int32))] [(.int (1 : Int32))])) (fun tq kq => XS.goto X168.here hx rfl (pc0 := 190) (pc' := 194) rfl (hb hby at_190) (by decide) (by decide) kq) ?_
        exact own_retW X168 hlk hS151 (Nat.le_trans hk151 K162q.1) hZ151 hEL R162 (v := some (.int (1 : Int32))) (fun h => by rw [hret] at h; cases h) e168 (fun vm1 C1 => ⟨rfl, N167⟩) (by decide) (by decide) (fun fs hr => own_retN X168 hx (t := .boolean) hret (by simp) (hb hby at_194) rfl hr)
set_option maxRecDepth 65536 in
set_option maxHeartbeats 40000000 in
theorem comes_1 {Post : Tables → Env → Array Value → State → Outcome → State → Prop} (hpost : ∀ tb e args s v u, (limb_1_1.after args s (.returned v) u = true ∧ limb_1_2.after args s (.returned v) u = true ∧ True) → ReturnedEndW s (.returned v) u (Jvm.fieldLocs frame_1_writes args s ++ Jvm.arrayLocs frame_1_arrays args s ++ Jvm.staticLocs frame_1_statics s) 24 1152 → Post tb e args s (.returned v) u) :
    ArmFor flags0 classFile x code maxLocals ret World_1 tables_1 room_1 Calls_1 rest_1 Pre_1 Post := by
  intro l hfl _ _ p e ha hc hk s m args below hf hA hF happ hP
  obtain ⟨hcalls, hrest, hpre⟩ := hP
  obtain ⟨-, -, -, hnamed, -, -, -, hat⟩ := (Spec.applies_iff hf).mp happ
  obtain ⟨hg, hn⟩ := and_e (Cond.before_iff.mp (show (Jvm.Cond.and given_1 narrow_1).before args s = true from hpre))
  obtain ⟨g1, g2⟩ := and_e hg
  obtain ⟨g3, g4⟩ := and_e g2
  obtain ⟨g5, g6⟩ := and_e g4
  obtain ⟨w0, w1, w2, rfl⟩ : ∃ w0 w1 w2 : Value, args = #[w0, w1, w2] := by
    have hs : args.size = 3 := by simpa [Cond.value, given_1] using g1
    obtain ⟨L⟩ := args
    match L, hs with
    | [w0, w1, w2], _ => exact ⟨w0, w1, w2, rfl⟩
  have hw := fun d (hd : d ∈ tables_1) => atoms_spec (ws := Jvm.Cond.code x code maxLocals ret :: tables_1) hat d (List.mem_cons_of_mem _ hd)
  have hfit : Fit s := fun {y c} hc i hi => by
    obtain ⟨ha, rfl⟩ := Array.getElem?_eq_some_iff.mp hc
    have q := List.all_eq_true.mp ((Array.all_eq_true_iff_forall_mem.mp hF) _ (Array.getElem_mem ha)) i (List.mem_range.mpr hi)
    simpa [Array.getElem?_eq_getElem hi] using q
  obtain ⟨hsets, hown0⟩ := atoms_of _ (rest_1_c_eq ▸ (show rest_1_c.before _ s = true from hrest))
  have hr0 := Cond.before_iff.mp hown0
  obtain ⟨i0, ei0⟩ := is_v g3
  obtain rfl : w0 = (.int i0) := Option.some.inj ei0
  obtain ⟨i1, ei1⟩ := is_v g5
  obtain rfl : w1 = (.int i1) := Option.some.inj ei1
  obtain ⟨i2, ei2⟩ := is_v g6
  obtain rfl : w2 = (.int i2) := Option.some.inj ei2
  obtain ⟨sa7, se8⟩ := exa_v hn
  have E9 : Exa s s.heap sa7 "com/example/gridclause/gridclause/cli/Option$Use" := Exa.start se8 hn
  have S10 : Sta s s.heap "com/example/gridclause/gridclause/cli/Option$Use" "OPTIONAL" "Lcom/example/gridclause/gridclause/cli/Option$Use;" (.ref sa7) := Sta.start se8 (Or.inr ⟨(hw _ (List.mem_of_getElem? (i := 40) rfl)), (hw _ (List.mem_of_getElem? (i := 41) rfl))⟩)
  obtain ⟨cz, ecz⟩ := is_v (Cond.before_iff.mp (hsets _ (List.mem_of_getElem? (i := 1) rfl)))
  have SC : Sta s s.heap "java/lang/String" "COMPACT_STRINGS" "Z" (.int cz) := Sta.start ecz (Or.inl (Cond.before_iff.mpr (Cond.before_iff.mp (hsets _ (List.mem_of_getElem? (i := 0) rfl)))))
  have hcz : ¬ (cz = (0 : Int32)) := gotF (Cond.eq_ints ecz (Term.int_eval (0))) (not_v (Cond.before_iff.mp (hsets _ (List.mem_of_getElem? (i := 2) rfl))))
  have hheld : ∀ p ∈ own_EL, Jvm.Lit.constHeld s p.1 p.2 := fun p hp => by cases hp
  have hCH : CHv s own_EL s.vm s.heap := CHv.start (own_hEL hw) hheld (Cond.before_iff.mpr (Cond.before_iff.mp (hsets _ (List.mem_of_getElem? (i := 2) rfl)))) (hw _ (List.mem_of_getElem? (i := 19) rfl)) (hw _ (List.mem_of_getElem? (i := 2) rfl))
  obtain ⟨n, o, h1, h2, h3, _, L, rfl, ⟨rfl, N⟩, -, hq⟩ := own_law l s _ hw tables_1 cz i0 i1 i2 sa7 s.heap (Old.start s) SC hcz S10 p e ha hc hk s m _ below hf ((Spec.applies_iff_loose hf).mp happ).1 ⟨rfl, State.Warmed39.refl s, rfl, hCH, all0⟩ trivial
  refine ⟨n, _, h1, h2, h3, hpost _ _ _ _ _ _ ⟨Cond.after_iff.mpr rfl, Cond.after_iff.mpr (eq_i res_at (Term.int_eval (1)) rfl), trivial⟩ ⟨hq.1, hq.2.1, hq.2.2.1, (hq.2.2.2.sift fun y hy => Or.inr (N y hy)).mono (by decide) (by decide)⟩⟩
theorem main_1_1 : Claimed_1_1 := comes_1 fun _ _ _ _ _ _ h hF => ⟨h.1, hF⟩
theorem main_1_2 : Claimed_1_2 := comes_1 fun _ _ _ _ _ _ h hF => ⟨h.2.1, hF⟩
end Jvm.Pilot.@@N@@
namespace Jvm.Pilot.@@N@@
open Jvm Jvm.ClassFile Sem Op Lib Jvm.Free Jvm.Stand Jvm.Pilot.@@N@@.Jvm.D
/-! MADE BY PROGRAM (witnessworld.py) out of the Statement's table words and the real class files: 23 classes; the members and pool entries that the words name. The judged class is class 1, her method 1. -/
namespace start1
open Jvm.ClassFile
def u (s : String) : CpInfo := .utf8 (stringToUtf16 s)
/-- a pool by its gaps: so many unusable entries, then the entry; so many at the end -/
def gap : Nat → List CpInfo → List CpInfo
  | 0, r => r
  | n + 1, r => .unusable :: gap n r
def poolList (es : List (Nat × CpInfo)) (last : Nat) : List CpInfo := es.foldr (fun e r => gap e.1 (e.2 :: r)) (gap last [])
def pool (es : List (Nat × CpInfo)) (last : Nat) : Array CpInfo := ⟨poolList es last⟩
def fileOf (pool : Array CpInfo) (this : Nat) (attrs : Array Attribute := #[]) (ms : Array MethodInfo := #[]) (fl : Nat := 33) (sup : Nat := 0) (ifs : Array Nat := #[]) (fds : Array FieldInfo := #[]) : ClassFile where
  minorVersion := 0
  majorVersion := 65
  constantPool := pool
  accessFlags := fl
  thisClass := this
  superClass := sup
  interfaces := ifs
  fields := fds
  methods := ms
  attributes := attrs
def plain (name : String) (sup : Option ClassId) : Class where
  name := name
  kind := .ordinary
  loader := none
  accessFlags := 33
  super := sup
  interfaces := #[]
  cf := none
  fields := #[]
  methods := #[]
  instanceTypes := #[]
  staticTypes := #[]
  resolved := #[]
  callSites := []
  init := .initialized
  statics := none
  mirror := none

def pool0 : Array CpInfo := pool [(5, u "<init>"), (0, u "()V"), (1, .class_ 10), (1, u "java/lang/Object")] 113

def k0c0 : Code := { maxStack := 0, maxLocals := 1, code := object_method_1_code, exceptionTable := #[], attributes := #[] }
def k0m0 : Method := { name := "<init>", desc := "()V", sig := { parameters := [], returnType := none }, accessFlags := 1, code := some k0c0 }
/-- java/lang/Object -/
def k0 : Class := { plain "java/lang/Object" none with
  accessFlags := 33
  interfaces := #[]
  cf := some (fileOf pool0 8 #[] #[{ accessFlags := 1, nameIndex := 5, descriptorIndex := 6, attributes := #[] }] 33 0 #[] #[])
  fields := #[]
  methods := #[k0m0]
  instanceTypes := #[]
  staticTypes := #[]
  resolved := Array.replicate 124 none
  statics := none }

def pool1 : Array CpInfo := pool [(2, .class_ 4), (1, u "java/lang/Object"), (0, u "<init>"), (0, u "()V"), (0, .string 8), (0, u ""), (0, .class_ 10), (0, u "java/lang/String"), (0, .methodref 9 12), (0, .nameAndType 5 13), (0, u "([C)V"), (0, .methodref 15 16), (0, .class_ 17), (0, .nameAndType 18 19), (0, u "com/example/gridclause/gridclause/cli/Option"), (0, u "optional"), (0, u "(Ljava/lang/String;Ljava/lang/String;)Lcom/example/gridclause/gridclause/cli/Option;"), (0, .methodref 15 21), (0, .nameAndType 22 23), (0, u "name"), (0, u "()Ljava/lang/String;"), (0, .methodref 15 25), (0, .nameAndType 26 23), (0, u "label"), (0, .methodref 15 28), (0, .nameAndType 29 30), (0, u "use"), (0, u "()Lcom/example/gridclause/gridclause/cli/Option$Use;"), (0, .fieldref 32 33), (0, .class_ 34), (0, .nameAndType 35 36), (0, u "com/example/gridclause/gridclause/cli/Option$Use"), (0, u "OPTIONAL"), (0, u "Lcom/example/gridclause/gridclause/cli/Option$Use;"), (0, .class_ 38), (0, u "com/example/gridclause/gridclause/cli/OptionOptionalPinLaw"), (2, u "law"), (0, u "(III)Z")] 7

def k1m0 : Method := { name := "<init>", desc := "()V", sig := { parameters := [], returnType := none }, accessFlags := 2, code := none }
def k1c1 : Code := { maxStack := 4, maxLocals := 11, code := code, exceptionTable := #[], attributes := #[] }
def k1m1 : Method := { name := "law", desc := "(III)Z", sig := { parameters := [.int, .int, .int], returnType := some .boolean }, accessFlags := 9, code := some k1c1 }
/-- com/example/gridclause/gridclause/cli/OptionOptionalPinLaw -/
def k1 : Class := { plain "com/example/gridclause/gridclause/cli/OptionOptionalPinLaw" (some 0) with
  accessFlags := 49
  interfaces := #[]
  cf := some (fileOf pool1 37 #[] #[{ accessFlags := 2, nameIndex := 5, descriptorIndex := 6, attributes := #[] }, { accessFlags := 9, nameIndex := 41, descriptorIndex := 42, attributes := #[] }] 49 2 #[] #[])
  fields := #[]
  methods := #[k1m0, k1m1]
  instanceTypes := #[]
  staticTypes := #[]
  resolved := Array.replicate 50 none
  statics := none }

def pool2 : Array CpInfo := pool [(1, .class_ 2), (0, u "java/io/Serializable"), (0, .class_ 4), (0, u "java/lang/Object")] 2

/-- java/io/Serializable -/
def k2 : Class := { plain "java/io/Serializable" (some 0) with
  accessFlags := 1537
  interfaces := #[]
  cf := some (fileOf pool2 1 #[] #[] 1537 3 #[] #[])
  fields := #[]
  methods := #[]
  instanceTypes := #[]
  staticTypes := #[]
  resolved := Array.replicate 7 none
  statics := none }

def pool3 : Array CpInfo := pool [(1, .class_ 2), (0, u "java/lang/Comparable"), (0, .class_ 4), (0, u "java/lang/Object")] 7

/-- java/lang/Comparable -/
def k3 : Class := { plain "java/lang/Comparable" (some 0) with
  accessFlags := 1537
  interfaces := #[]
  cf := some (fileOf pool3 1 #[] #[] 1537 3 #[] #[])
  fields := #[]
  methods := #[]
  instanceTypes := #[]
  staticTypes := #[]
  resolved := Array.replicate 12 none
  statics := none }

def pool4 : Array CpInfo := pool [(2, .class_ 4), (1, u "java/lang/CharSequence"), (42, .class_ 48), (0, u "java/lang/CharSequence$1CodePointIterator"), (10, .class_ 60), (0, u "java/lang/CharSequence$1CharIterator"), (5, .class_ 67), (0, u "java/lang/Object")] 63

/-- java/lang/CharSequence -/
def k4 : Class := { plain "java/lang/CharSequence" (some 0) with
  accessFlags := 1537
  interfaces := #[]
  cf := some (fileOf pool4 2 #[.nestMembers #[47, 59]] #[] 1537 66 #[] #[])
  fields := #[]
  methods := #[]
  instanceTypes := #[]
  staticTypes := #[]
  resolved := Array.replicate 131 none
  statics := none }

def pool5 : Array CpInfo := pool [(1, .class_ 2), (0, u "java/lang/constant/Constable"), (0, .class_ 4), (0, u "java/lang/Object")] 6

/-- java/lang/constant/Constable -/
def k5 : Class := { plain "java/lang/constant/Constable" (some 0) with
  accessFlags := 1537
  interfaces := #[]
  cf := some (fileOf pool5 1 #[] #[] 1537 3 #[] #[])
  fields := #[]
  methods := #[]
  instanceTypes := #[]
  staticTypes := #[]
  resolved := Array.replicate 11 none
  statics := none }

def pool6 : Array CpInfo := pool [(1, .class_ 2), (0, u "java/lang/constant/ConstantDesc"), (0, .class_ 4), (0, u "java/lang/Object")] 32

/-- java/lang/constant/ConstantDesc -/
def k6 : Class := { plain "java/lang/constant/ConstantDesc" (some 0) with
  accessFlags := 1537
  interfaces := #[]
  cf := some (fileOf pool6 1 #[] #[] 1537 3 #[] #[])
  fields := #[]
  methods := #[]
  instanceTypes := #[]
  staticTypes := #[]
  resolved := Array.replicate 37 none
  statics := none }

def pool7 : Array CpInfo := pool [(1, .methodref 2 3), (0, .class_ 4), (0, .nameAndType 5 6), (0, u "java/lang/Object"), (0, u "<init>"), (0, u "()V"), (2, .fieldref 10 11), (0, .class_ 12), (0, .nameAndType 13 14), (0, u "java/lang/String"), (0, u "value"), (0, u "[B"), (0, .fieldref 10 16), (0, .nameAndType 17 18), (0, u "coder"), (0, u "B"), (2, u "hash"), (0, u "I"), (2, u "hashIsZero"), (0, u "Z"), (0, .methodref 10 28), (0, .nameAndType 5 29), (0, u "([CIILjava/lang/Void;)V"), (8, .fieldref 10 39), (0, .nameAndType 40 26), (0, u "COMPACT_STRINGS"), (1, .class_ 44), (1, u "java/lang/StringUTF16"), (0, u "compress"), (1, .methodref 42 48), (0, .nameAndType 49 50), (0, u "coderFromArrayLen"), (0, u "([BI)B"), (126, .methodref 42 178), (0, .nameAndType 45 179), (0, u "([CII)[B"), (395, .class_ 576), (0, u "java/lang/CharSequence"), (22, u "CASE_INSENSITIVE_ORDER"), (0, u "Ljava/util/Comparator;"), (409, u "([C)V"), (90, u "serialPersistentFields"), (0, u "[Ljava/io/ObjectStreamField;"), (0, .class_ 1104), (0, u "java/lang/String$CaseInsensitiveComparator"), (1, .class_ 1107), (0, u "java/io/Serializable"), (0, .class_ 1109), (0, u "java/lang/Comparable"), (0, .class_ 1111), (0, u "java/lang/constant/Constable"), (0, .class_ 1113), (0, u "java/lang/constant/ConstantDesc"), (2, u "serialVersionUID"), (0, u "J"), (3, u "REPL"), (0, u "C"), (2, u "LATIN1"), (1, u "UTF16")] 323

def k7m0 : Method := { name := "<init>", desc := "()V", sig := { parameters := [], returnType := none }, accessFlags := 1, code := none }
def k7c1 : Code := { maxStack := 5, maxLocals := 2, code := jdk_42_method_3_code, exceptionTable := #[], attributes := #[] }
def k7m1 : Method := { name := "<init>", desc := "([C)V", sig := { parameters := [(.array .char)], returnType := none }, accessFlags := 1, code := some k7c1 }
def k7c2 : Code := { maxStack := 4, maxLocals := 6, code := jdk_42_method_149_code, exceptionTable := #[], attributes := #[] }
def k7m2 : Method := { name := "<init>", desc := "([CIILjava/lang/Void;)V", sig := { parameters := [(.array .char), .int, .int, (.object "java/lang/Void")], returnType := none }, accessFlags := 2, code := some k7c2 }
/-- java/lang/String -/
def k7 : Class := { plain "java/lang/String" (some 0) with
  accessFlags := 49
  interfaces := #[2, 3, 4, 5, 6]
  cf := some (fileOf pool7 10 #[.nestMembers #[1103]] #[{ accessFlags := 1, nameIndex := 5, descriptorIndex := 6, attributes := #[] }, { accessFlags := 1, nameIndex := 5, descriptorIndex := 1010, attributes := #[] }, { accessFlags := 2, nameIndex := 5, descriptorIndex := 29, attributes := #[] }] 49 2 #[1106, 1108, 575, 1110, 1112] #[{ accessFlags := 18, nameIndex := 13, descriptorIndex := 14, attributes := #[] }, { accessFlags := 18, nameIndex := 17, descriptorIndex := 18, attributes := #[] }, { accessFlags := 2, nameIndex := 21, descriptorIndex := 22, attributes := #[] }, { accessFlags := 2, nameIndex := 25, descriptorIndex := 26, attributes := #[] }, { accessFlags := 26, nameIndex := 1116, descriptorIndex := 1117, attributes := #[] }, { accessFlags := 24, nameIndex := 40, descriptorIndex := 26, attributes := #[] }, { accessFlags := 26, nameIndex := 1101, descriptorIndex := 1102, attributes := #[] }, { accessFlags := 26, nameIndex := 1121, descriptorIndex := 1122, attributes := #[] }, { accessFlags := 25, nameIndex := 599, descriptorIndex := 600, attributes := #[] }, { accessFlags := 24, nameIndex := 1125, descriptorIndex := 18, attributes := #[] }, { accessFlags := 24, nameIndex := 1127, descriptorIndex := 18, attributes := #[] }])
  fields := #[{ name := "value", type := (.array .byte), accessFlags := 18, slot := 0, constantValue := 0 }, { name := "coder", type := .byte, accessFlags := 18, slot := 1, constantValue := 0 }, { name := "hash", type := .int, accessFlags := 2, slot := 2, constantValue := 0 }, { name := "hashIsZero", type := .boolean, accessFlags := 2, slot := 3, constantValue := 0 }, { name := "serialVersionUID", type := .long, accessFlags := 26, slot := 0, constantValue := 0 }, { name := "COMPACT_STRINGS", type := .boolean, accessFlags := 24, slot := 1, constantValue := 0 }, { name := "serialPersistentFields", type := (.array (.object "java/io/ObjectStreamField")), accessFlags := 26, slot := 2, constantValue := 0 }, { name := "REPL", type := .char, accessFlags := 26, slot := 3, constantValue := 0 }, { name := "CASE_INSENSITIVE_ORDER", type := (.object "java/util/Comparator"), accessFlags := 25, slot := 4, constantValue := 0 }, { name := "LATIN1", type := .byte, accessFlags := 24, slot := 5, constantValue := 0 }, { name := "UTF16", type := .byte, accessFlags := 24, slot := 6, constantValue := 0 }]
  methods := #[k7m0, k7m1, k7m2]
  instanceTypes := #[(.array .byte), .byte, .int, .boolean]
  staticTypes := #[.long, .boolean, (.array (.object "java/io/ObjectStreamField")), .char, (.object "java/util/Comparator"), .byte, .byte]
  resolved := Array.replicate 1451 none
  statics := some 0 }

def pool8 : Array CpInfo := pool [(6, .class_ 8), (1, u "java/lang/Object"), (0, u "<init>"), (0, u "()V"), (1, .class_ 14), (1, u "java/lang/StringUTF16"), (31, u "$assertionsDisabled"), (0, u "Z"), (13, u "HI_BYTE_SHIFT"), (0, u "I"), (2, u "LO_BYTE_SHIFT"), (49, .methodref 12 116), (0, .nameAndType 117 118), (0, u "compress"), (0, u "([CI[BII)I"), (3, u "([CII)[B"), (138, u "coderFromArrayLen"), (0, u "([BI)B"), (106, .class_ 371), (1, u "java/lang/StringUTF16$LinesSpliterator"), (58, u "MAX_LENGTH"), (196, .class_ 628), (0, u "java/lang/StringUTF16$CodePointsSpliterator"), (0, .class_ 630), (0, u "java/lang/StringUTF16$CharsSpliterator")] 4

def k8m0 : Method := { name := "<init>", desc := "()V", sig := { parameters := [], returnType := none }, accessFlags := 0, code := none }
def k8c1 : Code := { maxStack := 2, maxLocals := 2, code := jdk_52_method_15_code, exceptionTable := #[], attributes := #[] }
def k8m1 : Method := { name := "coderFromArrayLen", desc := "([BI)B", sig := { parameters := [(.array .byte), .int], returnType := some .byte }, accessFlags := 8, code := some k8c1 }
def k8c2 : Code := { maxStack := 5, maxLocals := 6, code := jdk_52_method_16_code, exceptionTable := #[], attributes := #[] }
def k8m2 : Method := { name := "compress", desc := "([CII)[B", sig := { parameters := [(.array .char), .int, .int], returnType := some (.array .byte) }, accessFlags := 9, code := some k8c2 }
def k8c3 : Code := { maxStack := 3, maxLocals := 7, code := jdk_52_method_21_code, exceptionTable := #[], attributes := #[] }
def k8m3 : Method := { name := "compress", desc := "([CI[BII)I", sig := { parameters := [(.array .char), .int, (.array .byte), .int, .int], returnType := some .int }, accessFlags := 9, code := some k8c3 }
/-- java/lang/StringUTF16 -/
def k8 : Class := { plain "java/lang/StringUTF16" (some 0) with
  accessFlags := 48
  interfaces := #[]
  cf := some (fileOf pool8 12 #[.nestMembers #[627, 629, 369]] #[{ accessFlags := 0, nameIndex := 9, descriptorIndex := 10, attributes := #[] }, { accessFlags := 8, nameIndex := 261, descriptorIndex := 262, attributes := #[] }, { accessFlags := 9, nameIndex := 117, descriptorIndex := 122, attributes := #[] }, { accessFlags := 9, nameIndex := 117, descriptorIndex := 118, attributes := #[] }] 48 6 #[] #[{ accessFlags := 26, nameIndex := 61, descriptorIndex := 62, attributes := #[] }, { accessFlags := 26, nameIndex := 65, descriptorIndex := 62, attributes := #[] }, { accessFlags := 24, nameIndex := 430, descriptorIndex := 62, attributes := #[] }, { accessFlags := 4120, nameIndex := 46, descriptorIndex := 47, attributes := #[] }])
  fields := #[{ name := "HI_BYTE_SHIFT", type := .int, accessFlags := 26, slot := 0, constantValue := 0 }, { name := "LO_BYTE_SHIFT", type := .int, accessFlags := 26, slot := 1, constantValue := 0 }, { name := "MAX_LENGTH", type := .int, accessFlags := 24, slot := 2, constantValue := 0 }, { name := "$assertionsDisabled", type := .boolean, accessFlags := 4120, slot := 3, constantValue := 0 }]
  methods := #[k8m0, k8m1, k8m2, k8m3]
  instanceTypes := #[]
  staticTypes := #[.int, .int, .int, .boolean]
  resolved := Array.replicate 635 none
  statics := none }

def pool9 : Array CpInfo := pool [(1, .methodref 2 3), (0, .class_ 4), (0, .nameAndType 5 6), (0, u "java/lang/Object"), (0, u "<init>"), (0, u "()V"), (0, .class_ 8), (0, u "java/lang/Record")] 13

def k9c0 : Code := { maxStack := 1, maxLocals := 1, code := jdk_30_method_1_code, exceptionTable := #[], attributes := #[] }
def k9m0 : Method := { name := "<init>", desc := "()V", sig := { parameters := [], returnType := none }, accessFlags := 4, code := some k9c0 }
/-- java/lang/Record -/
def k9 : Class := { plain "java/lang/Record" (some 0) with
  accessFlags := 1057
  interfaces := #[]
  cf := some (fileOf pool9 7 #[] #[{ accessFlags := 4, nameIndex := 5, descriptorIndex := 6, attributes := #[] }] 1057 2 #[] #[])
  fields := #[]
  methods := #[k9m0]
  instanceTypes := #[]
  staticTypes := #[]
  resolved := Array.replicate 22 none
  statics := none }

def pool10 : Array CpInfo := pool [(1, .methodref 2 3), (0, .class_ 4), (0, .nameAndType 5 6), (0, u "java/lang/Record"), (0, u "<init>"), (0, u "()V"), (0, .fieldref 8 9), (0, .class_ 10), (0, .nameAndType 11 12), (0, u "com/example/gridclause/gridclause/cli/Option"), (0, u "name"), (0, u "Ljava/lang/String;"), (0, .fieldref 8 14), (0, .nameAndType 15 12), (0, u "label"), (0, .fieldref 8 17), (0, .nameAndType 18 19), (0, u "use"), (0, u "Lcom/example/gridclause/gridclause/cli/Option$Use;"), (1, .class_ 23), (1, u "com/example/gridclause/gridclause/cli/Option$Use"), (1, .methodref 8 26), (0, .nameAndType 5 27), (0, u "(Ljava/lang/String;Ljava/lang/String;Lcom/example/gridclause/gridclause/cli/Option$Use;)V"), (0, .fieldref 21 29), (0, .nameAndType 30 19), (0, u "OPTIONAL"), (33, u "(Ljava/lang/String;Ljava/lang/String;)Lcom/example/gridclause/gridclause/cli/Option;"), (0, u "optional"), (5, u "()Ljava/lang/String;"), (3, u "()Lcom/example/gridclause/gridclause/cli/Option$Use;")] 36

def k10c0 : Code := { maxStack := 2, maxLocals := 4, code := prog_2_method_1_code, exceptionTable := #[], attributes := #[] }
def k10m0 : Method := { name := "<init>", desc := "(Ljava/lang/String;Ljava/lang/String;Lcom/example/gridclause/gridclause/cli/Option$Use;)V", sig := { parameters := [(.object "java/lang/String"), (.object "java/lang/String"), (.object "com/example/gridclause/gridclause/cli/Option$Use")], returnType := none }, accessFlags := 0, code := some k10c0 }
def k10c1 : Code := { maxStack := 5, maxLocals := 2, code := prog_2_method_3_code, exceptionTable := #[], attributes := #[] }
def k10m1 : Method := { name := "optional", desc := "(Ljava/lang/String;Ljava/lang/String;)Lcom/example/gridclause/gridclause/cli/Option;", sig := { parameters := [(.object "java/lang/String"), (.object "java/lang/String")], returnType := some (.object "com/example/gridclause/gridclause/cli/Option") }, accessFlags := 8, code := some k10c1 }
def k10c2 : Code := { maxStack := 1, maxLocals := 1, code := prog_2_method_12_code, exceptionTable := #[], attributes := #[] }
def k10m2 : Method := { name := "name", desc := "()Ljava/lang/String;", sig := { parameters := [], returnType := some (.object "java/lang/String") }, accessFlags := 1, code := some k10c2 }
def k10c3 : Code := { maxStack := 1, maxLocals := 1, code := prog_2_method_13_code, exceptionTable := #[], attributes := #[] }
def k10m3 : Method := { name := "label", desc := "()Ljava/lang/String;", sig := { parameters := [], returnType := some (.object "java/lang/String") }, accessFlags := 1, code := some k10c3 }
def k10c4 : Code := { maxStack := 1, maxLocals := 1, code := prog_2_method_14_code, exceptionTable := #[], attributes := #[] }
def k10m4 : Method := { name := "use", desc := "()Lcom/example/gridclause/gridclause/cli/Option$Use;", sig := { parameters := [], returnType := some (.object "com/example/gridclause/gridclause/cli/Option$Use") }, accessFlags := 1, code := some k10c4 }
/-- com/example/gridclause/gridclause/cli/Option -/
def k10 : Class := { plain "com/example/gridclause/gridclause/cli/Option" (some 9) with
  accessFlags := 48
  interfaces := #[]
  cf := some (fileOf pool10 8 #[.nestMembers #[21]] #[{ accessFlags := 0, nameIndex := 5, descriptorIndex := 27, attributes := #[] }, { accessFlags := 8, nameIndex := 65, descriptorIndex := 64, attributes := #[] }, { accessFlags := 1, nameIndex := 11, descriptorIndex := 71, attributes := #[] }, { accessFlags := 1, nameIndex := 15, descriptorIndex := 71, attributes := #[] }, { accessFlags := 1, nameIndex := 18, descriptorIndex := 75, attributes := #[] }] 48 2 #[] #[{ accessFlags := 18, nameIndex := 11, descriptorIndex := 12, attributes := #[] }, { accessFlags := 18, nameIndex := 15, descriptorIndex := 12, attributes := #[] }, { accessFlags := 18, nameIndex := 18, descriptorIndex := 19, attributes := #[] }])
  fields := #[{ name := "name", type := (.object "java/lang/String"), accessFlags := 18, slot := 0, constantValue := 0 }, { name := "label", type := (.object "java/lang/String"), accessFlags := 18, slot := 1, constantValue := 0 }, { name := "use", type := (.object "com/example/gridclause/gridclause/cli/Option$Use"), accessFlags := 18, slot := 2, constantValue := 0 }]
  methods := #[k10m0, k10m1, k10m2, k10m3, k10m4]
  instanceTypes := #[(.object "java/lang/String"), (.object "java/lang/String"), (.object "com/example/gridclause/gridclause/cli/Option$Use")]
  staticTypes := #[]
  resolved := Array.replicate 112 none
  statics := none }

def pool11 : Array CpInfo := pool [(2, .class_ 4), (1, u "java/lang/Enum"), (0, u "name"), (0, u "Ljava/lang/String;"), (2, u "ordinal"), (0, u "I"), (1, .class_ 14), (1, u "java/lang/Object"), (4, u "hash"), (86, .class_ 108), (1, u "java/lang/Enum$EnumDesc"), (2, .class_ 112), (0, u "java/lang/constant/Constable"), (0, .class_ 114), (0, u "java/lang/Comparable"), (0, .class_ 116), (0, u "java/io/Serializable")] 87

/-- java/lang/Enum -/
def k11 : Class := { plain "java/lang/Enum" (some 0) with
  accessFlags := 1057
  interfaces := #[5, 3, 2]
  cf := some (fileOf pool11 2 #[.nestMembers #[106]] #[] 1057 12 #[111, 113, 115] #[{ accessFlags := 18, nameIndex := 5, descriptorIndex := 6, attributes := #[] }, { accessFlags := 18, nameIndex := 9, descriptorIndex := 10, attributes := #[] }, { accessFlags := 2, nameIndex := 19, descriptorIndex := 10, attributes := #[] }])
  fields := #[{ name := "name", type := (.object "java/lang/String"), accessFlags := 18, slot := 0, constantValue := 0 }, { name := "ordinal", type := .int, accessFlags := 18, slot := 1, constantValue := 0 }, { name := "hash", type := .int, accessFlags := 2, slot := 2, constantValue := 0 }]
  methods := #[]
  instanceTypes := #[(.object "java/lang/String"), .int, .int]
  staticTypes := #[]
  resolved := Array.replicate 204 none
  statics := none }

def pool12 : Array CpInfo := pool [(1, .class_ 2), (0, u "com/example/gridclause/gridclause/cli/Option$Use"), (2, u "REQUIRED"), (0, u "Lcom/example/gridclause/gridclause/cli/Option$Use;"), (2, u "OPTIONAL"), (2, u "REPEATABLE"), (2, u "ALONE"), (2, u "$VALUES"), (0, u "[Lcom/example/gridclause/gridclause/cli/Option$Use;"), (6, .class_ 28), (1, u "java/lang/Enum"), (27, .class_ 57), (0, u "com/example/gridclause/gridclause/cli/Option")] 2

/-- com/example/gridclause/gridclause/cli/Option$Use -/
def k12 : Class := { plain "com/example/gridclause/gridclause/cli/Option$Use" (some 11) with
  accessFlags := 16432
  interfaces := #[]
  cf := some (fileOf pool12 1 #[.nestHost 56] #[] 16432 26 #[] #[{ accessFlags := 16409, nameIndex := 5, descriptorIndex := 6, attributes := #[] }, { accessFlags := 16409, nameIndex := 9, descriptorIndex := 6, attributes := #[] }, { accessFlags := 16409, nameIndex := 12, descriptorIndex := 6, attributes := #[] }, { accessFlags := 16409, nameIndex := 15, descriptorIndex := 6, attributes := #[] }, { accessFlags := 4122, nameIndex := 18, descriptorIndex := 19, attributes := #[] }])
  fields := #[{ name := "REQUIRED", type := (.object "com/example/gridclause/gridclause/cli/Option$Use"), accessFlags := 16409, slot := 0, constantValue := 0 }, { name := "OPTIONAL", type := (.object "com/example/gridclause/gridclause/cli/Option$Use"), accessFlags := 16409, slot := 1, constantValue := 0 }, { name := "REPEATABLE", type := (.object "com/example/gridclause/gridclause/cli/Option$Use"), accessFlags := 16409, slot := 2, constantValue := 0 }, { name := "ALONE", type := (.object "com/example/gridclause/gridclause/cli/Option$Use"), accessFlags := 16409, slot := 3, constantValue := 0 }, { name := "$VALUES", type := (.array (.object "com/example/gridclause/gridclause/cli/Option$Use")), accessFlags := 4122, slot := 4, constantValue := 0 }]
  methods := #[]
  instanceTypes := #[(.object "java/lang/String"), .int, .int]
  staticTypes := #[(.object "com/example/gridclause/gridclause/cli/Option$Use"), (.object "com/example/gridclause/gridclause/cli/Option$Use"), (.object "com/example/gridclause/gridclause/cli/Option$Use"), (.object "com/example/gridclause/gridclause/cli/Option$Use"), (.array (.object "com/example/gridclause/gridclause/cli/Option$Use"))]
  resolved := Array.replicate 60 none
  statics := some 1 }

def pool13 : Array CpInfo := pool [(4, .class_ 6), (1, u "java/lang/Object"), (0, u "<init>"), (0, u "()V"), (5, .class_ 16), (1, u "java/lang/StringLatin1"), (104, u "$assertionsDisabled"), (0, u "Z"), (98, .class_ 223), (1, u "java/lang/StringLatin1$LinesSpliterator"), (166, .class_ 391), (0, u "java/lang/StringLatin1$CharsSpliterator")] 3

def k13m0 : Method := { name := "<init>", desc := "()V", sig := { parameters := [], returnType := none }, accessFlags := 0, code := none }
/-- java/lang/StringLatin1 -/
def k13 : Class := { plain "java/lang/StringLatin1" (some 0) with
  accessFlags := 48
  interfaces := #[]
  cf := some (fileOf pool13 14 #[.nestMembers #[390, 221]] #[{ accessFlags := 0, nameIndex := 7, descriptorIndex := 8, attributes := #[] }] 48 4 #[] #[{ accessFlags := 4120, nameIndex := 121, descriptorIndex := 122, attributes := #[] }])
  fields := #[{ name := "$assertionsDisabled", type := .boolean, accessFlags := 4120, slot := 0, constantValue := 0 }]
  methods := #[k13m0]
  instanceTypes := #[]
  staticTypes := #[.boolean]
  resolved := Array.replicate 395 none
  statics := none }

def pool14 : Array CpInfo := pool [(2, .class_ 4), (1, u "java/lang/Object"), (0, u "<init>"), (0, u "()V"), (17, .class_ 26), (1, u "jdk/internal/util/Preconditions"), (28, .class_ 56), (0, u "jdk/internal/util/Preconditions$4"), (57, .class_ 115), (0, u "jdk/internal/util/Preconditions$1"), (7, u "SIOOBE_FORMATTER"), (0, u "Ljava/util/function/BiFunction;"), (0, .class_ 126), (0, u "jdk/internal/util/Preconditions$2"), (3, u "AIOOBE_FORMATTER"), (0, .class_ 132), (0, u "jdk/internal/util/Preconditions$3"), (3, u "IOOBE_FORMATTER")] 57

def k14m0 : Method := { name := "<init>", desc := "()V", sig := { parameters := [], returnType := none }, accessFlags := 1, code := none }
/-- jdk/internal/util/Preconditions -/
def k14 : Class := { plain "jdk/internal/util/Preconditions" (some 0) with
  accessFlags := 33
  interfaces := #[]
  cf := some (fileOf pool14 24 #[.nestMembers #[55, 131, 125, 114]] #[{ accessFlags := 1, nameIndex := 5, descriptorIndex := 6, attributes := #[] }] 33 2 #[] #[{ accessFlags := 25, nameIndex := 123, descriptorIndex := 124, attributes := #[] }, { accessFlags := 25, nameIndex := 130, descriptorIndex := 124, attributes := #[] }, { accessFlags := 25, nameIndex := 136, descriptorIndex := 124, attributes := #[] }])
  fields := #[{ name := "SIOOBE_FORMATTER", type := (.object "java/util/function/BiFunction"), accessFlags := 25, slot := 0, constantValue := 0 }, { name := "AIOOBE_FORMATTER", type := (.object "java/util/function/BiFunction"), accessFlags := 25, slot := 1, constantValue := 0 }, { name := "IOOBE_FORMATTER", type := (.object "java/util/function/BiFunction"), accessFlags := 25, slot := 2, constantValue := 0 }]
  methods := #[k14m0]
  instanceTypes := #[]
  staticTypes := #[(.object "java/util/function/BiFunction"), (.object "java/util/function/BiFunction"), (.object "java/util/function/BiFunction")]
  resolved := Array.replicate 194 none
  statics := some 2 }

def pool15 : Array CpInfo := pool [(9, u "<init>"), (6, .class_ 18), (1, u "java/lang/Object"), (0, u "()V"), (1, .class_ 23), (1, u "jdk/internal/util/ArraysSupport"), (0, u "LOG2_ARRAY_LONG_INDEX_SCALE"), (0, u "I"), (2, u "U"), (0, u "Ljdk/internal/misc/Unsafe;"), (8, u "BIG_ENDIAN"), (0, u "Z"), (8, u "LOG2_BYTE_BIT_SIZE"), (4, u "LOG2_ARRAY_INT_INDEX_SCALE"), (54, u "JLA"), (0, u "Ljdk/internal/access/JavaLangAccess;"), (11, u "LOG2_ARRAY_BOOLEAN_INDEX_SCALE"), (9, u "LOG2_ARRAY_BYTE_INDEX_SCALE"), (5, u "LOG2_ARRAY_CHAR_INDEX_SCALE"), (5, u "LOG2_ARRAY_SHORT_INDEX_SCALE"), (18, u "LOG2_ARRAY_FLOAT_INDEX_SCALE"), (24, u "LOG2_ARRAY_DOUBLE_INDEX_SCALE"), (89, u "T_BOOLEAN"), (2, u "T_CHAR"), (1, u "T_FLOAT"), (1, u "T_DOUBLE"), (1, u "T_BYTE"), (1, u "T_SHORT"), (1, u "T_INT"), (1, u "T_LONG"), (1, u "SOFT_MAX_ARRAY_LENGTH")] 83

def k15m0 : Method := { name := "<init>", desc := "()V", sig := { parameters := [], returnType := none }, accessFlags := 2, code := none }
/-- jdk/internal/util/ArraysSupport -/
def k15 : Class := { plain "jdk/internal/util/ArraysSupport" (some 0) with
  accessFlags := 33
  interfaces := #[]
  cf := some (fileOf pool15 21 #[] #[{ accessFlags := 2, nameIndex := 9, descriptorIndex := 19, attributes := #[] }] 33 16 #[] #[{ accessFlags := 24, nameIndex := 28, descriptorIndex := 29, attributes := #[] }, { accessFlags := 26, nameIndex := 38, descriptorIndex := 39, attributes := #[] }, { accessFlags := 25, nameIndex := 121, descriptorIndex := 25, attributes := #[] }, { accessFlags := 25, nameIndex := 131, descriptorIndex := 25, attributes := #[] }, { accessFlags := 25, nameIndex := 137, descriptorIndex := 25, attributes := #[] }, { accessFlags := 25, nameIndex := 143, descriptorIndex := 25, attributes := #[] }, { accessFlags := 25, nameIndex := 53, descriptorIndex := 25, attributes := #[] }, { accessFlags := 25, nameIndex := 24, descriptorIndex := 25, attributes := #[] }, { accessFlags := 25, nameIndex := 162, descriptorIndex := 25, attributes := #[] }, { accessFlags := 25, nameIndex := 187, descriptorIndex := 25, attributes := #[] }, { accessFlags := 26, nameIndex := 48, descriptorIndex := 25, attributes := #[] }, { accessFlags := 25, nameIndex := 277, descriptorIndex := 25, attributes := #[] }, { accessFlags := 25, nameIndex := 280, descriptorIndex := 25, attributes := #[] }, { accessFlags := 25, nameIndex := 282, descriptorIndex := 25, attributes := #[] }, { accessFlags := 25, nameIndex := 284, descriptorIndex := 25, attributes := #[] }, { accessFlags := 25, nameIndex := 286, descriptorIndex := 25, attributes := #[] }, { accessFlags := 25, nameIndex := 288, descriptorIndex := 25, attributes := #[] }, { accessFlags := 25, nameIndex := 290, descriptorIndex := 25, attributes := #[] }, { accessFlags := 25, nameIndex := 292, descriptorIndex := 25, attributes := #[] }, { accessFlags := 26, nameIndex := 108, descriptorIndex := 109, attributes := #[] }, { accessFlags := 25, nameIndex := 294, descriptorIndex := 25, attributes := #[] }])
  fields := #[{ name := "U", type := (.object "jdk/internal/misc/Unsafe"), accessFlags := 24, slot := 0, constantValue := 0 }, { name := "BIG_ENDIAN", type := .boolean, accessFlags := 26, slot := 1, constantValue := 0 }, { name := "LOG2_ARRAY_BOOLEAN_INDEX_SCALE", type := .int, accessFlags := 25, slot := 2, constantValue := 0 }, { name := "LOG2_ARRAY_BYTE_INDEX_SCALE", type := .int, accessFlags := 25, slot := 3, constantValue := 0 }, { name := "LOG2_ARRAY_CHAR_INDEX_SCALE", type := .int, accessFlags := 25, slot := 4, constantValue := 0 }, { name := "LOG2_ARRAY_SHORT_INDEX_SCALE", type := .int, accessFlags := 25, slot := 5, constantValue := 0 }, { name := "LOG2_ARRAY_INT_INDEX_SCALE", type := .int, accessFlags := 25, slot := 6, constantValue := 0 }, { name := "LOG2_ARRAY_LONG_INDEX_SCALE", type := .int, accessFlags := 25, slot := 7, constantValue := 0 }, { name := "LOG2_ARRAY_FLOAT_INDEX_SCALE", type := .int, accessFlags := 25, slot := 8, constantValue := 0 }, { name := "LOG2_ARRAY_DOUBLE_INDEX_SCALE", type := .int, accessFlags := 25, slot := 9, constantValue := 0 }, { name := "LOG2_BYTE_BIT_SIZE", type := .int, accessFlags := 26, slot := 10, constantValue := 0 }, { name := "T_BOOLEAN", type := .int, accessFlags := 25, slot := 11, constantValue := 0 }, { name := "T_CHAR", type := .int, accessFlags := 25, slot := 12, constantValue := 0 }, { name := "T_FLOAT", type := .int, accessFlags := 25, slot := 13, constantValue := 0 }, { name := "T_DOUBLE", type := .int, accessFlags := 25, slot := 14, constantValue := 0 }, { name := "T_BYTE", type := .int, accessFlags := 25, slot := 15, constantValue := 0 }, { name := "T_SHORT", type := .int, accessFlags := 25, slot := 16, constantValue := 0 }, { name := "T_INT", type := .int, accessFlags := 25, slot := 17, constantValue := 0 }, { name := "T_LONG", type := .int, accessFlags := 25, slot := 18, constantValue := 0 }, { name := "JLA", type := (.object "jdk/internal/access/JavaLangAccess"), accessFlags := 26, slot := 19, constantValue := 0 }, { name := "SOFT_MAX_ARRAY_LENGTH", type := .int, accessFlags := 25, slot := 20, constantValue := 0 }]
  methods := #[k15m0]
  instanceTypes := #[]
  staticTypes := #[(.object "jdk/internal/misc/Unsafe"), .boolean, .int, .int, .int, .int, .int, .int, .int, .int, .int, .int, .int, .int, .int, .int, .int, .int, .int, (.object "jdk/internal/access/JavaLangAccess"), .int]
  resolved := Array.replicate 378 none
  statics := none }

def pool16 : Array CpInfo := pool [(1, u "java/lang/Cloneable"), (0, .class_ 1), (0, u "java/lang/Object"), (0, .class_ 3)] 3

/-- java/lang/Cloneable -/
def k16 : Class := { plain "java/lang/Cloneable" (some 0) with
  accessFlags := 1537
  interfaces := #[]
  cf := some (fileOf pool16 2 #[] #[] 1537 4 #[] #[])
  fields := #[]
  methods := #[]
  instanceTypes := #[]
  staticTypes := #[]
  resolved := Array.replicate 8 none
  statics := none }

/-- the primitive byte -/
def k17 : Class := { plain "byte" none with kind := .primitive 'B', accessFlags := 0x411 }
/-- [B -/
def k18 : Class := { plain "[B" (some 0) with kind := .array 17 .byte, interfaces := #[16, 2], accessFlags := 1041 }

/-- the primitive char -/
def k19 : Class := { plain "char" none with kind := .primitive 'C', accessFlags := 0x411 }
/-- [C -/
def k20 : Class := { plain "[C" (some 0) with kind := .array 19 .char, interfaces := #[16, 2], accessFlags := 1041 }

/-- the primitive int -/
def k21 : Class := { plain "int" none with kind := .primitive 'I', accessFlags := 0x411 }
/-- [I -/
def k22 : Class := { plain "[I" (some 0) with kind := .array 21 .int, interfaces := #[16, 2], accessFlags := 1041 }

def heap : Heap := #[{ cls := 7, slots := #[.long 0, .int 1, .null, .int 0, .null, .int 0, .int 0], vm := .statics 7 },
  { cls := 12, slots := #[.ref 3, .ref 4, .ref 5, .ref 6, .null], vm := .statics 12 },
  { cls := 14, slots := #[.null, .null, .null], vm := .statics 14 },
  { cls := 12, slots := #[.null, .int 0, .int 0], vm := .none },
  { cls := 12, slots := #[.null, .int 1, .int 0], vm := .none },
  { cls := 12, slots := #[.null, .int 2, .int 0], vm := .none },
  { cls := 12, slots := #[.null, .int 3, .int 0], vm := .none }]
def classes : Array Class := #[k0, k1, k2, k3, k4, k5, k6, k7, k8, k9, k10, k11, k12, k13, k14, k15, k16, k17, k18, k19, k20, k21, k22]
def interned : List (Array UInt16 × Addr) := []
def slotsUsed : Nat := 27
def theMethod : MethodId := ⟨1, 1⟩
def args0 : Array Value := #[.int 1, .int 2, .int 3]
def aboutOver (below : List Frame) : State where
  vm := { classes := classes, interned := interned.toArray }
  heap := heap
  slotsUsed := slotsUsed
  threads := #[{ frames := .invoking theMethod args0 :: below }]
def below0 : List Frame := [.native { method := ⟨0, 0⟩, args := #[] }]
def about1 : State := aboutOver below0
def p0 : Program := .bare "" "" ""
def e0 : Env := launch0.env 0 0 0
theorem w_frames : about1.frames = Frame.invoking theMethod args0 :: below0 := rfl
set_option maxRecDepth 65536 in
theorem w_args : argsFit about1.vm theMethod args0 = true := by decide +kernel
set_option maxRecDepth 65536 in
theorem w_heap : heapFits about1 = true := by decide +kernel
set_option maxRecDepth 65536 in
theorem w_runnable : about1.curStatus? = some .runnable := by decide +kernel
set_option maxRecDepth 65536 in
theorem w_alone : about1.alone = true := by decide +kernel
set_option maxRecDepth 65536 in
theorem w_named : about1.methodNamed? x = some theMethod := by decide +kernel
set_option maxRecDepth 65536 in
theorem w_hears : about1.hears theMethod below0 = true := by decide +kernel
set_option maxRecDepth 65536 in
theorem w_ripe : about1.ripe theMethod args0 below0 = true := by decide +kernel
theorem w_running : about1.status = .running := rfl
set_option maxRecDepth 65536 in
theorem w_room : about1.hasRoom e0.platform room_1 = true :=
  launch0.hasRoom_least _ room_1 (by decide +kernel) (by decide +kernel) (by decide +kernel) (by decide +kernel) (by decide +kernel) (by decide +kernel)
theorem allAtoms_all (ts : List Jvm.Cond) (a : Array Jvm.Value) (st : Jvm.State) : (allAtoms ts).before a st = ts.all (fun c => c.before a st) := by
  induction ts with
  | nil => rfl
  | cons c t ih =>
    show (Jvm.Cond.and c (allAtoms t)).before a st = _
    rw [Jvm.Cond.before_and, ih, List.all_cons]
def words1 : List Jvm.Cond := Jvm.Cond.code x code maxLocals ret :: tables_1
/-- a 'code' word, met by the world's own term for the bytes: nothing is compared byte by byte -/
theorem code_word {y : MethodName} {bytes : ByteArray} {mx : Nat} {rt : Option FieldType} {a : Array Value} {s : State} {m : MethodId} {meth : Method} {c : Code} (h1 : s.methodNamed? y = some m) (h2 : s.vm.method? m = some meth) (h3 : meth.code = some c) (h4 : c.code = bytes)
    (h5 : (c.maxLocals == mx && c.exceptionTable.isEmpty && decide (c.maxStack ≤ mostOperands) && decide (meth.sig.returnType = rt) && !meth.locks && decide (parseMethodDescriptor y.desc = some meth.sig)) = true) : (Jvm.Cond.code y bytes mx rt).before a s = true := by
  simp only [Bool.and_eq_true, beq_iff_eq, Bool.not_eq_true', decide_eq_true_eq] at h5
  obtain ⟨⟨⟨⟨⟨g1, g2⟩, g3⟩, g4⟩, g5⟩, g6⟩ := h5
  simp [Cond.before, Cond.holds, Cond.value, h1, h2, h3, h4, g1, g2, g3, g4, g5, g6]
def isCode : Jvm.Cond → Bool
  | .code _ _ _ _ => true
  | _ => false
theorem all_split {L : List Jvm.Cond} {P : Jvm.Cond → Bool} (h1 : L.all (fun c => isCode c || P c) = true) (h2 : ∀ c ∈ L.filter isCode, P c = true) : L.all P = true := by
  refine List.all_eq_true.mpr fun c hc => ?_
  have h := List.all_eq_true.mp h1 c hc
  rcases Bool.eq_false_or_eq_true (isCode c) with hi | hi
  · exact h2 c (List.mem_filter.mpr ⟨hc, hi⟩)
  · simpa [hi] using h
set_option maxRecDepth 65536 in
theorem w_c0 : (Jvm.Cond.code x code maxLocals ret).before args0 about1 = true := code_word (m := ⟨1, 1⟩) (meth := k1m1) (c := k1c1) (by decide +kernel) rfl rfl rfl (by decide +kernel)
set_option maxRecDepth 65536 in
theorem w_c1 : (Jvm.Cond.code ({ cls := "java/lang/String", name := "<init>", desc := "([C)V" } : Jvm.MethodName) jdk_42_method_3_code (2 : Nat) (Option.none : Option Jvm.ClassFile.FieldType)).before args0 about1 = true := code_word (m := ⟨7, 1⟩) (meth := k7m1) (c := k7c1) (by decide +kernel) rfl rfl rfl (by decide +kernel)
set_option maxRecDepth 65536 in
theorem w_c2 : (Jvm.Cond.code ({ cls := "java/lang/String", name := "<init>", desc := "([CIILjava/lang/Void;)V" } : Jvm.MethodName) jdk_42_method_149_code (6 : Nat) (Option.none : Option Jvm.ClassFile.FieldType)).before args0 about1 = true := code_word (m := ⟨7, 2⟩) (meth := k7m2) (c := k7c2) (by decide +kernel) rfl rfl rfl (by decide +kernel)
set_option maxRecDepth 65536 in
theorem w_c3 : (Jvm.Cond.code ({ cls := "java/lang/Object", name := "<init>", desc := "()V" } : Jvm.MethodName) object_method_1_code (1 : Nat) (Option.none : Option Jvm.ClassFile.FieldType)).before args0 about1 = true := code_word (m := ⟨0, 0⟩) (meth := k0m0) (c := k0c0) (by decide +kernel) rfl rfl rfl (by decide +kernel)
set_option maxRecDepth 65536 in
theorem w_c4 : (Jvm.Cond.code ({ cls := "java/lang/StringUTF16", name := "compress", desc := "([CII)[B" } : Jvm.MethodName) jdk_52_method_16_code (6 : Nat) (Option.some (Jvm.ClassFile.FieldType.array Jvm.ClassFile.FieldType.byte))).before args0 about1 = true := code_word (m := ⟨8, 2⟩) (meth := k8m2) (c := k8c2) (by decide +kernel) rfl rfl rfl (by decide +kernel)
set_option maxRecDepth 65536 in
theorem w_c5 : (Jvm.Cond.code ({ cls := "java/lang/StringUTF16", name := "compress", desc := "([CI[BII)I" } : Jvm.MethodName) jdk_52_method_21_code (7 : Nat) (Option.some Jvm.ClassFile.FieldType.int)).before args0 about1 = true := code_word (m := ⟨8, 3⟩) (meth := k8m3) (c := k8c3) (by decide +kernel) rfl rfl rfl (by decide +kernel)
set_option maxRecDepth 65536 in
theorem w_c6 : (Jvm.Cond.code ({ cls := "java/lang/StringUTF16", name := "coderFromArrayLen", desc := "([BI)B" } : Jvm.MethodName) jdk_52_method_15_code (2 : Nat) (Option.some Jvm.ClassFile.FieldType.byte)).before args0 about1 = true := code_word (m := ⟨8, 1⟩) (meth := k8m1) (c := k8c1) (by decide +kernel) rfl rfl rfl (by decide +kernel)
set_option maxRecDepth 65536 in
theorem w_c7 : (Jvm.Cond.code ({ cls := "com/example/gridclause/gridclause/cli/Option", name := "optional", desc := "(Ljava/lang/String;Ljava/lang/String;)Lcom/example/gridclause/gridclause/cli/Option;" } : Jvm.MethodName) prog_2_method_3_code (2 : Nat) (Option.some (Jvm.ClassFile.FieldType.object "com/example/gridclause/gridclause/cli/Option"))).before args0 about1 = true := code_word (m := ⟨10, 1⟩) (meth := k10m1) (c := k10c1) (by decide +kernel) rfl rfl rfl (by decide +kernel)
set_option maxRecDepth 65536 in
theorem w_c8 : (Jvm.Cond.code ({ cls := "com/example/gridclause/gridclause/cli/Option", name := "<init>", desc := "(Ljava/lang/String;Ljava/lang/String;Lcom/example/gridclause/gridclause/cli/Option$Use;)V" } : Jvm.MethodName) prog_2_method_1_code (4 : Nat) (Option.none : Option Jvm.ClassFile.FieldType)).before args0 about1 = true := code_word (m := ⟨10, 0⟩) (meth := k10m0) (c := k10c0) (by decide +kernel) rfl rfl rfl (by decide +kernel)
set_option maxRecDepth 65536 in
theorem w_c9 : (Jvm.Cond.code ({ cls := "java/lang/Record", name := "<init>", desc := "()V" } : Jvm.MethodName) jdk_30_method_1_code (1 : Nat) (Option.none : Option Jvm.ClassFile.FieldType)).before args0 about1 = true := code_word (m := ⟨9, 0⟩) (meth := k9m0) (c := k9c0) (by decide +kernel) rfl rfl rfl (by decide +kernel)
set_option maxRecDepth 65536 in
theorem w_c10 : (Jvm.Cond.code ({ cls := "com/example/gridclause/gridclause/cli/Option", name := "name", desc := "()Ljava/lang/String;" } : Jvm.MethodName) prog_2_method_12_code (1 : Nat) (Option.some (Jvm.ClassFile.FieldType.object "java/lang/String"))).before args0 about1 = true := code_word (m := ⟨10, 2⟩) (meth := k10m2) (c := k10c2) (by decide +kernel) rfl rfl rfl (by decide +kernel)
set_option maxRecDepth 65536 in
theorem w_c11 : (Jvm.Cond.code ({ cls := "com/example/gridclause/gridclause/cli/Option", name := "label", desc := "()Ljava/lang/String;" } : Jvm.MethodName) prog_2_method_13_code (1 : Nat) (Option.some (Jvm.ClassFile.FieldType.object "java/lang/String"))).before args0 about1 = true := code_word (m := ⟨10, 3⟩) (meth := k10m3) (c := k10c3) (by decide +kernel) rfl rfl rfl (by decide +kernel)
set_option maxRecDepth 65536 in
theorem w_c12 : (Jvm.Cond.code ({ cls := "com/example/gridclause/gridclause/cli/Option", name := "use", desc := "()Lcom/example/gridclause/gridclause/cli/Option$Use;" } : Jvm.MethodName) prog_2_method_14_code (1 : Nat) (Option.some (Jvm.ClassFile.FieldType.object "com/example/gridclause/gridclause/cli/Option$Use"))).before args0 about1 = true := code_word (m := ⟨10, 4⟩) (meth := k10m4) (c := k10c4) (by decide +kernel) rfl rfl rfl (by decide +kernel)
def codes1 : List Jvm.Cond := [Jvm.Cond.code x code maxLocals ret, Jvm.Cond.code ({ cls := "java/lang/String", name := "<init>", desc := "([C)V" } : Jvm.MethodName) jdk_42_method_3_code (2 : Nat) (Option.none : Option Jvm.ClassFile.FieldType), Jvm.Cond.code ({ cls := "java/lang/String", name := "<init>", desc := "([CIILjava/lang/Void;)V" } : Jvm.MethodName) jdk_42_method_149_code (6 : Nat) (Option.none : Option Jvm.ClassFile.FieldType), Jvm.Cond.code ({ cls := "java/lang/Object", name := "<init>", desc := "()V" } : Jvm.MethodName) object_method_1_code (1 : Nat) (Option.none : Option Jvm.ClassFile.FieldType), Jvm.Cond.code ({ cls := "java/lang/StringUTF16", name := "compress", desc := "([CII)[B" } : Jvm.MethodName) jdk_52_method_16_code (6 : Nat) (Option.some (Jvm.ClassFile.FieldType.array Jvm.ClassFile.FieldType.byte)), Jvm.Cond.code ({ cls := "java/lang/StringUTF16", name := "compress", desc := "([CI[BII)I" } : Jvm.MethodName) jdk_52_method_21_code (7 : Nat) (Option.some Jvm.ClassFile.FieldType.int), Jvm.Cond.code ({ cls := "java/lang/StringUTF16", name := "coderFromArrayLen", desc := "([BI)B" } : Jvm.MethodName) jdk_52_method_15_code (2 : Nat) (Option.some Jvm.ClassFile.FieldType.byte), Jvm.Cond.code ({ cls := "com/example/gridclause/gridclause/cli/Option", name := "optional", desc := "(Ljava/lang/String;Ljava/lang/String;)Lcom/example/gridclause/gridclause/cli/Option;" } : Jvm.MethodName) prog_2_method_3_code (2 : Nat) (Option.some (Jvm.ClassFile.FieldType.object "com/example/gridclause/gridclause/cli/Option")), Jvm.Cond.code ({ cls := "com/example/gridclause/gridclause/cli/Option", name := "<init>", desc := "(Ljava/lang/String;Ljava/lang/String;Lcom/example/gridclause/gridclause/cli/Option$Use;)V" } : Jvm.MethodName) prog_2_method_1_code (4 : Nat) (Option.none : Option Jvm.ClassFile.FieldType), Jvm.Cond.code ({ cls := "java/lang/Record", name := "<init>", desc := "()V" } : Jvm.MethodName) jdk_30_method_1_code (1 : Nat) (Option.none : Option Jvm.ClassFile.FieldType), Jvm.Cond.code ({ cls := "com/example/gridclause/gridclause/cli/Option", name := "name", desc := "()Ljava/lang/String;" } : Jvm.MethodName) prog_2_method_12_code (1 : Nat) (Option.some (Jvm.ClassFile.FieldType.object "java/lang/String")), Jvm.Cond.code ({ cls := "com/example/gridclause/gridclause/cli/Option", name := "label", desc := "()Ljava/lang/String;" } : Jvm.MethodName) prog_2_method_13_code (1 : Nat) (Option.some (Jvm.ClassFile.FieldType.object "java/lang/String")), Jvm.Cond.code ({ cls := "com/example/gridclause/gridclause/cli/Option", name := "use", desc := "()Lcom/example/gridclause/gridclause/cli/Option$Use;" } : Jvm.MethodName) prog_2_method_14_code (1 : Nat) (Option.some (Jvm.ClassFile.FieldType.object "com/example/gridclause/gridclause/cli/Option$Use"))]
set_option maxRecDepth 65536 in
theorem codes_eq : words1.filter isCode = codes1 := rfl
theorem w_codes : ∀ c ∈ words1.filter isCode, c.before args0 about1 = true := by
  rw [codes_eq]
  intro c hc
  simp only [codes1, List.mem_cons, List.not_mem_nil, or_false] at hc
  rcases hc with rfl | rfl | rfl | rfl | rfl | rfl | rfl | rfl | rfl | rfl | rfl | rfl | rfl
  · exact w_c0
  · exact w_c1
  · exact w_c2
  · exact w_c3
  · exact w_c4
  · exact w_c5
  · exact w_c6
  · exact w_c7
  · exact w_c8
  · exact w_c9
  · exact w_c10
  · exact w_c11
  · exact w_c12
set_option maxRecDepth 65536 in
theorem w_t1 : (words1.take 24).all (fun c => isCode c || c.before args0 about1) = true := by decide +kernel
set_option maxRecDepth 65536 in
theorem w_t2 : ((words1.drop 24).take 24).all (fun c => isCode c || c.before args0 about1) = true := by decide +kernel
set_option maxRecDepth 65536 in
theorem w_t3 : (((words1.drop 24).drop 24).take 24).all (fun c => isCode c || c.before args0 about1) = true := by decide +kernel
set_option maxRecDepth 65536 in
theorem w_t4 : (((words1.drop 24).drop 24).drop 24).all (fun c => isCode c || c.before args0 about1) = true := by decide +kernel
theorem w_tables : (allAtoms (Jvm.Cond.code x code maxLocals ret :: tables_1)).before args0 about1 = true := by
  rw [allAtoms_all]
  show words1.all (fun c => c.before args0 about1) = true
  refine all_split ?_ w_codes
  rw [← List.take_append_drop 24 words1, List.all_append, w_t1, ← List.take_append_drop 24 (words1.drop 24), List.all_append, w_t2, ← List.take_append_drop 24 ((words1.drop 24).drop 24), List.all_append, w_t3, w_t4]
  rfl
set_option maxRecDepth 65536 in
theorem w_rest : rest_1_c.before args0 about1 = true := by decide +kernel
set_option maxRecDepth 65536 in
theorem w_case : (Jvm.Cond.and given_1 narrow_1).before args0 about1 = true := by decide +kernel
theorem w_applies : (headSpec (Jvm.Cond.code x code maxLocals ret :: tables_1) room_1).applies x e0.platform about1 = true :=
  (Spec.applies_iff w_frames).mpr ⟨w_running, w_runnable, w_alone, w_named, w_hears, w_ripe, w_room, w_tables⟩
theorem atStart : AtStart classFile x code maxLocals ret World_1 tables_1 room_1 Calls_1 rest_1 Pre_1 launch0 p0 e0 about1 theMethod args0 below0 :=
  ⟨lists_1, trivial, launch0.admits_env _ _ _, launch0.least_env, fairChoices_fair.cas, fairChoices_fair.clock, w_frames, w_args, w_heap, w_applies, trivial, w_rest, w_case⟩
end start1
theorem witness_1 : WitnessClaimed_1 := ⟨start1.p0, start1.e0, start1.about1, start1.theMethod, start1.args0, start1.below0, start1.atStart⟩
end Jvm.Pilot.@@N@@
