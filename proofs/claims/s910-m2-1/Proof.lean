import JvmDerived
import JvmDerived.Pilot.@@N@@Statement
import JvmDerived.Pilot.@@N@@Code
set_option linter.unusedVariables false
set_option linter.unusedSimpArgs false
namespace Jvm.Pilot.@@N@@
open Jvm Jvm.ClassFile Sem Op Lib Jvm.Free Jvm.Stand Jvm.LawKit Jvm.RoadKit Bundle Jvm.Pilot.@@N@@.Jvm.D
section Own
variable {p : Program} {l : Launch} {e : Env} {R : Room} {s : State} {m : MethodId} {args : Array Value} {below : List Frame} {meth : Method} {c : Code} {T : State} {locs : List Loc} {cells slots : Nat} {Z : State} {a0 : Array Value} {h : Heap} {Q : Outcome → State → Prop}
/-- the run from A comes to an end that Q takes -/
def own_G (p : Program) (e : Env) (below : List Frame) (Q : Outcome → State → Prop) (A : State) : Prop :=
  ∃ s₂ o, Steps p.tables e below A s₂ ∧ s₂.status = .running ∧ Ended s₂ below o ∧ Q o s₂
theorem own_go {A B : State} (k : ∀ t, Steps p.tables e below B t → Steps p.tables e below A t) (hB : own_G p e below Q B) : own_G p e below Q A := by
  obtain ⟨s₂, o, h1, h2⟩ := hB
  exact ⟨s₂, o, k _ h1, h2⟩
theorem own_ret (X : Stand p l e R s m args below meth c T locs cells slots) (hlk : meth.locks = false) {v : Option Value} (hv : meth.sig.returnType = none → v = none) {A : State}
    (hst : ∀ fs, (∀ (f : JFrame) (acts : List Action), f.method = m → f.locked = none → f.entered = [] → (doReturn e (T.setTop f) acts v).1 = T.setFrames fs) → Steps p.tables e below A (T.setFrames fs))
    (hQ : ∀ U : State, U.heap = T.heap → FrameEnd s (.returned v) U locs cells slots → Q (.returned v) U) : own_G p e below Q A := by
  obtain ⟨fs, hr, hrun, hended, hW, hsame⟩ := X.leave (v := v) hv hlk
  exact ⟨_, _, hst fs hr, hrun, hended, hQ _ rfl ⟨⟨_, rfl⟩, hW, hsame⟩⟩
/-- ireturn of a boolean, byte, char or short -/
theorem own_retN (X : Stand p l e R s m args below meth c T locs cells slots) (hx : p.tables.exec = Jvm.exec) (hlk : meth.locks = false) {t : FieldType} (ht : t = .boolean ∨ t = .byte ∨ t = .char ∨ t = .short) {pc : Nat} {Ls : Array Slot} {z : Int32} {rest : List Value}
    (hret : meth.sig.returnType = some t) (hd : decode c.code pc = .ok (.ireturn, 1)) {w : Int32} (hw : nar t z = w)
    (hQ : ∀ U : State, U.heap = T.heap → FrameEnd s (.returned (some (.int w))) U locs cells slots → Q (.returned (some (.int w))) U) : own_G p e below Q (T.setTop (mkF m pc Ls (.int z :: rest))) := by
  subst hw
  exact own_ret X hlk (fun h => by rw [hret] at h; cases h) (fun fs hr => retN X hx hret ht hd hr) hQ
/-- ireturn of an int -/
theorem own_retI (X : Stand p l e R s m args below meth c T locs cells slots) (hx : p.tables.exec = Jvm.exec) (hlk : meth.locks = false) {pc : Nat} {Ls : Array Slot} {z : Int32} {rest : List Value}
    (hret : meth.sig.returnType = some .int) (hd : decode c.code pc = .ok (.ireturn, 1))
    (hQ : ∀ U : State, U.heap = T.heap → FrameEnd s (.returned (some (.int z))) U locs cells slots → Q (.returned (some (.int z))) U) : own_G p e below Q (T.setTop (mkF m pc Ls (.int z :: rest))) :=
  own_ret X hlk (fun h => by rw [hret] at h; cases h) (fun fs hr => retOut X hx hret rfl (Or.inl ⟨rfl, Or.inl rfl, _, rfl⟩) hd hr) hQ
/-- areturn -/
theorem own_retR (X : Stand p l e R s m args below meth c T locs cells slots) (hx : p.tables.exec = Jvm.exec) (hlk : meth.locks = false) {t : FieldType} (ht : t.isReference = true) {pc : Nat} {Ls : Array Slot} {w : Value} (hr : w.isRef = true) (hn : narrow t w = w) {rest : List Value}
    (hret : meth.sig.returnType = some t) (hd : decode c.code pc = .ok (.areturn, 1))
    (hQ : ∀ U : State, U.heap = T.heap → FrameEnd s (.returned (some w)) U locs cells slots → Q (.returned (some w)) U) : own_G p e below Q (T.setTop (mkF m pc Ls (w :: rest))) :=
  own_ret X hlk (fun h => by rw [hret] at h; cases h) (fun fs hr' => retOut X hx hret hn (Or.inr (Or.inr (Or.inr (Or.inr ⟨rfl, ht, hr⟩)))) hd hr') hQ
/-- return of nothing -/
theorem own_retV (X : Stand p l e R s m args below meth c T locs cells slots) (hx : p.tables.exec = Jvm.exec) (hlk : meth.locks = false) {pc : Nat} {Ls : Array Slot}
    (hret : meth.sig.returnType = none) (hd : decode c.code pc = .ok (.return_, 1))
    (hQ : ∀ U : State, U.heap = T.heap → FrameEnd s (.returned none) U locs cells slots → Q (.returned none) U) : own_G p e below Q (T.setTop (mkF m pc Ls [])) :=
  own_ret X hlk (fun _ => rfl) (fun fs hr => X.returnOut hx hret hd hr) hQ
/-- a body's contract: called with as' over the heap h0 it returns, and QC says what -/
def own_C (l : Launch) (Z : State) (y : MethodName) (bytes : ByteArray) (maxL : Nat) (ret : Option FieldType) (ws : List Jvm.Cond) (rm : Room) (as' : Array Value) (h0 : Heap) (QC : Option Value → Heap → List Loc → Prop) : Prop :=
  MetFree l y (head1 (Jvm.Cond.code y bytes maxL ret :: ws) rm) (fun a U => a = as' ∧ Z.Warmed39 U.vm ∧ U.heap = h0) (fun _ _ _ _ _ => True) (fun _ U o U' => ∃ v L, o = .returned v ∧ QC v U'.heap L ∧ FrameEnd U o U' L rm.cells rm.slots)
theorem own_body {l : Launch} {Z : State} {y : MethodName} {bytes : ByteArray} {maxL : Nat} {ret : Option FieldType} {ws : List Jvm.Cond} {rm : Room} {as' : Array Value} {h0 : Heap} {QC : Option Value → Heap → List Loc → Prop}
    (hpn : plainName y.cls = true) {Ls : Array Slot} (hef : ∀ m, entryFrame m as' maxL = mkF m 0 Ls [])
    (H : ∀ (p : Program) (e : Env) (s : State) (m : MethodId) (below : List Frame) (meth : Method) (c : Code) (T : State) (Q : Outcome → State → Prop), p.tables.exec = Jvm.exec → c.code = bytes → c.maxLocals = maxL → s.vm.findClass y.cls = some m.cls → meth.name = y.name → meth.sig.returnType = ret → meth.locks = false → Z.Warmed39 s.vm → T.heap = h0 →
      Stand p l e rm s m as' below meth c T [] 0 0 →
      (∀ (v : Option Value) (L : List Loc) (k n : Nat) (U : State), QC v U.heap L → k ≤ rm.cells → n ≤ rm.slots → FrameEnd s (.returned v) U L k n → Q (.returned v) U) → own_G p e below Q (T.setTop (mkF m 0 Ls []))) :
    own_C l Z y bytes maxL ret ws rm as' h0 QC := by
  refine MetFree.of_bodySF (plainFor_of_name hpn) hisR ?_
  intro p e s m args below meth c s₁ Bd hml0 hP hK
  obtain ⟨ha, hZ, hh⟩ := hP
  subst ha
  have X0 : Stand p l e rm s m args below meth c s₁ [] 0 0 := Stand.of_body Bd
  have e0 : s₁.heap = h0 := by rw [← hh, Bd.state]; rfl
  obtain ⟨s₂, o, h1, h2, h3, h4⟩ := H p e s m below meth c s₁ (fun o U' => ∃ v L, o = .returned v ∧ QC v U'.heap L ∧ FrameEnd s o U' L rm.cells rm.slots) Bd.exec Bd.bytes hml0 (findClass_of_methodNamed Bd.named) (name_of_methodNamed Bd.named Bd.method).1 Bd.returns Bd.notSynchronized hZ e0 X0
    (fun v L k n U hq hk hn hF => ⟨v, L, rfl, hq, hF.1, hF.2.1, hF.2.2.mono hk hn⟩)
  exact ⟨s₂, o, castTop (hef m) h1, h2, h3, h4⟩
theorem own_callS (X : Stand p l e R s m args below meth c T locs cells slots) (hx : p.tables.exec = Jvm.exec) (hZ : Z.Warmed39 s.vm) {own : String} {index : Nat} {y : MethodName} {bytes : ByteArray} {maxL : Nat} {ret : Option FieldType} (hown : s.vm.findClass own = some m.cls)
    (w1 : (Jvm.Cond.methodLink own index y).before a0 Z = true) (w2 : (Jvm.Cond.static y).before a0 Z = true) (w3 : (Jvm.Cond.initialized y.cls).before a0 Z = true) (w4 : (Jvm.Cond.code y bytes maxL ret).before a0 Z = true)
    (hy : y.cls ≠ "java/lang/invoke/MethodHandle" ∧ y.cls ≠ "java/lang/invoke/VarHandle")
    {rm : Room} {argsL rest : List Value} {QC : Option Value → Heap → List Loc → Prop} (eT : T.heap = h) (hC : own_C l Z y bytes maxL ret [] rm argsL.toArray h QC)
    {pc : Nat} {Ls : Array Slot} {st : List Value} (hst : st = argsL.reverse ++ rest) (hml : Ls.size = c.maxLocals) {ps : List FieldType} {r : Option FieldType} (hpd : parseMethodDescriptor y.desc = some ⟨ps, r⟩) (hlen : argsL.length = ps.length)
    (hd : decode c.code pc = .ok (.invokestatic index, 3)) {W : Nat} (hW : (rest.map fun v => v.category).sum ≤ W) (hf : rm.frames + 1 ≤ R.frames) (hl : W + (maxL + 11) + rm.locals ≤ R.locals) (hcc : cells + rm.cells ≤ R.cells) (hss : slots + rm.slots ≤ R.slots)
    (K : ∀ (v : Option Value) (T' : State) (L : List Loc), Stand p l e R s m args below meth c T' (locs ++ L) (cells + rm.cells) (slots + rm.slots) → QC v T'.heap L → own_G p e below Q (T'.setTop (mkF m (pc + 3) Ls (v.toList ++ rest)))) :
    own_G p e below Q (T.setTop (mkF m pc Ls st)) := by
  subst hst
  obtain ⟨v, vm1, ⟨T', L', k', n'⟩, -, X', ⟨L, hQ, l1, y1, z1⟩, st'⟩ := Jvm.LawKit.callS X hx (y := y) hown (mvT hZ w1) (mvT hZ w2) (mvT hZ w3) (mvT hZ w4) hy (backOf (W := W) hC hZ w4 w3 hf hl) (g := mkF m pc Ls (argsL.reverse ++ rest)) rfl hml (argsL := argsL) (rest := rest) (lenOf hpd hlen) rfl
    (by show 2 * 0 + _ ≤ _; rw [Nat.mul_zero, Nat.zero_add]; exact hW) hd (fun vm hv => ⟨rfl, eT, hcc, hss⟩)
  dsimp only [Pt.U, Pt.locs, Pt.cells, Pt.slots] at X' l1 y1 z1 st' hQ
  subst l1 y1 z1
  exact own_go st' (K v T' L X' hQ)
theorem own_callV (X : Stand p l e R s m args below meth c T locs cells slots) (hx : p.tables.exec = Jvm.exec) (hZ : Z.Warmed39 s.vm) {own C : String} {index : Nat} {y : MethodName} {bytes : ByteArray} {maxL : Nat} {ret : Option FieldType} (hown : s.vm.findClass own = some m.cls)
    (w1 : (Jvm.Cond.methodLink own index y).before a0 Z = true) (w2 : (Jvm.Cond.declares y).before a0 Z = true) (w3 : (Jvm.Cond.selects C y y).before a0 Z = true) (w4 : (Jvm.Cond.instanceMethod y).before a0 Z = true) (w5 : (Jvm.Cond.code y bytes maxL ret).before a0 Z = true) (w6 : (Jvm.Cond.initialized y.cls).before a0 Z = true)
    (hy : y.cls ≠ "java/lang/invoke/MethodHandle" ∧ y.cls ≠ "java/lang/invoke/VarHandle")
    {rm : Room} {argsL rest : List Value} {QC : Option Value → Heap → List Loc → Prop} (eT : T.heap = h) {b : Addr} (E : Exa Z h b C) (hC : own_C l Z y bytes maxL ret [] rm (.ref b :: argsL).toArray h QC)
    {pc : Nat} {Ls : Array Slot} {st : List Value} (hst : st = argsL.reverse ++ .ref b :: rest) (hml : Ls.size = c.maxLocals) {ps : List FieldType} {r : Option FieldType} (hpd : parseMethodDescriptor y.desc = some ⟨ps, r⟩) (hlen : argsL.length = ps.length)
    (hd : decode c.code pc = .ok (.invokevirtual index, 3)) {W : Nat} (hW : (rest.map fun v => v.category).sum ≤ W) (hf : rm.frames + 1 ≤ R.frames) (hl : W + (maxL + 11) + rm.locals ≤ R.locals) (hcc : cells + rm.cells ≤ R.cells) (hss : slots + rm.slots ≤ R.slots)
    (K : ∀ (v : Option Value) (T' : State) (L : List Loc), Stand p l e R s m args below meth c T' (locs ++ L) (cells + rm.cells) (slots + rm.slots) → QC v T'.heap L → own_G p e below Q (T'.setTop (mkF m (pc + 3) Ls (v.toList ++ rest)))) :
    own_G p e below Q (T.setTop (mkF m pc Ls st)) := by
  subst hst
  obtain ⟨cq, kq, qa, qb, qc⟩ := isOf hZ eT E
  obtain ⟨v, vm1, ⟨T', L', k', n'⟩, -, X', ⟨L, hQ, l1, y1, z1⟩, st'⟩ := X.virtualBack hx (y := y) (z := y) hown (mvT hZ w1) (mvT hZ w2) (notFace_of_selects (args := #[]) (mvT hZ w3)) (mvT hZ w3) (mvT hZ w4) hy (backOf (W := W) hC hZ w5 w6 hf hl) qa qc (g := mkF m pc Ls (argsL.reverse ++ .ref b :: rest)) rfl hml (Steps.refl _) (argsL := argsL) (rest := rest) (lenOf hpd hlen) rfl
    (by show 2 * 0 + _ ≤ _; rw [Nat.mul_zero, Nat.zero_add]; exact hW) hd (fun vm hv => ⟨rfl, eT, hcc, hss⟩)
  dsimp only [Pt.U, Pt.locs, Pt.cells, Pt.slots] at X' l1 y1 z1 st' hQ
  subst l1 y1 z1
  exact own_go (fun t k => st'.trans k) (K v T' L X' hQ)
theorem own_getS (X : Stand p l e R s m args below meth c T locs cells slots) (hx : p.tables.exec = Jvm.exec) (hZ : Z.Warmed39 s.vm) {own O n d : String} {index : Nat} (hown : s.vm.findClass own = some m.cls) (w : (Jvm.Cond.fieldLink own index O n d).before a0 Z = true) (eT : T.heap = h) {v : Value} (F : Sta Z h O n d v)
    {pc : Nat} {Ls : Array Slot} {st : List Value} (hd : decode c.code pc = .ok (.getstatic index, 3))
    (K : ∀ T' : State, Stand p l e R s m args below meth c T' locs cells slots → T'.heap = h → own_G p e below Q (T'.setTop (mkF m (pc + 3) Ls (v :: st)))) : own_G p e below Q (T.setTop (mkF m pc Ls st)) := by
  obtain ⟨T', X', e', st'⟩ := getS2 X hx hZ hown (host := "") (Or.inl w) Via.refl eT F (g := mkF m pc Ls st) rfl hd
  exact own_go st' (K T' X' e')
theorem own_getF (X : Stand p l e R s m args below meth c T locs cells slots) (hx : p.tables.exec = Jvm.exec) (hZ : Z.Warmed39 s.vm) {own O n d : String} {index : Nat} (hown : s.vm.findClass own = some m.cls) (w : (Jvm.Cond.fieldLink own index O n d).before a0 Z = true) (eT : T.heap = h) {a : Addr} {v : Value} (F : Fld Z h a O n d v)
    {pc : Nat} {Ls : Array Slot} {st : List Value} (hd : decode c.code pc = .ok (.getfield index, 3))
    (K : ∀ T' : State, Stand p l e R s m args below meth c T' locs cells slots → T'.heap = h → own_G p e below Q (T'.setTop (mkF m (pc + 3) Ls (v :: st)))) : own_G p e below Q (T.setTop (mkF m pc Ls (.ref a :: st))) := by
  obtain ⟨T', X', e', st'⟩ := getF X hx hZ hown (host := "") (Or.inl w) Via.refl eT F (g := mkF m pc Ls (.ref a :: st)) rfl rfl hd
  exact own_go st' (K T' X' e')
/-- a body that changes nothing returns v -/
def own_P (v : Value) (h0 : Heap) (v' : Option Value) (h : Heap) (L : List Loc) : Prop := v' = some v ∧ h = h0 ∧ L = []
/-- a static call of a body that changes nothing -/
theorem own_callSP (X : Stand p l e R s m args below meth c T locs cells slots) (hx : p.tables.exec = Jvm.exec) (hZ : Z.Warmed39 s.vm) {own : String} {index : Nat} {y : MethodName} {bytes : ByteArray} {maxL : Nat} {ret : Option FieldType} (hown : s.vm.findClass own = some m.cls)
    (w1 : (Jvm.Cond.methodLink own index y).before a0 Z = true) (w2 : (Jvm.Cond.static y).before a0 Z = true) (w3 : (Jvm.Cond.initialized y.cls).before a0 Z = true) (w4 : (Jvm.Cond.code y bytes maxL ret).before a0 Z = true)
    (hy : y.cls ≠ "java/lang/invoke/MethodHandle" ∧ y.cls ≠ "java/lang/invoke/VarHandle")
    {fr lo : Nat} {argsL rest : List Value} {v : Value} (eT : T.heap = h) (hC : own_C l Z y bytes maxL ret [] ({ frames := fr, cells := 0, slots := 0, locals := lo } : Room) argsL.toArray h (own_P v h))
    {pc : Nat} {Ls : Array Slot} {st : List Value} (hst : st = argsL.reverse ++ rest) (hml : Ls.size = c.maxLocals) {ps : List FieldType} {r : Option FieldType} (hpd : parseMethodDescriptor y.desc = some ⟨ps, r⟩) (hlen : argsL.length = ps.length)
    (hd : decode c.code pc = .ok (.invokestatic index, 3)) {W : Nat} (hW : (rest.map fun v => v.category).sum ≤ W) (hf : fr + 1 ≤ R.frames) (hl : W + (maxL + 11) + lo ≤ R.locals) (hcc : cells ≤ R.cells) (hss : slots ≤ R.slots)
    (K : ∀ T' : State, Stand p l e R s m args below meth c T' locs cells slots → T'.heap = h → own_G p e below Q (T'.setTop (mkF m (pc + 3) Ls (v :: rest)))) :
    own_G p e below Q (T.setTop (mkF m pc Ls st)) :=
  own_callS X hx hZ hown w1 w2 w3 w4 hy eT hC hst hml hpd hlen hd hW hf hl hcc hss fun v' T' L X' hq => by
    obtain ⟨rfl, e', rfl⟩ := hq
    rw [List.append_nil] at X'
    exact K T' X' e'
/-- a virtual call of a body that changes nothing -/
theorem own_callVP (X : Stand p l e R s m args below meth c T locs cells slots) (hx : p.tables.exec = Jvm.exec) (hZ : Z.Warmed39 s.vm) {own C : String} {index : Nat} {y : MethodName} {bytes : ByteArray} {maxL : Nat} {ret : Option FieldType} (hown : s.vm.findClass own = some m.cls)
    (w1 : (Jvm.Cond.methodLink own index y).before a0 Z = true) (w2 : (Jvm.Cond.declares y).before a0 Z = true) (w3 : (Jvm.Cond.selects C y y).before a0 Z = true) (w4 : (Jvm.Cond.instanceMethod y).before a0 Z = true) (w5 : (Jvm.Cond.code y bytes maxL ret).before a0 Z = true) (w6 : (Jvm.Cond.initialized y.cls).before a0 Z = true)
    (hy : y.cls ≠ "java/lang/invoke/MethodHandle" ∧ y.cls ≠ "java/lang/invoke/VarHandle")
    {fr lo : Nat} {argsL rest : List Value} {v : Value} (eT : T.heap = h) {b : Addr} (E : Exa Z h b C) (hC : own_C l Z y bytes maxL ret [] ({ frames := fr, cells := 0, slots := 0, locals := lo } : Room) (.ref b :: argsL).toArray h (own_P v h))
    {pc : Nat} {Ls : Array Slot} {st : List Value} (hst : st = argsL.reverse ++ .ref b :: rest) (hml : Ls.size = c.maxLocals) {ps : List FieldType} {r : Option FieldType} (hpd : parseMethodDescriptor y.desc = some ⟨ps, r⟩) (hlen : argsL.length = ps.length)
    (hd : decode c.code pc = .ok (.invokevirtual index, 3)) {W : Nat} (hW : (rest.map fun v => v.category).sum ≤ W) (hf : fr + 1 ≤ R.frames) (hl : W + (maxL + 11) + lo ≤ R.locals) (hcc : cells ≤ R.cells) (hss : slots ≤ R.slots)
    (K : ∀ T' : State, Stand p l e R s m args below meth c T' locs cells slots → T'.heap = h → own_G p e below Q (T'.setTop (mkF m (pc + 3) Ls (v :: rest)))) :
    own_G p e below Q (T.setTop (mkF m pc Ls st)) :=
  own_callV X hx hZ hown w1 w2 w3 w4 w5 w6 hy eT E hC hst hml hpd hlen hd hW hf hl hcc hss fun v' T' L X' hq => by
    obtain ⟨rfl, e', rfl⟩ := hq
    rw [List.append_nil] at X'
    exact K T' X' e'
/-- a static of exactly the class C, out of a case's words -/
theorem own_sta {t : Term} {C n d : String} (ht : t = .static C n d) {K : String} (hq : (Jvm.Cond.exactly t K).value a0 Z none Z [] = some true) (wi : (Jvm.Cond.initialized C).before a0 Z = true) (wl : (Jvm.Cond.laysStatic C n d).before a0 Z = true) :
    ∃ a : Addr, t.eval a0 Z none [] Z = some (.ref a) ∧ Sta Z Z.heap C n d (.ref a) ∧ Exa Z Z.heap a K := by
  subst ht
  obtain ⟨a, ev⟩ := exa_v hq
  exact ⟨a, ev, Sta.start ev (Or.inr ⟨wi, wl⟩), Exa.start ev hq⟩
theorem own_fld {t : Term} {a : Addr} {C n d : String} {k : Int32} (ev : t.eval a0 Z none [] Z = some (.ref a)) (hq : (Jvm.Cond.eq (.field t C n d) (.int k)).value a0 Z none Z [] = some true) : Fld Z Z.heap a C n d (.int k) := by
  obtain ⟨x, y, h1, h2, -, -⟩ := cmp_v (Or.inl hq)
  have h2' : y = .int k := (Option.some.inj ((Term.int_eval k).symm.trans h2)).symm
  subst h2'
  have hxy : x = .int k := by
    cases x <;> simp [Jvm.Cond.value, h1, h2] at hq ⊢
    exact hq
  subst hxy
  rw [fld_at ev] at h1
  exact Fld.start h1
theorem own_mod (k : Int32) (n : Nat) (hn : 0 < n) (hn2 : n < 2147483648) (y : Int32) (hy : y.toInt = (n : Int)) : ∃ i : Nat, i < n ∧ (k &&& (2147483647 : Int32)) % y = Int32.ofNat i := by
  have hm := c_mask k (2147483647 : Int32) 31 (by decide) (by decide)
  have h0 : 0 ≤ (k &&& (2147483647 : Int32)).toInt := by rw [hm]; omega
  have hr := (c_irem (k &&& (2147483647 : Int32)) y n hy).1 h0
  have h1 : 0 ≤ ((k &&& (2147483647 : Int32)) % y).toInt ∧ ((k &&& (2147483647 : Int32)) % y).toInt < n := by rw [hr]; exact ⟨Int.emod_nonneg _ (by omega), Int.emod_lt_of_pos _ (by omega)⟩
  generalize (k &&& (2147483647 : Int32)) % y = z at h1
  refine ⟨z.toInt.toNat, by omega, ?_⟩
  apply Int32.toInt_inj.mp
  rw [Int32.toInt_ofNat_small (by omega)]
  omega
end Own
section OwnA
variable {p : Program} {l : Launch} {e : Env} {R : Room} {s : State} {m : MethodId} {args : Array Value} {below : List Frame} {meth : Method} {c : Code} {T : State} {locs : List Loc} {cells slots : Nat} {Z : State} {a0 : Array Value} {h h' : Heap} {Q : Outcome → State → Prop} {a b : Addr} {k : ClassId} {ty : FieldType} {n i n0 : Nat} {f : Nat → Value} {j : Int32} {pc : Nat} {Ls : Array Slot} {rest : List Value}
/-- the array at a (of the class k, of n places): its first i places hold f 0 .. f (i - 1) -/
def own_F (Z : State) (h : Heap) (a : Addr) (k : ClassId) (ty : FieldType) (n : Nat) (f : Nat → Value) (i : Nat) : Prop :=
  ∃ cl : Cell, Arr Z h a cl ty ∧ cl.cls = k ∧ cl.slots.size = n ∧ ∀ j, j < i → cl.slots[j]? = some (f j)
theorem own_F_ext (E : Ext h h') (F : own_F Z h a k ty n f i) : own_F Z h' a k ty n f i := by
  obtain ⟨cl, A, r⟩ := F
  exact ⟨cl, A.ext E, r⟩
theorem own_F_other {sl : Nat} {v : Value} (W : Wr h h' b sl v) (q : a ≠ b) (F : own_F Z h a k ty n f i) : own_F Z h' a k ty n f i := by
  obtain ⟨cl, A, r⟩ := F
  exact ⟨cl, A.other W q, r⟩
theorem own_F_lt (F : own_F Z h a k ty n f i) : a < h.size := by
  obtain ⟨cl, A, r⟩ := F
  exact A.lt
theorem own_F_set (F : own_F Z h a k ty n f i) (hi : i < n) (W : Wr h h' a i (f i)) : own_F Z h' a k ty n f (i + 1) := by
  obtain ⟨cl, A, q1, q2, q3⟩ := F
  refine ⟨cl.setSlot i (f i), A.same W, q1, by rw [sz_set]; exact q2, fun j hj => ?_⟩
  show (cl.slots.setIfInBounds i (f i))[j]? = _
  rw [Array.getElem?_setIfInBounds]
  by_cases q : i = j
  · subst q; rw [if_pos rfl, if_pos (by omega)]
  · rw [if_neg q]; exact q3 j (by omega)
theorem own_nat (hi : i < 2147483648) : (Int32.ofNat i).toNatClampNeg = i := by
  show (Int32.ofNat i).toInt.toNat = i
  rw [Int32.toInt_ofNat_small (by omega)]
  omega
theorem own_nn (hi : i < 2147483648) : ¬ Int32.ofNat i < 0 := by
  rw [Int32.lt_iff_toInt_lt, Int32.toInt_ofNat_small (by omega)]
  show ¬ (i : Int) < 0
  omega
theorem own_inb {cl : Cell} (q2 : cl.slots.size = n) (hi : i < n) (hn : n < 2147483648) : ¬ (Int32.ofNat i < 0 ∨ cl.slots.size ≤ (Int32.ofNat i).toNatClampNeg) := by
  rw [own_nat (by omega), q2]
  intro q
  rcases q with q | q
  · exact own_nn (by omega) q
  · omega
theorem own_stJ (X : Stand p l e R s m args below meth c T locs cells slots) (hx : p.tables.exec = Jvm.exec) (hZ : Z.Warmed39 s.vm) (eT : T.heap = h) (N : Fr n0 locs) (O : Old Z n0 h) (ha : n0 ≤ a) (F : own_F Z h a k .long n f i) (hi : i < n) (hn : n < 2147483648) {x : Int64} (hf : f i = .long x) (hj : j = Int32.ofNat i) (hd : decode c.code pc = .ok (.lastore, 1))
    (K : ∀ (T' : State) (h' : Heap) (locs' : List Loc), Stand p l e R s m args below meth c T' locs' cells slots → T'.heap = h' → Fr n0 locs' → Old Z n0 h' → Wr h h' a i (f i) → own_F Z h' a k .long n f (i + 1) → own_G p e below Q (T'.setTop (mkF m (pc + 1) Ls rest))) :
    own_G p e below Q (T.setTop (mkF m pc Ls (.long x :: .int j :: .ref a :: rest))) := by
  subst hj
  obtain ⟨cl, A, q1, q2, q3⟩ := id F
  obtain ⟨T', h', X', e', W, st⟩ := stJ X hx hZ eT A (own_inb q2 hi hn) (g := mkF m pc Ls (.long x :: .int (Int32.ofNat i) :: .ref a :: rest)) rfl rfl hd
  rw [own_nat (by omega)] at W
  rw [← hf] at W
  exact own_go st (K T' h' _ X' e' (Fr.snoc X' N ha) (O.wr W ha) W (own_F_set F hi W))
theorem own_stI (X : Stand p l e R s m args below meth c T locs cells slots) (hx : p.tables.exec = Jvm.exec) (hZ : Z.Warmed39 s.vm) (eT : T.heap = h) (N : Fr n0 locs) (O : Old Z n0 h) (ha : n0 ≤ a) (F : own_F Z h a k .int n f i) (hi : i < n) (hn : n < 2147483648) {x : Int32} (hf : f i = .int x) (hj : j = Int32.ofNat i) (hd : decode c.code pc = .ok (.iastore, 1))
    (K : ∀ (T' : State) (h' : Heap) (locs' : List Loc), Stand p l e R s m args below meth c T' locs' cells slots → T'.heap = h' → Fr n0 locs' → Old Z n0 h' → Wr h h' a i (f i) → own_F Z h' a k .int n f (i + 1) → own_G p e below Q (T'.setTop (mkF m (pc + 1) Ls rest))) :
    own_G p e below Q (T.setTop (mkF m pc Ls (.int x :: .int j :: .ref a :: rest))) := by
  subst hj
  obtain ⟨cl, A, q1, q2, q3⟩ := id F
  obtain ⟨T', h', X', e', W, st⟩ := stI X hx hZ eT A (own_inb q2 hi hn) (g := mkF m pc Ls (.int x :: .int (Int32.ofNat i) :: .ref a :: rest)) rfl rfl hd
  rw [own_nat (by omega)] at W
  rw [← hf] at W
  exact own_go st (K T' h' _ X' e' (Fr.snoc X' N ha) (O.wr W ha) W (own_F_set F hi W))
theorem own_stZ (X : Stand p l e R s m args below meth c T locs cells slots) (hx : p.tables.exec = Jvm.exec) (hZ : Z.Warmed39 s.vm) (eT : T.heap = h) (N : Fr n0 locs) (O : Old Z n0 h) (ha : n0 ≤ a) (F : own_F Z h a k .boolean n f i) (hi : i < n) (hn : n < 2147483648) {x : Int32} (hf : f i = .int (nar .boolean x)) (hj : j = Int32.ofNat i) (hd : decode c.code pc = .ok (.bastore, 1))
    (K : ∀ (T' : State) (h' : Heap) (locs' : List Loc), Stand p l e R s m args below meth c T' locs' cells slots → T'.heap = h' → Fr n0 locs' → Old Z n0 h' → Wr h h' a i (f i) → own_F Z h' a k .boolean n f (i + 1) → own_G p e below Q (T'.setTop (mkF m (pc + 1) Ls rest))) :
    own_G p e below Q (T.setTop (mkF m pc Ls (.int x :: .int j :: .ref a :: rest))) := by
  subst hj
  obtain ⟨cl, A, q1, q2, q3⟩ := id F
  obtain ⟨T', h', X', e', W, st⟩ := stZ X hx hZ eT A (own_inb q2 hi hn) (g := mkF m pc Ls (.int x :: .int (Int32.ofNat i) :: .ref a :: rest)) rfl rfl hd
  rw [own_nat (by omega)] at W
  rw [← hf] at W
  exact own_go st (K T' h' _ X' e' (Fr.snoc X' N ha) (O.wr W ha) W (own_F_set F hi W))
theorem own_stB (X : Stand p l e R s m args below meth c T locs cells slots) (hx : p.tables.exec = Jvm.exec) (hZ : Z.Warmed39 s.vm) (eT : T.heap = h) (N : Fr n0 locs) (O : Old Z n0 h) (ha : n0 ≤ a) (F : own_F Z h a k .byte n f i) (hi : i < n) (hn : n < 2147483648) {x : Int32} (hf : f i = .int (nar .byte x)) (hj : j = Int32.ofNat i) (hd : decode c.code pc = .ok (.bastore, 1))
    (K : ∀ (T' : State) (h' : Heap) (locs' : List Loc), Stand p l e R s m args below meth c T' locs' cells slots → T'.heap = h' → Fr n0 locs' → Old Z n0 h' → Wr h h' a i (f i) → own_F Z h' a k .byte n f (i + 1) → own_G p e below Q (T'.setTop (mkF m (pc + 1) Ls rest))) :
    own_G p e below Q (T.setTop (mkF m pc Ls (.int x :: .int j :: .ref a :: rest))) := by
  subst hj
  obtain ⟨cl, A, q1, q2, q3⟩ := id F
  obtain ⟨T', h', X', e', W, st⟩ := stB X hx hZ eT A (own_inb q2 hi hn) (g := mkF m pc Ls (.int x :: .int (Int32.ofNat i) :: .ref a :: rest)) rfl rfl hd
  rw [own_nat (by omega)] at W
  rw [← hf] at W
  exact own_go st (K T' h' _ X' e' (Fr.snoc X' N ha) (O.wr W ha) W (own_F_set F hi W))
theorem own_stR (X : Stand p l e R s m args below meth c T locs cells slots) (hx : p.tables.exec = Jvm.exec) (hZ : Z.Warmed39 s.vm) (eT : T.heap = h) (N : Fr n0 locs) (O : Old Z n0 h) (ha : n0 ≤ a) (F : own_F Z h a k ty n f i) (hi : i < n) (hn : n < 2147483648) (hty : ty.isReference = true) {C : String} (V : Ovr Z k C) {y : Addr} (I : Ins Z h y C true) (hf : f i = .ref y) (hj : j = Int32.ofNat i) (hd : decode c.code pc = .ok (.aastore, 1))
    (K : ∀ (T' : State) (h' : Heap) (locs' : List Loc), Stand p l e R s m args below meth c T' locs' cells slots → T'.heap = h' → Fr n0 locs' → Old Z n0 h' → Wr h h' a i (f i) → own_F Z h' a k ty n f (i + 1) → own_G p e below Q (T'.setTop (mkF m (pc + 1) Ls rest))) :
    own_G p e below Q (T.setTop (mkF m pc Ls (.ref y :: .int j :: .ref a :: rest))) := by
  subst hj
  obtain ⟨cl, A, q1, q2, q3⟩ := id F
  obtain ⟨T', h', X', e', W, st⟩ := stR X hx hZ eT A (own_inb q2 hi hn) hty (Sto.ofV A q1 V I) (g := mkF m pc Ls (.ref y :: .int (Int32.ofNat i) :: .ref a :: rest)) rfl rfl hd
  rw [own_nat (by omega)] at W
  rw [← hf] at W
  exact own_go st (K T' h' _ X' e' (Fr.snoc X' N ha) (O.wr W ha) W (own_F_set F hi W))
theorem own_ldI (X : Stand p l e R s m args below meth c T locs cells slots) (hx : p.tables.exec = Jvm.exec) (hZ : Z.Warmed39 s.vm) (eT : T.heap = h) (F : own_F Z h a k .int n f n) (hi : i < n) (hn : n < 2147483648) (hj : j = Int32.ofNat i) (hd : decode c.code pc = .ok (.iaload, 1))
    (K : own_G p e below Q (T.setTop (mkF m (pc + 1) Ls (f i :: rest)))) : own_G p e below Q (T.setTop (mkF m pc Ls (.int j :: .ref a :: rest))) := by
  subst hj
  obtain ⟨cl, A, q1, q2, q3⟩ := id F
  exact own_go (fun t kk => X.iaload hx (by rw [eT]; exact A.1) (State.isArrayOf_alike hZ.alike A.2.1) A.2.2 (own_inb q2 hi hn) (by rw [own_nat (by omega)]; exact q3 i hi) (g := mkF m pc Ls (.int (Int32.ofNat i) :: .ref a :: rest)) rfl rfl hd t kk) K
theorem own_ldJ (X : Stand p l e R s m args below meth c T locs cells slots) (hx : p.tables.exec = Jvm.exec) (hZ : Z.Warmed39 s.vm) (eT : T.heap = h) (F : own_F Z h a k .long n f n) (hi : i < n) (hn : n < 2147483648) (hj : j = Int32.ofNat i) (hd : decode c.code pc = .ok (.laload, 1))
    (K : own_G p e below Q (T.setTop (mkF m (pc + 1) Ls (f i :: rest)))) : own_G p e below Q (T.setTop (mkF m pc Ls (.int j :: .ref a :: rest))) := by
  subst hj
  obtain ⟨cl, A, q1, q2, q3⟩ := id F
  exact own_go (fun t kk => X.laload hx (by rw [eT]; exact A.1) (State.isArrayOf_alike hZ.alike A.2.1) A.2.2 (own_inb q2 hi hn) (by rw [own_nat (by omega)]; exact q3 i hi) (g := mkF m pc Ls (.int (Int32.ofNat i) :: .ref a :: rest)) rfl rfl hd t kk) K
theorem own_ldZ (X : Stand p l e R s m args below meth c T locs cells slots) (hx : p.tables.exec = Jvm.exec) (hZ : Z.Warmed39 s.vm) (eT : T.heap = h) (F : own_F Z h a k .boolean n f n) (hi : i < n) (hn : n < 2147483648) (hj : j = Int32.ofNat i) (hd : decode c.code pc = .ok (.baload, 1))
    (K : own_G p e below Q (T.setTop (mkF m (pc + 1) Ls (f i :: rest)))) : own_G p e below Q (T.setTop (mkF m pc Ls (.int j :: .ref a :: rest))) := by
  subst hj
  obtain ⟨cl, A, q1, q2, q3⟩ := id F
  exact own_go (fun t kk => X.baloadBooleans hx (by rw [eT]; exact A.1) (State.isArrayOf_alike hZ.alike A.2.1) A.2.2 (own_inb q2 hi hn) (by rw [own_nat (by omega)]; exact q3 i hi) (g := mkF m pc Ls (.int (Int32.ofNat i) :: .ref a :: rest)) rfl rfl hd t kk) K
theorem own_ldB (X : Stand p l e R s m args below meth c T locs cells slots) (hx : p.tables.exec = Jvm.exec) (hZ : Z.Warmed39 s.vm) (eT : T.heap = h) (F : own_F Z h a k .byte n f n) (hi : i < n) (hn : n < 2147483648) (hj : j = Int32.ofNat i) (hd : decode c.code pc = .ok (.baload, 1))
    (K : own_G p e below Q (T.setTop (mkF m (pc + 1) Ls (f i :: rest)))) : own_G p e below Q (T.setTop (mkF m pc Ls (.int j :: .ref a :: rest))) := by
  subst hj
  obtain ⟨cl, A, q1, q2, q3⟩ := id F
  exact own_go (fun t kk => X.baloadBytes hx (by rw [eT]; exact A.1) (State.isArrayOf_alike hZ.alike A.2.1) A.2.2 (own_inb q2 hi hn) (by rw [own_nat (by omega)]; exact q3 i hi) (g := mkF m pc Ls (.int (Int32.ofNat i) :: .ref a :: rest)) rfl rfl hd t kk) K
theorem own_ldR (X : Stand p l e R s m args below meth c T locs cells slots) (hx : p.tables.exec = Jvm.exec) (hZ : Z.Warmed39 s.vm) (eT : T.heap = h) (F : own_F Z h a k ty n f n) (hty : ty.isReference = true) (hi : i < n) (hn : n < 2147483648) (hj : j = Int32.ofNat i) (hd : decode c.code pc = .ok (.aaload, 1))
    (K : own_G p e below Q (T.setTop (mkF m (pc + 1) Ls (f i :: rest)))) : own_G p e below Q (T.setTop (mkF m pc Ls (.int j :: .ref a :: rest))) := by
  subst hj
  obtain ⟨cl, A, q1, q2, q3⟩ := id F
  exact own_go (fun t kk => X.aaload hx (by rw [eT]; exact A.1) (State.isArrayOf_alike hZ.alike A.2.1) hty A.2.2 (own_inb q2 hi hn) (by rw [own_nat (by omega)]; exact q3 i hi) (g := mkF m pc Ls (.int (Int32.ofNat i) :: .ref a :: rest)) rfl rfl hd t kk) K
theorem own_len (X : Stand p l e R s m args below meth c T locs cells slots) (hx : p.tables.exec = Jvm.exec) (hZ : Z.Warmed39 s.vm) (eT : T.heap = h) (F : own_F Z h a k ty n f i) (hd : decode c.code pc = .ok (.arraylength, 1))
    (K : own_G p e below Q (T.setTop (mkF m (pc + 1) Ls (.int (Int32.ofNat n) :: rest)))) : own_G p e below Q (T.setTop (mkF m pc Ls (.ref a :: rest))) := by
  obtain ⟨cl, A, q1, q2, q3⟩ := id F
  subst q2
  exact own_go (fun t kk => X.arraylength hx (by rw [eT]; exact A.1) (State.isArrayOf_alike hZ.alike A.2.1) (g := mkF m pc Ls (.ref a :: rest)) rfl rfl hd t kk) K
theorem own_newP (X : Stand p l e R s m args below meth c T locs cells slots) (hx : p.tables.exec = Jvm.exec) (hZ : Z.Warmed39 s.vm) {aty : ArrayType} (hty : newarray.typeOf aty = ty) (w : (Jvm.Cond.arrayClass ty).before a0 Z = true) (eT : T.heap = h) (O : Old Z n0 h) (hj : j = Int32.ofNat n) (hn : n * 8 ≤ 536870912) (hc : cells + 1 ≤ R.cells) (hl : slots + n ≤ R.slots) (hd : decode c.code pc = .ok (.newarray aty, 2))
    (K : ∀ (T' : State) (h' : Heap) (a : Addr) (k : ClassId), Stand p l e R s m args below meth c T' locs (cells + 1) (slots + n) → T'.heap = h' → Ext h h' → a = h.size → n0 ≤ a → Old Z n0 h' → (∀ f, own_F Z h' a k ty n f 0) → own_G p e below Q (T'.setTop (mkF m (pc + 2) Ls (.ref a :: rest)))) :
    own_G p e below Q (T.setTop (mkF m pc Ls (.int j :: rest))) := by
  subst hj hty
  obtain ⟨T', h', cA, X', e', E, A, st⟩ := newP X hx hZ w eT (g := mkF m pc Ls (.int (Int32.ofNat n) :: rest)) rfl hd rfl (own_nn (by omega)) (cap := n) (by rw [own_nat (by omega)]; exact Nat.le_refl _) hn hc hl
  refine own_go st (K T' h' h.size cA X' e' E rfl (by rw [← O.1]; exact O.2.1) (O.ext E) fun f => ⟨_, A, rfl, ?_, fun j hj => absurd hj (Nat.not_lt_zero j)⟩)
  rw [sz_new, own_nat (by omega)]
theorem own_newR (X : Stand p l e R s m args below meth c T locs cells slots) (hx : p.tables.exec = Jvm.exec) (hZ : Z.Warmed39 s.vm) {own C : String} {index : Nat} (hown : s.vm.findClass own = some m.cls) (w1 : (Jvm.Cond.classLink own index C).before a0 Z = true) (w2 : (Jvm.Cond.arrayOver (.object C)).before a0 Z = true) (eT : T.heap = h) (O : Old Z n0 h) (hj : j = Int32.ofNat n) (hn : n * 8 ≤ 536870912) (hc : cells + 1 ≤ R.cells) (hl : slots + n ≤ R.slots) (hd : decode c.code pc = .ok (.anewarray index, 3))
    (K : ∀ (T' : State) (h' : Heap) (a : Addr) (k : ClassId), Stand p l e R s m args below meth c T' locs (cells + 1) (slots + n) → T'.heap = h' → Ext h h' → a = h.size → n0 ≤ a → Old Z n0 h' → Ovr Z k C → (∀ f, own_F Z h' a k (.object C) n f 0) → own_G p e below Q (T'.setTop (mkF m (pc + 3) Ls (.ref a :: rest)))) :
    own_G p e below Q (T.setTop (mkF m pc Ls (.int j :: rest))) := by
  subst hj
  obtain ⟨T', h', cA, X', e', E, A, V, st⟩ := newR X hx hZ hown w1 w2 eT (g := mkF m pc Ls (.int (Int32.ofNat n) :: rest)) rfl hd rfl (own_nn (by omega)) (cap := n) (by rw [own_nat (by omega)]; exact Nat.le_refl _) hn hc hl
  refine own_go st (K T' h' h.size cA X' e' E rfl (by rw [← O.1]; exact O.2.1) (O.ext E) V fun f => ⟨_, A, rfl, ?_, fun j hj => absurd hj (Nat.not_lt_zero j)⟩)
  rw [sz_new, own_nat (by omega)]
end OwnA
/-- the constants lie at ad 0, ad 1, .. -/
def own_St (Z : State) (ad : Nat → Addr) : Prop := Sta Z Z.heap "com/example/stylewright/stylewright/AtomicType" "ANY_ATOMIC" "Lcom/example/stylewright/stylewright/AtomicType;" (.ref (ad 0)) ∧ Sta Z Z.heap "com/example/stylewright/stylewright/AtomicType" "UNTYPED_ATOMIC" "Lcom/example/stylewright/stylewright/AtomicType;" (.ref (ad 1)) ∧ Sta Z Z.heap "com/example/stylewright/stylewright/AtomicType" "STRING" "Lcom/example/stylewright/stylewright/AtomicType;" (.ref (ad 2)) ∧ Sta Z Z.heap "com/example/stylewright/stylewright/AtomicType" "ANY_URI" "Lcom/example/stylewright/stylewright/AtomicType;" (.ref (ad 3)) ∧ Sta Z Z.heap "com/example/stylewright/stylewright/AtomicType" "BOOLEAN" "Lcom/example/stylewright/stylewright/AtomicType;" (.ref (ad 4)) ∧ Sta Z Z.heap "com/example/stylewright/stylewright/AtomicType" "NUMERIC" "Lcom/example/stylewright/stylewright/AtomicType;" (.ref (ad 5)) ∧ Sta Z Z.heap "com/example/stylewright/stylewright/AtomicType" "DECIMAL" "Lcom/example/stylewright/stylewright/AtomicType;" (.ref (ad 6)) ∧ Sta Z Z.heap "com/example/stylewright/stylewright/AtomicType" "INTEGER" "Lcom/example/stylewright/stylewright/AtomicType;" (.ref (ad 7)) ∧ Sta Z Z.heap "com/example/stylewright/stylewright/AtomicType" "FLOAT" "Lcom/example/stylewright/stylewright/AtomicType;" (.ref (ad 8)) ∧ Sta Z Z.heap "com/example/stylewright/stylewright/AtomicType" "DOUBLE" "Lcom/example/stylewright/stylewright/AtomicType;" (.ref (ad 9)) ∧ Sta Z Z.heap "com/example/stylewright/stylewright/AtomicType" "DATE" "Lcom/example/stylewright/stylewright/AtomicType;" (.ref (ad 10)) ∧ Sta Z Z.heap "com/example/stylewright/stylewright/AtomicType" "DATE_TIME" "Lcom/example/stylewright/stylewright/AtomicType;" (.ref (ad 11)) ∧ Sta Z Z.heap "com/example/stylewright/stylewright/AtomicType" "DAY_TIME_DURATION" "Lcom/example/stylewright/stylewright/AtomicType;" (.ref (ad 12)) ∧ Sta Z Z.heap "com/example/stylewright/stylewright/AtomicType" "QNAME" "Lcom/example/stylewright/stylewright/AtomicType;" (.ref (ad 13))
theorem dc_0 : decode prog_5_method_7_code 0 = .ok (.aload_n 0, 1) := by decide +kernel
theorem dc_1 : decode prog_5_method_7_code 1 = .ok (.getstatic 19, 3) := by decide +kernel
theorem dc_4 : decode prog_5_method_7_code 4 = .ok (.if_acmp .eq 31, 3) := by decide +kernel
theorem dc_7 : decode prog_5_method_7_code 7 = .ok (.aload_n 0, 1) := by decide +kernel
theorem dc_8 : decode prog_5_method_7_code 8 = .ok (.getstatic 22, 3) := by decide +kernel
theorem dc_11 : decode prog_5_method_7_code 11 = .ok (.if_acmp .eq 24, 3) := by decide +kernel
theorem dc_14 : decode prog_5_method_7_code 14 = .ok (.aload_n 0, 1) := by decide +kernel
theorem dc_15 : decode prog_5_method_7_code 15 = .ok (.getstatic 25, 3) := by decide +kernel
theorem dc_18 : decode prog_5_method_7_code 18 = .ok (.if_acmp .eq 17, 3) := by decide +kernel
theorem dc_21 : decode prog_5_method_7_code 21 = .ok (.aload_n 0, 1) := by decide +kernel
theorem dc_22 : decode prog_5_method_7_code 22 = .ok (.getstatic 28, 3) := by decide +kernel
theorem dc_25 : decode prog_5_method_7_code 25 = .ok (.if_acmp .eq 10, 3) := by decide +kernel
theorem dc_28 : decode prog_5_method_7_code 28 = .ok (.aload_n 0, 1) := by decide +kernel
theorem dc_29 : decode prog_5_method_7_code 29 = .ok (.getstatic 31, 3) := by decide +kernel
theorem dc_32 : decode prog_5_method_7_code 32 = .ok (.if_acmp .ne 7, 3) := by decide +kernel
theorem dc_35 : decode prog_5_method_7_code 35 = .ok (.iconst 1, 1) := by decide +kernel
theorem dc_36 : decode prog_5_method_7_code 36 = .ok (.goto 4, 3) := by decide +kernel
theorem dc_39 : decode prog_5_method_7_code 39 = .ok (.iconst 0, 1) := by decide +kernel
theorem dc_40 : decode prog_5_method_7_code 40 = .ok (.ireturn, 1) := by decide +kernel
theorem pn_l : plainName "com/example/stylewright/stylewright/AtomicTypeIsNumericPinLaw" = true := by first | (simp [plainName, overriddenIn]; done) | decide +kernel
theorem pn_c : plainName "com/example/stylewright/stylewright/AtomicType" = true := by first | (simp [plainName, overriddenIn]; done) | decide +kernel
theorem pd_c : parseMethodDescriptor "()Z" = some ⟨[], some .boolean⟩ := by decide +kernel
theorem ef_c (m : MethodId) (x0 : Addr) : entryFrame m #[(.ref x0)] 1 = mkF m 0 #[.val (.ref x0)] [] := by first | (simp [entryFrame, mkF, argsToLocals, Value.category, maxLocals]; done) | rfl
theorem ef_0 (m : MethodId) (x0 : Int32) : entryFrame m #[(.int x0)] maxLocals = mkF m 0 #[.val (.int x0), .unset, .unset, .unset] [] := by first | (simp [entryFrame, mkF, argsToLocals, Value.category, maxLocals]; done) | rfl
set_option maxRecDepth 65536 in
set_option maxHeartbeats 40000000 in
theorem own_test (l : Launch) (Z : State) (a0 : Array Value) (hw : ∀ d ∈ tables_1, d.before a0 Z = true) (ad : Nat → Addr) (hS : own_St Z ad) (h0 : Heap) (hO : Ext Z.heap h0) (wa : Addr) :
    own_C l Z (⟨"com/example/stylewright/stylewright/AtomicType", "isNumeric", "()Z"⟩ : MethodName) prog_5_method_7_code 1 (some .boolean) [] ({ frames := 0, cells := 0, slots := 0, locals := 0 } : Room) #[.ref wa] h0 (own_P (.int (if wa = ad 5 then (1 : Int32) else if wa = ad 6 then 1 else if wa = ad 7 then 1 else if wa = ad 8 then 1 else if wa = ad 9 then 1 else 0)) h0) := by
  refine own_body pn_c (fun m => ef_c m _) ?_
  intro p e s m below meth c T Q hx hby hml hown hnm hret hlk hZ e0 X0 hR
  refine own_go (fun _ k => XS.aloadN X0.here hx rfl (hb hby dc_0) rfl rfl  k) ?_
  show own_G p e below Q (T.setTop (mkF m 1 #[.val (.ref wa)] [(.ref wa)]))
  refine own_getS X0 hx hZ hown (hw _ (List.mem_of_getElem? (i := 39) rfl)) e0 (Sta.ext hO hS.2.2.2.2.2.1) (hb hby dc_1) ?_
  intro T1 X1 e1
  show own_G p e below Q (T1.setTop (mkF m 4 #[.val (.ref wa)] [(.ref (ad 5)), (.ref wa)]))
  by_cases h0 : wa = (ad 5)
  · refine own_go (fun _ k => Jvm.RoadKit.acmp (g := (mkF m 4 #[.val (.ref wa)] [(.ref (ad 5)), (.ref wa)])) X1 hx rfl rfl rfl (pc0 := 4) (pc' := 35) (same := true) rfl (hb hby dc_4) rfl (decide_eq_true (congrArg Value.ref h0)) (by decide) (by decide) k) ?_
    show own_G p e below Q (T1.setTop (mkF m 35 #[.val (.ref wa)] []))
    refine own_go (fun _ k => XS.iconst X1.here hx rfl (hb hby dc_35) k) ?_
    show own_G p e below Q (T1.setTop (mkF m 36 #[.val (.ref wa)] [(.int (1 : Int32))]))
    refine own_go (fun _ k => XS.goto X1.here hx rfl (pc0 := 36) (pc' := 40) rfl (hb hby dc_36) (by decide) (by decide) k) ?_
    show own_G p e below Q (T1.setTop (mkF m 40 #[.val (.ref wa)] [(.int (1 : Int32))]))
    exact own_retN X1 hx hlk (Or.inl rfl) hret (hb hby dc_40) (by rw [if_pos h0]; rfl) (fun U hU hF => hR _ _ _ _ _ ⟨rfl, hU.trans e1, rfl⟩ (by decide) (by decide) hF)
  · refine own_go (fun _ k => Jvm.RoadKit.acmp (g := (mkF m 4 #[.val (.ref wa)] [(.ref (ad 5)), (.ref wa)])) X1 hx rfl rfl rfl (pc0 := 4) (pc' := 7) (same := false) rfl (hb hby dc_4) rfl (decide_eq_false fun q => h0 (Value.ref.inj q)) (by decide) (by decide) k) ?_
    show own_G p e below Q (T1.setTop (mkF m 7 #[.val (.ref wa)] []))
    refine own_go (fun _ k => XS.aloadN X1.here hx rfl (hb hby dc_7) rfl rfl  k) ?_
    show own_G p e below Q (T1.setTop (mkF m 8 #[.val (.ref wa)] [(.ref wa)]))
    refine own_getS X1 hx hZ hown (hw _ (List.mem_of_getElem? (i := 40) rfl)) e1 (Sta.ext hO hS.2.2.2.2.2.2.1) (hb hby dc_8) ?_
    intro T2 X2 e2
    show own_G p e below Q (T2.setTop (mkF m 11 #[.val (.ref wa)] [(.ref (ad 6)), (.ref wa)]))
    by_cases h1 : wa = (ad 6)
    · refine own_go (fun _ k => Jvm.RoadKit.acmp (g := (mkF m 11 #[.val (.ref wa)] [(.ref (ad 6)), (.ref wa)])) X2 hx rfl rfl rfl (pc0 := 11) (pc' := 35) (same := true) rfl (hb hby dc_11) rfl (decide_eq_true (congrArg Value.ref h1)) (by decide) (by decide) k) ?_
      show own_G p e below Q (T2.setTop (mkF m 35 #[.val (.ref wa)] []))
      refine own_go (fun _ k => XS.iconst X2.here hx rfl (hb hby dc_35) k) ?_
      show own_G p e below Q (T2.setTop (mkF m 36 #[.val (.ref wa)] [(.int (1 : Int32))]))
      refine own_go (fun _ k => XS.goto X2.here hx rfl (pc0 := 36) (pc' := 40) rfl (hb hby dc_36) (by decide) (by decide) k) ?_
      show own_G p e below Q (T2.setTop (mkF m 40 #[.val (.ref wa)] [(.int (1 : Int32))]))
      exact own_retN X2 hx hlk (Or.inl rfl) hret (hb hby dc_40) (by rw [if_neg h0, if_pos h1]; rfl) (fun U hU hF => hR _ _ _ _ _ ⟨rfl, hU.trans e2, rfl⟩ (by decide) (by decide) hF)
    · refine own_go (fun _ k => Jvm.RoadKit.acmp (g := (mkF m 11 #[.val (.ref wa)] [(.ref (ad 6)), (.ref wa)])) X2 hx rfl rfl rfl (pc0 := 11) (pc' := 14) (same := false) rfl (hb hby dc_11) rfl (decide_eq_false fun q => h1 (Value.ref.inj q)) (by decide) (by decide) k) ?_
      show own_G p e below Q (T2.setTop (mkF m 14 #[.val (.ref wa)] []))
      refine own_go (fun _ k => XS.aloadN X2.here hx rfl (hb hby dc_14) rfl rfl  k) ?_
      show own_G p e below Q (T2.setTop (mkF m 15 #[.val (.ref wa)] [(.ref wa)]))
      refine own_getS X2 hx hZ hown (hw _ (List.mem_of_getElem? (i := 41) rfl)) e2 (Sta.ext hO hS.2.2.2.2.2.2.2.1) (hb hby dc_15) ?_
      intro T3 X3 e3
      show own_G p e below Q (T3.setTop (mkF m 18 #[.val (.ref wa)] [(.ref (ad 7)), (.ref wa)]))
      by_cases h2 : wa = (ad 7)
      · refine own_go (fun _ k => Jvm.RoadKit.acmp (g := (mkF m 18 #[.val (.ref wa)] [(.ref (ad 7)), (.ref wa)])) X3 hx rfl rfl rfl (pc0 := 18) (pc' := 35) (same := true) rfl (hb hby dc_18) rfl (decide_eq_true (congrArg Value.ref h2)) (by decide) (by decide) k) ?_
        show own_G p e below Q (T3.setTop (mkF m 35 #[.val (.ref wa)] []))
        refine own_go (fun _ k => XS.iconst X3.here hx rfl (hb hby dc_35) k) ?_
        show own_G p e below Q (T3.setTop (mkF m 36 #[.val (.ref wa)] [(.int (1 : Int32))]))
        refine own_go (fun _ k => XS.goto X3.here hx rfl (pc0 := 36) (pc' := 40) rfl (hb hby dc_36) (by decide) (by decide) k) ?_
        show own_G p e below Q (T3.setTop (mkF m 40 #[.val (.ref wa)] [(.int (1 : Int32))]))
        exact own_retN X3 hx hlk (Or.inl rfl) hret (hb hby dc_40) (by rw [if_neg h0, if_neg h1, if_pos h2]; rfl) (fun U hU hF => hR _ _ _ _ _ ⟨rfl, hU.trans e3, rfl⟩ (by decide) (by decide) hF)
      · refine own_go (fun _ k => Jvm.RoadKit.acmp (g := (mkF m 18 #[.val (.ref wa)] [(.ref (ad 7)), (.ref wa)])) X3 hx rfl rfl rfl (pc0 := 18) (pc' := 21) (same := false) rfl (hb hby dc_18) rfl (decide_eq_false fun q => h2 (Value.ref.inj q)) (by decide) (by decide) k) ?_
        show own_G p e below Q (T3.setTop (mkF m 21 #[.val (.ref wa)] []))
        refine own_go (fun _ k => XS.aloadN X3.here hx rfl (hb hby dc_21) rfl rfl  k) ?_
        show own_G p e below Q (T3.setTop (mkF m 22 #[.val (.ref wa)] [(.ref wa)]))
        refine own_getS X3 hx hZ hown (hw _ (List.mem_of_getElem? (i := 42) rfl)) e3 (Sta.ext hO hS.2.2.2.2.2.2.2.2.1) (hb hby dc_22) ?_
        intro T4 X4 e4
        show own_G p e below Q (T4.setTop (mkF m 25 #[.val (.ref wa)] [(.ref (ad 8)), (.ref wa)]))
        by_cases h3 : wa = (ad 8)
        · refine own_go (fun _ k => Jvm.RoadKit.acmp (g := (mkF m 25 #[.val (.ref wa)] [(.ref (ad 8)), (.ref wa)])) X4 hx rfl rfl rfl (pc0 := 25) (pc' := 35) (same := true) rfl (hb hby dc_25) rfl (decide_eq_true (congrArg Value.ref h3)) (by decide) (by decide) k) ?_
          show own_G p e below Q (T4.setTop (mkF m 35 #[.val (.ref wa)] []))
          refine own_go (fun _ k => XS.iconst X4.here hx rfl (hb hby dc_35) k) ?_
          show own_G p e below Q (T4.setTop (mkF m 36 #[.val (.ref wa)] [(.int (1 : Int32))]))
          refine own_go (fun _ k => XS.goto X4.here hx rfl (pc0 := 36) (pc' := 40) rfl (hb hby dc_36) (by decide) (by decide) k) ?_
          show own_G p e below Q (T4.setTop (mkF m 40 #[.val (.ref wa)] [(.int (1 : Int32))]))
          exact own_retN X4 hx hlk (Or.inl rfl) hret (hb hby dc_40) (by rw [if_neg h0, if_neg h1, if_neg h2, if_pos h3]; rfl) (fun U hU hF => hR _ _ _ _ _ ⟨rfl, hU.trans e4, rfl⟩ (by decide) (by decide) hF)
        · refine own_go (fun _ k => Jvm.RoadKit.acmp (g := (mkF m 25 #[.val (.ref wa)] [(.ref (ad 8)), (.ref wa)])) X4 hx rfl rfl rfl (pc0 := 25) (pc' := 28) (same := false) rfl (hb hby dc_25) rfl (decide_eq_false fun q => h3 (Value.ref.inj q)) (by decide) (by decide) k) ?_
          show own_G p e below Q (T4.setTop (mkF m 28 #[.val (.ref wa)] []))
          refine own_go (fun _ k => XS.aloadN X4.here hx rfl (hb hby dc_28) rfl rfl  k) ?_
          show own_G p e below Q (T4.setTop (mkF m 29 #[.val (.ref wa)] [(.ref wa)]))
          refine own_getS X4 hx hZ hown (hw _ (List.mem_of_getElem? (i := 43) rfl)) e4 (Sta.ext hO hS.2.2.2.2.2.2.2.2.2.1) (hb hby dc_29) ?_
          intro T5 X5 e5
          show own_G p e below Q (T5.setTop (mkF m 32 #[.val (.ref wa)] [(.ref (ad 9)), (.ref wa)]))
          by_cases h4 : wa = (ad 9)
          · refine own_go (fun _ k => Jvm.RoadKit.acmp (g := (mkF m 32 #[.val (.ref wa)] [(.ref (ad 9)), (.ref wa)])) X5 hx rfl rfl rfl (pc0 := 32) (pc' := 35) (same := true) rfl (hb hby dc_32) rfl (decide_eq_true (congrArg Value.ref h4)) (by decide) (by decide) k) ?_
            show own_G p e below Q (T5.setTop (mkF m 35 #[.val (.ref wa)] []))
            refine own_go (fun _ k => XS.iconst X5.here hx rfl (hb hby dc_35) k) ?_
            show own_G p e below Q (T5.setTop (mkF m 36 #[.val (.ref wa)] [(.int (1 : Int32))]))
            refine own_go (fun _ k => XS.goto X5.here hx rfl (pc0 := 36) (pc' := 40) rfl (hb hby dc_36) (by decide) (by decide) k) ?_
            show own_G p e below Q (T5.setTop (mkF m 40 #[.val (.ref wa)] [(.int (1 : Int32))]))
            exact own_retN X5 hx hlk (Or.inl rfl) hret (hb hby dc_40) (by rw [if_neg h0, if_neg h1, if_neg h2, if_neg h3, if_pos h4]; rfl) (fun U hU hF => hR _ _ _ _ _ ⟨rfl, hU.trans e5, rfl⟩ (by decide) (by decide) hF)
          · refine own_go (fun _ k => Jvm.RoadKit.acmp (g := (mkF m 32 #[.val (.ref wa)] [(.ref (ad 9)), (.ref wa)])) X5 hx rfl rfl rfl (pc0 := 32) (pc' := 39) (same := false) rfl (hb hby dc_32) rfl (decide_eq_false fun q => h4 (Value.ref.inj q)) (by decide) (by decide) k) ?_
            show own_G p e below Q (T5.setTop (mkF m 39 #[.val (.ref wa)] []))
            refine own_go (fun _ k => XS.iconst X5.here hx rfl (hb hby dc_39) k) ?_
            show own_G p e below Q (T5.setTop (mkF m 40 #[.val (.ref wa)] [(.int (0 : Int32))]))
            exact own_retN X5 hx hlk (Or.inl rfl) hret (hb hby dc_40) (by rw [if_neg h0, if_neg h1, if_neg h2, if_neg h3, if_neg h4]; rfl) (fun U hU hF => hR _ _ _ _ _ ⟨rfl, hU.trans e5, rfl⟩ (by decide) (by decide) hF)
def own_fl (i : Nat) : Int32 := ([0, 0, 0, 0, 0, 1, 1, 1, 1, 1, 0, 0, 0, 0] : List Int32).getD i 0
theorem own_eq (Z : State) (ad : Nat → Addr) (hF : ∀ i, i < 14 → Fld Z Z.heap (ad i) "java/lang/Enum" "ordinal" "I" (.int (Int32.ofNat i))) (i : Nat) (hi : i < 14) :
    (if ad i = ad 5 then (1 : Int32) else if ad i = ad 6 then 1 else if ad i = ad 7 then 1 else if ad i = ad 8 then 1 else if ad i = ad 9 then 1 else 0) = own_fl i := by
  have ne : ∀ j, j < 14 → Int32.ofNat i ≠ Int32.ofNat j → ad i ≠ ad j := fun j hj q => Fld.ne (hF i hi) (hF j hj) fun z => q (Value.int.inj z)
  have n5 := ne 5 (by decide)
  have n6 := ne 6 (by decide)
  have n7 := ne 7 (by decide)
  have n8 := ne 8 (by decide)
  have n9 := ne 9 (by decide)
  clear ne hF
  obtain hi' : i = 0 ∨ i = 1 ∨ i = 2 ∨ i = 3 ∨ i = 4 ∨ i = 5 ∨ i = 6 ∨ i = 7 ∨ i = 8 ∨ i = 9 ∨ i = 10 ∨ i = 11 ∨ i = 12 ∨ i = 13 := by omega
  clear hi
  rcases hi' with rfl | rfl | rfl | rfl | rfl | rfl | rfl | rfl | rfl | rfl | rfl | rfl | rfl | rfl <;> first | (rw [if_pos rfl]; rfl) | (rw [if_neg (n5 (by decide)), if_pos rfl]; rfl) | (rw [if_neg (n5 (by decide)), if_neg (n6 (by decide)), if_pos rfl]; rfl) | (rw [if_neg (n5 (by decide)), if_neg (n6 (by decide)), if_neg (n7 (by decide)), if_pos rfl]; rfl) | (rw [if_neg (n5 (by decide)), if_neg (n6 (by decide)), if_neg (n7 (by decide)), if_neg (n8 (by decide)), if_pos rfl]; rfl) | (rw [if_neg (n5 (by decide)), if_neg (n6 (by decide)), if_neg (n7 (by decide)), if_neg (n8 (by decide)), if_neg (n9 (by decide))]; rfl)
set_option maxRecDepth 65536 in
set_option maxHeartbeats 40000000 in
theorem rm0 (l : Launch) (Z : State) (a0 : Array Value) (hw : ∀ d ∈ tables_1, d.before a0 Z = true) (ad : Nat → Addr) (hS : own_St Z ad) (hE : ∀ i, i < 14 → Exa Z Z.heap (ad i) "com/example/stylewright/stylewright/AtomicType") (hF : ∀ i, i < 14 → Fld Z Z.heap (ad i) "java/lang/Enum" "ordinal" "I" (.int (Int32.ofNat i))) (p1 : Int32) :
    own_C l Z x code maxLocals ret tables_1 room_1 #[.int p1] Z.heap (fun v h L => v = some (.int 1) ∧ Fr Z.heap.size L) := by
  refine own_body pn_l (fun m => ef_0 m _) ?_
  intro p e s m below meth c T Q hx hby hml hown hnm hret hlk hZ e0 X0 hR
  have O0 := Old.start Z
  have N0 := Fr.nil Z.heap.size
  obtain ⟨i, hi, hr⟩ := own_mod p1 14 (by decide) (by decide) (14 : Int32) (by decide)
  show own_G p e below Q (T.setTop (mkF m 0 #[.val (.int p1), .unset, .unset, .unset] []))
  refine own_go (fun _ k => XS.bipush X0.here hx rfl (hb hby at_0) k) ?_
  show own_G p e below Q (T.setTop (mkF m 2 #[.val (.int p1), .unset, .unset, .unset] [(.int (14 : Int32))]))
  refine own_newR X0 hx hZ hown (hw _ (List.mem_of_getElem? (i := 0) rfl)) (hw _ (List.mem_of_getElem? (i := 1) rfl)) e0 O0 (n := 14) (by decide) (by decide) (by decide) (by decide) (hb hby at_2) ?_
  intro T6 h6 a6 k6 X6 e6 E6 q6 g6 O6 V6 F6
  replace F6 := F6 (fun i => .ref (ad i))
  show own_G p e below Q (T6.setTop (mkF m 5 #[.val (.int p1), .unset, .unset, .unset] [(.ref a6)]))
  refine own_go (fun _ k => XS.dup X6.here hx rfl (hb hby at_5) rfl rfl k) ?_
  show own_G p e below Q (T6.setTop (mkF m 6 #[.val (.int p1), .unset, .unset, .unset] [(.ref a6), (.ref a6)]))
  refine own_go (fun _ k => XS.iconst X6.here hx rfl (hb hby at_6) k) ?_
  show own_G p e below Q (T6.setTop (mkF m 7 #[.val (.int p1), .unset, .unset, .unset] [(.int (0 : Int32)), (.ref a6), (.ref a6)]))
  refine own_getS X6 hx hZ hown (hw _ (List.mem_of_getElem? (i := 2) rfl)) e6 (Sta.ext O6.2 hS.1) (hb hby at_7) ?_
  intro T7 X7 e7
  show own_G p e below Q (T7.setTop (mkF m 10 #[.val (.int p1), .unset, .unset, .unset] [(.ref (ad 0)), (.int (0 : Int32)), (.ref a6), (.ref a6)]))
  refine own_stR X7 hx hZ e7 N0 O6 g6 F6 (by decide) (by decide) rfl V6 (Ins.self (Exa.ext O6.2 (hE 0 (by decide)))) rfl (by decide) (hb hby at_10) ?_
  intro T8 h8 l8 X8 e8 N8 O8 W8 F8
  clear X7 e7 O6 F6
  show own_G p e below Q (T8.setTop (mkF m 11 #[.val (.int p1), .unset, .unset, .unset] [(.ref a6)]))
  refine own_go (fun _ k => XS.dup X8.here hx rfl (hb hby at_11) rfl rfl k) ?_
  show own_G p e below Q (T8.setTop (mkF m 12 #[.val (.int p1), .unset, .unset, .unset] [(.ref a6), (.ref a6)]))
  refine own_go (fun _ k => XS.iconst X8.here hx rfl (hb hby at_12) k) ?_
  show own_G p e below Q (T8.setTop (mkF m 13 #[.val (.int p1), .unset, .unset, .unset] [(.int (1 : Int32)), (.ref a6), (.ref a6)]))
  refine own_getS X8 hx hZ hown (hw _ (List.mem_of_getElem? (i := 6) rfl)) e8 (Sta.ext O8.2 hS.2.1) (hb hby at_13) ?_
  intro T9 X9 e9
  show own_G p e below Q (T9.setTop (mkF m 16 #[.val (.int p1), .unset, .unset, .unset] [(.ref (ad 1)), (.int (1 : Int32)), (.ref a6), (.ref a6)]))
  refine own_stR X9 hx hZ e9 N8 O8 g6 F8 (by decide) (by decide) rfl V6 (Ins.self (Exa.ext O8.2 (hE 1 (by decide)))) rfl (by decide) (hb hby at_16) ?_
  intro T10 h10 l10 X10 e10 N10 O10 W10 F10
  clear X9 e9 N8 O8 F8
  show own_G p e below Q (T10.setTop (mkF m 17 #[.val (.int p1), .unset, .unset, .unset] [(.ref a6)]))
  refine own_go (fun _ k => XS.dup X10.here hx rfl (hb hby at_17) rfl rfl k) ?_
  show own_G p e below Q (T10.setTop (mkF m 18 #[.val (.int p1), .unset, .unset, .unset] [(.ref a6), (.ref a6)]))
  refine own_go (fun _ k => XS.iconst X10.here hx rfl (hb hby at_18) k) ?_
  show own_G p e below Q (T10.setTop (mkF m 19 #[.val (.int p1), .unset, .unset, .unset] [(.int (2 : Int32)), (.ref a6), (.ref a6)]))
  refine own_getS X10 hx hZ hown (hw _ (List.mem_of_getElem? (i := 8) rfl)) e10 (Sta.ext O10.2 hS.2.2.1) (hb hby at_19) ?_
  intro T11 X11 e11
  show own_G p e below Q (T11.setTop (mkF m 22 #[.val (.int p1), .unset, .unset, .unset] [(.ref (ad 2)), (.int (2 : Int32)), (.ref a6), (.ref a6)]))
  refine own_stR X11 hx hZ e11 N10 O10 g6 F10 (by decide) (by decide) rfl V6 (Ins.self (Exa.ext O10.2 (hE 2 (by decide)))) rfl (by decide) (hb hby at_22) ?_
  intro T12 h12 l12 X12 e12 N12 O12 W12 F12
  clear X11 e11 N10 O10 F10
  show own_G p e below Q (T12.setTop (mkF m 23 #[.val (.int p1), .unset, .unset, .unset] [(.ref a6)]))
  refine own_go (fun _ k => XS.dup X12.here hx rfl (hb hby at_23) rfl rfl k) ?_
  show own_G p e below Q (T12.setTop (mkF m 24 #[.val (.int p1), .unset, .unset, .unset] [(.ref a6), (.ref a6)]))
  refine own_go (fun _ k => XS.iconst X12.here hx rfl (hb hby at_24) k) ?_
  show own_G p e below Q (T12.setTop (mkF m 25 #[.val (.int p1), .unset, .unset, .unset] [(.int (3 : Int32)), (.ref a6), (.ref a6)]))
  refine own_getS X12 hx hZ hown (hw _ (List.mem_of_getElem? (i := 10) rfl)) e12 (Sta.ext O12.2 hS.2.2.2.1) (hb hby at_25) ?_
  intro T13 X13 e13
  show own_G p e below Q (T13.setTop (mkF m 28 #[.val (.int p1), .unset, .unset, .unset] [(.ref (ad 3)), (.int (3 : Int32)), (.ref a6), (.ref a6)]))
  refine own_stR X13 hx hZ e13 N12 O12 g6 F12 (by decide) (by decide) rfl V6 (Ins.self (Exa.ext O12.2 (hE 3 (by decide)))) rfl (by decide) (hb hby at_28) ?_
  intro T14 h14 l14 X14 e14 N14 O14 W14 F14
  clear X13 e13 N12 O12 F12
  show own_G p e below Q (T14.setTop (mkF m 29 #[.val (.int p1), .unset, .unset, .unset] [(.ref a6)]))
  refine own_go (fun _ k => XS.dup X14.here hx rfl (hb hby at_29) rfl rfl k) ?_
  show own_G p e below Q (T14.setTop (mkF m 30 #[.val (.int p1), .unset, .unset, .unset] [(.ref a6), (.ref a6)]))
  refine own_go (fun _ k => XS.iconst X14.here hx rfl (hb hby at_30) k) ?_
  show own_G p e below Q (T14.setTop (mkF m 31 #[.val (.int p1), .unset, .unset, .unset] [(.int (4 : Int32)), (.ref a6), (.ref a6)]))
  refine own_getS X14 hx hZ hown (hw _ (List.mem_of_getElem? (i := 12) rfl)) e14 (Sta.ext O14.2 hS.2.2.2.2.1) (hb hby at_31) ?_
  intro T15 X15 e15
  show own_G p e below Q (T15.setTop (mkF m 34 #[.val (.int p1), .unset, .unset, .unset] [(.ref (ad 4)), (.int (4 : Int32)), (.ref a6), (.ref a6)]))
  refine own_stR X15 hx hZ e15 N14 O14 g6 F14 (by decide) (by decide) rfl V6 (Ins.self (Exa.ext O14.2 (hE 4 (by decide)))) rfl (by decide) (hb hby at_34) ?_
  intro T16 h16 l16 X16 e16 N16 O16 W16 F16
  clear X15 e15 N14 O14 F14
  show own_G p e below Q (T16.setTop (mkF m 35 #[.val (.int p1), .unset, .unset, .unset] [(.ref a6)]))
  refine own_go (fun _ k => XS.dup X16.here hx rfl (hb hby at_35) rfl rfl k) ?_
  show own_G p e below Q (T16.setTop (mkF m 36 #[.val (.int p1), .unset, .unset, .unset] [(.ref a6), (.ref a6)]))
  refine own_go (fun _ k => XS.iconst X16.here hx rfl (hb hby at_36) k) ?_
  show own_G p e below Q (T16.setTop (mkF m 37 #[.val (.int p1), .unset, .unset, .unset] [(.int (5 : Int32)), (.ref a6), (.ref a6)]))
  refine own_getS X16 hx hZ hown (hw _ (List.mem_of_getElem? (i := 14) rfl)) e16 (Sta.ext O16.2 hS.2.2.2.2.2.1) (hb hby at_37) ?_
  intro T17 X17 e17
  show own_G p e below Q (T17.setTop (mkF m 40 #[.val (.int p1), .unset, .unset, .unset] [(.ref (ad 5)), (.int (5 : Int32)), (.ref a6), (.ref a6)]))
  refine own_stR X17 hx hZ e17 N16 O16 g6 F16 (by decide) (by decide) rfl V6 (Ins.self (Exa.ext O16.2 (hE 5 (by decide)))) rfl (by decide) (hb hby at_40) ?_
  intro T18 h18 l18 X18 e18 N18 O18 W18 F18
  clear X17 e17 N16 O16 F16
  show own_G p e below Q (T18.setTop (mkF m 41 #[.val (.int p1), .unset, .unset, .unset] [(.ref a6)]))
  refine own_go (fun _ k => XS.dup X18.here hx rfl (hb hby at_41) rfl rfl k) ?_
  show own_G p e below Q (T18.setTop (mkF m 42 #[.val (.int p1), .unset, .unset, .unset] [(.ref a6), (.ref a6)]))
  refine own_go (fun _ k => XS.bipush X18.here hx rfl (hb hby at_42) k) ?_
  show own_G p e below Q (T18.setTop (mkF m 44 #[.val (.int p1), .unset, .unset, .unset] [(.int (6 : Int32)), (.ref a6), (.ref a6)]))
  refine own_getS X18 hx hZ hown (hw _ (List.mem_of_getElem? (i := 16) rfl)) e18 (Sta.ext O18.2 hS.2.2.2.2.2.2.1) (hb hby at_44) ?_
  intro T19 X19 e19
  show own_G p e below Q (T19.setTop (mkF m 47 #[.val (.int p1), .unset, .unset, .unset] [(.ref (ad 6)), (.int (6 : Int32)), (.ref a6), (.ref a6)]))
  refine own_stR X19 hx hZ e19 N18 O18 g6 F18 (by decide) (by decide) rfl V6 (Ins.self (Exa.ext O18.2 (hE 6 (by decide)))) rfl (by decide) (hb hby at_47) ?_
  intro T20 h20 l20 X20 e20 N20 O20 W20 F20
  clear X19 e19 N18 O18 F18
  show own_G p e below Q (T20.setTop (mkF m 48 #[.val (.int p1), .unset, .unset, .unset] [(.ref a6)]))
  refine own_go (fun _ k => XS.dup X20.here hx rfl (hb hby at_48) rfl rfl k) ?_
  show own_G p e below Q (T20.setTop (mkF m 49 #[.val (.int p1), .unset, .unset, .unset] [(.ref a6), (.ref a6)]))
  refine own_go (fun _ k => XS.bipush X20.here hx rfl (hb hby at_49) k) ?_
  show own_G p e below Q (T20.setTop (mkF m 51 #[.val (.int p1), .unset, .unset, .unset] [(.int (7 : Int32)), (.ref a6), (.ref a6)]))
  refine own_getS X20 hx hZ hown (hw _ (List.mem_of_getElem? (i := 18) rfl)) e20 (Sta.ext O20.2 hS.2.2.2.2.2.2.2.1) (hb hby at_51) ?_
  intro T21 X21 e21
  show own_G p e below Q (T21.setTop (mkF m 54 #[.val (.int p1), .unset, .unset, .unset] [(.ref (ad 7)), (.int (7 : Int32)), (.ref a6), (.ref a6)]))
  refine own_stR X21 hx hZ e21 N20 O20 g6 F20 (by decide) (by decide) rfl V6 (Ins.self (Exa.ext O20.2 (hE 7 (by decide)))) rfl (by decide) (hb hby at_54) ?_
  intro T22 h22 l22 X22 e22 N22 O22 W22 F22
  clear X21 e21 N20 O20 F20
  show own_G p e below Q (T22.setTop (mkF m 55 #[.val (.int p1), .unset, .unset, .unset] [(.ref a6)]))
  refine own_go (fun _ k => XS.dup X22.here hx rfl (hb hby at_55) rfl rfl k) ?_
  show own_G p e below Q (T22.setTop (mkF m 56 #[.val (.int p1), .unset, .unset, .unset] [(.ref a6), (.ref a6)]))
  refine own_go (fun _ k => XS.bipush X22.here hx rfl (hb hby at_56) k) ?_
  show own_G p e below Q (T22.setTop (mkF m 58 #[.val (.int p1), .unset, .unset, .unset] [(.int (8 : Int32)), (.ref a6), (.ref a6)]))
  refine own_getS X22 hx hZ hown (hw _ (List.mem_of_getElem? (i := 20) rfl)) e22 (Sta.ext O22.2 hS.2.2.2.2.2.2.2.2.1) (hb hby at_58) ?_
  intro T23 X23 e23
  show own_G p e below Q (T23.setTop (mkF m 61 #[.val (.int p1), .unset, .unset, .unset] [(.ref (ad 8)), (.int (8 : Int32)), (.ref a6), (.ref a6)]))
  refine own_stR X23 hx hZ e23 N22 O22 g6 F22 (by decide) (by decide) rfl V6 (Ins.self (Exa.ext O22.2 (hE 8 (by decide)))) rfl (by decide) (hb hby at_61) ?_
  intro T24 h24 l24 X24 e24 N24 O24 W24 F24
  clear X23 e23 N22 O22 F22
  show own_G p e below Q (T24.setTop (mkF m 62 #[.val (.int p1), .unset, .unset, .unset] [(.ref a6)]))
  refine own_go (fun _ k => XS.dup X24.here hx rfl (hb hby at_62) rfl rfl k) ?_
  show own_G p e below Q (T24.setTop (mkF m 63 #[.val (.int p1), .unset, .unset, .unset] [(.ref a6), (.ref a6)]))
  refine own_go (fun _ k => XS.bipush X24.here hx rfl (hb hby at_63) k) ?_
  show own_G p e below Q (T24.setTop (mkF m 65 #[.val (.int p1), .unset, .unset, .unset] [(.int (9 : Int32)), (.ref a6), (.ref a6)]))
  refine own_getS X24 hx hZ hown (hw _ (List.mem_of_getElem? (i := 22) rfl)) e24 (Sta.ext O24.2 hS.2.2.2.2.2.2.2.2.2.1) (hb hby at_65) ?_
  intro T25 X25 e25
  show own_G p e below Q (T25.setTop (mkF m 68 #[.val (.int p1), .unset, .unset, .unset] [(.ref (ad 9)), (.int (9 : Int32)), (.ref a6), (.ref a6)]))
  refine own_stR X25 hx hZ e25 N24 O24 g6 F24 (by decide) (by decide) rfl V6 (Ins.self (Exa.ext O24.2 (hE 9 (by decide)))) rfl (by decide) (hb hby at_68) ?_
  intro T26 h26 l26 X26 e26 N26 O26 W26 F26
  clear X25 e25 N24 O24 F24
  show own_G p e below Q (T26.setTop (mkF m 69 #[.val (.int p1), .unset, .unset, .unset] [(.ref a6)]))
  refine own_go (fun _ k => XS.dup X26.here hx rfl (hb hby at_69) rfl rfl k) ?_
  show own_G p e below Q (T26.setTop (mkF m 70 #[.val (.int p1), .unset, .unset, .unset] [(.ref a6), (.ref a6)]))
  refine own_go (fun _ k => XS.bipush X26.here hx rfl (hb hby at_70) k) ?_
  show own_G p e below Q (T26.setTop (mkF m 72 #[.val (.int p1), .unset, .unset, .unset] [(.int (10 : Int32)), (.ref a6), (.ref a6)]))
  refine own_getS X26 hx hZ hown (hw _ (List.mem_of_getElem? (i := 24) rfl)) e26 (Sta.ext O26.2 hS.2.2.2.2.2.2.2.2.2.2.1) (hb hby at_72) ?_
  intro T27 X27 e27
  show own_G p e below Q (T27.setTop (mkF m 75 #[.val (.int p1), .unset, .unset, .unset] [(.ref (ad 10)), (.int (10 : Int32)), (.ref a6), (.ref a6)]))
  refine own_stR X27 hx hZ e27 N26 O26 g6 F26 (by decide) (by decide) rfl V6 (Ins.self (Exa.ext O26.2 (hE 10 (by decide)))) rfl (by decide) (hb hby at_75) ?_
  intro T28 h28 l28 X28 e28 N28 O28 W28 F28
  clear X27 e27 N26 O26 F26
  show own_G p e below Q (T28.setTop (mkF m 76 #[.val (.int p1), .unset, .unset, .unset] [(.ref a6)]))
  refine own_go (fun _ k => XS.dup X28.here hx rfl (hb hby at_76) rfl rfl k) ?_
  show own_G p e below Q (T28.setTop (mkF m 77 #[.val (.int p1), .unset, .unset, .unset] [(.ref a6), (.ref a6)]))
  refine own_go (fun _ k => XS.bipush X28.here hx rfl (hb hby at_77) k) ?_
  show own_G p e below Q (T28.setTop (mkF m 79 #[.val (.int p1), .unset, .unset, .unset] [(.int (11 : Int32)), (.ref a6), (.ref a6)]))
  refine own_getS X28 hx hZ hown (hw _ (List.mem_of_getElem? (i := 26) rfl)) e28 (Sta.ext O28.2 hS.2.2.2.2.2.2.2.2.2.2.2.1) (hb hby at_79) ?_
  intro T29 X29 e29
  show own_G p e below Q (T29.setTop (mkF m 82 #[.val (.int p1), .unset, .unset, .unset] [(.ref (ad 11)), (.int (11 : Int32)), (.ref a6), (.ref a6)]))
  refine own_stR X29 hx hZ e29 N28 O28 g6 F28 (by decide) (by decide) rfl V6 (Ins.self (Exa.ext O28.2 (hE 11 (by decide)))) rfl (by decide) (hb hby at_82) ?_
  intro T30 h30 l30 X30 e30 N30 O30 W30 F30
  clear X29 e29 N28 O28 F28
  show own_G p e below Q (T30.setTop (mkF m 83 #[.val (.int p1), .unset, .unset, .unset] [(.ref a6)]))
  refine own_go (fun _ k => XS.dup X30.here hx rfl (hb hby at_83) rfl rfl k) ?_
  show own_G p e below Q (T30.setTop (mkF m 84 #[.val (.int p1), .unset, .unset, .unset] [(.ref a6), (.ref a6)]))
  refine own_go (fun _ k => XS.bipush X30.here hx rfl (hb hby at_84) k) ?_
  show own_G p e below Q (T30.setTop (mkF m 86 #[.val (.int p1), .unset, .unset, .unset] [(.int (12 : Int32)), (.ref a6), (.ref a6)]))
  refine own_getS X30 hx hZ hown (hw _ (List.mem_of_getElem? (i := 28) rfl)) e30 (Sta.ext O30.2 hS.2.2.2.2.2.2.2.2.2.2.2.2.1) (hb hby at_86) ?_
  intro T31 X31 e31
  show own_G p e below Q (T31.setTop (mkF m 89 #[.val (.int p1), .unset, .unset, .unset] [(.ref (ad 12)), (.int (12 : Int32)), (.ref a6), (.ref a6)]))
  refine own_stR X31 hx hZ e31 N30 O30 g6 F30 (by decide) (by decide) rfl V6 (Ins.self (Exa.ext O30.2 (hE 12 (by decide)))) rfl (by decide) (hb hby at_89) ?_
  intro T32 h32 l32 X32 e32 N32 O32 W32 F32
  clear X31 e31 N30 O30 F30
  show own_G p e below Q (T32.setTop (mkF m 90 #[.val (.int p1), .unset, .unset, .unset] [(.ref a6)]))
  refine own_go (fun _ k => XS.dup X32.here hx rfl (hb hby at_90) rfl rfl k) ?_
  show own_G p e below Q (T32.setTop (mkF m 91 #[.val (.int p1), .unset, .unset, .unset] [(.ref a6), (.ref a6)]))
  refine own_go (fun _ k => XS.bipush X32.here hx rfl (hb hby at_91) k) ?_
  show own_G p e below Q (T32.setTop (mkF m 93 #[.val (.int p1), .unset, .unset, .unset] [(.int (13 : Int32)), (.ref a6), (.ref a6)]))
  refine own_getS X32 hx hZ hown (hw _ (List.mem_of_getElem? (i := 30) rfl)) e32 (Sta.ext O32.2 hS.2.2.2.2.2.2.2.2.2.2.2.2.2) (hb hby at_93) ?_
  intro T33 X33 e33
  show own_G p e below Q (T33.setTop (mkF m 96 #[.val (.int p1), .unset, .unset, .unset] [(.ref (ad 13)), (.int (13 : Int32)), (.ref a6), (.ref a6)]))
  refine own_stR X33 hx hZ e33 N32 O32 g6 F32 (by decide) (by decide) rfl V6 (Ins.self (Exa.ext O32.2 (hE 13 (by decide)))) rfl (by decide) (hb hby at_96) ?_
  intro T34 h34 l34 X34 e34 N34 O34 W34 F34
  clear X33 e33 N32 O32 F32
  show own_G p e below Q (T34.setTop (mkF m 97 #[.val (.int p1), .unset, .unset, .unset] [(.ref a6)]))
  refine own_go (fun _ k => XS.astoreN X34.here hx rfl (hb hby at_97) rfl rfl (l' := #[.val (.int p1), .val (.ref a6), .unset, .unset]) rfl k) ?_
  show own_G p e below Q (T34.setTop (mkF m 98 #[.val (.int p1), .val (.ref a6), .unset, .unset] []))
  refine own_go (fun _ k => XS.bipush X34.here hx rfl (hb hby at_98) k) ?_
  show own_G p e below Q (T34.setTop (mkF m 100 #[.val (.int p1), .val (.ref a6), .unset, .unset] [(.int (14 : Int32))]))
  refine own_newP X34 hx hZ (aty := .boolean) rfl (hw _ (List.mem_of_getElem? (i := 32) rfl)) e34 O34 (n := 14) (by decide) (by decide) (by decide) (by decide) (hb hby at_100) ?_
  intro T35 h35 a35 k35 X35 e35 E35 q35 g35 O35 F35
  have F35_a6 := own_F_ext E35 F34
  have ne35_a6 : a6 ≠ a35 := by rw [q35]; exact Nat.ne_of_lt (own_F_lt F34)
  replace F35 := F35 (fun i => .int (own_fl i))
  show own_G p e below Q (T35.setTop (mkF m 102 #[.val (.int p1), .val (.ref a6), .unset, .unset] [(.ref a35)]))
  refine own_go (fun _ k => XS.dup X35.here hx rfl (hb hby at_102) rfl rfl k) ?_
  show own_G p e below Q (T35.setTop (mkF m 103 #[.val (.int p1), .val (.ref a6), .unset, .unset] [(.ref a35), (.ref a35)]))
  refine own_go (fun _ k => XS.iconst X35.here hx rfl (hb hby at_103) k) ?_
  show own_G p e below Q (T35.setTop (mkF m 104 #[.val (.int p1), .val (.ref a6), .unset, .unset] [(.int (0 : Int32)), (.ref a35), (.ref a35)]))
  refine own_go (fun _ k => XS.iconst X35.here hx rfl (hb hby at_104) k) ?_
  show own_G p e below Q (T35.setTop (mkF m 105 #[.val (.int p1), .val (.ref a6), .unset, .unset] [(.int (0 : Int32)), (.int (0 : Int32)), (.ref a35), (.ref a35)]))
  refine own_stZ X35 hx hZ e35 N34 O35 g35 F35 (by decide) (by decide) (congrArg Value.int (by decide : own_fl 0 = nar .boolean (0 : Int32))) (by decide) (hb hby at_105) ?_
  intro T36 h36 l36 X36 e36 N36 O36 W36 F36
  replace F35_a6 := own_F_other W36 ne35_a6 F35_a6
  clear X35 e35 N34 O35 F35
  show own_G p e below Q (T36.setTop (mkF m 106 #[.val (.int p1), .val (.ref a6), .unset, .unset] [(.ref a35)]))
  refine own_go (fun _ k => XS.dup X36.here hx rfl (hb hby at_106) rfl rfl k) ?_
  show own_G p e below Q (T36.setTop (mkF m 107 #[.val (.int p1), .val (.ref a6), .unset, .unset] [(.ref a35), (.ref a35)]))
  refine own_go (fun _ k => XS.iconst X36.here hx rfl (hb hby at_107) k) ?_
  show own_G p e below Q (T36.setTop (mkF m 108 #[.val (.int p1), .val (.ref a6), .unset, .unset] [(.int (1 : Int32)), (.ref a35), (.ref a35)]))
  refine own_go (fun _ k => XS.iconst X36.here hx rfl (hb hby at_108) k) ?_
  show own_G p e below Q (T36.setTop (mkF m 109 #[.val (.int p1), .val (.ref a6), .unset, .unset] [(.int (0 : Int32)), (.int (1 : Int32)), (.ref a35), (.ref a35)]))
  refine own_stZ X36 hx hZ e36 N36 O36 g35 F36 (by decide) (by decide) (congrArg Value.int (by decide : own_fl 1 = nar .boolean (0 : Int32))) (by decide) (hb hby at_109) ?_
  intro T37 h37 l37 X37 e37 N37 O37 W37 F37
  replace F35_a6 := own_F_other W37 ne35_a6 F35_a6
  clear X36 e36 N36 O36 F36
  show own_G p e below Q (T37.setTop (mkF m 110 #[.val (.int p1), .val (.ref a6), .unset, .unset] [(.ref a35)]))
  refine own_go (fun _ k => XS.dup X37.here hx rfl (hb hby at_110) rfl rfl k) ?_
  show own_G p e below Q (T37.setTop (mkF m 111 #[.val (.int p1), .val (.ref a6), .unset, .unset] [(.ref a35), (.ref a35)]))
  refine own_go (fun _ k => XS.iconst X37.here hx rfl (hb hby at_111) k) ?_
  show own_G p e below Q (T37.setTop (mkF m 112 #[.val (.int p1), .val (.ref a6), .unset, .unset] [(.int (2 : Int32)), (.ref a35), (.ref a35)]))
  refine own_go (fun _ k => XS.iconst X37.here hx rfl (hb hby at_112) k) ?_
  show own_G p e below Q (T37.setTop (mkF m 113 #[.val (.int p1), .val (.ref a6), .unset, .unset] [(.int (0 : Int32)), (.int (2 : Int32)), (.ref a35), (.ref a35)]))
  refine own_stZ X37 hx hZ e37 N37 O37 g35 F37 (by decide) (by decide) (congrArg Value.int (by decide : own_fl 2 = nar .boolean (0 : Int32))) (by decide) (hb hby at_113) ?_
  intro T38 h38 l38 X38 e38 N38 O38 W38 F38
  replace F35_a6 := own_F_other W38 ne35_a6 F35_a6
  clear X37 e37 N37 O37 F37
  show own_G p e below Q (T38.setTop (mkF m 114 #[.val (.int p1), .val (.ref a6), .unset, .unset] [(.ref a35)]))
  refine own_go (fun _ k => XS.dup X38.here hx rfl (hb hby at_114) rfl rfl k) ?_
  show own_G p e below Q (T38.setTop (mkF m 115 #[.val (.int p1), .val (.ref a6), .unset, .unset] [(.ref a35), (.ref a35)]))
  refine own_go (fun _ k => XS.iconst X38.here hx rfl (hb hby at_115) k) ?_
  show own_G p e below Q (T38.setTop (mkF m 116 #[.val (.int p1), .val (.ref a6), .unset, .unset] [(.int (3 : Int32)), (.ref a35), (.ref a35)]))
  refine own_go (fun _ k => XS.iconst X38.here hx rfl (hb hby at_116) k) ?_
  show own_G p e below Q (T38.setTop (mkF m 117 #[.val (.int p1), .val (.ref a6), .unset, .unset] [(.int (0 : Int32)), (.int (3 : Int32)), (.ref a35), (.ref a35)]))
  refine own_stZ X38 hx hZ e38 N38 O38 g35 F38 (by decide) (by decide) (congrArg Value.int (by decide : own_fl 3 = nar .boolean (0 : Int32))) (by decide) (hb hby at_117) ?_
  intro T39 h39 l39 X39 e39 N39 O39 W39 F39
  replace F35_a6 := own_F_other W39 ne35_a6 F35_a6
  clear X38 e38 N38 O38 F38
  show own_G p e below Q (T39.setTop (mkF m 118 #[.val (.int p1), .val (.ref a6), .unset, .unset] [(.ref a35)]))
  refine own_go (fun _ k => XS.dup X39.here hx rfl (hb hby at_118) rfl rfl k) ?_
  show own_G p e below Q (T39.setTop (mkF m 119 #[.val (.int p1), .val (.ref a6), .unset, .unset] [(.ref a35), (.ref a35)]))
  refine own_go (fun _ k => XS.iconst X39.here hx rfl (hb hby at_119) k) ?_
  show own_G p e below Q (T39.setTop (mkF m 120 #[.val (.int p1), .val (.ref a6), .unset, .unset] [(.int (4 : Int32)), (.ref a35), (.ref a35)]))
  refine own_go (fun _ k => XS.iconst X39.here hx rfl (hb hby at_120) k) ?_
  show own_G p e below Q (T39.setTop (mkF m 121 #[.val (.int p1), .val (.ref a6), .unset, .unset] [(.int (0 : Int32)), (.int (4 : Int32)), (.ref a35), (.ref a35)]))
  refine own_stZ X39 hx hZ e39 N39 O39 g35 F39 (by decide) (by decide) (congrArg Value.int (by decide : own_fl 4 = nar .boolean (0 : Int32))) (by decide) (hb hby at_121) ?_
  intro T40 h40 l40 X40 e40 N40 O40 W40 F40
  replace F35_a6 := own_F_other W40 ne35_a6 F35_a6
  clear X39 e39 N39 O39 F39
  show own_G p e below Q (T40.setTop (mkF m 122 #[.val (.int p1), .val (.ref a6), .unset, .unset] [(.ref a35)]))
  refine own_go (fun _ k => XS.dup X40.here hx rfl (hb hby at_122) rfl rfl k) ?_
  show own_G p e below Q (T40.setTop (mkF m 123 #[.val (.int p1), .val (.ref a6), .unset, .unset] [(.ref a35), (.ref a35)]))
  refine own_go (fun _ k => XS.iconst X40.here hx rfl (hb hby at_123) k) ?_
  show own_G p e below Q (T40.setTop (mkF m 124 #[.val (.int p1), .val (.ref a6), .unset, .unset] [(.int (5 : Int32)), (.ref a35), (.ref a35)]))
  refine own_go (fun _ k => XS.iconst X40.here hx rfl (hb hby at_124) k) ?_
  show own_G p e below Q (T40.setTop (mkF m 125 #[.val (.int p1), .val (.ref a6), .unset, .unset] [(.int (1 : Int32)), (.int (5 : Int32)), (.ref a35), (.ref a35)]))
  refine own_stZ X40 hx hZ e40 N40 O40 g35 F40 (by decide) (by decide) (congrArg Value.int (by decide : own_fl 5 = nar .boolean (1 : Int32))) (by decide) (hb hby at_125) ?_
  intro T41 h41 l41 X41 e41 N41 O41 W41 F41
  replace F35_a6 := own_F_other W41 ne35_a6 F35_a6
  clear X40 e40 N40 O40 F40
  show own_G p e below Q (T41.setTop (mkF m 126 #[.val (.int p1), .val (.ref a6), .unset, .unset] [(.ref a35)]))
  refine own_go (fun _ k => XS.dup X41.here hx rfl (hb hby at_126) rfl rfl k) ?_
  show own_G p e below Q (T41.setTop (mkF m 127 #[.val (.int p1), .val (.ref a6), .unset, .unset] [(.ref a35), (.ref a35)]))
  refine own_go (fun _ k => XS.bipush X41.here hx rfl (hb hby at_127) k) ?_
  show own_G p e below Q (T41.setTop (mkF m 129 #[.val (.int p1), .val (.ref a6), .unset, .unset] [(.int (6 : Int32)), (.ref a35), (.ref a35)]))
  refine own_go (fun _ k => XS.iconst X41.here hx rfl (hb hby at_129) k) ?_
  show own_G p e below Q (T41.setTop (mkF m 130 #[.val (.int p1), .val (.ref a6), .unset, .unset] [(.int (1 : Int32)), (.int (6 : Int32)), (.ref a35), (.ref a35)]))
  refine own_stZ X41 hx hZ e41 N41 O41 g35 F41 (by decide) (by decide) (congrArg Value.int (by decide : own_fl 6 = nar .boolean (1 : Int32))) (by decide) (hb hby at_130) ?_
  intro T42 h42 l42 X42 e42 N42 O42 W42 F42
  replace F35_a6 := own_F_other W42 ne35_a6 F35_a6
  clear X41 e41 N41 O41 F41
  show own_G p e below Q (T42.setTop (mkF m 131 #[.val (.int p1), .val (.ref a6), .unset, .unset] [(.ref a35)]))
  refine own_go (fun _ k => XS.dup X42.here hx rfl (hb hby at_131) rfl rfl k) ?_
  show own_G p e below Q (T42.setTop (mkF m 132 #[.val (.int p1), .val (.ref a6), .unset, .unset] [(.ref a35), (.ref a35)]))
  refine own_go (fun _ k => XS.bipush X42.here hx rfl (hb hby at_132) k) ?_
  show own_G p e below Q (T42.setTop (mkF m 134 #[.val (.int p1), .val (.ref a6), .unset, .unset] [(.int (7 : Int32)), (.ref a35), (.ref a35)]))
  refine own_go (fun _ k => XS.iconst X42.here hx rfl (hb hby at_134) k) ?_
  show own_G p e below Q (T42.setTop (mkF m 135 #[.val (.int p1), .val (.ref a6), .unset, .unset] [(.int (1 : Int32)), (.int (7 : Int32)), (.ref a35), (.ref a35)]))
  refine own_stZ X42 hx hZ e42 N42 O42 g35 F42 (by decide) (by decide) (congrArg Value.int (by decide : own_fl 7 = nar .boolean (1 : Int32))) (by decide) (hb hby at_135) ?_
  intro T43 h43 l43 X43 e43 N43 O43 W43 F43
  replace F35_a6 := own_F_other W43 ne35_a6 F35_a6
  clear X42 e42 N42 O42 F42
  show own_G p e below Q (T43.setTop (mkF m 136 #[.val (.int p1), .val (.ref a6), .unset, .unset] [(.ref a35)]))
  refine own_go (fun _ k => XS.dup X43.here hx rfl (hb hby at_136) rfl rfl k) ?_
  show own_G p e below Q (T43.setTop (mkF m 137 #[.val (.int p1), .val (.ref a6), .unset, .unset] [(.ref a35), (.ref a35)]))
  refine own_go (fun _ k => XS.bipush X43.here hx rfl (hb hby at_137) k) ?_
  show own_G p e below Q (T43.setTop (mkF m 139 #[.val (.int p1), .val (.ref a6), .unset, .unset] [(.int (8 : Int32)), (.ref a35), (.ref a35)]))
  refine own_go (fun _ k => XS.iconst X43.here hx rfl (hb hby at_139) k) ?_
  show own_G p e below Q (T43.setTop (mkF m 140 #[.val (.int p1), .val (.ref a6), .unset, .unset] [(.int (1 : Int32)), (.int (8 : Int32)), (.ref a35), (.ref a35)]))
  refine own_stZ X43 hx hZ e43 N43 O43 g35 F43 (by decide) (by decide) (congrArg Value.int (by decide : own_fl 8 = nar .boolean (1 : Int32))) (by decide) (hb hby at_140) ?_
  intro T44 h44 l44 X44 e44 N44 O44 W44 F44
  replace F35_a6 := own_F_other W44 ne35_a6 F35_a6
  clear X43 e43 N43 O43 F43
  show own_G p e below Q (T44.setTop (mkF m 141 #[.val (.int p1), .val (.ref a6), .unset, .unset] [(.ref a35)]))
  refine own_go (fun _ k => XS.dup X44.here hx rfl (hb hby at_141) rfl rfl k) ?_
  show own_G p e below Q (T44.setTop (mkF m 142 #[.val (.int p1), .val (.ref a6), .unset, .unset] [(.ref a35), (.ref a35)]))
  refine own_go (fun _ k => XS.bipush X44.here hx rfl (hb hby at_142) k) ?_
  show own_G p e below Q (T44.setTop (mkF m 144 #[.val (.int p1), .val (.ref a6), .unset, .unset] [(.int (9 : Int32)), (.ref a35), (.ref a35)]))
  refine own_go (fun _ k => XS.iconst X44.here hx rfl (hb hby at_144) k) ?_
  show own_G p e below Q (T44.setTop (mkF m 145 #[.val (.int p1), .val (.ref a6), .unset, .unset] [(.int (1 : Int32)), (.int (9 : Int32)), (.ref a35), (.ref a35)]))
  refine own_stZ X44 hx hZ e44 N44 O44 g35 F44 (by decide) (by decide) (congrArg Value.int (by decide : own_fl 9 = nar .boolean (1 : Int32))) (by decide) (hb hby at_145) ?_
  intro T45 h45 l45 X45 e45 N45 O45 W45 F45
  replace F35_a6 := own_F_other W45 ne35_a6 F35_a6
  clear X44 e44 N44 O44 F44
  show own_G p e below Q (T45.setTop (mkF m 146 #[.val (.int p1), .val (.ref a6), .unset, .unset] [(.ref a35)]))
  refine own_go (fun _ k => XS.dup X45.here hx rfl (hb hby at_146) rfl rfl k) ?_
  show own_G p e below Q (T45.setTop (mkF m 147 #[.val (.int p1), .val (.ref a6), .unset, .unset] [(.ref a35), (.ref a35)]))
  refine own_go (fun _ k => XS.bipush X45.here hx rfl (hb hby at_147) k) ?_
  show own_G p e below Q (T45.setTop (mkF m 149 #[.val (.int p1), .val (.ref a6), .unset, .unset] [(.int (10 : Int32)), (.ref a35), (.ref a35)]))
  refine own_go (fun _ k => XS.iconst X45.here hx rfl (hb hby at_149) k) ?_
  show own_G p e below Q (T45.setTop (mkF m 150 #[.val (.int p1), .val (.ref a6), .unset, .unset] [(.int (0 : Int32)), (.int (10 : Int32)), (.ref a35), (.ref a35)]))
  refine own_stZ X45 hx hZ e45 N45 O45 g35 F45 (by decide) (by decide) (congrArg Value.int (by decide : own_fl 10 = nar .boolean (0 : Int32))) (by decide) (hb hby at_150) ?_
  intro T46 h46 l46 X46 e46 N46 O46 W46 F46
  replace F35_a6 := own_F_other W46 ne35_a6 F35_a6
  clear X45 e45 N45 O45 F45
  show own_G p e below Q (T46.setTop (mkF m 151 #[.val (.int p1), .val (.ref a6), .unset, .unset] [(.ref a35)]))
  refine own_go (fun _ k => XS.dup X46.here hx rfl (hb hby at_151) rfl rfl k) ?_
  show own_G p e below Q (T46.setTop (mkF m 152 #[.val (.int p1), .val (.ref a6), .unset, .unset] [(.ref a35), (.ref a35)]))
  refine own_go (fun _ k => XS.bipush X46.here hx rfl (hb hby at_152) k) ?_
  show own_G p e below Q (T46.setTop (mkF m 154 #[.val (.int p1), .val (.ref a6), .unset, .unset] [(.int (11 : Int32)), (.ref a35), (.ref a35)]))
  refine own_go (fun _ k => XS.iconst X46.here hx rfl (hb hby at_154) k) ?_
  show own_G p e below Q (T46.setTop (mkF m 155 #[.val (.int p1), .val (.ref a6), .unset, .unset] [(.int (0 : Int32)), (.int (11 : Int32)), (.ref a35), (.ref a35)]))
  refine own_stZ X46 hx hZ e46 N46 O46 g35 F46 (by decide) (by decide) (congrArg Value.int (by decide : own_fl 11 = nar .boolean (0 : Int32))) (by decide) (hb hby at_155) ?_
  intro T47 h47 l47 X47 e47 N47 O47 W47 F47
  replace F35_a6 := own_F_other W47 ne35_a6 F35_a6
  clear X46 e46 N46 O46 F46
  show own_G p e below Q (T47.setTop (mkF m 156 #[.val (.int p1), .val (.ref a6), .unset, .unset] [(.ref a35)]))
  refine own_go (fun _ k => XS.dup X47.here hx rfl (hb hby at_156) rfl rfl k) ?_
  show own_G p e below Q (T47.setTop (mkF m 157 #[.val (.int p1), .val (.ref a6), .unset, .unset] [(.ref a35), (.ref a35)]))
  refine own_go (fun _ k => XS.bipush X47.here hx rfl (hb hby at_157) k) ?_
  show own_G p e below Q (T47.setTop (mkF m 159 #[.val (.int p1), .val (.ref a6), .unset, .unset] [(.int (12 : Int32)), (.ref a35), (.ref a35)]))
  refine own_go (fun _ k => XS.iconst X47.here hx rfl (hb hby at_159) k) ?_
  show own_G p e below Q (T47.setTop (mkF m 160 #[.val (.int p1), .val (.ref a6), .unset, .unset] [(.int (0 : Int32)), (.int (12 : Int32)), (.ref a35), (.ref a35)]))
  refine own_stZ X47 hx hZ e47 N47 O47 g35 F47 (by decide) (by decide) (congrArg Value.int (by decide : own_fl 12 = nar .boolean (0 : Int32))) (by decide) (hb hby at_160) ?_
  intro T48 h48 l48 X48 e48 N48 O48 W48 F48
  replace F35_a6 := own_F_other W48 ne35_a6 F35_a6
  clear X47 e47 N47 O47 F47
  show own_G p e below Q (T48.setTop (mkF m 161 #[.val (.int p1), .val (.ref a6), .unset, .unset] [(.ref a35)]))
  refine own_go (fun _ k => XS.dup X48.here hx rfl (hb hby at_161) rfl rfl k) ?_
  show own_G p e below Q (T48.setTop (mkF m 162 #[.val (.int p1), .val (.ref a6), .unset, .unset] [(.ref a35), (.ref a35)]))
  refine own_go (fun _ k => XS.bipush X48.here hx rfl (hb hby at_162) k) ?_
  show own_G p e below Q (T48.setTop (mkF m 164 #[.val (.int p1), .val (.ref a6), .unset, .unset] [(.int (13 : Int32)), (.ref a35), (.ref a35)]))
  refine own_go (fun _ k => XS.iconst X48.here hx rfl (hb hby at_164) k) ?_
  show own_G p e below Q (T48.setTop (mkF m 165 #[.val (.int p1), .val (.ref a6), .unset, .unset] [(.int (0 : Int32)), (.int (13 : Int32)), (.ref a35), (.ref a35)]))
  refine own_stZ X48 hx hZ e48 N48 O48 g35 F48 (by decide) (by decide) (congrArg Value.int (by decide : own_fl 13 = nar .boolean (0 : Int32))) (by decide) (hb hby at_165) ?_
  intro T49 h49 l49 X49 e49 N49 O49 W49 F49
  replace F35_a6 := own_F_other W49 ne35_a6 F35_a6
  clear X48 e48 N48 O48 F48
  show own_G p e below Q (T49.setTop (mkF m 166 #[.val (.int p1), .val (.ref a6), .unset, .unset] [(.ref a35)]))
  refine own_go (fun _ k => XS.astoreN X49.here hx rfl (hb hby at_166) rfl rfl (l' := #[.val (.int p1), .val (.ref a6), .val (.ref a35), .unset]) rfl k) ?_
  show own_G p e below Q (T49.setTop (mkF m 167 #[.val (.int p1), .val (.ref a6), .val (.ref a35), .unset] []))
  refine own_go (fun _ k => XS.iloadN X49.here hx rfl (hb hby at_167) rfl  k) ?_
  show own_G p e below Q (T49.setTop (mkF m 168 #[.val (.int p1), .val (.ref a6), .val (.ref a35), .unset] [(.int p1)]))
  refine own_go (fun _ k => X49.ldcI hx hown (mvT hZ (hw _ (List.mem_of_getElem? (i := 33) rfl))) rfl (hb hby at_168) k) ?_
  show own_G p e below Q (T49.setTop (mkF m 170 #[.val (.int p1), .val (.ref a6), .val (.ref a35), .unset] [(.int (2147483647 : Int32)), (.int p1)]))
  refine own_go (fun _ k => XS.iand X49.here hx rfl (hb hby at_170) rfl k) ?_
  show own_G p e below Q (T49.setTop (mkF m 171 #[.val (.int p1), .val (.ref a6), .val (.ref a35), .unset] [(.int (p1 &&& (2147483647 : Int32)))]))
  refine own_go (fun _ k => XS.bipush X49.here hx rfl (hb hby at_171) k) ?_
  show own_G p e below Q (T49.setTop (mkF m 173 #[.val (.int p1), .val (.ref a6), .val (.ref a35), .unset] [(.int (14 : Int32)), (.int (p1 &&& (2147483647 : Int32)))]))
  refine own_go (fun _ k => iremM X49 hx rfl (hb hby at_173) rfl (by decide) k) ?_
  show own_G p e below Q (T49.setTop (mkF m 174 #[.val (.int p1), .val (.ref a6), .val (.ref a35), .unset] [(.int ((p1 &&& (2147483647 : Int32)) % (14 : Int32)))]))
  rw [hr]
  show own_G p e below Q (T49.setTop (mkF m 174 #[.val (.int p1), .val (.ref a6), .val (.ref a35), .unset] [(.int (Int32.ofNat i))]))
  refine own_go (fun _ k => XS.istoreN X49.here hx rfl (hb hby at_174) rfl (l' := #[.val (.int p1), .val (.ref a6), .val (.ref a35), .val (.int (Int32.ofNat i))]) rfl k) ?_
  show own_G p e below Q (T49.setTop (mkF m 175 #[.val (.int p1), .val (.ref a6), .val (.ref a35), .val (.int (Int32.ofNat i))] []))
  refine own_go (fun _ k => XS.aloadN X49.here hx rfl (hb hby at_175) rfl rfl  k) ?_
  show own_G p e below Q (T49.setTop (mkF m 176 #[.val (.int p1), .val (.ref a6), .val (.ref a35), .val (.int (Int32.ofNat i))] [(.ref a6)]))
  refine own_go (fun _ k => XS.iloadN X49.here hx rfl (hb hby at_176) rfl  k) ?_
  show own_G p e below Q (T49.setTop (mkF m 177 #[.val (.int p1), .val (.ref a6), .val (.ref a35), .val (.int (Int32.ofNat i))] [(.int (Int32.ofNat i)), (.ref a6)]))
  refine own_ldR X49 hx hZ e49 F35_a6 rfl hi (by decide) rfl (hb hby at_177) ?_
  show own_G p e below Q (T49.setTop (mkF m 178 #[.val (.int p1), .val (.ref a6), .val (.ref a35), .val (.int (Int32.ofNat i))] [(.ref (ad i))]))
  refine own_callVP X49 hx hZ hown (hw _ (List.mem_of_getElem? (i := 34) rfl)) (hw _ (List.mem_of_getElem? (i := 35) rfl)) (hw _ (List.mem_of_getElem? (i := 37) rfl)) (hw _ (List.mem_of_getElem? (i := 36) rfl)) (hw _ (List.mem_of_getElem? (i := 38) rfl)) (hw _ (List.mem_of_getElem? (i := 3) rfl)) (by decide) (argsL := []) (rest := []) e49 (Exa.ext O49.2 (hE i hi)) (own_test l Z a0 hw ad hS _ O49.2 (ad i)) rfl (by rw [hml]; rfl) pd_c rfl (hb hby at_178) (W := 0) (Nat.le_of_eq rfl) (by decide) (by decide) (by decide) (by decide) ?_
  intro T50 X50 e50
  show own_G p e below Q (T50.setTop (mkF m 181 #[.val (.int p1), .val (.ref a6), .val (.ref a35), .val (.int (Int32.ofNat i))] [(.int (if ad i = ad 5 then (1 : Int32) else if ad i = ad 6 then 1 else if ad i = ad 7 then 1 else if ad i = ad 8 then 1 else if ad i = ad 9 then 1 else 0))]))
  refine own_go (fun _ k => XS.aloadN X50.here hx rfl (hb hby at_181) rfl rfl  k) ?_
  show own_G p e below Q (T50.setTop (mkF m 182 #[.val (.int p1), .val (.ref a6), .val (.ref a35), .val (.int (Int32.ofNat i))] [(.ref a35), (.int (if ad i = ad 5 then (1 : Int32) else if ad i = ad 6 then 1 else if ad i = ad 7 then 1 else if ad i = ad 8 then 1 else if ad i = ad 9 then 1 else 0))]))
  refine own_go (fun _ k => XS.iloadN X50.here hx rfl (hb hby at_182) rfl  k) ?_
  show own_G p e below Q (T50.setTop (mkF m 183 #[.val (.int p1), .val (.ref a6), .val (.ref a35), .val (.int (Int32.ofNat i))] [(.int (Int32.ofNat i)), (.ref a35), (.int (if ad i = ad 5 then (1 : Int32) else if ad i = ad 6 then 1 else if ad i = ad 7 then 1 else if ad i = ad 8 then 1 else if ad i = ad 9 then 1 else 0))]))
  refine own_ldZ X50 hx hZ e50 F49 hi (by decide) rfl (hb hby at_183) ?_
  show own_G p e below Q (T50.setTop (mkF m 184 #[.val (.int p1), .val (.ref a6), .val (.ref a35), .val (.int (Int32.ofNat i))] [(.int (own_fl i)), (.int (if ad i = ad 5 then (1 : Int32) else if ad i = ad 6 then 1 else if ad i = ad 7 then 1 else if ad i = ad 8 then 1 else if ad i = ad 9 then 1 else 0))]))
  refine own_go (fun _ k => XS.icmpNo X50.here hx rfl (hb hby at_184) rfl (teq (own_eq Z ad hF i hi)).2 k) ?_
  show own_G p e below Q (T50.setTop (mkF m 187 #[.val (.int p1), .val (.ref a6), .val (.ref a35), .val (.int (Int32.ofNat i))] []))
  refine own_go (fun _ k => XS.iconst X50.here hx rfl (hb hby at_187) k) ?_
  show own_G p e below Q (T50.setTop (mkF m 188 #[.val (.int p1), .val (.ref a6), .val (.ref a35), .val (.int (Int32.ofNat i))] [(.int (1 : Int32))]))
  refine own_go (fun _ k => XS.goto X50.here hx rfl (pc0 := 188) (pc' := 192) rfl (hb hby at_188) (by decide) (by decide) k) ?_
  show own_G p e below Q (T50.setTop (mkF m 192 #[.val (.int p1), .val (.ref a6), .val (.ref a35), .val (.int (Int32.ofNat i))] [(.int (1 : Int32))]))
  exact own_retN X50 hx hlk (Or.inl rfl) hret (hb hby at_192) rfl (fun U hU hF => hR _ _ _ _ _ ⟨rfl, N49⟩ (by decide) (by decide) hF)
theorem comes_1 {Post : Tables → Env → Array Value → State → Outcome → State → Prop} (hpost : ∀ tb e args s v u, (limb_1_1.after args s (.returned v) u = true ∧ limb_1_2.after args s (.returned v) u = true ∧ True) → FrameEnd s (.returned v) u (Jvm.fieldLocs frame_1_writes args s ++ Jvm.arrayLocs frame_1_arrays args s ++ Jvm.staticLocs frame_1_statics s) 16 128 → Post tb e args s (.returned v) u) :
    ArmFor flags0 classFile x code maxLocals ret World_1 tables_1 room_1 Calls_1 rest_1 Pre_1 Post := by
  intro l hfl _ _ p e ha hc hk s m args below hf hA hF happ hP
  obtain ⟨hcalls, hrest, hpre⟩ := hP
  obtain ⟨-, -, -, hnamed, -, -, -, hat⟩ := (Spec.applies_iff hf).mp happ
  obtain ⟨hg, hn⟩ := and_e (Cond.before_iff.mp (show (Jvm.Cond.and given_1 narrow_1).before args s = true from hpre))
  obtain ⟨hcount, hg0⟩ := and_e hg
  obtain ⟨w0, rfl⟩ : ∃ w0 : Value, args = #[w0] := by
    have hs : args.size = 1 := by simpa [Cond.value, given_1] using hcount
    obtain ⟨L⟩ := args
    match L, hs with
    | [w0], _ => exact ⟨w0, rfl⟩
  have hw := fun d (hd : d ∈ tables_1) => atoms_spec (ws := Jvm.Cond.code x code maxLocals ret :: tables_1) hat d (List.mem_cons_of_mem _ hd)
  obtain ⟨i0, e0⟩ := is_v hg0
  obtain rfl : w0 = (.int i0) := Option.some.inj e0
  obtain ⟨nn0, hn0⟩ := and_e hn
  obtain ⟨nn1, hn1⟩ := and_e hn0
  obtain ⟨nn2, hn2⟩ := and_e hn1
  obtain ⟨nn3, hn3⟩ := and_e hn2
  obtain ⟨nn4, hn4⟩ := and_e hn3
  obtain ⟨nn5, hn5⟩ := and_e hn4
  obtain ⟨nn6, hn6⟩ := and_e hn5
  obtain ⟨nn7, hn7⟩ := and_e hn6
  obtain ⟨nn8, hn8⟩ := and_e hn7
  obtain ⟨nn9, hn9⟩ := and_e hn8
  obtain ⟨nn10, hn10⟩ := and_e hn9
  obtain ⟨nn11, hn11⟩ := and_e hn10
  obtain ⟨nn12, hn12⟩ := and_e hn11
  obtain ⟨nn13, hn13⟩ := and_e hn12
  obtain ⟨nn14, hn14⟩ := and_e hn13
  obtain ⟨nn15, hn15⟩ := and_e hn14
  obtain ⟨nn16, hn16⟩ := and_e hn15
  obtain ⟨nn17, hn17⟩ := and_e hn16
  obtain ⟨nn18, hn18⟩ := and_e hn17
  obtain ⟨nn19, hn19⟩ := and_e hn18
  obtain ⟨nn20, hn20⟩ := and_e hn19
  obtain ⟨nn21, hn21⟩ := and_e hn20
  obtain ⟨nn22, hn22⟩ := and_e hn21
  obtain ⟨nn23, hn23⟩ := and_e hn22
  obtain ⟨nn24, hn24⟩ := and_e hn23
  obtain ⟨nn25, hn25⟩ := and_e hn24
  obtain ⟨nn26, hn26⟩ := and_e hn25
  obtain ⟨c0, ev0, st0, ex0⟩ := own_sta rfl nn0 (hw _ (List.mem_of_getElem? (i := 3) rfl)) (hw _ (List.mem_of_getElem? (i := 4) rfl))
  obtain ⟨c1, ev1, st1, ex1⟩ := own_sta rfl nn1 (hw _ (List.mem_of_getElem? (i := 3) rfl)) (hw _ (List.mem_of_getElem? (i := 7) rfl))
  obtain ⟨c2, ev2, st2, ex2⟩ := own_sta rfl nn2 (hw _ (List.mem_of_getElem? (i := 3) rfl)) (hw _ (List.mem_of_getElem? (i := 9) rfl))
  obtain ⟨c3, ev3, st3, ex3⟩ := own_sta rfl nn3 (hw _ (List.mem_of_getElem? (i := 3) rfl)) (hw _ (List.mem_of_getElem? (i := 11) rfl))
  obtain ⟨c4, ev4, st4, ex4⟩ := own_sta rfl nn4 (hw _ (List.mem_of_getElem? (i := 3) rfl)) (hw _ (List.mem_of_getElem? (i := 13) rfl))
  obtain ⟨c5, ev5, st5, ex5⟩ := own_sta rfl nn5 (hw _ (List.mem_of_getElem? (i := 3) rfl)) (hw _ (List.mem_of_getElem? (i := 15) rfl))
  obtain ⟨c6, ev6, st6, ex6⟩ := own_sta rfl nn6 (hw _ (List.mem_of_getElem? (i := 3) rfl)) (hw _ (List.mem_of_getElem? (i := 17) rfl))
  obtain ⟨c7, ev7, st7, ex7⟩ := own_sta rfl nn7 (hw _ (List.mem_of_getElem? (i := 3) rfl)) (hw _ (List.mem_of_getElem? (i := 19) rfl))
  obtain ⟨c8, ev8, st8, ex8⟩ := own_sta rfl nn8 (hw _ (List.mem_of_getElem? (i := 3) rfl)) (hw _ (List.mem_of_getElem? (i := 21) rfl))
  obtain ⟨c9, ev9, st9, ex9⟩ := own_sta rfl nn9 (hw _ (List.mem_of_getElem? (i := 3) rfl)) (hw _ (List.mem_of_getElem? (i := 23) rfl))
  obtain ⟨c10, ev10, st10, ex10⟩ := own_sta rfl nn10 (hw _ (List.mem_of_getElem? (i := 3) rfl)) (hw _ (List.mem_of_getElem? (i := 25) rfl))
  obtain ⟨c11, ev11, st11, ex11⟩ := own_sta rfl nn11 (hw _ (List.mem_of_getElem? (i := 3) rfl)) (hw _ (List.mem_of_getElem? (i := 27) rfl))
  obtain ⟨c12, ev12, st12, ex12⟩ := own_sta rfl nn12 (hw _ (List.mem_of_getElem? (i := 3) rfl)) (hw _ (List.mem_of_getElem? (i := 29) rfl))
  obtain ⟨c13, ev13, st13, ex13⟩ := own_sta rfl nn13 (hw _ (List.mem_of_getElem? (i := 3) rfl)) (hw _ (List.mem_of_getElem? (i := 31) rfl))
  have ordinal0 := own_fld ev0 nn14
  have ordinal5 := own_fld ev5 nn15
  have ordinal6 := own_fld ev6 nn16
  have ordinal7 := own_fld ev7 nn17
  have ordinal8 := own_fld ev8 nn18
  have ordinal9 := own_fld ev9 nn19
  have ordinal3 := own_fld ev3 nn20
  have ordinal12 := own_fld ev12 nn21
  have ordinal13 := own_fld ev13 nn22
  have ordinal4 := own_fld ev4 nn23
  have ordinal2 := own_fld ev2 nn24
  have ordinal11 := own_fld ev11 nn25
  have ordinal10 := own_fld ev10 nn26
  have ordinal1 := own_fld ev1 hn26
  have hE : ∀ i, i < 14 → Exa s s.heap ((fun i => [c0, c1, c2, c3, c4, c5, c6, c7, c8, c9, c10, c11, c12, c13].getD i c0) i) "com/example/stylewright/stylewright/AtomicType" := by
    intro i hi
    obtain hi' : i = 0 ∨ i = 1 ∨ i = 2 ∨ i = 3 ∨ i = 4 ∨ i = 5 ∨ i = 6 ∨ i = 7 ∨ i = 8 ∨ i = 9 ∨ i = 10 ∨ i = 11 ∨ i = 12 ∨ i = 13 := by omega
    clear hi
    rcases hi' with rfl | rfl | rfl | rfl | rfl | rfl | rfl | rfl | rfl | rfl | rfl | rfl | rfl | rfl
    · exact ex0
    · exact ex1
    · exact ex2
    · exact ex3
    · exact ex4
    · exact ex5
    · exact ex6
    · exact ex7
    · exact ex8
    · exact ex9
    · exact ex10
    · exact ex11
    · exact ex12
    · exact ex13
  have hFo : ∀ i, i < 14 → Fld s s.heap ((fun i => [c0, c1, c2, c3, c4, c5, c6, c7, c8, c9, c10, c11, c12, c13].getD i c0) i) "java/lang/Enum" "ordinal" "I" (.int (Int32.ofNat i)) := by
    intro i hi
    obtain hi' : i = 0 ∨ i = 1 ∨ i = 2 ∨ i = 3 ∨ i = 4 ∨ i = 5 ∨ i = 6 ∨ i = 7 ∨ i = 8 ∨ i = 9 ∨ i = 10 ∨ i = 11 ∨ i = 12 ∨ i = 13 := by omega
    clear hi
    rcases hi' with rfl | rfl | rfl | rfl | rfl | rfl | rfl | rfl | rfl | rfl | rfl | rfl | rfl | rfl
    · exact ordinal0
    · exact ordinal1
    · exact ordinal2
    · exact ordinal3
    · exact ordinal4
    · exact ordinal5
    · exact ordinal6
    · exact ordinal7
    · exact ordinal8
    · exact ordinal9
    · exact ordinal10
    · exact ordinal11
    · exact ordinal12
    · exact ordinal13
  obtain ⟨n, o, h1, h2, h3, _, L, rfl, ⟨rfl, N⟩, hq⟩ := rm0 l s _ hw (fun i => [c0, c1, c2, c3, c4, c5, c6, c7, c8, c9, c10, c11, c12, c13].getD i c0) ⟨st0, st1, st2, st3, st4, st5, st6, st7, st8, st9, st10, st11, st12, st13⟩ hE hFo i0 p e ha hc hk s m _ below hf ((Spec.applies_iff_loose hf).mp happ).1 ⟨rfl, State.Warmed39.refl s, rfl⟩ trivial
  refine ⟨n, _, h1, h2, h3, hpost _ _ _ _ _ _ ⟨Cond.after_iff.mpr rfl, Cond.after_iff.mpr (eq_i res_at (Term.int_eval (1)) rfl), trivial⟩ ⟨hq.1, hq.2.1, (hq.2.2.sift fun y hy => Or.inr (N y hy)).mono (by decide) (by decide)⟩⟩
theorem main_1_1 : Claimed_1_1 := comes_1 fun _ _ _ _ _ _ h hF => ⟨h.1, hF⟩
theorem main_1_2 : Claimed_1_2 := comes_1 fun _ _ _ _ _ _ h hF => ⟨h.2.1, hF⟩
end Jvm.Pilot.@@N@@
namespace Jvm.Pilot.@@N@@
open Jvm Jvm.ClassFile Sem Op Lib Jvm.Free Jvm.Stand Jvm.Pilot.@@N@@.Jvm.D
/-! MADE BY PROGRAM (witnessworld.py) out of the Statement's table words and the real class files: 15 classes; the members and pool entries that the words name. The judged class is class 1, her method 1. -/
namespace start1
open Jvm.ClassFile
def u (s : String) : CpInfo := .utf8 (stringToUtf16 s)
/-- a pool by its gaps: so many unusable entries, then the entry; so many at the end -/
def gap : Nat → List CpInfo → List CpInfo
  | 0, r => r
  | n + 1, r => .unusable :: gap n r
def poolList (es : List (Nat × CpInfo)) (last : Nat) : List CpInfo := es.foldr (fun e r => gap e.1 (e.2 :: r)) (gap last [])
def pool (es : List (Nat × CpInfo)) (last : Nat) : Array CpInfo := ⟨poolList es last⟩
def fileOf (pool : Array CpInfo) (this : Nat) (attrs : Array Attribute := #[]) (ms : Array MethodInfo := #[]) (fl : Nat := 33) (sup : Nat := 0) (ifs : Array Nat := #[]) (fds : Array FieldInfo := #[]) : ClassFile where
  minorVersion := 0
  majorVersion := 65
  constantPool := pool
  accessFlags := fl
  thisClass := this
  superClass := sup
  interfaces := ifs
  fields := fds
  methods := ms
  attributes := attrs
def plain (name : String) (sup : Option ClassId) : Class where
  name := name
  kind := .ordinary
  loader := none
  accessFlags := 33
  super := sup
  interfaces := #[]
  cf := none
  fields := #[]
  methods := #[]
  instanceTypes := #[]
  staticTypes := #[]
  resolved := #[]
  callSites := []
  init := .initialized
  statics := none
  mirror := none

def pool0 : Array CpInfo := pool [(5, u "<init>"), (0, u "()V"), (1, .class_ 10), (1, u "java/lang/Object")] 113

def k0m0 : Method := { name := "<init>", desc := "()V", sig := { parameters := [], returnType := none }, accessFlags := 1, code := none }
/-- java/lang/Object -/
def k0 : Class := { plain "java/lang/Object" none with
  accessFlags := 33
  interfaces := #[]
  cf := some (fileOf pool0 8 #[] #[{ accessFlags := 1, nameIndex := 5, descriptorIndex := 6, attributes := #[] }] 33 0 #[] #[])
  fields := #[]
  methods := #[k0m0]
  instanceTypes := #[]
  staticTypes := #[]
  resolved := Array.replicate 124 none
  statics := none }

def pool1 : Array CpInfo := pool [(2, .class_ 4), (1, u "java/lang/Object"), (0, u "<init>"), (0, u "()V"), (0, .class_ 8), (0, u "com/example/stylewright/stylewright/AtomicType"), (0, .fieldref 7 10), (0, .nameAndType 11 12), (0, u "ANY_ATOMIC"), (0, u "Lcom/example/stylewright/stylewright/AtomicType;"), (0, .fieldref 7 14), (0, .nameAndType 15 12), (0, u "UNTYPED_ATOMIC"), (0, .fieldref 7 17), (0, .nameAndType 18 12), (0, u "STRING"), (0, .fieldref 7 20), (0, .nameAndType 21 12), (0, u "ANY_URI"), (0, .fieldref 7 23), (0, .nameAndType 24 12), (0, u "BOOLEAN"), (0, .fieldref 7 26), (0, .nameAndType 27 12), (0, u "NUMERIC"), (0, .fieldref 7 29), (0, .nameAndType 30 12), (0, u "DECIMAL"), (0, .fieldref 7 32), (0, .nameAndType 33 12), (0, u "INTEGER"), (0, .fieldref 7 35), (0, .nameAndType 36 12), (0, u "FLOAT"), (0, .fieldref 7 38), (0, .nameAndType 39 12), (0, u "DOUBLE"), (0, .fieldref 7 41), (0, .nameAndType 42 12), (0, u "DATE"), (0, .fieldref 7 44), (0, .nameAndType 45 12), (0, u "DATE_TIME"), (0, .fieldref 7 47), (0, .nameAndType 48 12), (0, u "DAY_TIME_DURATION"), (0, .fieldref 7 50), (0, .nameAndType 51 12), (0, u "QNAME"), (0, .integer 2147483647), (0, .methodref 7 54), (0, .nameAndType 55 56), (0, u "isNumeric"), (0, u "()Z"), (0, .class_ 58), (0, u "com/example/stylewright/stylewright/AtomicTypeIsNumericPinLaw"), (2, u "law"), (0, u "(I)Z")] 7

def k1m0 : Method := { name := "<init>", desc := "()V", sig := { parameters := [], returnType := none }, accessFlags := 2, code := none }
def k1c1 : Code := { maxStack := 4, maxLocals := 4, code := code, exceptionTable := #[], attributes := #[] }
def k1m1 : Method := { name := "law", desc := "(I)Z", sig := { parameters := [.int], returnType := some .boolean }, accessFlags := 9, code := some k1c1 }
/-- com/example/stylewright/stylewright/AtomicTypeIsNumericPinLaw -/
def k1 : Class := { plain "com/example/stylewright/stylewright/AtomicTypeIsNumericPinLaw" (some 0) with
  accessFlags := 49
  interfaces := #[]
  cf := some (fileOf pool1 57 #[] #[{ accessFlags := 2, nameIndex := 5, descriptorIndex := 6, attributes := #[] }, { accessFlags := 9, nameIndex := 61, descriptorIndex := 62, attributes := #[] }] 49 2 #[] #[])
  fields := #[]
  methods := #[k1m0, k1m1]
  instanceTypes := #[]
  staticTypes := #[]
  resolved := Array.replicate 70 none
  statics := none }

def pool2 : Array CpInfo := pool [(1, .class_ 2), (0, u "java/lang/constant/Constable"), (0, .class_ 4), (0, u "java/lang/Object")] 6

/-- java/lang/constant/Constable -/
def k2 : Class := { plain "java/lang/constant/Constable" (some 0) with
  accessFlags := 1537
  interfaces := #[]
  cf := some (fileOf pool2 1 #[] #[] 1537 3 #[] #[])
  fields := #[]
  methods := #[]
  instanceTypes := #[]
  staticTypes := #[]
  resolved := Array.replicate 11 none
  statics := none }

def pool3 : Array CpInfo := pool [(1, .class_ 2), (0, u "java/lang/Comparable"), (0, .class_ 4), (0, u "java/lang/Object")] 7

/-- java/lang/Comparable -/
def k3 : Class := { plain "java/lang/Comparable" (some 0) with
  accessFlags := 1537
  interfaces := #[]
  cf := some (fileOf pool3 1 #[] #[] 1537 3 #[] #[])
  fields := #[]
  methods := #[]
  instanceTypes := #[]
  staticTypes := #[]
  resolved := Array.replicate 12 none
  statics := none }

def pool4 : Array CpInfo := pool [(1, .class_ 2), (0, u "java/io/Serializable"), (0, .class_ 4), (0, u "java/lang/Object")] 2

/-- java/io/Serializable -/
def k4 : Class := { plain "java/io/Serializable" (some 0) with
  accessFlags := 1537
  interfaces := #[]
  cf := some (fileOf pool4 1 #[] #[] 1537 3 #[] #[])
  fields := #[]
  methods := #[]
  instanceTypes := #[]
  staticTypes := #[]
  resolved := Array.replicate 7 none
  statics := none }

def pool5 : Array CpInfo := pool [(2, .class_ 4), (1, u "java/lang/Enum"), (0, u "name"), (0, u "Ljava/lang/String;"), (2, u "ordinal"), (0, u "I"), (1, .class_ 14), (1, u "java/lang/Object"), (4, u "hash"), (86, .class_ 108), (1, u "java/lang/Enum$EnumDesc"), (2, .class_ 112), (0, u "java/lang/constant/Constable"), (0, .class_ 114), (0, u "java/lang/Comparable"), (0, .class_ 116), (0, u "java/io/Serializable")] 87

/-- java/lang/Enum -/
def k5 : Class := { plain "java/lang/Enum" (some 0) with
  accessFlags := 1057
  interfaces := #[2, 3, 4]
  cf := some (fileOf pool5 2 #[.nestMembers #[106]] #[] 1057 12 #[111, 113, 115] #[{ accessFlags := 18, nameIndex := 5, descriptorIndex := 6, attributes := #[] }, { accessFlags := 18, nameIndex := 9, descriptorIndex := 10, attributes := #[] }, { accessFlags := 2, nameIndex := 19, descriptorIndex := 10, attributes := #[] }])
  fields := #[{ name := "name", type := (.object "java/lang/String"), accessFlags := 18, slot := 0, constantValue := 0 }, { name := "ordinal", type := .int, accessFlags := 18, slot := 1, constantValue := 0 }, { name := "hash", type := .int, accessFlags := 2, slot := 2, constantValue := 0 }]
  methods := #[]
  instanceTypes := #[(.object "java/lang/String"), .int, .int]
  staticTypes := #[]
  resolved := Array.replicate 204 none
  statics := none }

def pool6 : Array CpInfo := pool [(1, .class_ 2), (0, u "com/example/stylewright/stylewright/AtomicType"), (2, u "ANY_ATOMIC"), (0, u "Lcom/example/stylewright/stylewright/AtomicType;"), (2, u "UNTYPED_ATOMIC"), (2, u "STRING"), (2, u "ANY_URI"), (2, u "BOOLEAN"), (0, .fieldref 1 20), (0, .nameAndType 21 6), (0, u "NUMERIC"), (0, .fieldref 1 23), (0, .nameAndType 24 6), (0, u "DECIMAL"), (0, .fieldref 1 26), (0, .nameAndType 27 6), (0, u "INTEGER"), (0, .fieldref 1 29), (0, .nameAndType 30 6), (0, u "FLOAT"), (0, .fieldref 1 32), (0, .nameAndType 33 6), (0, u "DOUBLE"), (2, u "DATE"), (2, u "DATE_TIME"), (2, u "DAY_TIME_DURATION"), (2, u "QNAME"), (2, u "$VALUES"), (0, u "[Lcom/example/stylewright/stylewright/AtomicType;"), (6, .class_ 58), (1, u "java/lang/Enum"), (8, u "localName"), (0, u "Ljava/lang/String;"), (2, u "parent"), (15, u "isNumeric"), (0, u "()Z"), (42, u "BUILT_IN_NAMES"), (0, u "Ljava/util/Set;"), (140, u "XS_NAMESPACE")] 55

def k6c0 : Code := { maxStack := 2, maxLocals := 1, code := prog_5_method_7_code, exceptionTable := #[], attributes := #[] }
def k6m0 : Method := { name := "isNumeric", desc := "()Z", sig := { parameters := [], returnType := some .boolean }, accessFlags := 0, code := some k6c0 }
/-- com/example/stylewright/stylewright/AtomicType -/
def k6 : Class := { plain "com/example/stylewright/stylewright/AtomicType" (some 5) with
  accessFlags := 16432
  interfaces := #[]
  cf := some (fileOf pool6 1 #[] #[{ accessFlags := 0, nameIndex := 87, descriptorIndex := 88, attributes := #[] }] 16432 56 #[] #[{ accessFlags := 16409, nameIndex := 5, descriptorIndex := 6, attributes := #[] }, { accessFlags := 16409, nameIndex := 9, descriptorIndex := 6, attributes := #[] }, { accessFlags := 16409, nameIndex := 12, descriptorIndex := 6, attributes := #[] }, { accessFlags := 16409, nameIndex := 15, descriptorIndex := 6, attributes := #[] }, { accessFlags := 16409, nameIndex := 18, descriptorIndex := 6, attributes := #[] }, { accessFlags := 16409, nameIndex := 21, descriptorIndex := 6, attributes := #[] }, { accessFlags := 16409, nameIndex := 24, descriptorIndex := 6, attributes := #[] }, { accessFlags := 16409, nameIndex := 27, descriptorIndex := 6, attributes := #[] }, { accessFlags := 16409, nameIndex := 30, descriptorIndex := 6, attributes := #[] }, { accessFlags := 16409, nameIndex := 33, descriptorIndex := 6, attributes := #[] }, { accessFlags := 16409, nameIndex := 36, descriptorIndex := 6, attributes := #[] }, { accessFlags := 16409, nameIndex := 39, descriptorIndex := 6, attributes := #[] }, { accessFlags := 16409, nameIndex := 42, descriptorIndex := 6, attributes := #[] }, { accessFlags := 16409, nameIndex := 45, descriptorIndex := 6, attributes := #[] }, { accessFlags := 24, nameIndex := 273, descriptorIndex := 68, attributes := #[] }, { accessFlags := 26, nameIndex := 131, descriptorIndex := 132, attributes := #[] }, { accessFlags := 18, nameIndex := 67, descriptorIndex := 68, attributes := #[] }, { accessFlags := 18, nameIndex := 71, descriptorIndex := 6, attributes := #[] }, { accessFlags := 4122, nameIndex := 48, descriptorIndex := 49, attributes := #[] }])
  fields := #[{ name := "ANY_ATOMIC", type := (.object "com/example/stylewright/stylewright/AtomicType"), accessFlags := 16409, slot := 0, constantValue := 0 }, { name := "UNTYPED_ATOMIC", type := (.object "com/example/stylewright/stylewright/AtomicType"), accessFlags := 16409, slot := 1, constantValue := 0 }, { name := "STRING", type := (.object "com/example/stylewright/stylewright/AtomicType"), accessFlags := 16409, slot := 2, constantValue := 0 }, { name := "ANY_URI", type := (.object "com/example/stylewright/stylewright/AtomicType"), accessFlags := 16409, slot := 3, constantValue := 0 }, { name := "BOOLEAN", type := (.object "com/example/stylewright/stylewright/AtomicType"), accessFlags := 16409, slot := 4, constantValue := 0 }, { name := "NUMERIC", type := (.object "com/example/stylewright/stylewright/AtomicType"), accessFlags := 16409, slot := 5, constantValue := 0 }, { name := "DECIMAL", type := (.object "com/example/stylewright/stylewright/AtomicType"), accessFlags := 16409, slot := 6, constantValue := 0 }, { name := "INTEGER", type := (.object "com/example/stylewright/stylewright/AtomicType"), accessFlags := 16409, slot := 7, constantValue := 0 }, { name := "FLOAT", type := (.object "com/example/stylewright/stylewright/AtomicType"), accessFlags := 16409, slot := 8, constantValue := 0 }, { name := "DOUBLE", type := (.object "com/example/stylewright/stylewright/AtomicType"), accessFlags := 16409, slot := 9, constantValue := 0 }, { name := "DATE", type := (.object "com/example/stylewright/stylewright/AtomicType"), accessFlags := 16409, slot := 10, constantValue := 0 }, { name := "DATE_TIME", type := (.object "com/example/stylewright/stylewright/AtomicType"), accessFlags := 16409, slot := 11, constantValue := 0 }, { name := "DAY_TIME_DURATION", type := (.object "com/example/stylewright/stylewright/AtomicType"), accessFlags := 16409, slot := 12, constantValue := 0 }, { name := "QNAME", type := (.object "com/example/stylewright/stylewright/AtomicType"), accessFlags := 16409, slot := 13, constantValue := 0 }, { name := "XS_NAMESPACE", type := (.object "java/lang/String"), accessFlags := 24, slot := 14, constantValue := 0 }, { name := "BUILT_IN_NAMES", type := (.object "java/util/Set"), accessFlags := 26, slot := 15, constantValue := 0 }, { name := "localName", type := (.object "java/lang/String"), accessFlags := 18, slot := 3, constantValue := 0 }, { name := "parent", type := (.object "com/example/stylewright/stylewright/AtomicType"), accessFlags := 18, slot := 4, constantValue := 0 }, { name := "$VALUES", type := (.array (.object "com/example/stylewright/stylewright/AtomicType")), accessFlags := 4122, slot := 16, constantValue := 0 }]
  methods := #[k6m0]
  instanceTypes := #[(.object "java/lang/String"), .int, .int, (.object "java/lang/String"), (.object "com/example/stylewright/stylewright/AtomicType")]
  staticTypes := #[(.object "com/example/stylewright/stylewright/AtomicType"), (.object "com/example/stylewright/stylewright/AtomicType"), (.object "com/example/stylewright/stylewright/AtomicType"), (.object "com/example/stylewright/stylewright/AtomicType"), (.object "com/example/stylewright/stylewright/AtomicType"), (.object "com/example/stylewright/stylewright/AtomicType"), (.object "com/example/stylewright/stylewright/AtomicType"), (.object "com/example/stylewright/stylewright/AtomicType"), (.object "com/example/stylewright/stylewright/AtomicType"), (.object "com/example/stylewright/stylewright/AtomicType"), (.object "com/example/stylewright/stylewright/AtomicType"), (.object "com/example/stylewright/stylewright/AtomicType"), (.object "com/example/stylewright/stylewright/AtomicType"), (.object "com/example/stylewright/stylewright/AtomicType"), (.object "java/lang/String"), (.object "java/util/Set"), (.array (.object "com/example/stylewright/stylewright/AtomicType"))]
  resolved := Array.replicate 329 none
  statics := some 0 }

def pool7 : Array CpInfo := pool [(1, u "java/lang/Cloneable"), (0, .class_ 1), (0, u "java/lang/Object"), (0, .class_ 3)] 3

/-- java/lang/Cloneable -/
def k7 : Class := { plain "java/lang/Cloneable" (some 0) with
  accessFlags := 1537
  interfaces := #[]
  cf := some (fileOf pool7 2 #[] #[] 1537 4 #[] #[])
  fields := #[]
  methods := #[]
  instanceTypes := #[]
  staticTypes := #[]
  resolved := Array.replicate 8 none
  statics := none }

/-- the primitive boolean -/
def k8 : Class := { plain "boolean" none with kind := .primitive 'Z', accessFlags := 0x411 }
/-- [Z -/
def k9 : Class := { plain "[Z" (some 0) with kind := .array 8 .boolean, interfaces := #[7, 4], accessFlags := 1041 }

/-- the primitive byte -/
def k10 : Class := { plain "byte" none with kind := .primitive 'B', accessFlags := 0x411 }
/-- [B -/
def k11 : Class := { plain "[B" (some 0) with kind := .array 10 .byte, interfaces := #[7, 4], accessFlags := 1041 }

/-- the primitive int -/
def k12 : Class := { plain "int" none with kind := .primitive 'I', accessFlags := 0x411 }
/-- [I -/
def k13 : Class := { plain "[I" (some 0) with kind := .array 12 .int, interfaces := #[7, 4], accessFlags := 1041 }

/-- [Lcom/example/stylewright/stylewright/AtomicType; -/
def k14 : Class := { plain "[Lcom/example/stylewright/stylewright/AtomicType;" (some 0) with kind := .array 6 (.object "com/example/stylewright/stylewright/AtomicType"), interfaces := #[7, 4], accessFlags := 1041 }

def heap : Heap := #[{ cls := 6, slots := #[.ref 1, .ref 2, .ref 3, .ref 4, .ref 5, .ref 6, .ref 7, .ref 8, .ref 9, .ref 10, .ref 11, .ref 12, .ref 13, .ref 14, .null, .null, .null], vm := .statics 6 },
  { cls := 6, slots := #[.null, .int 0, .int 0, .null, .null], vm := .none },
  { cls := 6, slots := #[.null, .int 1, .int 0, .null, .null], vm := .none },
  { cls := 6, slots := #[.null, .int 2, .int 0, .null, .null], vm := .none },
  { cls := 6, slots := #[.null, .int 3, .int 0, .null, .null], vm := .none },
  { cls := 6, slots := #[.null, .int 4, .int 0, .null, .null], vm := .none },
  { cls := 6, slots := #[.null, .int 5, .int 0, .null, .null], vm := .none },
  { cls := 6, slots := #[.null, .int 6, .int 0, .null, .null], vm := .none },
  { cls := 6, slots := #[.null, .int 7, .int 0, .null, .null], vm := .none },
  { cls := 6, slots := #[.null, .int 8, .int 0, .null, .null], vm := .none },
  { cls := 6, slots := #[.null, .int 9, .int 0, .null, .null], vm := .none },
  { cls := 6, slots := #[.null, .int 10, .int 0, .null, .null], vm := .none },
  { cls := 6, slots := #[.null, .int 11, .int 0, .null, .null], vm := .none },
  { cls := 6, slots := #[.null, .int 12, .int 0, .null, .null], vm := .none },
  { cls := 6, slots := #[.null, .int 13, .int 0, .null, .null], vm := .none }]
def classes : Array Class := #[k0, k1, k2, k3, k4, k5, k6, k7, k8, k9, k10, k11, k12, k13, k14]
def interned : List (Array UInt16 × Addr) := []
def slotsUsed : Nat := 87
def theMethod : MethodId := ⟨1, 1⟩
def args0 : Array Value := #[.int 5]
def aboutOver (below : List Frame) : State where
  vm := { classes := classes, interned := interned.toArray }
  heap := heap
  slotsUsed := slotsUsed
  threads := #[{ frames := .invoking theMethod args0 :: below }]
def below0 : List Frame := [.native { method := ⟨0, 0⟩, args := #[] }]
def about1 : State := aboutOver below0
def p0 : Program := .bare "" "" ""
def e0 : Env := launch0.env 0 0 0
theorem w_frames : about1.frames = Frame.invoking theMethod args0 :: below0 := rfl
set_option maxRecDepth 65536 in
theorem w_args : argsFit about1.vm theMethod args0 = true := by decide +kernel
set_option maxRecDepth 65536 in
theorem w_heap : heapFits about1 = true := by decide +kernel
set_option maxRecDepth 65536 in
theorem w_runnable : about1.curStatus? = some .runnable := by decide +kernel
set_option maxRecDepth 65536 in
theorem w_alone : about1.alone = true := by decide +kernel
set_option maxRecDepth 65536 in
theorem w_named : about1.methodNamed? x = some theMethod := by decide +kernel
set_option maxRecDepth 65536 in
theorem w_hears : about1.hears theMethod below0 = true := by decide +kernel
set_option maxRecDepth 65536 in
theorem w_ripe : about1.ripe theMethod args0 below0 = true := by decide +kernel
theorem w_running : about1.status = .running := rfl
set_option maxRecDepth 65536 in
theorem w_room : about1.hasRoom e0.platform room_1 = true :=
  launch0.hasRoom_least _ room_1 (by decide +kernel) (by decide +kernel) (by decide +kernel) (by decide +kernel) (by decide +kernel) (by decide +kernel)
theorem allAtoms_all (ts : List Jvm.Cond) (a : Array Jvm.Value) (st : Jvm.State) : (allAtoms ts).before a st = ts.all (fun c => c.before a st) := by
  induction ts with
  | nil => rfl
  | cons c t ih =>
    show (Jvm.Cond.and c (allAtoms t)).before a st = _
    rw [Jvm.Cond.before_and, ih, List.all_cons]
def words1 : List Jvm.Cond := Jvm.Cond.code x code maxLocals ret :: tables_1
/-- a 'code' word, met by the world's own term for the bytes: nothing is compared byte by byte -/
theorem code_word {y : MethodName} {bytes : ByteArray} {mx : Nat} {rt : Option FieldType} {a : Array Value} {s : State} {m : MethodId} {meth : Method} {c : Code} (h1 : s.methodNamed? y = some m) (h2 : s.vm.method? m = some meth) (h3 : meth.code = some c) (h4 : c.code = bytes)
    (h5 : (c.maxLocals == mx && c.exceptionTable.isEmpty && decide (c.maxStack ≤ mostOperands) && decide (meth.sig.returnType = rt) && !meth.locks && decide (parseMethodDescriptor y.desc = some meth.sig)) = true) : (Jvm.Cond.code y bytes mx rt).before a s = true := by
  simp only [Bool.and_eq_true, beq_iff_eq, Bool.not_eq_true', decide_eq_true_eq] at h5
  obtain ⟨⟨⟨⟨⟨g1, g2⟩, g3⟩, g4⟩, g5⟩, g6⟩ := h5
  simp [Cond.before, Cond.holds, Cond.value, h1, h2, h3, h4, g1, g2, g3, g4, g5, g6]
def isCode : Jvm.Cond → Bool
  | .code _ _ _ _ => true
  | _ => false
theorem all_split {L : List Jvm.Cond} {P : Jvm.Cond → Bool} (h1 : L.all (fun c => isCode c || P c) = true) (h2 : ∀ c ∈ L.filter isCode, P c = true) : L.all P = true := by
  refine List.all_eq_true.mpr fun c hc => ?_
  have h := List.all_eq_true.mp h1 c hc
  rcases Bool.eq_false_or_eq_true (isCode c) with hi | hi
  · exact h2 c (List.mem_filter.mpr ⟨hc, hi⟩)
  · simpa [hi] using h
set_option maxRecDepth 65536 in
theorem w_c0 : (Jvm.Cond.code x code maxLocals ret).before args0 about1 = true := code_word (m := ⟨1, 1⟩) (meth := k1m1) (c := k1c1) (by decide +kernel) rfl rfl rfl (by decide +kernel)
set_option maxRecDepth 65536 in
theorem w_c1 : (Jvm.Cond.code ({ cls := "com/example/stylewright/stylewright/AtomicType", name := "isNumeric", desc := "()Z" } : Jvm.MethodName) prog_5_method_7_code (1 : Nat) (Option.some Jvm.ClassFile.FieldType.boolean)).before args0 about1 = true := code_word (m := ⟨6, 0⟩) (meth := k6m0) (c := k6c0) (by decide +kernel) rfl rfl rfl (by decide +kernel)
def codes1 : List Jvm.Cond := [Jvm.Cond.code x code maxLocals ret, Jvm.Cond.code ({ cls := "com/example/stylewright/stylewright/AtomicType", name := "isNumeric", desc := "()Z" } : Jvm.MethodName) prog_5_method_7_code (1 : Nat) (Option.some Jvm.ClassFile.FieldType.boolean)]
set_option maxRecDepth 65536 in
theorem codes_eq : words1.filter isCode = codes1 := rfl
theorem w_codes : ∀ c ∈ words1.filter isCode, c.before args0 about1 = true := by
  rw [codes_eq]
  intro c hc
  simp only [codes1, List.mem_cons, List.not_mem_nil, or_false] at hc
  rcases hc with rfl | rfl
  · exact w_c0
  · exact w_c1
set_option maxRecDepth 65536 in
theorem w_t1 : (words1.take 24).all (fun c => isCode c || c.before args0 about1) = true := by decide +kernel
set_option maxRecDepth 65536 in
theorem w_t2 : (words1.drop 24).all (fun c => isCode c || c.before args0 about1) = true := by decide +kernel
theorem w_tables : (allAtoms (Jvm.Cond.code x code maxLocals ret :: tables_1)).before args0 about1 = true := by
  rw [allAtoms_all]
  show words1.all (fun c => c.before args0 about1) = true
  refine all_split ?_ w_codes
  rw [← List.take_append_drop 24 words1, List.all_append, w_t1, w_t2]
  rfl
set_option maxRecDepth 65536 in
theorem w_case : (Jvm.Cond.and given_1 narrow_1).before args0 about1 = true := by decide +kernel
theorem w_applies : (headSpec (Jvm.Cond.code x code maxLocals ret :: tables_1) room_1).applies x e0.platform about1 = true :=
  (Spec.applies_iff w_frames).mpr ⟨w_running, w_runnable, w_alone, w_named, w_hears, w_ripe, w_room, w_tables⟩
theorem atStart : AtStart classFile x code maxLocals ret World_1 tables_1 room_1 Calls_1 rest_1 Pre_1 launch0 p0 e0 about1 theMethod args0 below0 :=
  ⟨lists_1, trivial, launch0.admits_env _ _ _, launch0.least_env, fairChoices_fair.cas, fairChoices_fair.clock, w_frames, w_args, w_heap, w_applies, trivial, trivial, w_case⟩
end start1
theorem witness_1 : WitnessClaimed_1 := ⟨start1.p0, start1.e0, start1.about1, start1.theMethod, start1.args0, start1.below0, start1.atStart⟩
end Jvm.Pilot.@@N@@
