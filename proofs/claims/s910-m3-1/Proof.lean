import JvmDerived
import JvmDerived.Pilot.@@N@@Statement
import JvmDerived.Pilot.@@N@@Code
set_option linter.unusedVariables false
set_option linter.unusedSimpArgs false
namespace Jvm.Pilot.@@N@@
open Jvm Jvm.ClassFile Sem Op Lib Jvm.Free Jvm.Stand Jvm.LawKit Jvm.RoadKit Bundle Jvm.Pilot.@@N@@.Jvm.D
section Own
variable {p : Program} {l : Launch} {e : Env} {R : Room} {s : State} {m : MethodId} {args : Array Value} {below : List Frame} {meth : Method} {c : Code} {T : State} {locs : List Loc} {cells slots : Nat} {Z : State} {a0 : Array Value} {h : Heap} {Q : Outcome → State → Prop}
/-- the run from A comes to an end that Q takes -/
def own_G (p : Program) (e : Env) (below : List Frame) (Q : Outcome → State → Prop) (A : State) : Prop :=
  ∃ s₂ o, Steps p.tables e below A s₂ ∧ s₂.status = .running ∧ Ended s₂ below o ∧ Q o s₂
theorem own_go {A B : State} (k : ∀ t, Steps p.tables e below B t → Steps p.tables e below A t) (hB : own_G p e below Q B) : own_G p e below Q A := by
  obtain ⟨s₂, o, h1, h2⟩ := hB
  exact ⟨s₂, o, k _ h1, h2⟩
theorem own_ret (X : Stand p l e R s m args below meth c T locs cells slots) (hlk : meth.locks = false) {v : Option Value} (hv : meth.sig.returnType = none → v = none) {A : State}
    (hst : ∀ fs, (∀ (f : JFrame) (acts : List Action), f.method = m → f.locked = none → f.entered = [] → (doReturn e (T.setTop f) acts v).1 = T.setFrames fs) → Steps p.tables e below A (T.setFrames fs))
    (hQ : ∀ U : State, U.heap = T.heap → FrameEnd s (.returned v) U locs cells slots → Q (.returned v) U) : own_G p e below Q A := by
  obtain ⟨fs, hr, hrun, hended, hW, hsame⟩ := X.leave (v := v) hv hlk
  exact ⟨_, _, hst fs hr, hrun, hended, hQ _ rfl ⟨⟨_, rfl⟩, hW, hsame⟩⟩
/-- ireturn of a boolean, byte, char or short -/
theorem own_retN (X : Stand p l e R s m args below meth c T locs cells slots) (hx : p.tables.exec = Jvm.exec) (hlk : meth.locks = false) {t : FieldType} (ht : t = .boolean ∨ t = .byte ∨ t = .char ∨ t = .short) {pc : Nat} {Ls : Array Slot} {z : Int32} {rest : List Value}
    (hret : meth.sig.returnType = some t) (hd : decode c.code pc = .ok (.ireturn, 1)) {w : Int32} (hw : nar t z = w)
    (hQ : ∀ U : State, U.heap = T.heap → FrameEnd s (.returned (some (.int w))) U locs cells slots → Q (.returned (some (.int w))) U) : own_G p e below Q (T.setTop (mkF m pc Ls (.int z :: rest))) := by
  subst hw
  exact own_ret X hlk (fun h => by rw [hret] at h; cases h) (fun fs hr => retN X hx hret ht hd hr) hQ
/-- ireturn of an int -/
theorem own_retI (X : Stand p l e R s m args below meth c T locs cells slots) (hx : p.tables.exec = Jvm.exec) (hlk : meth.locks = false) {pc : Nat} {Ls : Array Slot} {z : Int32} {rest : List Value}
    (hret : meth.sig.returnType = some .int) (hd : decode c.code pc = .ok (.ireturn, 1))
    (hQ : ∀ U : State, U.heap = T.heap → FrameEnd s (.returned (some (.int z))) U locs cells slots → Q (.returned (some (.int z))) U) : own_G p e below Q (T.setTop (mkF m pc Ls (.int z :: rest))) :=
  own_ret X hlk (fun h => by rw [hret] at h; cases h) (fun fs hr => retOut X hx hret rfl (Or.inl ⟨rfl, Or.inl rfl, _, rfl⟩) hd hr) hQ
/-- areturn -/
theorem own_retR (X : Stand p l e R s m args below meth c T locs cells slots) (hx : p.tables.exec = Jvm.exec) (hlk : meth.locks = false) {t : FieldType} (ht : t.isReference = true) {pc : Nat} {Ls : Array Slot} {w : Value} (hr : w.isRef = true) (hn : narrow t w = w) {rest : List Value}
    (hret : meth.sig.returnType = some t) (hd : decode c.code pc = .ok (.areturn, 1))
    (hQ : ∀ U : State, U.heap = T.heap → FrameEnd s (.returned (some w)) U locs cells slots → Q (.returned (some w)) U) : own_G p e below Q (T.setTop (mkF m pc Ls (w :: rest))) :=
  own_ret X hlk (fun h => by rw [hret] at h; cases h) (fun fs hr' => retOut X hx hret hn (Or.inr (Or.inr (Or.inr (Or.inr ⟨rfl, ht, hr⟩)))) hd hr') hQ
/-- return of nothing -/
theorem own_retV (X : Stand p l e R s m args below meth c T locs cells slots) (hx : p.tables.exec = Jvm.exec) (hlk : meth.locks = false) {pc : Nat} {Ls : Array Slot}
    (hret : meth.sig.returnType = none) (hd : decode c.code pc = .ok (.return_, 1))
    (hQ : ∀ U : State, U.heap = T.heap → FrameEnd s (.returned none) U locs cells slots → Q (.returned none) U) : own_G p e below Q (T.setTop (mkF m pc Ls [])) :=
  own_ret X hlk (fun _ => rfl) (fun fs hr => X.returnOut hx hret hd hr) hQ
/-- a body's contract: called with as' over the heap h0 it returns, and QC says what -/
def own_C (l : Launch) (Z : State) (y : MethodName) (bytes : ByteArray) (maxL : Nat) (ret : Option FieldType) (ws : List Jvm.Cond) (rm : Room) (as' : Array Value) (h0 : Heap) (QC : Option Value → Heap → List Loc → Prop) : Prop :=
  MetFree l y (head1 (Jvm.Cond.code y bytes maxL ret :: ws) rm) (fun a U => a = as' ∧ Z.Warmed39 U.vm ∧ U.heap = h0) (fun _ _ _ _ _ => True) (fun _ U o U' => ∃ v L, o = .returned v ∧ QC v U'.heap L ∧ FrameEnd U o U' L rm.cells rm.slots)
theorem own_body {l : Launch} {Z : State} {y : MethodName} {bytes : ByteArray} {maxL : Nat} {ret : Option FieldType} {ws : List Jvm.Cond} {rm : Room} {as' : Array Value} {h0 : Heap} {QC : Option Value → Heap → List Loc → Prop}
    (hpn : plainName y.cls = true) {Ls : Array Slot} (hef : ∀ m, entryFrame m as' maxL = mkF m 0 Ls [])
    (H : ∀ (p : Program) (e : Env) (s : State) (m : MethodId) (below : List Frame) (meth : Method) (c : Code) (T : State) (Q : Outcome → State → Prop), p.tables.exec = Jvm.exec → c.code = bytes → c.maxLocals = maxL → s.vm.findClass y.cls = some m.cls → meth.name = y.name → meth.sig.returnType = ret → meth.locks = false → Z.Warmed39 s.vm → T.heap = h0 →
      Stand p l e rm s m as' below meth c T [] 0 0 →
      (∀ (v : Option Value) (L : List Loc) (k n : Nat) (U : State), QC v U.heap L → k ≤ rm.cells → n ≤ rm.slots → FrameEnd s (.returned v) U L k n → Q (.returned v) U) → own_G p e below Q (T.setTop (mkF m 0 Ls []))) :
    own_C l Z y bytes maxL ret ws rm as' h0 QC := by
  refine MetFree.of_bodySF (plainFor_of_name hpn) hisR ?_
  intro p e s m args below meth c s₁ Bd hml0 hP hK
  obtain ⟨ha, hZ, hh⟩ := hP
  subst ha
  have X0 : Stand p l e rm s m args below meth c s₁ [] 0 0 := Stand.of_body Bd
  have e0 : s₁.heap = h0 := by rw [← hh, Bd.state]; rfl
  obtain ⟨s₂, o, h1, h2, h3, h4⟩ := H p e s m below meth c s₁ (fun o U' => ∃ v L, o = .returned v ∧ QC v U'.heap L ∧ FrameEnd s o U' L rm.cells rm.slots) Bd.exec Bd.bytes hml0 (findClass_of_methodNamed Bd.named) (name_of_methodNamed Bd.named Bd.method).1 Bd.returns Bd.notSynchronized hZ e0 X0
    (fun v L k n U hq hk hn hF => ⟨v, L, rfl, hq, hF.1, hF.2.1, hF.2.2.mono hk hn⟩)
  exact ⟨s₂, o, castTop (hef m) h1, h2, h3, h4⟩
theorem own_callS (X : Stand p l e R s m args below meth c T locs cells slots) (hx : p.tables.exec = Jvm.exec) (hZ : Z.Warmed39 s.vm) {own : String} {index : Nat} {y : MethodName} {bytes : ByteArray} {maxL : Nat} {ret : Option FieldType} (hown : s.vm.findClass own = some m.cls)
    (w1 : (Jvm.Cond.methodLink own index y).before a0 Z = true) (w2 : (Jvm.Cond.static y).before a0 Z = true) (w3 : (Jvm.Cond.initialized y.cls).before a0 Z = true) (w4 : (Jvm.Cond.code y bytes maxL ret).before a0 Z = true)
    (hy : y.cls ≠ "java/lang/invoke/MethodHandle" ∧ y.cls ≠ "java/lang/invoke/VarHandle")
    {rm : Room} {argsL rest : List Value} {QC : Option Value → Heap → List Loc → Prop} (eT : T.heap = h) (hC : own_C l Z y bytes maxL ret [] rm argsL.toArray h QC)
    {pc : Nat} {Ls : Array Slot} {st : List Value} (hst : st = argsL.reverse ++ rest) (hml : Ls.size = c.maxLocals) {ps : List FieldType} {r : Option FieldType} (hpd : parseMethodDescriptor y.desc = some ⟨ps, r⟩) (hlen : argsL.length = ps.length)
    (hd : decode c.code pc = .ok (.invokestatic index, 3)) {W : Nat} (hW : (rest.map fun v => v.category).sum ≤ W) (hf : rm.frames + 1 ≤ R.frames) (hl : W + (maxL + 11) + rm.locals ≤ R.locals) (hcc : cells + rm.cells ≤ R.cells) (hss : slots + rm.slots ≤ R.slots)
    (K : ∀ (v : Option Value) (T' : State) (L : List Loc), Stand p l e R s m args below meth c T' (locs ++ L) (cells + rm.cells) (slots + rm.slots) → QC v T'.heap L → own_G p e below Q (T'.setTop (mkF m (pc + 3) Ls (v.toList ++ rest)))) :
    own_G p e below Q (T.setTop (mkF m pc Ls st)) := by
  subst hst
  obtain ⟨v, vm1, ⟨T', L', k', n'⟩, -, X', ⟨L, hQ, l1, y1, z1⟩, st'⟩ := Jvm.LawKit.callS X hx (y := y) hown (mvT hZ w1) (mvT hZ w2) (mvT hZ w3) (mvT hZ w4) hy (backOf (W := W) hC hZ w4 w3 hf hl) (g := mkF m pc Ls (argsL.reverse ++ rest)) rfl hml (argsL := argsL) (rest := rest) (lenOf hpd hlen) rfl
    (by show 2 * 0 + _ ≤ _; rw [Nat.mul_zero, Nat.zero_add]; exact hW) hd (fun vm hv => ⟨rfl, eT, hcc, hss⟩)
  dsimp only [Pt.U, Pt.locs, Pt.cells, Pt.slots] at X' l1 y1 z1 st' hQ
  subst l1 y1 z1
  exact own_go st' (K v T' L X' hQ)
theorem own_callV (X : Stand p l e R s m args below meth c T locs cells slots) (hx : p.tables.exec = Jvm.exec) (hZ : Z.Warmed39 s.vm) {own C : String} {index : Nat} {y : MethodName} {bytes : ByteArray} {maxL : Nat} {ret : Option FieldType} (hown : s.vm.findClass own = some m.cls)
    (w1 : (Jvm.Cond.methodLink own index y).before a0 Z = true) (w2 : (Jvm.Cond.declares y).before a0 Z = true) (w3 : (Jvm.Cond.selects C y y).before a0 Z = true) (w4 : (Jvm.Cond.instanceMethod y).before a0 Z = true) (w5 : (Jvm.Cond.code y bytes maxL ret).before a0 Z = true) (w6 : (Jvm.Cond.initialized y.cls).before a0 Z = true)
    (hy : y.cls ≠ "java/lang/invoke/MethodHandle" ∧ y.cls ≠ "java/lang/invoke/VarHandle")
    {rm : Room} {argsL rest : List Value} {QC : Option Value → Heap → List Loc → Prop} (eT : T.heap = h) {b : Addr} (E : Exa Z h b C) (hC : own_C l Z y bytes maxL ret [] rm (.ref b :: argsL).toArray h QC)
    {pc : Nat} {Ls : Array Slot} {st : List Value} (hst : st = argsL.reverse ++ .ref b :: rest) (hml : Ls.size = c.maxLocals) {ps : List FieldType} {r : Option FieldType} (hpd : parseMethodDescriptor y.desc = some ⟨ps, r⟩) (hlen : argsL.length = ps.length)
    (hd : decode c.code pc = .ok (.invokevirtual index, 3)) {W : Nat} (hW : (rest.map fun v => v.category).sum ≤ W) (hf : rm.frames + 1 ≤ R.frames) (hl : W + (maxL + 11) + rm.locals ≤ R.locals) (hcc : cells + rm.cells ≤ R.cells) (hss : slots + rm.slots ≤ R.slots)
    (K : ∀ (v : Option Value) (T' : State) (L : List Loc), Stand p l e R s m args below meth c T' (locs ++ L) (cells + rm.cells) (slots + rm.slots) → QC v T'.heap L → own_G p e below Q (T'.setTop (mkF m (pc + 3) Ls (v.toList ++ rest)))) :
    own_G p e below Q (T.setTop (mkF m pc Ls st)) := by
  subst hst
  obtain ⟨cq, kq, qa, qb, qc⟩ := isOf hZ eT E
  obtain ⟨v, vm1, ⟨T', L', k', n'⟩, -, X', ⟨L, hQ, l1, y1, z1⟩, st'⟩ := X.virtualBack hx (y := y) (z := y) hown (mvT hZ w1) (mvT hZ w2) (notFace_of_selects (args := #[]) (mvT hZ w3)) (mvT hZ w3) (mvT hZ w4) hy (backOf (W := W) hC hZ w5 w6 hf hl) qa qc (g := mkF m pc Ls (argsL.reverse ++ .ref b :: rest)) rfl hml (Steps.refl _) (argsL := argsL) (rest := rest) (lenOf hpd hlen) rfl
    (by show 2 * 0 + _ ≤ _; rw [Nat.mul_zero, Nat.zero_add]; exact hW) hd (fun vm hv => ⟨rfl, eT, hcc, hss⟩)
  dsimp only [Pt.U, Pt.locs, Pt.cells, Pt.slots] at X' l1 y1 z1 st' hQ
  subst l1 y1 z1
  exact own_go (fun t k => st'.trans k) (K v T' L X' hQ)
theorem own_getS (X : Stand p l e R s m args below meth c T locs cells slots) (hx : p.tables.exec = Jvm.exec) (hZ : Z.Warmed39 s.vm) {own O n d : String} {index : Nat} (hown : s.vm.findClass own = some m.cls) (w : (Jvm.Cond.fieldLink own index O n d).before a0 Z = true) (eT : T.heap = h) {v : Value} (F : Sta Z h O n d v)
    {pc : Nat} {Ls : Array Slot} {st : List Value} (hd : decode c.code pc = .ok (.getstatic index, 3))
    (K : ∀ T' : State, Stand p l e R s m args below meth c T' locs cells slots → T'.heap = h → own_G p e below Q (T'.setTop (mkF m (pc + 3) Ls (v :: st)))) : own_G p e below Q (T.setTop (mkF m pc Ls st)) := by
  obtain ⟨T', X', e', st'⟩ := getS2 X hx hZ hown (host := "") (Or.inl w) Via.refl eT F (g := mkF m pc Ls st) rfl hd
  exact own_go st' (K T' X' e')
theorem own_getF (X : Stand p l e R s m args below meth c T locs cells slots) (hx : p.tables.exec = Jvm.exec) (hZ : Z.Warmed39 s.vm) {own O n d : String} {index : Nat} (hown : s.vm.findClass own = some m.cls) (w : (Jvm.Cond.fieldLink own index O n d).before a0 Z = true) (eT : T.heap = h) {a : Addr} {v : Value} (F : Fld Z h a O n d v)
    {pc : Nat} {Ls : Array Slot} {st : List Value} (hd : decode c.code pc = .ok (.getfield index, 3))
    (K : ∀ T' : State, Stand p l e R s m args below meth c T' locs cells slots → T'.heap = h → own_G p e below Q (T'.setTop (mkF m (pc + 3) Ls (v :: st)))) : own_G p e below Q (T.setTop (mkF m pc Ls (.ref a :: st))) := by
  obtain ⟨T', X', e', st'⟩ := getF X hx hZ hown (host := "") (Or.inl w) Via.refl eT F (g := mkF m pc Ls (.ref a :: st)) rfl rfl hd
  exact own_go st' (K T' X' e')
/-- a body that changes nothing returns v -/
def own_P (v : Value) (h0 : Heap) (v' : Option Value) (h : Heap) (L : List Loc) : Prop := v' = some v ∧ h = h0 ∧ L = []
/-- a static call of a body that changes nothing -/
theorem own_callSP (X : Stand p l e R s m args below meth c T locs cells slots) (hx : p.tables.exec = Jvm.exec) (hZ : Z.Warmed39 s.vm) {own : String} {index : Nat} {y : MethodName} {bytes : ByteArray} {maxL : Nat} {ret : Option FieldType} (hown : s.vm.findClass own = some m.cls)
    (w1 : (Jvm.Cond.methodLink own index y).before a0 Z = true) (w2 : (Jvm.Cond.static y).before a0 Z = true) (w3 : (Jvm.Cond.initialized y.cls).before a0 Z = true) (w4 : (Jvm.Cond.code y bytes maxL ret).before a0 Z = true)
    (hy : y.cls ≠ "java/lang/invoke/MethodHandle" ∧ y.cls ≠ "java/lang/invoke/VarHandle")
    {fr lo : Nat} {argsL rest : List Value} {v : Value} (eT : T.heap = h) (hC : own_C l Z y bytes maxL ret [] ({ frames := fr, cells := 0, slots := 0, locals := lo } : Room) argsL.toArray h (own_P v h))
    {pc : Nat} {Ls : Array Slot} {st : List Value} (hst : st = argsL.reverse ++ rest) (hml : Ls.size = c.maxLocals) {ps : List FieldType} {r : Option FieldType} (hpd : parseMethodDescriptor y.desc = some ⟨ps, r⟩) (hlen : argsL.length = ps.length)
    (hd : decode c.code pc = .ok (.invokestatic index, 3)) {W : Nat} (hW : (rest.map fun v => v.category).sum ≤ W) (hf : fr + 1 ≤ R.frames) (hl : W + (maxL + 11) + lo ≤ R.locals) (hcc : cells ≤ R.cells) (hss : slots ≤ R.slots)
    (K : ∀ T' : State, Stand p l e R s m args below meth c T' locs cells slots → T'.heap = h → own_G p e below Q (T'.setTop (mkF m (pc + 3) Ls (v :: rest)))) :
    own_G p e below Q (T.setTop (mkF m pc Ls st)) :=
  own_callS X hx hZ hown w1 w2 w3 w4 hy eT hC hst hml hpd hlen hd hW hf hl hcc hss fun v' T' L X' hq => by
    obtain ⟨rfl, e', rfl⟩ := hq
    rw [List.append_nil] at X'
    exact K T' X' e'
/-- a virtual call of a body that changes nothing -/
theorem own_callVP (X : Stand p l e R s m args below meth c T locs cells slots) (hx : p.tables.exec = Jvm.exec) (hZ : Z.Warmed39 s.vm) {own C : String} {index : Nat} {y : MethodName} {bytes : ByteArray} {maxL : Nat} {ret : Option FieldType} (hown : s.vm.findClass own = some m.cls)
    (w1 : (Jvm.Cond.methodLink own index y).before a0 Z = true) (w2 : (Jvm.Cond.declares y).before a0 Z = true) (w3 : (Jvm.Cond.selects C y y).before a0 Z = true) (w4 : (Jvm.Cond.instanceMethod y).before a0 Z = true) (w5 : (Jvm.Cond.code y bytes maxL ret).before a0 Z = true) (w6 : (Jvm.Cond.initialized y.cls).before a0 Z = true)
    (hy : y.cls ≠ "java/lang/invoke/MethodHandle" ∧ y.cls ≠ "java/lang/invoke/VarHandle")
    {fr lo : Nat} {argsL rest : List Value} {v : Value} (eT : T.heap = h) {b : Addr} (E : Exa Z h b C) (hC : own_C l Z y bytes maxL ret [] ({ frames := fr, cells := 0, slots := 0, locals := lo } : Room) (.ref b :: argsL).toArray h (own_P v h))
    {pc : Nat} {Ls : Array Slot} {st : List Value} (hst : st = argsL.reverse ++ .ref b :: rest) (hml : Ls.size = c.maxLocals) {ps : List FieldType} {r : Option FieldType} (hpd : parseMethodDescriptor y.desc = some ⟨ps, r⟩) (hlen : argsL.length = ps.length)
    (hd : decode c.code pc = .ok (.invokevirtual index, 3)) {W : Nat} (hW : (rest.map fun v => v.category).sum ≤ W) (hf : fr + 1 ≤ R.frames) (hl : W + (maxL + 11) + lo ≤ R.locals) (hcc : cells ≤ R.cells) (hss : slots ≤ R.slots)
    (K : ∀ T' : State, Stand p l e R s m args below meth c T' locs cells slots → T'.heap = h → own_G p e below Q (T'.setTop (mkF m (pc + 3) Ls (v :: rest)))) :
    own_G p e below Q (T.setTop (mkF m pc Ls st)) :=
  own_callV X hx hZ hown w1 w2 w3 w4 w5 w6 hy eT E hC hst hml hpd hlen hd hW hf hl hcc hss fun v' T' L X' hq => by
    obtain ⟨rfl, e', rfl⟩ := hq
    rw [List.append_nil] at X'
    exact K T' X' e'
/-- a static of exactly the class C, out of a case's words -/
theorem own_sta {t : Term} {C n d : String} (ht : t = .static C n d) {K : String} (hq : (Jvm.Cond.exactly t K).value a0 Z none Z [] = some true) (wi : (Jvm.Cond.initialized C).before a0 Z = true) (wl : (Jvm.Cond.laysStatic C n d).before a0 Z = true) :
    ∃ a : Addr, t.eval a0 Z none [] Z = some (.ref a) ∧ Sta Z Z.heap C n d (.ref a) ∧ Exa Z Z.heap a K := by
  subst ht
  obtain ⟨a, ev⟩ := exa_v hq
  exact ⟨a, ev, Sta.start ev (Or.inr ⟨wi, wl⟩), Exa.start ev hq⟩
theorem own_fld {t : Term} {a : Addr} {C n d : String} {k : Int32} (ev : t.eval a0 Z none [] Z = some (.ref a)) (hq : (Jvm.Cond.eq (.field t C n d) (.int k)).value a0 Z none Z [] = some true) : Fld Z Z.heap a C n d (.int k) := by
  obtain ⟨x, y, h1, h2, -, -⟩ := cmp_v (Or.inl hq)
  have h2' : y = .int k := (Option.some.inj ((Term.int_eval k).symm.trans h2)).symm
  subst h2'
  have hxy : x = .int k := by
    cases x <;> simp [Jvm.Cond.value, h1, h2] at hq ⊢
    exact hq
  subst hxy
  rw [fld_at ev] at h1
  exact Fld.start h1
theorem own_mod (k : Int32) (n : Nat) (hn : 0 < n) (hn2 : n < 2147483648) (y : Int32) (hy : y.toInt = (n : Int)) : ∃ i : Nat, i < n ∧ (k &&& (2147483647 : Int32)) % y = Int32.ofNat i := by
  have hm := c_mask k (2147483647 : Int32) 31 (by decide) (by decide)
  have h0 : 0 ≤ (k &&& (2147483647 : Int32)).toInt := by rw [hm]; omega
  have hr := (c_irem (k &&& (2147483647 : Int32)) y n hy).1 h0
  have h1 : 0 ≤ ((k &&& (2147483647 : Int32)) % y).toInt ∧ ((k &&& (2147483647 : Int32)) % y).toInt < n := by rw [hr]; exact ⟨Int.emod_nonneg _ (by omega), Int.emod_lt_of_pos _ (by omega)⟩
  generalize (k &&& (2147483647 : Int32)) % y = z at h1
  refine ⟨z.toInt.toNat, by omega, ?_⟩
  apply Int32.toInt_inj.mp
  rw [Int32.toInt_ofNat_small (by omega)]
  omega
end Own
/-- the constants lie at ad 0, ad 1, .. -/
def own_St (Z : State) (ad : Nat → Addr) : Prop := Sta Z Z.heap "com/example/stylewright/stylewright/AtomicType" "ANY_ATOMIC" "Lcom/example/stylewright/stylewright/AtomicType;" (.ref (ad 0)) ∧ Sta Z Z.heap "com/example/stylewright/stylewright/AtomicType" "UNTYPED_ATOMIC" "Lcom/example/stylewright/stylewright/AtomicType;" (.ref (ad 1)) ∧ Sta Z Z.heap "com/example/stylewright/stylewright/AtomicType" "STRING" "Lcom/example/stylewright/stylewright/AtomicType;" (.ref (ad 2)) ∧ Sta Z Z.heap "com/example/stylewright/stylewright/AtomicType" "ANY_URI" "Lcom/example/stylewright/stylewright/AtomicType;" (.ref (ad 3)) ∧ Sta Z Z.heap "com/example/stylewright/stylewright/AtomicType" "BOOLEAN" "Lcom/example/stylewright/stylewright/AtomicType;" (.ref (ad 4)) ∧ Sta Z Z.heap "com/example/stylewright/stylewright/AtomicType" "NUMERIC" "Lcom/example/stylewright/stylewright/AtomicType;" (.ref (ad 5)) ∧ Sta Z Z.heap "com/example/stylewright/stylewright/AtomicType" "DECIMAL" "Lcom/example/stylewright/stylewright/AtomicType;" (.ref (ad 6)) ∧ Sta Z Z.heap "com/example/stylewright/stylewright/AtomicType" "INTEGER" "Lcom/example/stylewright/stylewright/AtomicType;" (.ref (ad 7)) ∧ Sta Z Z.heap "com/example/stylewright/stylewright/AtomicType" "FLOAT" "Lcom/example/stylewright/stylewright/AtomicType;" (.ref (ad 8)) ∧ Sta Z Z.heap "com/example/stylewright/stylewright/AtomicType" "DOUBLE" "Lcom/example/stylewright/stylewright/AtomicType;" (.ref (ad 9)) ∧ Sta Z Z.heap "com/example/stylewright/stylewright/AtomicType" "DATE" "Lcom/example/stylewright/stylewright/AtomicType;" (.ref (ad 10)) ∧ Sta Z Z.heap "com/example/stylewright/stylewright/AtomicType" "DATE_TIME" "Lcom/example/stylewright/stylewright/AtomicType;" (.ref (ad 11)) ∧ Sta Z Z.heap "com/example/stylewright/stylewright/AtomicType" "DAY_TIME_DURATION" "Lcom/example/stylewright/stylewright/AtomicType;" (.ref (ad 12)) ∧ Sta Z Z.heap "com/example/stylewright/stylewright/AtomicType" "QNAME" "Lcom/example/stylewright/stylewright/AtomicType;" (.ref (ad 13))
theorem dp_0 : decode method_2_code 0 = .ok (.iload_n 0, 1) := by decide +kernel
theorem dp_1 : decode method_2_code 1 = .ok (.ifCond .ne 7, 3) := by decide +kernel
theorem dp_4 : decode method_2_code 4 = .ok (.getstatic 7, 3) := by decide +kernel
theorem dp_7 : decode method_2_code 7 = .ok (.areturn, 1) := by decide +kernel
theorem dp_8 : decode method_2_code 8 = .ok (.iload_n 0, 1) := by decide +kernel
theorem dp_9 : decode method_2_code 9 = .ok (.iconst 1, 1) := by decide +kernel
theorem dp_10 : decode method_2_code 10 = .ok (.if_icmp .ne 7, 3) := by decide +kernel
theorem dp_13 : decode method_2_code 13 = .ok (.getstatic 13, 3) := by decide +kernel
theorem dp_16 : decode method_2_code 16 = .ok (.areturn, 1) := by decide +kernel
theorem dp_17 : decode method_2_code 17 = .ok (.iload_n 0, 1) := by decide +kernel
theorem dp_18 : decode method_2_code 18 = .ok (.iconst 2, 1) := by decide +kernel
theorem dp_19 : decode method_2_code 19 = .ok (.if_icmp .ne 7, 3) := by decide +kernel
theorem dp_22 : decode method_2_code 22 = .ok (.getstatic 16, 3) := by decide +kernel
theorem dp_25 : decode method_2_code 25 = .ok (.areturn, 1) := by decide +kernel
theorem dp_26 : decode method_2_code 26 = .ok (.iload_n 0, 1) := by decide +kernel
theorem dp_27 : decode method_2_code 27 = .ok (.iconst 3, 1) := by decide +kernel
theorem dp_28 : decode method_2_code 28 = .ok (.if_icmp .ne 7, 3) := by decide +kernel
theorem dp_31 : decode method_2_code 31 = .ok (.getstatic 19, 3) := by decide +kernel
theorem dp_34 : decode method_2_code 34 = .ok (.areturn, 1) := by decide +kernel
theorem dp_35 : decode method_2_code 35 = .ok (.iload_n 0, 1) := by decide +kernel
theorem dp_36 : decode method_2_code 36 = .ok (.iconst 4, 1) := by decide +kernel
theorem dp_37 : decode method_2_code 37 = .ok (.if_icmp .ne 7, 3) := by decide +kernel
theorem dp_40 : decode method_2_code 40 = .ok (.getstatic 22, 3) := by decide +kernel
theorem dp_43 : decode method_2_code 43 = .ok (.areturn, 1) := by decide +kernel
theorem dp_44 : decode method_2_code 44 = .ok (.iload_n 0, 1) := by decide +kernel
theorem dp_45 : decode method_2_code 45 = .ok (.iconst 5, 1) := by decide +kernel
theorem dp_46 : decode method_2_code 46 = .ok (.if_icmp .ne 7, 3) := by decide +kernel
theorem dp_49 : decode method_2_code 49 = .ok (.getstatic 25, 3) := by decide +kernel
theorem dp_52 : decode method_2_code 52 = .ok (.areturn, 1) := by decide +kernel
theorem dp_53 : decode method_2_code 53 = .ok (.iload_n 0, 1) := by decide +kernel
theorem dp_54 : decode method_2_code 54 = .ok (.bipush 6, 2) := by decide +kernel
theorem dp_56 : decode method_2_code 56 = .ok (.if_icmp .ne 7, 3) := by decide +kernel
theorem dp_59 : decode method_2_code 59 = .ok (.getstatic 28, 3) := by decide +kernel
theorem dp_62 : decode method_2_code 62 = .ok (.areturn, 1) := by decide +kernel
theorem dp_63 : decode method_2_code 63 = .ok (.iload_n 0, 1) := by decide +kernel
theorem dp_64 : decode method_2_code 64 = .ok (.bipush 7, 2) := by decide +kernel
theorem dp_66 : decode method_2_code 66 = .ok (.if_icmp .ne 7, 3) := by decide +kernel
theorem dp_69 : decode method_2_code 69 = .ok (.getstatic 31, 3) := by decide +kernel
theorem dp_72 : decode method_2_code 72 = .ok (.areturn, 1) := by decide +kernel
theorem dp_73 : decode method_2_code 73 = .ok (.iload_n 0, 1) := by decide +kernel
theorem dp_74 : decode method_2_code 74 = .ok (.bipush 8, 2) := by decide +kernel
theorem dp_76 : decode method_2_code 76 = .ok (.if_icmp .ne 7, 3) := by decide +kernel
theorem dp_79 : decode method_2_code 79 = .ok (.getstatic 34, 3) := by decide +kernel
theorem dp_82 : decode method_2_code 82 = .ok (.areturn, 1) := by decide +kernel
theorem dp_83 : decode method_2_code 83 = .ok (.iload_n 0, 1) := by decide +kernel
theorem dp_84 : decode method_2_code 84 = .ok (.bipush 9, 2) := by decide +kernel
theorem dp_86 : decode method_2_code 86 = .ok (.if_icmp .ne 7, 3) := by decide +kernel
theorem dp_89 : decode method_2_code 89 = .ok (.getstatic 37, 3) := by decide +kernel
theorem dp_92 : decode method_2_code 92 = .ok (.areturn, 1) := by decide +kernel
theorem dp_93 : decode method_2_code 93 = .ok (.iload_n 0, 1) := by decide +kernel
theorem dp_94 : decode method_2_code 94 = .ok (.bipush 10, 2) := by decide +kernel
theorem dp_96 : decode method_2_code 96 = .ok (.if_icmp .ne 7, 3) := by decide +kernel
theorem dp_99 : decode method_2_code 99 = .ok (.getstatic 40, 3) := by decide +kernel
theorem dp_102 : decode method_2_code 102 = .ok (.areturn, 1) := by decide +kernel
theorem dp_103 : decode method_2_code 103 = .ok (.iload_n 0, 1) := by decide +kernel
theorem dp_104 : decode method_2_code 104 = .ok (.bipush 11, 2) := by decide +kernel
theorem dp_106 : decode method_2_code 106 = .ok (.if_icmp .ne 7, 3) := by decide +kernel
theorem dp_109 : decode method_2_code 109 = .ok (.getstatic 43, 3) := by decide +kernel
theorem dp_112 : decode method_2_code 112 = .ok (.areturn, 1) := by decide +kernel
theorem dp_113 : decode method_2_code 113 = .ok (.iload_n 0, 1) := by decide +kernel
theorem dp_114 : decode method_2_code 114 = .ok (.bipush 12, 2) := by decide +kernel
theorem dp_116 : decode method_2_code 116 = .ok (.if_icmp .ne 7, 3) := by decide +kernel
theorem dp_119 : decode method_2_code 119 = .ok (.getstatic 46, 3) := by decide +kernel
theorem dp_122 : decode method_2_code 122 = .ok (.areturn, 1) := by decide +kernel
theorem dp_123 : decode method_2_code 123 = .ok (.getstatic 49, 3) := by decide +kernel
theorem dp_126 : decode method_2_code 126 = .ok (.areturn, 1) := by decide +kernel
theorem dc_0 : decode prog_5_method_6_code 0 = .ok (.aload_n 0, 1) := by decide +kernel
theorem dc_1 : decode prog_5_method_6_code 1 = .ok (.getstatic 3, 3) := by decide +kernel
theorem dc_4 : decode prog_5_method_6_code 4 = .ok (.if_acmp .eq 14, 3) := by decide +kernel
theorem dc_7 : decode prog_5_method_6_code 7 = .ok (.aload_n 0, 1) := by decide +kernel
theorem dc_8 : decode prog_5_method_6_code 8 = .ok (.getstatic 19, 3) := by decide +kernel
theorem dc_11 : decode prog_5_method_6_code 11 = .ok (.if_acmp .eq 7, 3) := by decide +kernel
theorem dc_14 : decode prog_5_method_6_code 14 = .ok (.iconst 1, 1) := by decide +kernel
theorem dc_15 : decode prog_5_method_6_code 15 = .ok (.goto 4, 3) := by decide +kernel
theorem dc_18 : decode prog_5_method_6_code 18 = .ok (.iconst 0, 1) := by decide +kernel
theorem dc_19 : decode prog_5_method_6_code 19 = .ok (.ireturn, 1) := by decide +kernel
theorem de_0 : decode method_3_code 0 = .ok (.iload_n 0, 1) := by decide +kernel
theorem de_1 : decode method_3_code 1 = .ok (.ifCond .ne 5, 3) := by decide +kernel
theorem de_4 : decode method_3_code 4 = .ok (.iconst 0, 1) := by decide +kernel
theorem de_5 : decode method_3_code 5 = .ok (.ireturn, 1) := by decide +kernel
theorem de_6 : decode method_3_code 6 = .ok (.iload_n 0, 1) := by decide +kernel
theorem de_7 : decode method_3_code 7 = .ok (.iconst 5, 1) := by decide +kernel
theorem de_8 : decode method_3_code 8 = .ok (.if_icmp .ne 5, 3) := by decide +kernel
theorem de_11 : decode method_3_code 11 = .ok (.iconst 0, 1) := by decide +kernel
theorem de_12 : decode method_3_code 12 = .ok (.ireturn, 1) := by decide +kernel
theorem de_13 : decode method_3_code 13 = .ok (.iconst 1, 1) := by decide +kernel
theorem de_14 : decode method_3_code 14 = .ok (.ireturn, 1) := by decide +kernel
theorem pn_l : plainName "com/example/stylewright/stylewright/AtomicTypeIsConcretePinLaw" = true := by first | (simp [plainName, overriddenIn]; done) | decide +kernel
theorem pn_c : plainName "com/example/stylewright/stylewright/AtomicType" = true := by first | (simp [plainName, overriddenIn]; done) | decide +kernel
theorem pd_p : parseMethodDescriptor "(I)Lcom/example/stylewright/stylewright/AtomicType;" = some ⟨[.int], some (.object "com/example/stylewright/stylewright/AtomicType")⟩ := by decide +kernel
theorem pd_c : parseMethodDescriptor "()Z" = some ⟨[], some .boolean⟩ := by decide +kernel
theorem pd_e : parseMethodDescriptor "(I)Z" = some ⟨[.int], some .boolean⟩ := by decide +kernel
theorem ef_p (m : MethodId) (x0 : Int32) : entryFrame m #[(.int x0)] 1 = mkF m 0 #[.val (.int x0)] [] := by first | (simp [entryFrame, mkF, argsToLocals, Value.category, maxLocals]; done) | rfl
theorem ef_c (m : MethodId) (x0 : Addr) : entryFrame m #[(.ref x0)] 1 = mkF m 0 #[.val (.ref x0)] [] := by first | (simp [entryFrame, mkF, argsToLocals, Value.category, maxLocals]; done) | rfl
theorem ef_0 (m : MethodId) (x0 : Int32) : entryFrame m #[(.int x0)] maxLocals = mkF m 0 #[.val (.int x0), .unset, .unset] [] := by first | (simp [entryFrame, mkF, argsToLocals, Value.category, maxLocals]; done) | rfl
set_option maxRecDepth 65536 in
set_option maxHeartbeats 40000000 in
theorem own_pick (l : Launch) (Z : State) (a0 : Array Value) (hw : ∀ d ∈ tables_1, d.before a0 Z = true) (ad : Nat → Addr) (hS : own_St Z ad) (h0 : Heap) (hO : Ext Z.heap h0) (i : Nat) (hi : i < 14) :
    own_C l Z (⟨"com/example/stylewright/stylewright/AtomicTypeIsConcretePinLaw", "pick", "(I)Lcom/example/stylewright/stylewright/AtomicType;"⟩ : MethodName) method_2_code 1 (some (.object "com/example/stylewright/stylewright/AtomicType")) [] ({ frames := 0, cells := 0, slots := 0, locals := 0 } : Room) #[.int (Int32.ofNat i)] h0 (own_P (.ref (ad i)) h0) := by
  refine own_body pn_l (fun m => ef_p m _) ?_
  intro p e s m below meth c T Q hx hby hml hown hnm hret hlk hZ e0 X0 hR
  obtain hi' : i = 0 ∨ i = 1 ∨ i = 2 ∨ i = 3 ∨ i = 4 ∨ i = 5 ∨ i = 6 ∨ i = 7 ∨ i = 8 ∨ i = 9 ∨ i = 10 ∨ i = 11 ∨ i = 12 ∨ i = 13 := by omega
  clear hi
  rcases hi' with rfl | rfl | rfl | rfl | rfl | rfl | rfl | rfl | rfl | rfl | rfl | rfl | rfl | rfl
  · show own_G p e below Q (T.setTop (mkF m 0 #[.val (.int (Int32.ofNat 0))] []))
    refine own_go (fun _ k => XS.iloadN X0.here hx rfl (hb hby dp_0) rfl  k) ?_
    show own_G p e below Q (T.setTop (mkF m 1 #[.val (.int (Int32.ofNat 0))] [(.int (Int32.ofNat 0))]))
    refine own_go (fun _ k => XS.ifNo X0.here hx rfl (hb hby dp_1) rfl ((if0 _ _).trans (teq (by decide : (Int32.ofNat 0) = (0 : Int32))).2) k) ?_
    show own_G p e below Q (T.setTop (mkF m 4 #[.val (.int (Int32.ofNat 0))] []))
    refine own_getS X0 hx hZ hown (hw _ (List.mem_of_getElem? (i := 5) rfl)) e0 (Sta.ext hO hS.1) (hb hby dp_4) ?_
    intro T1 X1 e1
    show own_G p e below Q (T1.setTop (mkF m 7 #[.val (.int (Int32.ofNat 0))] [(.ref (ad 0))]))
    exact own_retR X1 hx hlk rfl rfl rfl hret (hb hby dp_7) (fun U hU hF => hR _ _ _ _ _ ⟨rfl, hU.trans e1, rfl⟩ (by decide) (by decide) hF)
  · show own_G p e below Q (T.setTop (mkF m 0 #[.val (.int (Int32.ofNat 1))] []))
    refine own_go (fun _ k => XS.iloadN X0.here hx rfl (hb hby dp_0) rfl  k) ?_
    show own_G p e below Q (T.setTop (mkF m 1 #[.val (.int (Int32.ofNat 1))] [(.int (Int32.ofNat 1))]))
    refine own_go (fun _ k => XS.ifYes X0.here hx rfl (pc0 := 1) (pc' := 8) rfl (hb hby dp_1) rfl ((if0 _ _).trans (feq (by decide : ¬ ((Int32.ofNat 1) = (0 : Int32)))).2) (by decide) (by decide) k) ?_
    show own_G p e below Q (T.setTop (mkF m 8 #[.val (.int (Int32.ofNat 1))] []))
    refine own_go (fun _ k => XS.iloadN X0.here hx rfl (hb hby dp_8) rfl  k) ?_
    show own_G p e below Q (T.setTop (mkF m 9 #[.val (.int (Int32.ofNat 1))] [(.int (Int32.ofNat 1))]))
    refine own_go (fun _ k => XS.iconst X0.here hx rfl (hb hby dp_9) k) ?_
    show own_G p e below Q (T.setTop (mkF m 10 #[.val (.int (Int32.ofNat 1))] [(.int (1 : Int32)), (.int (Int32.ofNat 1))]))
    refine own_go (fun _ k => XS.icmpNo X0.here hx rfl (hb hby dp_10) rfl (teq (by decide : (Int32.ofNat 1) = (1 : Int32))).2 k) ?_
    show own_G p e below Q (T.setTop (mkF m 13 #[.val (.int (Int32.ofNat 1))] []))
    refine own_getS X0 hx hZ hown (hw _ (List.mem_of_getElem? (i := 37) rfl)) e0 (Sta.ext hO hS.2.1) (hb hby dp_13) ?_
    intro T2 X2 e2
    show own_G p e below Q (T2.setTop (mkF m 16 #[.val (.int (Int32.ofNat 1))] [(.ref (ad 1))]))
    exact own_retR X2 hx hlk rfl rfl rfl hret (hb hby dp_16) (fun U hU hF => hR _ _ _ _ _ ⟨rfl, hU.trans e2, rfl⟩ (by decide) (by decide) hF)
  · show own_G p e below Q (T.setTop (mkF m 0 #[.val (.int (Int32.ofNat 2))] []))
    refine own_go (fun _ k => XS.iloadN X0.here hx rfl (hb hby dp_0) rfl  k) ?_
    show own_G p e below Q (T.setTop (mkF m 1 #[.val (.int (Int32.ofNat 2))] [(.int (Int32.ofNat 2))]))
    refine own_go (fun _ k => XS.ifYes X0.here hx rfl (pc0 := 1) (pc' := 8) rfl (hb hby dp_1) rfl ((if0 _ _).trans (feq (by decide : ¬ ((Int32.ofNat 2) = (0 : Int32)))).2) (by decide) (by decide) k) ?_
    show own_G p e below Q (T.setTop (mkF m 8 #[.val (.int (Int32.ofNat 2))] []))
    refine own_go (fun _ k => XS.iloadN X0.here hx rfl (hb hby dp_8) rfl  k) ?_
    show own_G p e below Q (T.setTop (mkF m 9 #[.val (.int (Int32.ofNat 2))] [(.int (Int32.ofNat 2))]))
    refine own_go (fun _ k => XS.iconst X0.here hx rfl (hb hby dp_9) k) ?_
    show own_G p e below Q (T.setTop (mkF m 10 #[.val (.int (Int32.ofNat 2))] [(.int (1 : Int32)), (.int (Int32.ofNat 2))]))
    refine own_go (fun _ k => XS.icmpYes X0.here hx rfl (pc0 := 10) (pc' := 17) rfl (hb hby dp_10) rfl (feq (by decide : ¬ ((Int32.ofNat 2) = (1 : Int32)))).2 (by decide) (by decide) k) ?_
    show own_G p e below Q (T.setTop (mkF m 17 #[.val (.int (Int32.ofNat 2))] []))
    refine own_go (fun _ k => XS.iloadN X0.here hx rfl (hb hby dp_17) rfl  k) ?_
    show own_G p e below Q (T.setTop (mkF m 18 #[.val (.int (Int32.ofNat 2))] [(.int (Int32.ofNat 2))]))
    refine own_go (fun _ k => XS.iconst X0.here hx rfl (hb hby dp_18) k) ?_
    show own_G p e below Q (T.setTop (mkF m 19 #[.val (.int (Int32.ofNat 2))] [(.int (2 : Int32)), (.int (Int32.ofNat 2))]))
    refine own_go (fun _ k => XS.icmpNo X0.here hx rfl (hb hby dp_19) rfl (teq (by decide : (Int32.ofNat 2) = (2 : Int32))).2 k) ?_
    show own_G p e below Q (T.setTop (mkF m 22 #[.val (.int (Int32.ofNat 2))] []))
    refine own_getS X0 hx hZ hown (hw _ (List.mem_of_getElem? (i := 29) rfl)) e0 (Sta.ext hO hS.2.2.1) (hb hby dp_22) ?_
    intro T3 X3 e3
    show own_G p e below Q (T3.setTop (mkF m 25 #[.val (.int (Int32.ofNat 2))] [(.ref (ad 2))]))
    exact own_retR X3 hx hlk rfl rfl rfl hret (hb hby dp_25) (fun U hU hF => hR _ _ _ _ _ ⟨rfl, hU.trans e3, rfl⟩ (by decide) (by decide) hF)
  · show own_G p e below Q (T.setTop (mkF m 0 #[.val (.int (Int32.ofNat 3))] []))
    refine own_go (fun _ k => XS.iloadN X0.here hx rfl (hb hby dp_0) rfl  k) ?_
    show own_G p e below Q (T.setTop (mkF m 1 #[.val (.int (Int32.ofNat 3))] [(.int (Int32.ofNat 3))]))
    refine own_go (fun _ k => XS.ifYes X0.here hx rfl (pc0 := 1) (pc' := 8) rfl (hb hby dp_1) rfl ((if0 _ _).trans (feq (by decide : ¬ ((Int32.ofNat 3) = (0 : Int32)))).2) (by decide) (by decide) k) ?_
    show own_G p e below Q (T.setTop (mkF m 8 #[.val (.int (Int32.ofNat 3))] []))
    refine own_go (fun _ k => XS.iloadN X0.here hx rfl (hb hby dp_8) rfl  k) ?_
    show own_G p e below Q (T.setTop (mkF m 9 #[.val (.int (Int32.ofNat 3))] [(.int (Int32.ofNat 3))]))
    refine own_go (fun _ k => XS.iconst X0.here hx rfl (hb hby dp_9) k) ?_
    show own_G p e below Q (T.setTop (mkF m 10 #[.val (.int (Int32.ofNat 3))] [(.int (1 : Int32)), (.int (Int32.ofNat 3))]))
    refine own_go (fun _ k => XS.icmpYes X0.here hx rfl (pc0 := 10) (pc' := 17) rfl (hb hby dp_10) rfl (feq (by decide : ¬ ((Int32.ofNat 3) = (1 : Int32)))).2 (by decide) (by decide) k) ?_
    show own_G p e below Q (T.setTop (mkF m 17 #[.val (.int (Int32.ofNat 3))] []))
    refine own_go (fun _ k => XS.iloadN X0.here hx rfl (hb hby dp_17) rfl  k) ?_
    show own_G p e below Q (T.setTop (mkF m 18 #[.val (.int (Int32.ofNat 3))] [(.int (Int32.ofNat 3))]))
    refine own_go (fun _ k => XS.iconst X0.here hx rfl (hb hby dp_18) k) ?_
    show own_G p e below Q (T.setTop (mkF m 19 #[.val (.int (Int32.ofNat 3))] [(.int (2 : Int32)), (.int (Int32.ofNat 3))]))
    refine own_go (fun _ k => XS.icmpYes X0.here hx rfl (pc0 := 19) (pc' := 26) rfl (hb hby dp_19) rfl (feq (by decide : ¬ ((Int32.ofNat 3) = (2 : Int32)))).2 (by decide) (by decide) k) ?_
    show own_G p e below Q (T.setTop (mkF m 26 #[.val (.int (Int32.ofNat 3))] []))
    refine own_go (fun _ k => XS.iloadN X0.here hx rfl (hb hby dp_26) rfl  k) ?_
    show own_G p e below Q (T.setTop (mkF m 27 #[.val (.int (Int32.ofNat 3))] [(.int (Int32.ofNat 3))]))
    refine own_go (fun _ k => XS.iconst X0.here hx rfl (hb hby dp_27) k) ?_
    show own_G p e below Q (T.setTop (mkF m 28 #[.val (.int (Int32.ofNat 3))] [(.int (3 : Int32)), (.int (Int32.ofNat 3))]))
    refine own_go (fun _ k => XS.icmpNo X0.here hx rfl (hb hby dp_28) rfl (teq (by decide : (Int32.ofNat 3) = (3 : Int32))).2 k) ?_
    show own_G p e below Q (T.setTop (mkF m 31 #[.val (.int (Int32.ofNat 3))] []))
    refine own_getS X0 hx hZ hown (hw _ (List.mem_of_getElem? (i := 17) rfl)) e0 (Sta.ext hO hS.2.2.2.1) (hb hby dp_31) ?_
    intro T4 X4 e4
    show own_G p e below Q (T4.setTop (mkF m 34 #[.val (.int (Int32.ofNat 3))] [(.ref (ad 3))]))
    exact own_retR X4 hx hlk rfl rfl rfl hret (hb hby dp_34) (fun U hU hF => hR _ _ _ _ _ ⟨rfl, hU.trans e4, rfl⟩ (by decide) (by decide) hF)
  · show own_G p e below Q (T.setTop (mkF m 0 #[.val (.int (Int32.ofNat 4))] []))
    refine own_go (fun _ k => XS.iloadN X0.here hx rfl (hb hby dp_0) rfl  k) ?_
    show own_G p e below Q (T.setTop (mkF m 1 #[.val (.int (Int32.ofNat 4))] [(.int (Int32.ofNat 4))]))
    refine own_go (fun _ k => XS.ifYes X0.here hx rfl (pc0 := 1) (pc' := 8) rfl (hb hby dp_1) rfl ((if0 _ _).trans (feq (by decide : ¬ ((Int32.ofNat 4) = (0 : Int32)))).2) (by decide) (by decide) k) ?_
    show own_G p e below Q (T.setTop (mkF m 8 #[.val (.int (Int32.ofNat 4))] []))
    refine own_go (fun _ k => XS.iloadN X0.here hx rfl (hb hby dp_8) rfl  k) ?_
    show own_G p e below Q (T.setTop (mkF m 9 #[.val (.int (Int32.ofNat 4))] [(.int (Int32.ofNat 4))]))
    refine own_go (fun _ k => XS.iconst X0.here hx rfl (hb hby dp_9) k) ?_
    show own_G p e below Q (T.setTop (mkF m 10 #[.val (.int (Int32.ofNat 4))] [(.int (1 : Int32)), (.int (Int32.ofNat 4))]))
    refine own_go (fun _ k => XS.icmpYes X0.here hx rfl (pc0 := 10) (pc' := 17) rfl (hb hby dp_10) rfl (feq (by decide : ¬ ((Int32.ofNat 4) = (1 : Int32)))).2 (by decide) (by decide) k) ?_
    show own_G p e below Q (T.setTop (mkF m 17 #[.val (.int (Int32.ofNat 4))] []))
    refine own_go (fun _ k => XS.iloadN X0.here hx rfl (hb hby dp_17) rfl  k) ?_
    show own_G p e below Q (T.setTop (mkF m 18 #[.val (.int (Int32.ofNat 4))] [(.int (Int32.ofNat 4))]))
    refine own_go (fun _ k => XS.iconst X0.here hx rfl (hb hby dp_18) k) ?_
    show own_G p e below Q (T.setTop (mkF m 19 #[.val (.int (Int32.ofNat 4))] [(.int (2 : Int32)), (.int (Int32.ofNat 4))]))
    refine own_go (fun _ k => XS.icmpYes X0.here hx rfl (pc0 := 19) (pc' := 26) rfl (hb hby dp_19) rfl (feq (by decide : ¬ ((Int32.ofNat 4) = (2 : Int32)))).2 (by decide) (by decide) k) ?_
    show own_G p e below Q (T.setTop (mkF m 26 #[.val (.int (Int32.ofNat 4))] []))
    refine own_go (fun _ k => XS.iloadN X0.here hx rfl (hb hby dp_26) rfl  k) ?_
    show own_G p e below Q (T.setTop (mkF m 27 #[.val (.int (Int32.ofNat 4))] [(.int (Int32.ofNat 4))]))
    refine own_go (fun _ k => XS.iconst X0.here hx rfl (hb hby dp_27) k) ?_
    show own_G p e below Q (T.setTop (mkF m 28 #[.val (.int (Int32.ofNat 4))] [(.int (3 : Int32)), (.int (Int32.ofNat 4))]))
    refine own_go (fun _ k => XS.icmpYes X0.here hx rfl (pc0 := 28) (pc' := 35) rfl (hb hby dp_28) rfl (feq (by decide : ¬ ((Int32.ofNat 4) = (3 : Int32)))).2 (by decide) (by decide) k) ?_
    show own_G p e below Q (T.setTop (mkF m 35 #[.val (.int (Int32.ofNat 4))] []))
    refine own_go (fun _ k => XS.iloadN X0.here hx rfl (hb hby dp_35) rfl  k) ?_
    show own_G p e below Q (T.setTop (mkF m 36 #[.val (.int (Int32.ofNat 4))] [(.int (Int32.ofNat 4))]))
    refine own_go (fun _ k => XS.iconst X0.here hx rfl (hb hby dp_36) k) ?_
    show own_G p e below Q (T.setTop (mkF m 37 #[.val (.int (Int32.ofNat 4))] [(.int (4 : Int32)), (.int (Int32.ofNat 4))]))
    refine own_go (fun _ k => XS.icmpNo X0.here hx rfl (hb hby dp_37) rfl (teq (by decide : (Int32.ofNat 4) = (4 : Int32))).2 k) ?_
    show own_G p e below Q (T.setTop (mkF m 40 #[.val (.int (Int32.ofNat 4))] []))
    refine own_getS X0 hx hZ hown (hw _ (List.mem_of_getElem? (i := 25) rfl)) e0 (Sta.ext hO hS.2.2.2.2.1) (hb hby dp_40) ?_
    intro T5 X5 e5
    show own_G p e below Q (T5.setTop (mkF m 43 #[.val (.int (Int32.ofNat 4))] [(.ref (ad 4))]))
    exact own_retR X5 hx hlk rfl rfl rfl hret (hb hby dp_43) (fun U hU hF => hR _ _ _ _ _ ⟨rfl, hU.trans e5, rfl⟩ (by decide) (by decide) hF)
  · show own_G p e below Q (T.setTop (mkF m 0 #[.val (.int (Int32.ofNat 5))] []))
    refine own_go (fun _ k => XS.iloadN X0.here hx rfl (hb hby dp_0) rfl  k) ?_
    show own_G p e below Q (T.setTop (mkF m 1 #[.val (.int (Int32.ofNat 5))] [(.int (Int32.ofNat 5))]))
    refine own_go (fun _ k => XS.ifYes X0.here hx rfl (pc0 := 1) (pc' := 8) rfl (hb hby dp_1) rfl ((if0 _ _).trans (feq (by decide : ¬ ((Int32.ofNat 5) = (0 : Int32)))).2) (by decide) (by decide) k) ?_
    show own_G p e below Q (T.setTop (mkF m 8 #[.val (.int (Int32.ofNat 5))] []))
    refine own_go (fun _ k => XS.iloadN X0.here hx rfl (hb hby dp_8) rfl  k) ?_
    show own_G p e below Q (T.setTop (mkF m 9 #[.val (.int (Int32.ofNat 5))] [(.int (Int32.ofNat 5))]))
    refine own_go (fun _ k => XS.iconst X0.here hx rfl (hb hby dp_9) k) ?_
    show own_G p e below Q (T.setTop (mkF m 10 #[.val (.int (Int32.ofNat 5))] [(.int (1 : Int32)), (.int (Int32.ofNat 5))]))
    refine own_go (fun _ k => XS.icmpYes X0.here hx rfl (pc0 := 10) (pc' := 17) rfl (hb hby dp_10) rfl (feq (by decide : ¬ ((Int32.ofNat 5) = (1 : Int32)))).2 (by decide) (by decide) k) ?_
    show own_G p e below Q (T.setTop (mkF m 17 #[.val (.int (Int32.ofNat 5))] []))
    refine own_go (fun _ k => XS.iloadN X0.here hx rfl (hb hby dp_17) rfl  k) ?_
    show own_G p e below Q (T.setTop (mkF m 18 #[.val (.int (Int32.ofNat 5))] [(.int (Int32.ofNat 5))]))
    refine own_go (fun _ k => XS.iconst X0.here hx rfl (hb hby dp_18) k) ?_
    show own_G p e below Q (T.setTop (mkF m 19 #[.val (.int (Int32.ofNat 5))] [(.int (2 : Int32)), (.int (Int32.ofNat 5))]))
    refine own_go (fun _ k => XS.icmpYes X0.here hx rfl (pc0 := 19) (pc' := 26) rfl (hb hby dp_19) rfl (feq (by decide : ¬ ((Int32.ofNat 5) = (2 : Int32)))).2 (by decide) (by decide) k) ?_
    show own_G p e below Q (T.setTop (mkF m 26 #[.val (.int (Int32.ofNat 5))] []))
    refine own_go (fun _ k => XS.iloadN X0.here hx rfl (hb hby dp_26) rfl  k) ?_
    show own_G p e below Q (T.setTop (mkF m 27 #[.val (.int (Int32.ofNat 5))] [(.int (Int32.ofNat 5))]))
    refine own_go (fun _ k => XS.iconst X0.here hx rfl (hb hby dp_27) k) ?_
    show own_G p e below Q (T.setTop (mkF m 28 #[.val (.int (Int32.ofNat 5))] [(.int (3 : Int32)), (.int (Int32.ofNat 5))]))
    refine own_go (fun _ k => XS.icmpYes X0.here hx rfl (pc0 := 28) (pc' := 35) rfl (hb hby dp_28) rfl (feq (by decide : ¬ ((Int32.ofNat 5) = (3 : Int32)))).2 (by decide) (by decide) k) ?_
    show own_G p e below Q (T.setTop (mkF m 35 #[.val (.int (Int32.ofNat 5))] []))
    refine own_go (fun _ k => XS.iloadN X0.here hx rfl (hb hby dp_35) rfl  k) ?_
    show own_G p e below Q (T.setTop (mkF m 36 #[.val (.int (Int32.ofNat 5))] [(.int (Int32.ofNat 5))]))
    refine own_go (fun _ k => XS.iconst X0.here hx rfl (hb hby dp_36) k) ?_
    show own_G p e below Q (T.setTop (mkF m 37 #[.val (.int (Int32.ofNat 5))] [(.int (4 : Int32)), (.int (Int32.ofNat 5))]))
    refine own_go (fun _ k => XS.icmpYes X0.here hx rfl (pc0 := 37) (pc' := 44) rfl (hb hby dp_37) rfl (feq (by decide : ¬ ((Int32.ofNat 5) = (4 : Int32)))).2 (by decide) (by decide) k) ?_
    show own_G p e below Q (T.setTop (mkF m 44 #[.val (.int (Int32.ofNat 5))] []))
    refine own_go (fun _ k => XS.iloadN X0.here hx rfl (hb hby dp_44) rfl  k) ?_
    show own_G p e below Q (T.setTop (mkF m 45 #[.val (.int (Int32.ofNat 5))] [(.int (Int32.ofNat 5))]))
    refine own_go (fun _ k => XS.iconst X0.here hx rfl (hb hby dp_45) k) ?_
    show own_G p e below Q (T.setTop (mkF m 46 #[.val (.int (Int32.ofNat 5))] [(.int (5 : Int32)), (.int (Int32.ofNat 5))]))
    refine own_go (fun _ k => XS.icmpNo X0.here hx rfl (hb hby dp_46) rfl (teq (by decide : (Int32.ofNat 5) = (5 : Int32))).2 k) ?_
    show own_G p e below Q (T.setTop (mkF m 49 #[.val (.int (Int32.ofNat 5))] []))
    refine own_getS X0 hx hZ hown (hw _ (List.mem_of_getElem? (i := 41) rfl)) e0 (Sta.ext hO hS.2.2.2.2.2.1) (hb hby dp_49) ?_
    intro T6 X6 e6
    show own_G p e below Q (T6.setTop (mkF m 52 #[.val (.int (Int32.ofNat 5))] [(.ref (ad 5))]))
    exact own_retR X6 hx hlk rfl rfl rfl hret (hb hby dp_52) (fun U hU hF => hR _ _ _ _ _ ⟨rfl, hU.trans e6, rfl⟩ (by decide) (by decide) hF)
  · show own_G p e below Q (T.setTop (mkF m 0 #[.val (.int (Int32.ofNat 6))] []))
    refine own_go (fun _ k => XS.iloadN X0.here hx rfl (hb hby dp_0) rfl  k) ?_
    show own_G p e below Q (T.setTop (mkF m 1 #[.val (.int (Int32.ofNat 6))] [(.int (Int32.ofNat 6))]))
    refine own_go (fun _ k => XS.ifYes X0.here hx rfl (pc0 := 1) (pc' := 8) rfl (hb hby dp_1) rfl ((if0 _ _).trans (feq (by decide : ¬ ((Int32.ofNat 6) = (0 : Int32)))).2) (by decide) (by decide) k) ?_
    show own_G p e below Q (T.setTop (mkF m 8 #[.val (.int (Int32.ofNat 6))] []))
    refine own_go (fun _ k => XS.iloadN X0.here hx rfl (hb hby dp_8) rfl  k) ?_
    show own_G p e below Q (T.setTop (mkF m 9 #[.val (.int (Int32.ofNat 6))] [(.int (Int32.ofNat 6))]))
    refine own_go (fun _ k => XS.iconst X0.here hx rfl (hb hby dp_9) k) ?_
    show own_G p e below Q (T.setTop (mkF m 10 #[.val (.int (Int32.ofNat 6))] [(.int (1 : Int32)), (.int (Int32.ofNat 6))]))
    refine own_go (fun _ k => XS.icmpYes X0.here hx rfl (pc0 := 10) (pc' := 17) rfl (hb hby dp_10) rfl (feq (by decide : ¬ ((Int32.ofNat 6) = (1 : Int32)))).2 (by decide) (by decide) k) ?_
    show own_G p e below Q (T.setTop (mkF m 17 #[.val (.int (Int32.ofNat 6))] []))
    refine own_go (fun _ k => XS.iloadN X0.here hx rfl (hb hby dp_17) rfl  k) ?_
    show own_G p e below Q (T.setTop (mkF m 18 #[.val (.int (Int32.ofNat 6))] [(.int (Int32.ofNat 6))]))
    refine own_go (fun _ k => XS.iconst X0.here hx rfl (hb hby dp_18) k) ?_
    show own_G p e below Q (T.setTop (mkF m 19 #[.val (.int (Int32.ofNat 6))] [(.int (2 : Int32)), (.int (Int32.ofNat 6))]))
    refine own_go (fun _ k => XS.icmpYes X0.here hx rfl (pc0 := 19) (pc' := 26) rfl (hb hby dp_19) rfl (feq (by decide : ¬ ((Int32.ofNat 6) = (2 : Int32)))).2 (by decide) (by decide) k) ?_
    show own_G p e below Q (T.setTop (mkF m 26 #[.val (.int (Int32.ofNat 6))] []))
    refine own_go (fun _ k => XS.iloadN X0.here hx rfl (hb hby dp_26) rfl  k) ?_
    show own_G p e below Q (T.setTop (mkF m 27 #[.val (.int (Int32.ofNat 6))] [(.int (Int32.ofNat 6))]))
    refine own_go (fun _ k => XS.iconst X0.here hx rfl (hb hby dp_27) k) ?_
    show own_G p e below Q (T.setTop (mkF m 28 #[.val (.int (Int32.ofNat 6))] [(.int (3 : Int32)), (.int (Int32.ofNat 6))]))
    refine own_go (fun _ k => XS.icmpYes X0.here hx rfl (pc0 := 28) (pc' := 35) rfl (hb hby dp_28) rfl (feq (by decide : ¬ ((Int32.ofNat 6) = (3 : Int32)))).2 (by decide) (by decide) k) ?_
    show own_G p e below Q (T.setTop (mkF m 35 #[.val (.int (Int32.ofNat 6))] []))
    refine own_go (fun _ k => XS.iloadN X0.here hx rfl (hb hby dp_35) rfl  k) ?_
    show own_G p e below Q (T.setTop (mkF m 36 #[.val (.int (Int32.ofNat 6))] [(.int (Int32.ofNat 6))]))
    refine own_go (fun _ k => XS.iconst X0.here hx rfl (hb hby dp_36) k) ?_
    show own_G p e below Q (T.setTop (mkF m 37 #[.val (.int (Int32.ofNat 6))] [(.int (4 : Int32)), (.int (Int32.ofNat 6))]))
    refine own_go (fun _ k => XS.icmpYes X0.here hx rfl (pc0 := 37) (pc' := 44) rfl (hb hby dp_37) rfl (feq (by decide : ¬ ((Int32.ofNat 6) = (4 : Int32)))).2 (by decide) (by decide) k) ?_
    show own_G p e below Q (T.setTop (mkF m 44 #[.val (.int (Int32.ofNat 6))] []))
    refine own_go (fun _ k => XS.iloadN X0.here hx rfl (hb hby dp_44) rfl  k) ?_
    show own_G p e below Q (T.setTop (mkF m 45 #[.val (.int (Int32.ofNat 6))] [(.int (Int32.ofNat 6))]))
    refine own_go (fun _ k => XS.iconst X0.here hx rfl (hb hby dp_45) k) ?_
    show own_G p e below Q (T.setTop (mkF m 46 #[.val (.int (Int32.ofNat 6))] [(.int (5 : Int32)), (.int (Int32.ofNat 6))]))
    refine own_go (fun _ k => XS.icmpYes X0.here hx rfl (pc0 := 46) (pc' := 53) rfl (hb hby dp_46) rfl (feq (by decide : ¬ ((Int32.ofNat 6) = (5 : Int32)))).2 (by decide) (by decide) k) ?_
    show own_G p e below Q (T.setTop (mkF m 53 #[.val (.int (Int32.ofNat 6))] []))
    refine own_go (fun _ k => XS.iloadN X0.here hx rfl (hb hby dp_53) rfl  k) ?_
    show own_G p e below Q (T.setTop (mkF m 54 #[.val (.int (Int32.ofNat 6))] [(.int (Int32.ofNat 6))]))
    refine own_go (fun _ k => XS.bipush X0.here hx rfl (hb hby dp_54) k) ?_
    show own_G p e below Q (T.setTop (mkF m 56 #[.val (.int (Int32.ofNat 6))] [(.int (6 : Int32)), (.int (Int32.ofNat 6))]))
    refine own_go (fun _ k => XS.icmpNo X0.here hx rfl (hb hby dp_56) rfl (teq (by decide : (Int32.ofNat 6) = (6 : Int32))).2 k) ?_
    show own_G p e below Q (T.setTop (mkF m 59 #[.val (.int (Int32.ofNat 6))] []))
    refine own_getS X0 hx hZ hown (hw _ (List.mem_of_getElem? (i := 42) rfl)) e0 (Sta.ext hO hS.2.2.2.2.2.2.1) (hb hby dp_59) ?_
    intro T7 X7 e7
    show own_G p e below Q (T7.setTop (mkF m 62 #[.val (.int (Int32.ofNat 6))] [(.ref (ad 6))]))
    exact own_retR X7 hx hlk rfl rfl rfl hret (hb hby dp_62) (fun U hU hF => hR _ _ _ _ _ ⟨rfl, hU.trans e7, rfl⟩ (by decide) (by decide) hF)
  · show own_G p e below Q (T.setTop (mkF m 0 #[.val (.int (Int32.ofNat 7))] []))
    refine own_go (fun _ k => XS.iloadN X0.here hx rfl (hb hby dp_0) rfl  k) ?_
    show own_G p e below Q (T.setTop (mkF m 1 #[.val (.int (Int32.ofNat 7))] [(.int (Int32.ofNat 7))]))
    refine own_go (fun _ k => XS.ifYes X0.here hx rfl (pc0 := 1) (pc' := 8) rfl (hb hby dp_1) rfl ((if0 _ _).trans (feq (by decide : ¬ ((Int32.ofNat 7) = (0 : Int32)))).2) (by decide) (by decide) k) ?_
    show own_G p e below Q (T.setTop (mkF m 8 #[.val (.int (Int32.ofNat 7))] []))
    refine own_go (fun _ k => XS.iloadN X0.here hx rfl (hb hby dp_8) rfl  k) ?_
    show own_G p e below Q (T.setTop (mkF m 9 #[.val (.int (Int32.ofNat 7))] [(.int (Int32.ofNat 7))]))
    refine own_go (fun _ k => XS.iconst X0.here hx rfl (hb hby dp_9) k) ?_
    show own_G p e below Q (T.setTop (mkF m 10 #[.val (.int (Int32.ofNat 7))] [(.int (1 : Int32)), (.int (Int32.ofNat 7))]))
    refine own_go (fun _ k => XS.icmpYes X0.here hx rfl (pc0 := 10) (pc' := 17) rfl (hb hby dp_10) rfl (feq (by decide : ¬ ((Int32.ofNat 7) = (1 : Int32)))).2 (by decide) (by decide) k) ?_
    show own_G p e below Q (T.setTop (mkF m 17 #[.val (.int (Int32.ofNat 7))] []))
    refine own_go (fun _ k => XS.iloadN X0.here hx rfl (hb hby dp_17) rfl  k) ?_
    show own_G p e below Q (T.setTop (mkF m 18 #[.val (.int (Int32.ofNat 7))] [(.int (Int32.ofNat 7))]))
    refine own_go (fun _ k => XS.iconst X0.here hx rfl (hb hby dp_18) k) ?_
    show own_G p e below Q (T.setTop (mkF m 19 #[.val (.int (Int32.ofNat 7))] [(.int (2 : Int32)), (.int (Int32.ofNat 7))]))
    refine own_go (fun _ k => XS.icmpYes X0.here hx rfl (pc0 := 19) (pc' := 26) rfl (hb hby dp_19) rfl (feq (by decide : ¬ ((Int32.ofNat 7) = (2 : Int32)))).2 (by decide) (by decide) k) ?_
    show own_G p e below Q (T.setTop (mkF m 26 #[.val (.int (Int32.ofNat 7))] []))
    refine own_go (fun _ k => XS.iloadN X0.here hx rfl (hb hby dp_26) rfl  k) ?_
    show own_G p e below Q (T.setTop (mkF m 27 #[.val (.int (Int32.ofNat 7))] [(.int (Int32.ofNat 7))]))
    refine own_go (fun _ k => XS.iconst X0.here hx rfl (hb hby dp_27) k) ?_
    show own_G p e below Q (T.setTop (mkF m 28 #[.val (.int (Int32.ofNat 7))] [(.int (3 : Int32)), (.int (Int32.ofNat 7))]))
    refine own_go (fun _ k => XS.icmpYes X0.here hx rfl (pc0 := 28) (pc' := 35) rfl (hb hby dp_28) rfl (feq (by decide : ¬ ((Int32.ofNat 7) = (3 : Int32)))).2 (by decide) (by decide) k) ?_
    show own_G p e below Q (T.setTop (mkF m 35 #[.val (.int (Int32.ofNat 7))] []))
    refine own_go (fun _ k => XS.iloadN X0.here hx rfl (hb hby dp_35) rfl  k) ?_
    show own_G p e below Q (T.setTop (mkF m 36 #[.val (.int (Int32.ofNat 7))] [(.int (Int32.ofNat 7))]))
    refine own_go (fun _ k => XS.iconst X0.here hx rfl (hb hby dp_36) k) ?_
    show own_G p e below Q (T.setTop (mkF m 37 #[.val (.int (Int32.ofNat 7))] [(.int (4 : Int32)), (.int (Int32.ofNat 7))]))
    refine own_go (fun _ k => XS.icmpYes X0.here hx rfl (pc0 := 37) (pc' := 44) rfl (hb hby dp_37) rfl (feq (by decide : ¬ ((Int32.ofNat 7) = (4 : Int32)))).2 (by decide) (by decide) k) ?_
    show own_G p e below Q (T.setTop (mkF m 44 #[.val (.int (Int32.ofNat 7))] []))
    refine own_go (fun _ k => XS.iloadN X0.here hx rfl (hb hby dp_44) rfl  k) ?_
    show own_G p e below Q (T.setTop (mkF m 45 #[.val (.int (Int32.ofNat 7))] [(.int (Int32.ofNat 7))]))
    refine own_go (fun _ k => XS.iconst X0.here hx rfl (hb hby dp_45) k) ?_
    show own_G p e below Q (T.setTop (mkF m 46 #[.val (.int (Int32.ofNat 7))] [(.int (5 : Int32)), (.int (Int32.ofNat 7))]))
    refine own_go (fun _ k => XS.icmpYes X0.here hx rfl (pc0 := 46) (pc' := 53) rfl (hb hby dp_46) rfl (feq (by decide : ¬ ((Int32.ofNat 7) = (5 : Int32)))).2 (by decide) (by decide) k) ?_
    show own_G p e below Q (T.setTop (mkF m 53 #[.val (.int (Int32.ofNat 7))] []))
    refine own_go (fun _ k => XS.iloadN X0.here hx rfl (hb hby dp_53) rfl  k) ?_
    show own_G p e below Q (T.setTop (mkF m 54 #[.val (.int (Int32.ofNat 7))] [(.int (Int32.ofNat 7))]))
    refine own_go (fun _ k => XS.bipush X0.here hx rfl (hb hby dp_54) k) ?_
    show own_G p e below Q (T.setTop (mkF m 56 #[.val (.int (Int32.ofNat 7))] [(.int (6 : Int32)), (.int (Int32.ofNat 7))]))
    refine own_go (fun _ k => XS.icmpYes X0.here hx rfl (pc0 := 56) (pc' := 63) rfl (hb hby dp_56) rfl (feq (by decide : ¬ ((Int32.ofNat 7) = (6 : Int32)))).2 (by decide) (by decide) k) ?_
    show own_G p e below Q (T.setTop (mkF m 63 #[.val (.int (Int32.ofNat 7))] []))
    refine own_go (fun _ k => XS.iloadN X0.here hx rfl (hb hby dp_63) rfl  k) ?_
    show own_G p e below Q (T.setTop (mkF m 64 #[.val (.int (Int32.ofNat 7))] [(.int (Int32.ofNat 7))]))
    refine own_go (fun _ k => XS.bipush X0.here hx rfl (hb hby dp_64) k) ?_
    show own_G p e below Q (T.setTop (mkF m 66 #[.val (.int (Int32.ofNat 7))] [(.int (7 : Int32)), (.int (Int32.ofNat 7))]))
    refine own_go (fun _ k => XS.icmpNo X0.here hx rfl (hb hby dp_66) rfl (teq (by decide : (Int32.ofNat 7) = (7 : Int32))).2 k) ?_
    show own_G p e below Q (T.setTop (mkF m 69 #[.val (.int (Int32.ofNat 7))] []))
    refine own_getS X0 hx hZ hown (hw _ (List.mem_of_getElem? (i := 27) rfl)) e0 (Sta.ext hO hS.2.2.2.2.2.2.2.1) (hb hby dp_69) ?_
    intro T8 X8 e8
    show own_G p e below Q (T8.setTop (mkF m 72 #[.val (.int (Int32.ofNat 7))] [(.ref (ad 7))]))
    exact own_retR X8 hx hlk rfl rfl rfl hret (hb hby dp_72) (fun U hU hF => hR _ _ _ _ _ ⟨rfl, hU.trans e8, rfl⟩ (by decide) (by decide) hF)
  · show own_G p e below Q (T.setTop (mkF m 0 #[.val (.int (Int32.ofNat 8))] []))
    refine own_go (fun _ k => XS.iloadN X0.here hx rfl (hb hby dp_0) rfl  k) ?_
    show own_G p e below Q (T.setTop (mkF m 1 #[.val (.int (Int32.ofNat 8))] [(.int (Int32.ofNat 8))]))
    refine own_go (fun _ k => XS.ifYes X0.here hx rfl (pc0 := 1) (pc' := 8) rfl (hb hby dp_1) rfl ((if0 _ _).trans (feq (by decide : ¬ ((Int32.ofNat 8) = (0 : Int32)))).2) (by decide) (by decide) k) ?_
    show own_G p e below Q (T.setTop (mkF m 8 #[.val (.int (Int32.ofNat 8))] []))
    refine own_go (fun _ k => XS.iloadN X0.here hx rfl (hb hby dp_8) rfl  k) ?_
    show own_G p e below Q (T.setTop (mkF m 9 #[.val (.int (Int32.ofNat 8))] [(.int (Int32.ofNat 8))]))
    refine own_go (fun _ k => XS.iconst X0.here hx rfl (hb hby dp_9) k) ?_
    show own_G p e below Q (T.setTop (mkF m 10 #[.val (.int (Int32.ofNat 8))] [(.int (1 : Int32)), (.int (Int32.ofNat 8))]))
    refine own_go (fun _ k => XS.icmpYes X0.here hx rfl (pc0 := 10) (pc' := 17) rfl (hb hby dp_10) rfl (feq (by decide : ¬ ((Int32.ofNat 8) = (1 : Int32)))).2 (by decide) (by decide) k) ?_
    show own_G p e below Q (T.setTop (mkF m 17 #[.val (.int (Int32.ofNat 8))] []))
    refine own_go (fun _ k => XS.iloadN X0.here hx rfl (hb hby dp_17) rfl  k) ?_
    show own_G p e below Q (T.setTop (mkF m 18 #[.val (.int (Int32.ofNat 8))] [(.int (Int32.ofNat 8))]))
    refine own_go (fun _ k => XS.iconst X0.here hx rfl (hb hby dp_18) k) ?_
    show own_G p e below Q (T.setTop (mkF m 19 #[.val (.int (Int32.ofNat 8))] [(.int (2 : Int32)), (.int (Int32.ofNat 8))]))
    refine own_go (fun _ k => XS.icmpYes X0.here hx rfl (pc0 := 19) (pc' := 26) rfl (hb hby dp_19) rfl (feq (by decide : ¬ ((Int32.ofNat 8) = (2 : Int32)))).2 (by decide) (by decide) k) ?_
    show own_G p e below Q (T.setTop (mkF m 26 #[.val (.int (Int32.ofNat 8))] []))
    refine own_go (fun _ k => XS.iloadN X0.here hx rfl (hb hby dp_26) rfl  k) ?_
    show own_G p e below Q (T.setTop (mkF m 27 #[.val (.int (Int32.ofNat 8))] [(.int (Int32.ofNat 8))]))
    refine own_go (fun _ k => XS.iconst X0.here hx rfl (hb hby dp_27) k) ?_
    show own_G p e below Q (T.setTop (mkF m 28 #[.val (.int (Int32.ofNat 8))] [(.int (3 : Int32)), (.int (Int32.ofNat 8))]))
    refine own_go (fun _ k => XS.icmpYes X0.here hx rfl (pc0 := 28) (pc' := 35) rfl (hb hby dp_28) rfl (feq (by decide : ¬ ((Int32.ofNat 8) = (3 : Int32)))).2 (by decide) (by decide) k) ?_
    show own_G p e below Q (T.setTop (mkF m 35 #[.val (.int (Int32.ofNat 8))] []))
    refine own_go (fun _ k => XS.iloadN X0.here hx rfl (hb hby dp_35) rfl  k) ?_
    show own_G p e below Q (T.setTop (mkF m 36 #[.val (.int (Int32.ofNat 8))] [(.int (Int32.ofNat 8))]))
    refine own_go (fun _ k => XS.iconst X0.here hx rfl (hb hby dp_36) k) ?_
    show own_G p e below Q (T.setTop (mkF m 37 #[.val (.int (Int32.ofNat 8))] [(.int (4 : Int32)), (.int (Int32.ofNat 8))]))
    refine own_go (fun _ k => XS.icmpYes X0.here hx rfl (pc0 := 37) (pc' := 44) rfl (hb hby dp_37) rfl (feq (by decide : ¬ ((Int32.ofNat 8) = (4 : Int32)))).2 (by decide) (by decide) k) ?_
    show own_G p e below Q (T.setTop (mkF m 44 #[.val (.int (Int32.ofNat 8))] []))
    refine own_go (fun _ k => XS.iloadN X0.here hx rfl (hb hby dp_44) rfl  k) ?_
    show own_G p e below Q (T.setTop (mkF m 45 #[.val (.int (Int32.ofNat 8))] [(.int (Int32.ofNat 8))]))
    refine own_go (fun _ k => XS.iconst X0.here hx rfl (hb hby dp_45) k) ?_
    show own_G p e below Q (T.setTop (mkF m 46 #[.val (.int (Int32.ofNat 8))] [(.int (5 : Int32)), (.int (Int32.ofNat 8))]))
    refine own_go (fun _ k => XS.icmpYes X0.here hx rfl (pc0 := 46) (pc' := 53) rfl (hb hby dp_46) rfl (feq (by decide : ¬ ((Int32.ofNat 8) = (5 : Int32)))).2 (by decide) (by decide) k) ?_
    show own_G p e below Q (T.setTop (mkF m 53 #[.val (.int (Int32.ofNat 8))] []))
    refine own_go (fun _ k => XS.iloadN X0.here hx rfl (hb hby dp_53) rfl  k) ?_
    show own_G p e below Q (T.setTop (mkF m 54 #[.val (.int (Int32.ofNat 8))] [(.int (Int32.ofNat 8))]))
    refine own_go (fun _ k => XS.bipush X0.here hx rfl (hb hby dp_54) k) ?_
    show own_G p e below Q (T.setTop (mkF m 56 #[.val (.int (Int32.ofNat 8))] [(.int (6 : Int32)), (.int (Int32.ofNat 8))]))
    refine own_go (fun _ k => XS.icmpYes X0.here hx rfl (pc0 := 56) (pc' := 63) rfl (hb hby dp_56) rfl (feq (by decide : ¬ ((Int32.ofNat 8) = (6 : Int32)))).2 (by decide) (by decide) k) ?_
    show own_G p e below Q (T.setTop (mkF m 63 #[.val (.int (Int32.ofNat 8))] []))
    refine own_go (fun _ k => XS.iloadN X0.here hx rfl (hb hby dp_63) rfl  k) ?_
    show own_G p e below Q (T.setTop (mkF m 64 #[.val (.int (Int32.ofNat 8))] [(.int (Int32.ofNat 8))]))
    refine own_go (fun _ k => XS.bipush X0.here hx rfl (hb hby dp_64) k) ?_
    show own_G p e below Q (T.setTop (mkF m 66 #[.val (.int (Int32.ofNat 8))] [(.int (7 : Int32)), (.int (Int32.ofNat 8))]))
    refine own_go (fun _ k => XS.icmpYes X0.here hx rfl (pc0 := 66) (pc' := 73) rfl (hb hby dp_66) rfl (feq (by decide : ¬ ((Int32.ofNat 8) = (7 : Int32)))).2 (by decide) (by decide) k) ?_
    show own_G p e below Q (T.setTop (mkF m 73 #[.val (.int (Int32.ofNat 8))] []))
    refine own_go (fun _ k => XS.iloadN X0.here hx rfl (hb hby dp_73) rfl  k) ?_
    show own_G p e below Q (T.setTop (mkF m 74 #[.val (.int (Int32.ofNat 8))] [(.int (Int32.ofNat 8))]))
    refine own_go (fun _ k => XS.bipush X0.here hx rfl (hb hby dp_74) k) ?_
    show own_G p e below Q (T.setTop (mkF m 76 #[.val (.int (Int32.ofNat 8))] [(.int (8 : Int32)), (.int (Int32.ofNat 8))]))
    refine own_go (fun _ k => XS.icmpNo X0.here hx rfl (hb hby dp_76) rfl (teq (by decide : (Int32.ofNat 8) = (8 : Int32))).2 k) ?_
    show own_G p e below Q (T.setTop (mkF m 79 #[.val (.int (Int32.ofNat 8))] []))
    refine own_getS X0 hx hZ hown (hw _ (List.mem_of_getElem? (i := 35) rfl)) e0 (Sta.ext hO hS.2.2.2.2.2.2.2.2.1) (hb hby dp_79) ?_
    intro T9 X9 e9
    show own_G p e below Q (T9.setTop (mkF m 82 #[.val (.int (Int32.ofNat 8))] [(.ref (ad 8))]))
    exact own_retR X9 hx hlk rfl rfl rfl hret (hb hby dp_82) (fun U hU hF => hR _ _ _ _ _ ⟨rfl, hU.trans e9, rfl⟩ (by decide) (by decide) hF)
  · show own_G p e below Q (T.setTop (mkF m 0 #[.val (.int (Int32.ofNat 9))] []))
    refine own_go (fun _ k => XS.iloadN X0.here hx rfl (hb hby dp_0) rfl  k) ?_
    show own_G p e below Q (T.setTop (mkF m 1 #[.val (.int (Int32.ofNat 9))] [(.int (Int32.ofNat 9))]))
    refine own_go (fun _ k => XS.ifYes X0.here hx rfl (pc0 := 1) (pc' := 8) rfl (hb hby dp_1) rfl ((if0 _ _).trans (feq (by decide : ¬ ((Int32.ofNat 9) = (0 : Int32)))).2) (by decide) (by decide) k) ?_
    show own_G p e below Q (T.setTop (mkF m 8 #[.val (.int (Int32.ofNat 9))] []))
    refine own_go (fun _ k => XS.iloadN X0.here hx rfl (hb hby dp_8) rfl  k) ?_
    show own_G p e below Q (T.setTop (mkF m 9 #[.val (.int (Int32.ofNat 9))] [(.int (Int32.ofNat 9))]))
    refine own_go (fun _ k => XS.iconst X0.here hx rfl (hb hby dp_9) k) ?_
    show own_G p e below Q (T.setTop (mkF m 10 #[.val (.int (Int32.ofNat 9))] [(.int (1 : Int32)), (.int (Int32.ofNat 9))]))
    refine own_go (fun _ k => XS.icmpYes X0.here hx rfl (pc0 := 10) (pc' := 17) rfl (hb hby dp_10) rfl (feq (by decide : ¬ ((Int32.ofNat 9) = (1 : Int32)))).2 (by decide) (by decide) k) ?_
    show own_G p e below Q (T.setTop (mkF m 17 #[.val (.int (Int32.ofNat 9))] []))
    refine own_go (fun _ k => XS.iloadN X0.here hx rfl (hb hby dp_17) rfl  k) ?_
    show own_G p e below Q (T.setTop (mkF m 18 #[.val (.int (Int32.ofNat 9))] [(.int (Int32.ofNat 9))]))
    refine own_go (fun _ k => XS.iconst X0.here hx rfl (hb hby dp_18) k) ?_
    show own_G p e below Q (T.setTop (mkF m 19 #[.val (.int (Int32.ofNat 9))] [(.int (2 : Int32)), (.int (Int32.ofNat 9))]))
    refine own_go (fun _ k => XS.icmpYes X0.here hx rfl (pc0 := 19) (pc' := 26) rfl (hb hby dp_19) rfl (feq (by decide : ¬ ((Int32.ofNat 9) = (2 : Int32)))).2 (by decide) (by decide) k) ?_
    show own_G p e below Q (T.setTop (mkF m 26 #[.val (.int (Int32.ofNat 9))] []))
    refine own_go (fun _ k => XS.iloadN X0.here hx rfl (hb hby dp_26) rfl  k) ?_
    show own_G p e below Q (T.setTop (mkF m 27 #[.val (.int (Int32.ofNat 9))] [(.int (Int32.ofNat 9))]))
    refine own_go (fun _ k => XS.iconst X0.here hx rfl (hb hby dp_27) k) ?_
    show own_G p e below Q (T.setTop (mkF m 28 #[.val (.int (Int32.ofNat 9))] [(.int (3 : Int32)), (.int (Int32.ofNat 9))]))
    refine own_go (fun _ k => XS.icmpYes X0.here hx rfl (pc0 := 28) (pc' := 35) rfl (hb hby dp_28) rfl (feq (by decide : ¬ ((Int32.ofNat 9) = (3 : Int32)))).2 (by decide) (by decide) k) ?_
    show own_G p e below Q (T.setTop (mkF m 35 #[.val (.int (Int32.ofNat 9))] []))
    refine own_go (fun _ k => XS.iloadN X0.here hx rfl (hb hby dp_35) rfl  k) ?_
    show own_G p e below Q (T.setTop (mkF m 36 #[.val (.int (Int32.ofNat 9))] [(.int (Int32.ofNat 9))]))
    refine own_go (fun _ k => XS.iconst X0.here hx rfl (hb hby dp_36) k) ?_
    show own_G p e below Q (T.setTop (mkF m 37 #[.val (.int (Int32.ofNat 9))] [(.int (4 : Int32)), (.int (Int32.ofNat 9))]))
    refine own_go (fun _ k => XS.icmpYes X0.here hx rfl (pc0 := 37) (pc' := 44) rfl (hb hby dp_37) rfl (feq (by decide : ¬ ((Int32.ofNat 9) = (4 : Int32)))).2 (by decide) (by decide) k) ?_
    show own_G p e below Q (T.setTop (mkF m 44 #[.val (.int (Int32.ofNat 9))] []))
    refine own_go (fun _ k => XS.iloadN X0.here hx rfl (hb hby dp_44) rfl  k) ?_
    show own_G p e below Q (T.setTop (mkF m 45 #[.val (.int (Int32.ofNat 9))] [(.int (Int32.ofNat 9))]))
    refine own_go (fun _ k => XS.iconst X0.here hx rfl (hb hby dp_45) k) ?_
    show own_G p e below Q (T.setTop (mkF m 46 #[.val (.int (Int32.ofNat 9))] [(.int (5 : Int32)), (.int (Int32.ofNat 9))]))
    refine own_go (fun _ k => XS.icmpYes X0.here hx rfl (pc0 := 46) (pc' := 53) rfl (hb hby dp_46) rfl (feq (by decide : ¬ ((Int32.ofNat 9) = (5 : Int32)))).2 (by decide) (by decide) k) ?_
    show own_G p e below Q (T.setTop (mkF m 53 #[.val (.int (Int32.ofNat 9))] []))
    refine own_go (fun _ k => XS.iloadN X0.here hx rfl (hb hby dp_53) rfl  k) ?_
    show own_G p e below Q (T.setTop (mkF m 54 #[.val (.int (Int32.ofNat 9))] [(.int (Int32.ofNat 9))]))
    refine own_go (fun _ k => XS.bipush X0.here hx rfl (hb hby dp_54) k) ?_
    show own_G p e below Q (T.setTop (mkF m 56 #[.val (.int (Int32.ofNat 9))] [(.int (6 : Int32)), (.int (Int32.ofNat 9))]))
    refine own_go (fun _ k => XS.icmpYes X0.here hx rfl (pc0 := 56) (pc' := 63) rfl (hb hby dp_56) rfl (feq (by decide : ¬ ((Int32.ofNat 9) = (6 : Int32)))).2 (by decide) (by decide) k) ?_
    show own_G p e below Q (T.setTop (mkF m 63 #[.val (.int (Int32.ofNat 9))] []))
    refine own_go (fun _ k => XS.iloadN X0.here hx rfl (hb hby dp_63) rfl  k) ?_
    show own_G p e below Q (T.setTop (mkF m 64 #[.val (.int (Int32.ofNat 9))] [(.int (Int32.ofNat 9))]))
    refine own_go (fun _ k => XS.bipush X0.here hx rfl (hb hby dp_64) k) ?_
    show own_G p e below Q (T.setTop (mkF m 66 #[.val (.int (Int32.ofNat 9))] [(.int (7 : Int32)), (.int (Int32.ofNat 9))]))
    refine own_go (fun _ k => XS.icmpYes X0.here hx rfl (pc0 := 66) (pc' := 73) rfl (hb hby dp_66) rfl (feq (by decide : ¬ ((Int32.ofNat 9) = (7 : Int32)))).2 (by decide) (by decide) k) ?_
    show own_G p e below Q (T.setTop (mkF m 73 #[.val (.int (Int32.ofNat 9))] []))
    refine own_go (fun _ k => XS.iloadN X0.here hx rfl (hb hby dp_73) rfl  k) ?_
    show own_G p e below Q (T.setTop (mkF m 74 #[.val (.int (Int32.ofNat 9))] [(.int (Int32.ofNat 9))]))
    refine own_go (fun _ k => XS.bipush X0.here hx rfl (hb hby dp_74) k) ?_
    show own_G p e below Q (T.setTop (mkF m 76 #[.val (.int (Int32.ofNat 9))] [(.int (8 : Int32)), (.int (Int32.ofNat 9))]))
    refine own_go (fun _ k => XS.icmpYes X0.here hx rfl (pc0 := 76) (pc' := 83) rfl (hb hby dp_76) rfl (feq (by decide : ¬ ((Int32.ofNat 9) = (8 : Int32)))).2 (by decide) (by decide) k) ?_
    show own_G p e below Q (T.setTop (mkF m 83 #[.val (.int (Int32.ofNat 9))] []))
    refine own_go (fun _ k => XS.iloadN X0.here hx rfl (hb hby dp_83) rfl  k) ?_
    show own_G p e below Q (T.setTop (mkF m 84 #[.val (.int (Int32.ofNat 9))] [(.int (Int32.ofNat 9))]))
    refine own_go (fun _ k => XS.bipush X0.here hx rfl (hb hby dp_84) k) ?_
    show own_G p e below Q (T.setTop (mkF m 86 #[.val (.int (Int32.ofNat 9))] [(.int (9 : Int32)), (.int (Int32.ofNat 9))]))
    refine own_go (fun _ k => XS.icmpNo X0.here hx rfl (hb hby dp_86) rfl (teq (by decide : (Int32.ofNat 9) = (9 : Int32))).2 k) ?_
    show own_G p e below Q (T.setTop (mkF m 89 #[.val (.int (Int32.ofNat 9))] []))
    refine own_getS X0 hx hZ hown (hw _ (List.mem_of_getElem? (i := 39) rfl)) e0 (Sta.ext hO hS.2.2.2.2.2.2.2.2.2.1) (hb hby dp_89) ?_
    intro T10 X10 e10
    show own_G p e below Q (T10.setTop (mkF m 92 #[.val (.int (Int32.ofNat 9))] [(.ref (ad 9))]))
    exact own_retR X10 hx hlk rfl rfl rfl hret (hb hby dp_92) (fun U hU hF => hR _ _ _ _ _ ⟨rfl, hU.trans e10, rfl⟩ (by decide) (by decide) hF)
  · show own_G p e below Q (T.setTop (mkF m 0 #[.val (.int (Int32.ofNat 10))] []))
    refine own_go (fun _ k => XS.iloadN X0.here hx rfl (hb hby dp_0) rfl  k) ?_
    show own_G p e below Q (T.setTop (mkF m 1 #[.val (.int (Int32.ofNat 10))] [(.int (Int32.ofNat 10))]))
    refine own_go (fun _ k => XS.ifYes X0.here hx rfl (pc0 := 1) (pc' := 8) rfl (hb hby dp_1) rfl ((if0 _ _).trans (feq (by decide : ¬ ((Int32.ofNat 10) = (0 : Int32)))).2) (by decide) (by decide) k) ?_
    show own_G p e below Q (T.setTop (mkF m 8 #[.val (.int (Int32.ofNat 10))] []))
    refine own_go (fun _ k => XS.iloadN X0.here hx rfl (hb hby dp_8) rfl  k) ?_
    show own_G p e below Q (T.setTop (mkF m 9 #[.val (.int (Int32.ofNat 10))] [(.int (Int32.ofNat 10))]))
    refine own_go (fun _ k => XS.iconst X0.here hx rfl (hb hby dp_9) k) ?_
    show own_G p e below Q (T.setTop (mkF m 10 #[.val (.int (Int32.ofNat 10))] [(.int (1 : Int32)), (.int (Int32.ofNat 10))]))
    refine own_go (fun _ k => XS.icmpYes X0.here hx rfl (pc0 := 10) (pc' := 17) rfl (hb hby dp_10) rfl (feq (by decide : ¬ ((Int32.ofNat 10) = (1 : Int32)))).2 (by decide) (by decide) k) ?_
    show own_G p e below Q (T.setTop (mkF m 17 #[.val (.int (Int32.ofNat 10))] []))
    refine own_go (fun _ k => XS.iloadN X0.here hx rfl (hb hby dp_17) rfl  k) ?_
    show own_G p e below Q (T.setTop (mkF m 18 #[.val (.int (Int32.ofNat 10))] [(.int (Int32.ofNat 10))]))
    refine own_go (fun _ k => XS.iconst X0.here hx rfl (hb hby dp_18) k) ?_
    show own_G p e below Q (T.setTop (mkF m 19 #[.val (.int (Int32.ofNat 10))] [(.int (2 : Int32)), (.int (Int32.ofNat 10))]))
    refine own_go (fun _ k => XS.icmpYes X0.here hx rfl (pc0 := 19) (pc' := 26) rfl (hb hby dp_19) rfl (feq (by decide : ¬ ((Int32.ofNat 10) = (2 : Int32)))).2 (by decide) (by decide) k) ?_
    show own_G p e below Q (T.setTop (mkF m 26 #[.val (.int (Int32.ofNat 10))] []))
    refine own_go (fun _ k => XS.iloadN X0.here hx rfl (hb hby dp_26) rfl  k) ?_
    show own_G p e below Q (T.setTop (mkF m 27 #[.val (.int (Int32.ofNat 10))] [(.int (Int32.ofNat 10))]))
    refine own_go (fun _ k => XS.iconst X0.here hx rfl (hb hby dp_27) k) ?_
    show own_G p e below Q (T.setTop (mkF m 28 #[.val (.int (Int32.ofNat 10))] [(.int (3 : Int32)), (.int (Int32.ofNat 10))]))
    refine own_go (fun _ k => XS.icmpYes X0.here hx rfl (pc0 := 28) (pc' := 35) rfl (hb hby dp_28) rfl (feq (by decide : ¬ ((Int32.ofNat 10) = (3 : Int32)))).2 (by decide) (by decide) k) ?_
    show own_G p e below Q (T.setTop (mkF m 35 #[.val (.int (Int32.ofNat 10))] []))
    refine own_go (fun _ k => XS.iloadN X0.here hx rfl (hb hby dp_35) rfl  k) ?_
    show own_G p e below Q (T.setTop (mkF m 36 #[.val (.int (Int32.ofNat 10))] [(.int (Int32.ofNat 10))]))
    refine own_go (fun _ k => XS.iconst X0.here hx rfl (hb hby dp_36) k) ?_
    show own_G p e below Q (T.setTop (mkF m 37 #[.val (.int (Int32.ofNat 10))] [(.int (4 : Int32)), (.int (Int32.ofNat 10))]))
    refine own_go (fun _ k => XS.icmpYes X0.here hx rfl (pc0 := 37) (pc' := 44) rfl (hb hby dp_37) rfl (feq (by decide : ¬ ((Int32.ofNat 10) = (4 : Int32)))).2 (by decide) (by decide) k) ?_
    show own_G p e below Q (T.setTop (mkF m 44 #[.val (.int (Int32.ofNat 10))] []))
    refine own_go (fun _ k => XS.iloadN X0.here hx rfl (hb hby dp_44) rfl  k) ?_
    show own_G p e below Q (T.setTop (mkF m 45 #[.val (.int (Int32.ofNat 10))] [(.int (Int32.ofNat 10))]))
    refine own_go (fun _ k => XS.iconst X0.here hx rfl (hb hby dp_45) k) ?_
    show own_G p e below Q (T.setTop (mkF m 46 #[.val (.int (Int32.ofNat 10))] [(.int (5 : Int32)), (.int (Int32.ofNat 10))]))
    refine own_go (fun _ k => XS.icmpYes X0.here hx rfl (pc0 := 46) (pc' := 53) rfl (hb hby dp_46) rfl (feq (by decide : ¬ ((Int32.ofNat 10) = (5 : Int32)))).2 (by decide) (by decide) k) ?_
    show own_G p e below Q (T.setTop (mkF m 53 #[.val (.int (Int32.ofNat 10))] []))
    refine own_go (fun _ k => XS.iloadN X0.here hx rfl (hb hby dp_53) rfl  k) ?_
    show own_G p e below Q (T.setTop (mkF m 54 #[.val (.int (Int32.ofNat 10))] [(.int (Int32.ofNat 10))]))
    refine own_go (fun _ k => XS.bipush X0.here hx rfl (hb hby dp_54) k) ?_
    show own_G p e below Q (T.setTop (mkF m 56 #[.val (.int (Int32.ofNat 10))] [(.int (6 : Int32)), (.int (Int32.ofNat 10))]))
    refine own_go (fun _ k => XS.icmpYes X0.here hx rfl (pc0 := 56) (pc' := 63) rfl (hb hby dp_56) rfl (feq (by decide : ¬ ((Int32.ofNat 10) = (6 : Int32)))).2 (by decide) (by decide) k) ?_
    show own_G p e below Q (T.setTop (mkF m 63 #[.val (.int (Int32.ofNat 10))] []))
    refine own_go (fun _ k => XS.iloadN X0.here hx rfl (hb hby dp_63) rfl  k) ?_
    show own_G p e below Q (T.setTop (mkF m 64 #[.val (.int (Int32.ofNat 10))] [(.int (Int32.ofNat 10))]))
    refine own_go (fun _ k => XS.bipush X0.here hx rfl (hb hby dp_64) k) ?_
    show own_G p e below Q (T.setTop (mkF m 66 #[.val (.int (Int32.ofNat 10))] [(.int (7 : Int32)), (.int (Int32.ofNat 10))]))
    refine own_go (fun _ k => XS.icmpYes X0.here hx rfl (pc0 := 66) (pc' := 73) rfl (hb hby dp_66) rfl (feq (by decide : ¬ ((Int32.ofNat 10) = (7 : Int32)))).2 (by decide) (by decide) k) ?_
    show own_G p e below Q (T.setTop (mkF m 73 #[.val (.int (Int32.ofNat 10))] []))
    refine own_go (fun _ k => XS.iloadN X0.here hx rfl (hb hby dp_73) rfl  k) ?_
    show own_G p e below Q (T.setTop (mkF m 74 #[.val (.int (Int32.ofNat 10))] [(.int (Int32.ofNat 10))]))
    refine own_go (fun _ k => XS.bipush X0.here hx rfl (hb hby dp_74) k) ?_
    show own_G p e below Q (T.setTop (mkF m 76 #[.val (.int (Int32.ofNat 10))] [(.int (8 : Int32)), (.int (Int32.ofNat 10))]))
    refine own_go (fun _ k => XS.icmpYes X0.here hx rfl (pc0 := 76) (pc' := 83) rfl (hb hby dp_76) rfl (feq (by decide : ¬ ((Int32.ofNat 10) = (8 : Int32)))).2 (by decide) (by decide) k) ?_
    show own_G p e below Q (T.setTop (mkF m 83 #[.val (.int (Int32.ofNat 10))] []))
    refine own_go (fun _ k => XS.iloadN X0.here hx rfl (hb hby dp_83) rfl  k) ?_
    show own_G p e below Q (T.setTop (mkF m 84 #[.val (.int (Int32.ofNat 10))] [(.int (Int32.ofNat 10))]))
    refine own_go (fun _ k => XS.bipush X0.here hx rfl (hb hby dp_84) k) ?_
    show own_G p e below Q (T.setTop (mkF m 86 #[.val (.int (Int32.ofNat 10))] [(.int (9 : Int32)), (.int (Int32.ofNat 10))]))
    refine own_go (fun _ k => XS.icmpYes X0.here hx rfl (pc0 := 86) (pc' := 93) rfl (hb hby dp_86) rfl (feq (by decide : ¬ ((Int32.ofNat 10) = (9 : Int32)))).2 (by decide) (by decide) k) ?_
    show own_G p e below Q (T.setTop (mkF m 93 #[.val (.int (Int32.ofNat 10))] []))
    refine own_go (fun _ k => XS.iloadN X0.here hx rfl (hb hby dp_93) rfl  k) ?_
    show own_G p e below Q (T.setTop (mkF m 94 #[.val (.int (Int32.ofNat 10))] [(.int (Int32.ofNat 10))]))
    refine own_go (fun _ k => XS.bipush X0.here hx rfl (hb hby dp_94) k) ?_
    show own_G p e below Q (T.setTop (mkF m 96 #[.val (.int (Int32.ofNat 10))] [(.int (10 : Int32)), (.int (Int32.ofNat 10))]))
    refine own_go (fun _ k => XS.icmpNo X0.here hx rfl (hb hby dp_96) rfl (teq (by decide : (Int32.ofNat 10) = (10 : Int32))).2 k) ?_
    show own_G p e below Q (T.setTop (mkF m 99 #[.val (.int (Int32.ofNat 10))] []))
    refine own_getS X0 hx hZ hown (hw _ (List.mem_of_getElem? (i := 33) rfl)) e0 (Sta.ext hO hS.2.2.2.2.2.2.2.2.2.2.1) (hb hby dp_99) ?_
    intro T11 X11 e11
    show own_G p e below Q (T11.setTop (mkF m 102 #[.val (.int (Int32.ofNat 10))] [(.ref (ad 10))]))
    exact own_retR X11 hx hlk rfl rfl rfl hret (hb hby dp_102) (fun U hU hF => hR _ _ _ _ _ ⟨rfl, hU.trans e11, rfl⟩ (by decide) (by decide) hF)
  · show own_G p e below Q (T.setTop (mkF m 0 #[.val (.int (Int32.ofNat 11))] []))
    refine own_go (fun _ k => XS.iloadN X0.here hx rfl (hb hby dp_0) rfl  k) ?_
    show own_G p e below Q (T.setTop (mkF m 1 #[.val (.int (Int32.ofNat 11))] [(.int (Int32.ofNat 11))]))
    refine own_go (fun _ k => XS.ifYes X0.here hx rfl (pc0 := 1) (pc' := 8) rfl (hb hby dp_1) rfl ((if0 _ _).trans (feq (by decide : ¬ ((Int32.ofNat 11) = (0 : Int32)))).2) (by decide) (by decide) k) ?_
    show own_G p e below Q (T.setTop (mkF m 8 #[.val (.int (Int32.ofNat 11))] []))
    refine own_go (fun _ k => XS.iloadN X0.here hx rfl (hb hby dp_8) rfl  k) ?_
    show own_G p e below Q (T.setTop (mkF m 9 #[.val (.int (Int32.ofNat 11))] [(.int (Int32.ofNat 11))]))
    refine own_go (fun _ k => XS.iconst X0.here hx rfl (hb hby dp_9) k) ?_
    show own_G p e below Q (T.setTop (mkF m 10 #[.val (.int (Int32.ofNat 11))] [(.int (1 : Int32)), (.int (Int32.ofNat 11))]))
    refine own_go (fun _ k => XS.icmpYes X0.here hx rfl (pc0 := 10) (pc' := 17) rfl (hb hby dp_10) rfl (feq (by decide : ¬ ((Int32.ofNat 11) = (1 : Int32)))).2 (by decide) (by decide) k) ?_
    show own_G p e below Q (T.setTop (mkF m 17 #[.val (.int (Int32.ofNat 11))] []))
    refine own_go (fun _ k => XS.iloadN X0.here hx rfl (hb hby dp_17) rfl  k) ?_
    show own_G p e below Q (T.setTop (mkF m 18 #[.val (.int (Int32.ofNat 11))] [(.int (Int32.ofNat 11))]))
    refine own_go (fun _ k => XS.iconst X0.here hx rfl (hb hby dp_18) k) ?_
    show own_G p e below Q (T.setTop (mkF m 19 #[.val (.int (Int32.ofNat 11))] [(.int (2 : Int32)), (.int (Int32.ofNat 11))]))
    refine own_go (fun _ k => XS.icmpYes X0.here hx rfl (pc0 := 19) (pc' := 26) rfl (hb hby dp_19) rfl (feq (by decide : ¬ ((Int32.ofNat 11) = (2 : Int32)))).2 (by decide) (by decide) k) ?_
    show own_G p e below Q (T.setTop (mkF m 26 #[.val (.int (Int32.ofNat 11))] []))
    refine own_go (fun _ k => XS.iloadN X0.here hx rfl (hb hby dp_26) rfl  k) ?_
    show own_G p e below Q (T.setTop (mkF m 27 #[.val (.int (Int32.ofNat 11))] [(.int (Int32.ofNat 11))]))
    refine own_go (fun _ k => XS.iconst X0.here hx rfl (hb hby dp_27) k) ?_
    show own_G p e below Q (T.setTop (mkF m 28 #[.val (.int (Int32.ofNat 11))] [(.int (3 : Int32)), (.int (Int32.ofNat 11))]))
    refine own_go (fun _ k => XS.icmpYes X0.here hx rfl (pc0 := 28) (pc' := 35) rfl (hb hby dp_28) rfl (feq (by decide : ¬ ((Int32.ofNat 11) = (3 : Int32)))).2 (by decide) (by decide) k) ?_
    show own_G p e below Q (T.setTop (mkF m 35 #[.val (.int (Int32.ofNat 11))] []))
    refine own_go (fun _ k => XS.iloadN X0.here hx rfl (hb hby dp_35) rfl  k) ?_
    show own_G p e below Q (T.setTop (mkF m 36 #[.val (.int (Int32.ofNat 11))] [(.int (Int32.ofNat 11))]))
    refine own_go (fun _ k => XS.iconst X0.here hx rfl (hb hby dp_36) k) ?_
    show own_G p e below Q (T.setTop (mkF m 37 #[.val (.int (Int32.ofNat 11))] [(.int (4 : Int32)), (.int (Int32.ofNat 11))]))
    refine own_go (fun _ k => XS.icmpYes X0.here hx rfl (pc0 := 37) (pc' := 44) rfl (hb hby dp_37) rfl (feq (by decide : ¬ ((Int32.ofNat 11) = (4 : Int32)))).2 (by decide) (by decide) k) ?_
    show own_G p e below Q (T.setTop (mkF m 44 #[.val (.int (Int32.ofNat 11))] []))
    refine own_go (fun _ k => XS.iloadN X0.here hx rfl (hb hby dp_44) rfl  k) ?_
    show own_G p e below Q (T.setTop (mkF m 45 #[.val (.int (Int32.ofNat 11))] [(.int (Int32.ofNat 11))]))
    refine own_go (fun _ k => XS.iconst X0.here hx rfl (hb hby dp_45) k) ?_
    show own_G p e below Q (T.setTop (mkF m 46 #[.val (.int (Int32.ofNat 11))] [(.int (5 : Int32)), (.int (Int32.ofNat 11))]))
    refine own_go (fun _ k => XS.icmpYes X0.here hx rfl (pc0 := 46) (pc' := 53) rfl (hb hby dp_46) rfl (feq (by decide : ¬ ((Int32.ofNat 11) = (5 : Int32)))).2 (by decide) (by decide) k) ?_
    show own_G p e below Q (T.setTop (mkF m 53 #[.val (.int (Int32.ofNat 11))] []))
    refine own_go (fun _ k => XS.iloadN X0.here hx rfl (hb hby dp_53) rfl  k) ?_
    show own_G p e below Q (T.setTop (mkF m 54 #[.val (.int (Int32.ofNat 11))] [(.int (Int32.ofNat 11))]))
    refine own_go (fun _ k => XS.bipush X0.here hx rfl (hb hby dp_54) k) ?_
    show own_G p e below Q (T.setTop (mkF m 56 #[.val (.int (Int32.ofNat 11))] [(.int (6 : Int32)), (.int (Int32.ofNat 11))]))
    refine own_go (fun _ k => XS.icmpYes X0.here hx rfl (pc0 := 56) (pc' := 63) rfl (hb hby dp_56) rfl (feq (by decide : ¬ ((Int32.ofNat 11) = (6 : Int32)))).2 (by decide) (by decide) k) ?_
    show own_G p e below Q (T.setTop (mkF m 63 #[.val (.int (Int32.ofNat 11))] []))
    refine own_go (fun _ k => XS.iloadN X0.here hx rfl (hb hby dp_63) rfl  k) ?_
    show own_G p e below Q (T.setTop (mkF m 64 #[.val (.int (Int32.ofNat 11))] [(.int (Int32.ofNat 11))]))
    refine own_go (fun _ k => XS.bipush X0.here hx rfl (hb hby dp_64) k) ?_
    show own_G p e below Q (T.setTop (mkF m 66 #[.val (.int (Int32.ofNat 11))] [(.int (7 : Int32)), (.int (Int32.ofNat 11))]))
    refine own_go (fun _ k => XS.icmpYes X0.here hx rfl (pc0 := 66) (pc' := 73) rfl (hb hby dp_66) rfl (feq (by decide : ¬ ((Int32.ofNat 11) = (7 : Int32)))).2 (by decide) (by decide) k) ?_
    show own_G p e below Q (T.setTop (mkF m 73 #[.val (.int (Int32.ofNat 11))] []))
    refine own_go (fun _ k => XS.iloadN X0.here hx rfl (hb hby dp_73) rfl  k) ?_
    show own_G p e below Q (T.setTop (mkF m 74 #[.val (.int (Int32.ofNat 11))] [(.int (Int32.ofNat 11))]))
    refine own_go (fun _ k => XS.bipush X0.here hx rfl (hb hby dp_74) k) ?_
    show own_G p e below Q (T.setTop (mkF m 76 #[.val (.int (Int32.ofNat 11))] [(.int (8 : Int32)), (.int (Int32.ofNat 11))]))
    refine own_go (fun _ k => XS.icmpYes X0.here hx rfl (pc0 := 76) (pc' := 83) rfl (hb hby dp_76) rfl (feq (by decide : ¬ ((Int32.ofNat 11) = (8 : Int32)))).2 (by decide) (by decide) k) ?_
    show own_G p e below Q (T.setTop (mkF m 83 #[.val (.int (Int32.ofNat 11))] []))
    refine own_go (fun _ k => XS.iloadN X0.here hx rfl (hb hby dp_83) rfl  k) ?_
    show own_G p e below Q (T.setTop (mkF m 84 #[.val (.int (Int32.ofNat 11))] [(.int (Int32.ofNat 11))]))
    refine own_go (fun _ k => XS.bipush X0.here hx rfl (hb hby dp_84) k) ?_
    show own_G p e below Q (T.setTop (mkF m 86 #[.val (.int (Int32.ofNat 11))] [(.int (9 : Int32)), (.int (Int32.ofNat 11))]))
    refine own_go (fun _ k => XS.icmpYes X0.here hx rfl (pc0 := 86) (pc' := 93) rfl (hb hby dp_86) rfl (feq (by decide : ¬ ((Int32.ofNat 11) = (9 : Int32)))).2 (by decide) (by decide) k) ?_
    show own_G p e below Q (T.setTop (mkF m 93 #[.val (.int (Int32.ofNat 11))] []))
    refine own_go (fun _ k => XS.iloadN X0.here hx rfl (hb hby dp_93) rfl  k) ?_
    show own_G p e below Q (T.setTop (mkF m 94 #[.val (.int (Int32.ofNat 11))] [(.int (Int32.ofNat 11))]))
    refine own_go (fun _ k => XS.bipush X0.here hx rfl (hb hby dp_94) k) ?_
    show own_G p e below Q (T.setTop (mkF m 96 #[.val (.int (Int32.ofNat 11))] [(.int (10 : Int32)), (.int (Int32.ofNat 11))]))
    refine own_go (fun _ k => XS.icmpYes X0.here hx rfl (pc0 := 96) (pc' := 103) rfl (hb hby dp_96) rfl (feq (by decide : ¬ ((Int32.ofNat 11) = (10 : Int32)))).2 (by decide) (by decide) k) ?_
    show own_G p e below Q (T.setTop (mkF m 103 #[.val (.int (Int32.ofNat 11))] []))
    refine own_go (fun _ k => XS.iloadN X0.here hx rfl (hb hby dp_103) rfl  k) ?_
    show own_G p e below Q (T.setTop (mkF m 104 #[.val (.int (Int32.ofNat 11))] [(.int (Int32.ofNat 11))]))
    refine own_go (fun _ k => XS.bipush X0.here hx rfl (hb hby dp_104) k) ?_
    show own_G p e below Q (T.setTop (mkF m 106 #[.val (.int (Int32.ofNat 11))] [(.int (11 : Int32)), (.int (Int32.ofNat 11))]))
    refine own_go (fun _ k => XS.icmpNo X0.here hx rfl (hb hby dp_106) rfl (teq (by decide : (Int32.ofNat 11) = (11 : Int32))).2 k) ?_
    show own_G p e below Q (T.setTop (mkF m 109 #[.val (.int (Int32.ofNat 11))] []))
    refine own_getS X0 hx hZ hown (hw _ (List.mem_of_getElem? (i := 31) rfl)) e0 (Sta.ext hO hS.2.2.2.2.2.2.2.2.2.2.2.1) (hb hby dp_109) ?_
    intro T12 X12 e12
    show own_G p e below Q (T12.setTop (mkF m 112 #[.val (.int (Int32.ofNat 11))] [(.ref (ad 11))]))
    exact own_retR X12 hx hlk rfl rfl rfl hret (hb hby dp_112) (fun U hU hF => hR _ _ _ _ _ ⟨rfl, hU.trans e12, rfl⟩ (by decide) (by decide) hF)
  · show own_G p e below Q (T.setTop (mkF m 0 #[.val (.int (Int32.ofNat 12))] []))
    refine own_go (fun _ k => XS.iloadN X0.here hx rfl (hb hby dp_0) rfl  k) ?_
    show own_G p e below Q (T.setTop (mkF m 1 #[.val (.int (Int32.ofNat 12))] [(.int (Int32.ofNat 12))]))
    refine own_go (fun _ k => XS.ifYes X0.here hx rfl (pc0 := 1) (pc' := 8) rfl (hb hby dp_1) rfl ((if0 _ _).trans (feq (by decide : ¬ ((Int32.ofNat 12) = (0 : Int32)))).2) (by decide) (by decide) k) ?_
    show own_G p e below Q (T.setTop (mkF m 8 #[.val (.int (Int32.ofNat 12))] []))
    refine own_go (fun _ k => XS.iloadN X0.here hx rfl (hb hby dp_8) rfl  k) ?_
    show own_G p e below Q (T.setTop (mkF m 9 #[.val (.int (Int32.ofNat 12))] [(.int (Int32.ofNat 12))]))
    refine own_go (fun _ k => XS.iconst X0.here hx rfl (hb hby dp_9) k) ?_
    show own_G p e below Q (T.setTop (mkF m 10 #[.val (.int (Int32.ofNat 12))] [(.int (1 : Int32)), (.int (Int32.ofNat 12))]))
    refine own_go (fun _ k => XS.icmpYes X0.here hx rfl (pc0 := 10) (pc' := 17) rfl (hb hby dp_10) rfl (feq (by decide : ¬ ((Int32.ofNat 12) = (1 : Int32)))).2 (by decide) (by decide) k) ?_
    show own_G p e below Q (T.setTop (mkF m 17 #[.val (.int (Int32.ofNat 12))] []))
    refine own_go (fun _ k => XS.iloadN X0.here hx rfl (hb hby dp_17) rfl  k) ?_
    show own_G p e below Q (T.setTop (mkF m 18 #[.val (.int (Int32.ofNat 12))] [(.int (Int32.ofNat 12))]))
    refine own_go (fun _ k => XS.iconst X0.here hx rfl (hb hby dp_18) k) ?_
    show own_G p e below Q (T.setTop (mkF m 19 #[.val (.int (Int32.ofNat 12))] [(.int (2 : Int32)), (.int (Int32.ofNat 12))]))
    refine own_go (fun _ k => XS.icmpYes X0.here hx rfl (pc0 := 19) (pc' := 26) rfl (hb hby dp_19) rfl (feq (by decide : ¬ ((Int32.ofNat 12) = (2 : Int32)))).2 (by decide) (by decide) k) ?_
    show own_G p e below Q (T.setTop (mkF m 26 #[.val (.int (Int32.ofNat 12))] []))
    refine own_go (fun _ k => XS.iloadN X0.here hx rfl (hb hby dp_26) rfl  k) ?_
    show own_G p e below Q (T.setTop (mkF m 27 #[.val (.int (Int32.ofNat 12))] [(.int (Int32.ofNat 12))]))
    refine own_go (fun _ k => XS.iconst X0.here hx rfl (hb hby dp_27) k) ?_
    show own_G p e below Q (T.setTop (mkF m 28 #[.val (.int (Int32.ofNat 12))] [(.int (3 : Int32)), (.int (Int32.ofNat 12))]))
    refine own_go (fun _ k => XS.icmpYes X0.here hx rfl (pc0 := 28) (pc' := 35) rfl (hb hby dp_28) rfl (feq (by decide : ¬ ((Int32.ofNat 12) = (3 : Int32)))).2 (by decide) (by decide) k) ?_
    show own_G p e below Q (T.setTop (mkF m 35 #[.val (.int (Int32.ofNat 12))] []))
    refine own_go (fun _ k => XS.iloadN X0.here hx rfl (hb hby dp_35) rfl  k) ?_
    show own_G p e below Q (T.setTop (mkF m 36 #[.val (.int (Int32.ofNat 12))] [(.int (Int32.ofNat 12))]))
    refine own_go (fun _ k => XS.iconst X0.here hx rfl (hb hby dp_36) k) ?_
    show own_G p e below Q (T.setTop (mkF m 37 #[.val (.int (Int32.ofNat 12))] [(.int (4 : Int32)), (.int (Int32.ofNat 12))]))
    refine own_go (fun _ k => XS.icmpYes X0.here hx rfl (pc0 := 37) (pc' := 44) rfl (hb hby dp_37) rfl (feq (by decide : ¬ ((Int32.ofNat 12) = (4 : Int32)))).2 (by decide) (by decide) k) ?_
    show own_G p e below Q (T.setTop (mkF m 44 #[.val (.int (Int32.ofNat 12))] []))
    refine own_go (fun _ k => XS.iloadN X0.here hx rfl (hb hby dp_44) rfl  k) ?_
    show own_G p e below Q (T.setTop (mkF m 45 #[.val (.int (Int32.ofNat 12))] [(.int (Int32.ofNat 12))]))
    refine own_go (fun _ k => XS.iconst X0.here hx rfl (hb hby dp_45) k) ?_
    show own_G p e below Q (T.setTop (mkF m 46 #[.val (.int (Int32.ofNat 12))] [(.int (5 : Int32)), (.int (Int32.ofNat 12))]))
    refine own_go (fun _ k => XS.icmpYes X0.here hx rfl (pc0 := 46) (pc' := 53) rfl (hb hby dp_46) rfl (feq (by decide : ¬ ((Int32.ofNat 12) = (5 : Int32)))).2 (by decide) (by decide) k) ?_
    show own_G p e below Q (T.setTop (mkF m 53 #[.val (.int (Int32.ofNat 12))] []))
    refine own_go (fun _ k => XS.iloadN X0.here hx rfl (hb hby dp_53) rfl  k) ?_
    show own_G p e below Q (T.setTop (mkF m 54 #[.val (.int (Int32.ofNat 12))] [(.int (Int32.ofNat 12))]))
    refine own_go (fun _ k => XS.bipush X0.here hx rfl (hb hby dp_54) k) ?_
    show own_G p e below Q (T.setTop (mkF m 56 #[.val (.int (Int32.ofNat 12))] [(.int (6 : Int32)), (.int (Int32.ofNat 12))]))
    refine own_go (fun _ k => XS.icmpYes X0.here hx rfl (pc0 := 56) (pc' := 63) rfl (hb hby dp_56) rfl (feq (by decide : ¬ ((Int32.ofNat 12) = (6 : Int32)))).2 (by decide) (by decide) k) ?_
    show own_G p e below Q (T.setTop (mkF m 63 #[.val (.int (Int32.ofNat 12))] []))
    refine own_go (fun _ k => XS.iloadN X0.here hx rfl (hb hby dp_63) rfl  k) ?_
    show own_G p e below Q (T.setTop (mkF m 64 #[.val (.int (Int32.ofNat 12))] [(.int (Int32.ofNat 12))]))
    refine own_go (fun _ k => XS.bipush X0.here hx rfl (hb hby dp_64) k) ?_
    show own_G p e below Q (T.setTop (mkF m 66 #[.val (.int (Int32.ofNat 12))] [(.int (7 : Int32)), (.int (Int32.ofNat 12))]))
    refine own_go (fun _ k => XS.icmpYes X0.here hx rfl (pc0 := 66) (pc' := 73) rfl (hb hby dp_66) rfl (feq (by decide : ¬ ((Int32.ofNat 12) = (7 : Int32)))).2 (by decide) (by decide) k) ?_
    show own_G p e below Q (T.setTop (mkF m 73 #[.val (.int (Int32.ofNat 12))] []))
    refine own_go (fun _ k => XS.iloadN X0.here hx rfl (hb hby dp_73) rfl  k) ?_
    show own_G p e below Q (T.setTop (mkF m 74 #[.val (.int (Int32.ofNat 12))] [(.int (Int32.ofNat 12))]))
    refine own_go (fun _ k => XS.bipush X0.here hx rfl (hb hby dp_74) k) ?_
    show own_G p e below Q (T.setTop (mkF m 76 #[.val (.int (Int32.ofNat 12))] [(.int (8 : Int32)), (.int (Int32.ofNat 12))]))
    refine own_go (fun _ k => XS.icmpYes X0.here hx rfl (pc0 := 76) (pc' := 83) rfl (hb hby dp_76) rfl (feq (by decide : ¬ ((Int32.ofNat 12) = (8 : Int32)))).2 (by decide) (by decide) k) ?_
    show own_G p e below Q (T.setTop (mkF m 83 #[.val (.int (Int32.ofNat 12))] []))
    refine own_go (fun _ k => XS.iloadN X0.here hx rfl (hb hby dp_83) rfl  k) ?_
    show own_G p e below Q (T.setTop (mkF m 84 #[.val (.int (Int32.ofNat 12))] [(.int (Int32.ofNat 12))]))
    refine own_go (fun _ k => XS.bipush X0.here hx rfl (hb hby dp_84) k) ?_
    show own_G p e below Q (T.setTop (mkF m 86 #[.val (.int (Int32.ofNat 12))] [(.int (9 : Int32)), (.int (Int32.ofNat 12))]))
    refine own_go (fun _ k => XS.icmpYes X0.here hx rfl (pc0 := 86) (pc' := 93) rfl (hb hby dp_86) rfl (feq (by decide : ¬ ((Int32.ofNat 12) = (9 : Int32)))).2 (by decide) (by decide) k) ?_
    show own_G p e below Q (T.setTop (mkF m 93 #[.val (.int (Int32.ofNat 12))] []))
    refine own_go (fun _ k => XS.iloadN X0.here hx rfl (hb hby dp_93) rfl  k) ?_
    show own_G p e below Q (T.setTop (mkF m 94 #[.val (.int (Int32.ofNat 12))] [(.int (Int32.ofNat 12))]))
    refine own_go (fun _ k => XS.bipush X0.here hx rfl (hb hby dp_94) k) ?_
    show own_G p e below Q (T.setTop (mkF m 96 #[.val (.int (Int32.ofNat 12))] [(.int (10 : Int32)), (.int (Int32.ofNat 12))]))
    refine own_go (fun _ k => XS.icmpYes X0.here hx rfl (pc0 := 96) (pc' := 103) rfl (hb hby dp_96) rfl (feq (by decide : ¬ ((Int32.ofNat 12) = (10 : Int32)))).2 (by decide) (by decide) k) ?_
    show own_G p e below Q (T.setTop (mkF m 103 #[.val (.int (Int32.ofNat 12))] []))
    refine own_go (fun _ k => XS.iloadN X0.here hx rfl (hb hby dp_103) rfl  k) ?_
    show own_G p e below Q (T.setTop (mkF m 104 #[.val (.int (Int32.ofNat 12))] [(.int (Int32.ofNat 12))]))
    refine own_go (fun _ k => XS.bipush X0.here hx rfl (hb hby dp_104) k) ?_
    show own_G p e below Q (T.setTop (mkF m 106 #[.val (.int (Int32.ofNat 12))] [(.int (11 : Int32)), (.int (Int32.ofNat 12))]))
    refine own_go (fun _ k => XS.icmpYes X0.here hx rfl (pc0 := 106) (pc' := 113) rfl (hb hby dp_106) rfl (feq (by decide : ¬ ((Int32.ofNat 12) = (11 : Int32)))).2 (by decide) (by decide) k) ?_
    show own_G p e below Q (T.setTop (mkF m 113 #[.val (.int (Int32.ofNat 12))] []))
    refine own_go (fun _ k => XS.iloadN X0.here hx rfl (hb hby dp_113) rfl  k) ?_
    show own_G p e below Q (T.setTop (mkF m 114 #[.val (.int (Int32.ofNat 12))] [(.int (Int32.ofNat 12))]))
    refine own_go (fun _ k => XS.bipush X0.here hx rfl (hb hby dp_114) k) ?_
    show own_G p e below Q (T.setTop (mkF m 116 #[.val (.int (Int32.ofNat 12))] [(.int (12 : Int32)), (.int (Int32.ofNat 12))]))
    refine own_go (fun _ k => XS.icmpNo X0.here hx rfl (hb hby dp_116) rfl (teq (by decide : (Int32.ofNat 12) = (12 : Int32))).2 k) ?_
    show own_G p e below Q (T.setTop (mkF m 119 #[.val (.int (Int32.ofNat 12))] []))
    refine own_getS X0 hx hZ hown (hw _ (List.mem_of_getElem? (i := 21) rfl)) e0 (Sta.ext hO hS.2.2.2.2.2.2.2.2.2.2.2.2.1) (hb hby dp_119) ?_
    intro T13 X13 e13
    show own_G p e below Q (T13.setTop (mkF m 122 #[.val (.int (Int32.ofNat 12))] [(.ref (ad 12))]))
    exact own_retR X13 hx hlk rfl rfl rfl hret (hb hby dp_122) (fun U hU hF => hR _ _ _ _ _ ⟨rfl, hU.trans e13, rfl⟩ (by decide) (by decide) hF)
  · show own_G p e below Q (T.setTop (mkF m 0 #[.val (.int (Int32.ofNat 13))] []))
    refine own_go (fun _ k => XS.iloadN X0.here hx rfl (hb hby dp_0) rfl  k) ?_
    show own_G p e below Q (T.setTop (mkF m 1 #[.val (.int (Int32.ofNat 13))] [(.int (Int32.ofNat 13))]))
    refine own_go (fun _ k => XS.ifYes X0.here hx rfl (pc0 := 1) (pc' := 8) rfl (hb hby dp_1) rfl ((if0 _ _).trans (feq (by decide : ¬ ((Int32.ofNat 13) = (0 : Int32)))).2) (by decide) (by decide) k) ?_
    show own_G p e below Q (T.setTop (mkF m 8 #[.val (.int (Int32.ofNat 13))] []))
    refine own_go (fun _ k => XS.iloadN X0.here hx rfl (hb hby dp_8) rfl  k) ?_
    show own_G p e below Q (T.setTop (mkF m 9 #[.val (.int (Int32.ofNat 13))] [(.int (Int32.ofNat 13))]))
    refine own_go (fun _ k => XS.iconst X0.here hx rfl (hb hby dp_9) k) ?_
    show own_G p e below Q (T.setTop (mkF m 10 #[.val (.int (Int32.ofNat 13))] [(.int (1 : Int32)), (.int (Int32.ofNat 13))]))
    refine own_go (fun _ k => XS.icmpYes X0.here hx rfl (pc0 := 10) (pc' := 17) rfl (hb hby dp_10) rfl (feq (by decide : ¬ ((Int32.ofNat 13) = (1 : Int32)))).2 (by decide) (by decide) k) ?_
    show own_G p e below Q (T.setTop (mkF m 17 #[.val (.int (Int32.ofNat 13))] []))
    refine own_go (fun _ k => XS.iloadN X0.here hx rfl (hb hby dp_17) rfl  k) ?_
    show own_G p e below Q (T.setTop (mkF m 18 #[.val (.int (Int32.ofNat 13))] [(.int (Int32.ofNat 13))]))
    refine own_go (fun _ k => XS.iconst X0.here hx rfl (hb hby dp_18) k) ?_
    show own_G p e below Q (T.setTop (mkF m 19 #[.val (.int (Int32.ofNat 13))] [(.int (2 : Int32)), (.int (Int32.ofNat 13))]))
    refine own_go (fun _ k => XS.icmpYes X0.here hx rfl (pc0 := 19) (pc' := 26) rfl (hb hby dp_19) rfl (feq (by decide : ¬ ((Int32.ofNat 13) = (2 : Int32)))).2 (by decide) (by decide) k) ?_
    show own_G p e below Q (T.setTop (mkF m 26 #[.val (.int (Int32.ofNat 13))] []))
    refine own_go (fun _ k => XS.iloadN X0.here hx rfl (hb hby dp_26) rfl  k) ?_
    show own_G p e below Q (T.setTop (mkF m 27 #[.val (.int (Int32.ofNat 13))] [(.int (Int32.ofNat 13))]))
    refine own_go (fun _ k => XS.iconst X0.here hx rfl (hb hby dp_27) k) ?_
    show own_G p e below Q (T.setTop (mkF m 28 #[.val (.int (Int32.ofNat 13))] [(.int (3 : Int32)), (.int (Int32.ofNat 13))]))
    refine own_go (fun _ k => XS.icmpYes X0.here hx rfl (pc0 := 28) (pc' := 35) rfl (hb hby dp_28) rfl (feq (by decide : ¬ ((Int32.ofNat 13) = (3 : Int32)))).2 (by decide) (by decide) k) ?_
    show own_G p e below Q (T.setTop (mkF m 35 #[.val (.int (Int32.ofNat 13))] []))
    refine own_go (fun _ k => XS.iloadN X0.here hx rfl (hb hby dp_35) rfl  k) ?_
    show own_G p e below Q (T.setTop (mkF m 36 #[.val (.int (Int32.ofNat 13))] [(.int (Int32.ofNat 13))]))
    refine own_go (fun _ k => XS.iconst X0.here hx rfl (hb hby dp_36) k) ?_
    show own_G p e below Q (T.setTop (mkF m 37 #[.val (.int (Int32.ofNat 13))] [(.int (4 : Int32)), (.int (Int32.ofNat 13))]))
    refine own_go (fun _ k => XS.icmpYes X0.here hx rfl (pc0 := 37) (pc' := 44) rfl (hb hby dp_37) rfl (feq (by decide : ¬ ((Int32.ofNat 13) = (4 : Int32)))).2 (by decide) (by decide) k) ?_
    show own_G p e below Q (T.setTop (mkF m 44 #[.val (.int (Int32.ofNat 13))] []))
    refine own_go (fun _ k => XS.iloadN X0.here hx rfl (hb hby dp_44) rfl  k) ?_
    show own_G p e below Q (T.setTop (mkF m 45 #[.val (.int (Int32.ofNat 13))] [(.int (Int32.ofNat 13))]))
    refine own_go (fun _ k => XS.iconst X0.here hx rfl (hb hby dp_45) k) ?_
    show own_G p e below Q (T.setTop (mkF m 46 #[.val (.int (Int32.ofNat 13))] [(.int (5 : Int32)), (.int (Int32.ofNat 13))]))
    refine own_go (fun _ k => XS.icmpYes X0.here hx rfl (pc0 := 46) (pc' := 53) rfl (hb hby dp_46) rfl (feq (by decide : ¬ ((Int32.ofNat 13) = (5 : Int32)))).2 (by decide) (by decide) k) ?_
    show own_G p e below Q (T.setTop (mkF m 53 #[.val (.int (Int32.ofNat 13))] []))
    refine own_go (fun _ k => XS.iloadN X0.here hx rfl (hb hby dp_53) rfl  k) ?_
    show own_G p e below Q (T.setTop (mkF m 54 #[.val (.int (Int32.ofNat 13))] [(.int (Int32.ofNat 13))]))
    refine own_go (fun _ k => XS.bipush X0.here hx rfl (hb hby dp_54) k) ?_
    show own_G p e below Q (T.setTop (mkF m 56 #[.val (.int (Int32.ofNat 13))] [(.int (6 : Int32)), (.int (Int32.ofNat 13))]))
    refine own_go (fun _ k => XS.icmpYes X0.here hx rfl (pc0 := 56) (pc' := 63) rfl (hb hby dp_56) rfl (feq (by decide : ¬ ((Int32.ofNat 13) = (6 : Int32)))).2 (by decide) (by decide) k) ?_
    show own_G p e below Q (T.setTop (mkF m 63 #[.val (.int (Int32.ofNat 13))] []))
    refine own_go (fun _ k => XS.iloadN X0.here hx rfl (hb hby dp_63) rfl  k) ?_
    show own_G p e below Q (T.setTop (mkF m 64 #[.val (.int (Int32.ofNat 13))] [(.int (Int32.ofNat 13))]))
    refine own_go (fun _ k => XS.bipush X0.here hx rfl (hb hby dp_64) k) ?_
    show own_G p e below Q (T.setTop (mkF m 66 #[.val (.int (Int32.ofNat 13))] [(.int (7 : Int32)), (.int (Int32.ofNat 13))]))
    refine own_go (fun _ k => XS.icmpYes X0.here hx rfl (pc0 := 66) (pc' := 73) rfl (hb hby dp_66) rfl (feq (by decide : ¬ ((Int32.ofNat 13) = (7 : Int32)))).2 (by decide) (by decide) k) ?_
    show own_G p e below Q (T.setTop (mkF m 73 #[.val (.int (Int32.ofNat 13))] []))
    refine own_go (fun _ k => XS.iloadN X0.here hx rfl (hb hby dp_73) rfl  k) ?_
    show own_G p e below Q (T.setTop (mkF m 74 #[.val (.int (Int32.ofNat 13))] [(.int (Int32.ofNat 13))]))
    refine own_go (fun _ k => XS.bipush X0.here hx rfl (hb hby dp_74) k) ?_
    show own_G p e below Q (T.setTop (mkF m 76 #[.val (.int (Int32.ofNat 13))] [(.int (8 : Int32)), (.int (Int32.ofNat 13))]))
    refine own_go (fun _ k => XS.icmpYes X0.here hx rfl (pc0 := 76) (pc' := 83) rfl (hb hby dp_76) rfl (feq (by decide : ¬ ((Int32.ofNat 13) = (8 : Int32)))).2 (by decide) (by decide) k) ?_
    show own_G p e below Q (T.setTop (mkF m 83 #[.val (.int (Int32.ofNat 13))] []))
    refine own_go (fun _ k => XS.iloadN X0.here hx rfl (hb hby dp_83) rfl  k) ?_
    show own_G p e below Q (T.setTop (mkF m 84 #[.val (.int (Int32.ofNat 13))] [(.int (Int32.ofNat 13))]))
    refine own_go (fun _ k => XS.bipush X0.here hx rfl (hb hby dp_84) k) ?_
    show own_G p e below Q (T.setTop (mkF m 86 #[.val (.int (Int32.ofNat 13))] [(.int (9 : Int32)), (.int (Int32.ofNat 13))]))
    refine own_go (fun _ k => XS.icmpYes X0.here hx rfl (pc0 := 86) (pc' := 93) rfl (hb hby dp_86) rfl (feq (by decide : ¬ ((Int32.ofNat 13) = (9 : Int32)))).2 (by decide) (by decide) k) ?_
    show own_G p e below Q (T.setTop (mkF m 93 #[.val (.int (Int32.ofNat 13))] []))
    refine own_go (fun _ k => XS.iloadN X0.here hx rfl (hb hby dp_93) rfl  k) ?_
    show own_G p e below Q (T.setTop (mkF m 94 #[.val (.int (Int32.ofNat 13))] [(.int (Int32.ofNat 13))]))
    refine own_go (fun _ k => XS.bipush X0.here hx rfl (hb hby dp_94) k) ?_
    show own_G p e below Q (T.setTop (mkF m 96 #[.val (.int (Int32.ofNat 13))] [(.int (10 : Int32)), (.int (Int32.ofNat 13))]))
    refine own_go (fun _ k => XS.icmpYes X0.here hx rfl (pc0 := 96) (pc' := 103) rfl (hb hby dp_96) rfl (feq (by decide : ¬ ((Int32.ofNat 13) = (10 : Int32)))).2 (by decide) (by decide) k) ?_
    show own_G p e below Q (T.setTop (mkF m 103 #[.val (.int (Int32.ofNat 13))] []))
    refine own_go (fun _ k => XS.iloadN X0.here hx rfl (hb hby dp_103) rfl  k) ?_
    show own_G p e below Q (T.setTop (mkF m 104 #[.val (.int (Int32.ofNat 13))] [(.int (Int32.ofNat 13))]))
    refine own_go (fun _ k => XS.bipush X0.here hx rfl (hb hby dp_104) k) ?_
    show own_G p e below Q (T.setTop (mkF m 106 #[.val (.int (Int32.ofNat 13))] [(.int (11 : Int32)), (.int (Int32.ofNat 13))]))
    refine own_go (fun _ k => XS.icmpYes X0.here hx rfl (pc0 := 106) (pc' := 113) rfl (hb hby dp_106) rfl (feq (by decide : ¬ ((Int32.ofNat 13) = (11 : Int32)))).2 (by decide) (by decide) k) ?_
    show own_G p e below Q (T.setTop (mkF m 113 #[.val (.int (Int32.ofNat 13))] []))
    refine own_go (fun _ k => XS.iloadN X0.here hx rfl (hb hby dp_113) rfl  k) ?_
    show own_G p e below Q (T.setTop (mkF m 114 #[.val (.int (Int32.ofNat 13))] [(.int (Int32.ofNat 13))]))
    refine own_go (fun _ k => XS.bipush X0.here hx rfl (hb hby dp_114) k) ?_
    show own_G p e below Q (T.setTop (mkF m 116 #[.val (.int (Int32.ofNat 13))] [(.int (12 : Int32)), (.int (Int32.ofNat 13))]))
    refine own_go (fun _ k => XS.icmpYes X0.here hx rfl (pc0 := 116) (pc' := 123) rfl (hb hby dp_116) rfl (feq (by decide : ¬ ((Int32.ofNat 13) = (12 : Int32)))).2 (by decide) (by decide) k) ?_
    show own_G p e below Q (T.setTop (mkF m 123 #[.val (.int (Int32.ofNat 13))] []))
    refine own_getS X0 hx hZ hown (hw _ (List.mem_of_getElem? (i := 23) rfl)) e0 (Sta.ext hO hS.2.2.2.2.2.2.2.2.2.2.2.2.2) (hb hby dp_123) ?_
    intro T14 X14 e14
    show own_G p e below Q (T14.setTop (mkF m 126 #[.val (.int (Int32.ofNat 13))] [(.ref (ad 13))]))
    exact own_retR X14 hx hlk rfl rfl rfl hret (hb hby dp_126) (fun U hU hF => hR _ _ _ _ _ ⟨rfl, hU.trans e14, rfl⟩ (by decide) (by decide) hF)
set_option maxRecDepth 65536 in
set_option maxHeartbeats 40000000 in
theorem own_isC (l : Launch) (Z : State) (a0 : Array Value) (hw : ∀ d ∈ tables_1, d.before a0 Z = true) (ad : Nat → Addr) (hS : own_St Z ad) (h0 : Heap) (hO : Ext Z.heap h0) (wa : Addr) :
    own_C l Z (⟨"com/example/stylewright/stylewright/AtomicType", "isConcrete", "()Z"⟩ : MethodName) prog_5_method_6_code 1 (some .boolean) [] ({ frames := 0, cells := 0, slots := 0, locals := 0 } : Room) #[.ref wa] h0 (own_P (.int (if wa = ad 0 then (0 : Int32) else if wa = ad 5 then 0 else 1)) h0) := by
  refine own_body pn_c (fun m => ef_c m _) ?_
  intro p e s m below meth c T Q hx hby hml hown hnm hret hlk hZ e0 X0 hR
  refine own_go (fun _ k => XS.aloadN X0.here hx rfl (hb hby dc_0) rfl rfl  k) ?_
  show own_G p e below Q (T.setTop (mkF m 1 #[.val (.ref wa)] [(.ref wa)]))
  refine own_getS X0 hx hZ hown (hw _ (List.mem_of_getElem? (i := 13) rfl)) e0 (Sta.ext hO hS.1) (hb hby dc_1) ?_
  intro T15 X15 e15
  show own_G p e below Q (T15.setTop (mkF m 4 #[.val (.ref wa)] [(.ref (ad 0)), (.ref wa)]))
  by_cases h1 : wa = (ad 0)
  · refine own_go (fun _ k => Jvm.RoadKit.acmp (g := (mkF m 4 #[.val (.ref wa)] [(.ref (ad 0)), (.ref wa)])) X15 hx rfl rfl rfl (pc0 := 4) (pc' := 18) (same := true) rfl (hb hby dc_4) rfl (decide_eq_true (congrArg Value.ref h1)) (by decide) (by decide) k) ?_
    show own_G p e below Q (T15.setTop (mkF m 18 #[.val (.ref wa)] []))
    refine own_go (fun _ k => XS.iconst X15.here hx rfl (hb hby dc_18) k) ?_
    show own_G p e below Q (T15.setTop (mkF m 19 #[.val (.ref wa)] [(.int (0 : Int32))]))
    exact own_retN X15 hx hlk (Or.inl rfl) hret (hb hby dc_19) (by rw [if_pos h1]; rfl) (fun U hU hF => hR _ _ _ _ _ ⟨rfl, hU.trans e15, rfl⟩ (by decide) (by decide) hF)
  · refine own_go (fun _ k => Jvm.RoadKit.acmp (g := (mkF m 4 #[.val (.ref wa)] [(.ref (ad 0)), (.ref wa)])) X15 hx rfl rfl rfl (pc0 := 4) (pc' := 7) (same := false) rfl (hb hby dc_4) rfl (decide_eq_false fun q => h1 (Value.ref.inj q)) (by decide) (by decide) k) ?_
    show own_G p e below Q (T15.setTop (mkF m 7 #[.val (.ref wa)] []))
    refine own_go (fun _ k => XS.aloadN X15.here hx rfl (hb hby dc_7) rfl rfl  k) ?_
    show own_G p e below Q (T15.setTop (mkF m 8 #[.val (.ref wa)] [(.ref wa)]))
    refine own_getS X15 hx hZ hown (hw _ (List.mem_of_getElem? (i := 19) rfl)) e15 (Sta.ext hO hS.2.2.2.2.2.1) (hb hby dc_8) ?_
    intro T16 X16 e16
    show own_G p e below Q (T16.setTop (mkF m 11 #[.val (.ref wa)] [(.ref (ad 5)), (.ref wa)]))
    by_cases h2 : wa = (ad 5)
    · refine own_go (fun _ k => Jvm.RoadKit.acmp (g := (mkF m 11 #[.val (.ref wa)] [(.ref (ad 5)), (.ref wa)])) X16 hx rfl rfl rfl (pc0 := 11) (pc' := 18) (same := true) rfl (hb hby dc_11) rfl (decide_eq_true (congrArg Value.ref h2)) (by decide) (by decide) k) ?_
      show own_G p e below Q (T16.setTop (mkF m 18 #[.val (.ref wa)] []))
      refine own_go (fun _ k => XS.iconst X16.here hx rfl (hb hby dc_18) k) ?_
      show own_G p e below Q (T16.setTop (mkF m 19 #[.val (.ref wa)] [(.int (0 : Int32))]))
      exact own_retN X16 hx hlk (Or.inl rfl) hret (hb hby dc_19) (by rw [if_neg h1, if_pos h2]; rfl) (fun U hU hF => hR _ _ _ _ _ ⟨rfl, hU.trans e16, rfl⟩ (by decide) (by decide) hF)
    · refine own_go (fun _ k => Jvm.RoadKit.acmp (g := (mkF m 11 #[.val (.ref wa)] [(.ref (ad 5)), (.ref wa)])) X16 hx rfl rfl rfl (pc0 := 11) (pc' := 14) (same := false) rfl (hb hby dc_11) rfl (decide_eq_false fun q => h2 (Value.ref.inj q)) (by decide) (by decide) k) ?_
      show own_G p e below Q (T16.setTop (mkF m 14 #[.val (.ref wa)] []))
      refine own_go (fun _ k => XS.iconst X16.here hx rfl (hb hby dc_14) k) ?_
      show own_G p e below Q (T16.setTop (mkF m 15 #[.val (.ref wa)] [(.int (1 : Int32))]))
      refine own_go (fun _ k => XS.goto X16.here hx rfl (pc0 := 15) (pc' := 19) rfl (hb hby dc_15) (by decide) (by decide) k) ?_
      show own_G p e below Q (T16.setTop (mkF m 19 #[.val (.ref wa)] [(.int (1 : Int32))]))
      exact own_retN X16 hx hlk (Or.inl rfl) hret (hb hby dc_19) (by rw [if_neg h1, if_neg h2]; rfl) (fun U hU hF => hR _ _ _ _ _ ⟨rfl, hU.trans e16, rfl⟩ (by decide) (by decide) hF)
set_option maxRecDepth 65536 in
set_option maxHeartbeats 40000000 in
theorem own_exp (l : Launch) (Z : State) (a0 : Array Value) (hw : ∀ d ∈ tables_1, d.before a0 Z = true) (h0 : Heap) (p1 : Int32) :
    own_C l Z (⟨"com/example/stylewright/stylewright/AtomicTypeIsConcretePinLaw", "expectedConcrete", "(I)Z"⟩ : MethodName) method_3_code 1 (some .boolean) [] ({ frames := 0, cells := 0, slots := 0, locals := 0 } : Room) #[.int p1] h0 (own_P (.int (if p1 = (0 : Int32) then (0 : Int32) else if p1 = (5 : Int32) then 0 else 1)) h0) := by
  refine own_body pn_l (fun m => ef_p m _) ?_
  intro p e s m below meth c T Q hx hby hml hown hnm hret hlk hZ e0 X0 hR
  refine own_go (fun _ k => XS.iloadN X0.here hx rfl (hb hby de_0) rfl  k) ?_
  show own_G p e below Q (T.setTop (mkF m 1 #[.val (.int p1)] [(.int p1)]))
  by_cases h1 : p1 = (0 : Int32)
  · refine own_go (fun _ k => XS.ifNo X0.here hx rfl (hb hby de_1) rfl ((if0 _ _).trans (teq h1).2) k) ?_
    show own_G p e below Q (T.setTop (mkF m 4 #[.val (.int p1)] []))
    refine own_go (fun _ k => XS.iconst X0.here hx rfl (hb hby de_4) k) ?_
    show own_G p e below Q (T.setTop (mkF m 5 #[.val (.int p1)] [(.int (0 : Int32))]))
    exact own_retN X0 hx hlk (Or.inl rfl) hret (hb hby de_5) (by rw [if_pos h1]; rfl) (fun U hU hF => hR _ _ _ _ _ ⟨rfl, hU.trans e0, rfl⟩ (by decide) (by decide) hF)
  · refine own_go (fun _ k => XS.ifYes X0.here hx rfl (pc0 := 1) (pc' := 6) rfl (hb hby de_1) rfl ((if0 _ _).trans (feq h1).2) (by decide) (by decide) k) ?_
    show own_G p e below Q (T.setTop (mkF m 6 #[.val (.int p1)] []))
    refine own_go (fun _ k => XS.iloadN X0.here hx rfl (hb hby de_6) rfl  k) ?_
    show own_G p e below Q (T.setTop (mkF m 7 #[.val (.int p1)] [(.int p1)]))
    refine own_go (fun _ k => XS.iconst X0.here hx rfl (hb hby de_7) k) ?_
    show own_G p e below Q (T.setTop (mkF m 8 #[.val (.int p1)] [(.int (5 : Int32)), (.int p1)]))
    by_cases h2 : p1 = (5 : Int32)
    · refine own_go (fun _ k => XS.icmpNo X0.here hx rfl (hb hby de_8) rfl (teq h2).2 k) ?_
      show own_G p e below Q (T.setTop (mkF m 11 #[.val (.int p1)] []))
      refine own_go (fun _ k => XS.iconst X0.here hx rfl (hb hby de_11) k) ?_
      show own_G p e below Q (T.setTop (mkF m 12 #[.val (.int p1)] [(.int (0 : Int32))]))
      exact own_retN X0 hx hlk (Or.inl rfl) hret (hb hby de_12) (by rw [if_neg h1, if_pos h2]; rfl) (fun U hU hF => hR _ _ _ _ _ ⟨rfl, hU.trans e0, rfl⟩ (by decide) (by decide) hF)
    · refine own_go (fun _ k => XS.icmpYes X0.here hx rfl (pc0 := 8) (pc' := 13) rfl (hb hby de_8) rfl (feq h2).2 (by decide) (by decide) k) ?_
      show own_G p e below Q (T.setTop (mkF m 13 #[.val (.int p1)] []))
      refine own_go (fun _ k => XS.iconst X0.here hx rfl (hb hby de_13) k) ?_
      show own_G p e below Q (T.setTop (mkF m 14 #[.val (.int p1)] [(.int (1 : Int32))]))
      exact own_retN X0 hx hlk (Or.inl rfl) hret (hb hby de_14) (by rw [if_neg h1, if_neg h2]; rfl) (fun U hU hF => hR _ _ _ _ _ ⟨rfl, hU.trans e0, rfl⟩ (by decide) (by decide) hF)
theorem own_eq (Z : State) (ad : Nat → Addr) (hF : ∀ i, i < 14 → Fld Z Z.heap (ad i) "java/lang/Enum" "ordinal" "I" (.int (Int32.ofNat i))) (i : Nat) (hi : i < 14) :
    (if ad i = ad 0 then (0 : Int32) else if ad i = ad 5 then 0 else 1) = (if Int32.ofNat i = (0 : Int32) then (0 : Int32) else if Int32.ofNat i = (5 : Int32) then 0 else 1) := by
  have ne : ∀ j, j < 14 → Int32.ofNat i ≠ Int32.ofNat j → ad i ≠ ad j := fun j hj q => Fld.ne (hF i hi) (hF j hj) fun z => q (Value.int.inj z)
  have n0 := ne 0 (by decide)
  have n5 := ne 5 (by decide)
  clear ne hF
  obtain hi' : i = 0 ∨ i = 1 ∨ i = 2 ∨ i = 3 ∨ i = 4 ∨ i = 5 ∨ i = 6 ∨ i = 7 ∨ i = 8 ∨ i = 9 ∨ i = 10 ∨ i = 11 ∨ i = 12 ∨ i = 13 := by omega
  clear hi
  rcases hi' with rfl | rfl | rfl | rfl | rfl | rfl | rfl | rfl | rfl | rfl | rfl | rfl | rfl | rfl <;> first | (rw [if_pos rfl]; rfl) | (rw [if_neg (n0 (by decide)), if_pos rfl]; rfl) | (rw [if_neg (n0 (by decide)), if_neg (n5 (by decide))]; rfl)
set_option maxRecDepth 65536 in
set_option maxHeartbeats 40000000 in
theorem rm0 (l : Launch) (Z : State) (a0 : Array Value) (hw : ∀ d ∈ tables_1, d.before a0 Z = true) (ad : Nat → Addr) (hS : own_St Z ad) (hE : ∀ i, i < 14 → Exa Z Z.heap (ad i) "com/example/stylewright/stylewright/AtomicType") (hF : ∀ i, i < 14 → Fld Z Z.heap (ad i) "java/lang/Enum" "ordinal" "I" (.int (Int32.ofNat i))) (p1 : Int32) :
    own_C l Z x code maxLocals ret tables_1 room_1 #[.int p1] Z.heap (fun v h L => v = some (.int 1) ∧ Fr Z.heap.size L) := by
  refine own_body pn_l (fun m => ef_0 m _) ?_
  intro p e s m below meth c T Q hx hby hml hown hnm hret hlk hZ e0 X0 hR
  have hO : Ext Z.heap Z.heap := ⟨Nat.le_refl _, fun _ _ q => q⟩
  obtain ⟨i, hi, hr⟩ := own_mod p1 14 (by decide) (by decide) (14 : Int32) (by decide)
  have N0 := Fr.nil Z.heap.size
  show own_G p e below Q (T.setTop (mkF m 0 #[.val (.int p1), .unset, .unset] []))
  refine own_go (fun _ k => XS.iloadN X0.here hx rfl (hb hby at_0) rfl  k) ?_
  show own_G p e below Q (T.setTop (mkF m 1 #[.val (.int p1), .unset, .unset] [(.int p1)]))
  refine own_go (fun _ k => X0.ldcI hx hown (mvT hZ (hw _ (List.mem_of_getElem? (i := 0) rfl))) rfl (hb hby at_1) k) ?_
  show own_G p e below Q (T.setTop (mkF m 3 #[.val (.int p1), .unset, .unset] [(.int (2147483647 : Int32)), (.int p1)]))
  refine own_go (fun _ k => XS.iand X0.here hx rfl (hb hby at_3) rfl k) ?_
  show own_G p e below Q (T.setTop (mkF m 4 #[.val (.int p1), .unset, .unset] [(.int (p1 &&& (2147483647 : Int32)))]))
  refine own_go (fun _ k => XS.bipush X0.here hx rfl (hb hby at_4) k) ?_
  show own_G p e below Q (T.setTop (mkF m 6 #[.val (.int p1), .unset, .unset] [(.int (14 : Int32)), (.int (p1 &&& (2147483647 : Int32)))]))
  refine own_go (fun _ k => iremM X0 hx rfl (hb hby at_6) rfl (by decide) k) ?_
  show own_G p e below Q (T.setTop (mkF m 7 #[.val (.int p1), .unset, .unset] [(.int ((p1 &&& (2147483647 : Int32)) % (14 : Int32)))]))
  rw [hr]
  show own_G p e below Q (T.setTop (mkF m 7 #[.val (.int p1), .unset, .unset] [(.int (Int32.ofNat i))]))
  refine own_go (fun _ k => XS.istoreN X0.here hx rfl (hb hby at_7) rfl (l' := #[.val (.int p1), .val (.int (Int32.ofNat i)), .unset]) rfl k) ?_
  show own_G p e below Q (T.setTop (mkF m 8 #[.val (.int p1), .val (.int (Int32.ofNat i)), .unset] []))
  refine own_go (fun _ k => XS.iloadN X0.here hx rfl (hb hby at_8) rfl  k) ?_
  show own_G p e below Q (T.setTop (mkF m 9 #[.val (.int p1), .val (.int (Int32.ofNat i)), .unset] [(.int (Int32.ofNat i))]))
  refine own_callSP X0 hx hZ hown (hw _ (List.mem_of_getElem? (i := 1) rfl)) (hw _ (List.mem_of_getElem? (i := 2) rfl)) (hw _ (List.mem_of_getElem? (i := 3) rfl)) (hw _ (List.mem_of_getElem? (i := 4) rfl)) (by decide) (argsL := [(.int (Int32.ofNat i))]) (rest := []) e0 (own_pick l Z a0 hw ad hS _ hO i hi) rfl (by rw [hml]; rfl) pd_p rfl (hb hby at_9) (W := 0) (Nat.le_of_eq rfl) (by decide) (by decide) (by decide) (by decide) ?_
  intro T17 X17 e17
  show own_G p e below Q (T17.setTop (mkF m 12 #[.val (.int p1), .val (.int (Int32.ofNat i)), .unset] [(.ref (ad i))]))
  refine own_go (fun _ k => XS.astoreN X17.here hx rfl (hb hby at_12) rfl rfl (l' := #[.val (.int p1), .val (.int (Int32.ofNat i)), .val (.ref (ad i))]) rfl k) ?_
  show own_G p e below Q (T17.setTop (mkF m 13 #[.val (.int p1), .val (.int (Int32.ofNat i)), .val (.ref (ad i))] []))
  refine own_go (fun _ k => XS.aloadN X17.here hx rfl (hb hby at_13) rfl rfl  k) ?_
  show own_G p e below Q (T17.setTop (mkF m 14 #[.val (.int p1), .val (.int (Int32.ofNat i)), .val (.ref (ad i))] [(.ref (ad i))]))
  refine own_callVP X17 hx hZ hown (hw _ (List.mem_of_getElem? (i := 8) rfl)) (hw _ (List.mem_of_getElem? (i := 9) rfl)) (hw _ (List.mem_of_getElem? (i := 11) rfl)) (hw _ (List.mem_of_getElem? (i := 10) rfl)) (hw _ (List.mem_of_getElem? (i := 12) rfl)) (hw _ (List.mem_of_getElem? (i := 6) rfl)) (by decide) (argsL := []) (rest := []) e17 (hE i hi) (own_isC l Z a0 hw ad hS _ hO (ad i)) rfl (by rw [hml]; rfl) pd_c rfl (hb hby at_14) (W := 0) (Nat.le_of_eq rfl) (by decide) (by decide) (by decide) (by decide) ?_
  intro T18 X18 e18
  show own_G p e below Q (T18.setTop (mkF m 17 #[.val (.int p1), .val (.int (Int32.ofNat i)), .val (.ref (ad i))] [(.int (if ad i = ad 0 then (0 : Int32) else if ad i = ad 5 then 0 else 1))]))
  refine own_go (fun _ k => XS.iloadN X18.here hx rfl (hb hby at_17) rfl  k) ?_
  show own_G p e below Q (T18.setTop (mkF m 18 #[.val (.int p1), .val (.int (Int32.ofNat i)), .val (.ref (ad i))] [(.int (Int32.ofNat i)), (.int (if ad i = ad 0 then (0 : Int32) else if ad i = ad 5 then 0 else 1))]))
  refine own_callSP X18 hx hZ hown (hw _ (List.mem_of_getElem? (i := 14) rfl)) (hw _ (List.mem_of_getElem? (i := 15) rfl)) (hw _ (List.mem_of_getElem? (i := 3) rfl)) (hw _ (List.mem_of_getElem? (i := 16) rfl)) (by decide) (argsL := [(.int (Int32.ofNat i))]) (rest := [(.int (if ad i = ad 0 then (0 : Int32) else if ad i = ad 5 then 0 else 1))]) e18 (own_exp l Z a0 hw _ (Int32.ofNat i)) rfl (by rw [hml]; rfl) pd_e rfl (hb hby at_18) (W := 1) (Nat.le_of_eq rfl) (by decide) (by decide) (by decide) (by decide) ?_
  intro T19 X19 e19
  show own_G p e below Q (T19.setTop (mkF m 21 #[.val (.int p1), .val (.int (Int32.ofNat i)), .val (.ref (ad i))] [(.int (if Int32.ofNat i = (0 : Int32) then (0 : Int32) else if Int32.ofNat i = (5 : Int32) then 0 else 1)), (.int (if ad i = ad 0 then (0 : Int32) else if ad i = ad 5 then 0 else 1))]))
  refine own_go (fun _ k => XS.icmpNo X19.here hx rfl (hb hby at_21) rfl (teq (own_eq Z ad hF i hi)).2 k) ?_
  show own_G p e below Q (T19.setTop (mkF m 24 #[.val (.int p1), .val (.int (Int32.ofNat i)), .val (.ref (ad i))] []))
  refine own_go (fun _ k => XS.iconst X19.here hx rfl (hb hby at_24) k) ?_
  show own_G p e below Q (T19.setTop (mkF m 25 #[.val (.int p1), .val (.int (Int32.ofNat i)), .val (.ref (ad i))] [(.int (1 : Int32))]))
  refine own_go (fun _ k => XS.goto X19.here hx rfl (pc0 := 25) (pc' := 29) rfl (hb hby at_25) (by decide) (by decide) k) ?_
  show own_G p e below Q (T19.setTop (mkF m 29 #[.val (.int p1), .val (.int (Int32.ofNat i)), .val (.ref (ad i))] [(.int (1 : Int32))]))
  exact own_retN X19 hx hlk (Or.inl rfl) hret (hb hby at_29) rfl (fun U hU hF => hR _ _ _ _ _ ⟨rfl, N0⟩ (by decide) (by decide) hF)
theorem comes_1 {Post : Tables → Env → Array Value → State → Outcome → State → Prop} (hpost : ∀ tb e args s v u, (limb_1_1.after args s (.returned v) u = true ∧ limb_1_2.after args s (.returned v) u = true ∧ True) → FrameEnd s (.returned v) u (Jvm.fieldLocs frame_1_writes args s ++ Jvm.arrayLocs frame_1_arrays args s ++ Jvm.staticLocs frame_1_statics s) 0 0 → Post tb e args s (.returned v) u) :
    ArmFor flags0 classFile x code maxLocals ret World_1 tables_1 room_1 Calls_1 rest_1 Pre_1 Post := by
  intro l hfl _ _ p e ha hc hk s m args below hf hA hF happ hP
  obtain ⟨hcalls, hrest, hpre⟩ := hP
  obtain ⟨-, -, -, hnamed, -, -, -, hat⟩ := (Spec.applies_iff hf).mp happ
  obtain ⟨hg, hn⟩ := and_e (Cond.before_iff.mp (show (Jvm.Cond.and given_1 narrow_1).before args s = true from hpre))
  obtain ⟨hcount, hg0⟩ := and_e hg
  obtain ⟨w0, rfl⟩ : ∃ w0 : Value, args = #[w0] := by
    have hs : args.size = 1 := by simpa [Cond.value, given_1] using hcount
    obtain ⟨L⟩ := args
    match L, hs with
    | [w0], _ => exact ⟨w0, rfl⟩
  have hw := fun d (hd : d ∈ tables_1) => atoms_spec (ws := Jvm.Cond.code x code maxLocals ret :: tables_1) hat d (List.mem_cons_of_mem _ hd)
  obtain ⟨i0, e0⟩ := is_v hg0
  obtain rfl : w0 = (.int i0) := Option.some.inj e0
  obtain ⟨nn0, hn0⟩ := and_e hn
  obtain ⟨nn1, hn1⟩ := and_e hn0
  obtain ⟨nn2, hn2⟩ := and_e hn1
  obtain ⟨nn3, hn3⟩ := and_e hn2
  obtain ⟨nn4, hn4⟩ := and_e hn3
  obtain ⟨nn5, hn5⟩ := and_e hn4
  obtain ⟨nn6, hn6⟩ := and_e hn5
  obtain ⟨nn7, hn7⟩ := and_e hn6
  obtain ⟨nn8, hn8⟩ := and_e hn7
  obtain ⟨nn9, hn9⟩ := and_e hn8
  obtain ⟨nn10, hn10⟩ := and_e hn9
  obtain ⟨nn11, hn11⟩ := and_e hn10
  obtain ⟨nn12, hn12⟩ := and_e hn11
  obtain ⟨nn13, hn13⟩ := and_e hn12
  obtain ⟨nn14, hn14⟩ := and_e hn13
  obtain ⟨nn15, hn15⟩ := and_e hn14
  obtain ⟨nn16, hn16⟩ := and_e hn15
  obtain ⟨nn17, hn17⟩ := and_e hn16
  obtain ⟨nn18, hn18⟩ := and_e hn17
  obtain ⟨nn19, hn19⟩ := and_e hn18
  obtain ⟨nn20, hn20⟩ := and_e hn19
  obtain ⟨nn21, hn21⟩ := and_e hn20
  obtain ⟨nn22, hn22⟩ := and_e hn21
  obtain ⟨nn23, hn23⟩ := and_e hn22
  obtain ⟨nn24, hn24⟩ := and_e hn23
  obtain ⟨nn25, hn25⟩ := and_e hn24
  obtain ⟨nn26, hn26⟩ := and_e hn25
  obtain ⟨c0, ev0, st0, ex0⟩ := own_sta rfl nn0 (hw _ (List.mem_of_getElem? (i := 6) rfl)) (hw _ (List.mem_of_getElem? (i := 7) rfl))
  obtain ⟨c3, ev3, st3, ex3⟩ := own_sta rfl nn1 (hw _ (List.mem_of_getElem? (i := 6) rfl)) (hw _ (List.mem_of_getElem? (i := 18) rfl))
  obtain ⟨c5, ev5, st5, ex5⟩ := own_sta rfl nn4 (hw _ (List.mem_of_getElem? (i := 6) rfl)) (hw _ (List.mem_of_getElem? (i := 20) rfl))
  obtain ⟨c12, ev12, st12, ex12⟩ := own_sta rfl nn6 (hw _ (List.mem_of_getElem? (i := 6) rfl)) (hw _ (List.mem_of_getElem? (i := 22) rfl))
  obtain ⟨c13, ev13, st13, ex13⟩ := own_sta rfl nn8 (hw _ (List.mem_of_getElem? (i := 6) rfl)) (hw _ (List.mem_of_getElem? (i := 24) rfl))
  obtain ⟨c4, ev4, st4, ex4⟩ := own_sta rfl nn10 (hw _ (List.mem_of_getElem? (i := 6) rfl)) (hw _ (List.mem_of_getElem? (i := 26) rfl))
  obtain ⟨c7, ev7, st7, ex7⟩ := own_sta rfl nn12 (hw _ (List.mem_of_getElem? (i := 6) rfl)) (hw _ (List.mem_of_getElem? (i := 28) rfl))
  obtain ⟨c2, ev2, st2, ex2⟩ := own_sta rfl nn14 (hw _ (List.mem_of_getElem? (i := 6) rfl)) (hw _ (List.mem_of_getElem? (i := 30) rfl))
  obtain ⟨c11, ev11, st11, ex11⟩ := own_sta rfl nn16 (hw _ (List.mem_of_getElem? (i := 6) rfl)) (hw _ (List.mem_of_getElem? (i := 32) rfl))
  obtain ⟨c10, ev10, st10, ex10⟩ := own_sta rfl nn18 (hw _ (List.mem_of_getElem? (i := 6) rfl)) (hw _ (List.mem_of_getElem? (i := 34) rfl))
  obtain ⟨c8, ev8, st8, ex8⟩ := own_sta rfl nn20 (hw _ (List.mem_of_getElem? (i := 6) rfl)) (hw _ (List.mem_of_getElem? (i := 36) rfl))
  obtain ⟨c1, ev1, st1, ex1⟩ := own_sta rfl nn22 (hw _ (List.mem_of_getElem? (i := 6) rfl)) (hw _ (List.mem_of_getElem? (i := 38) rfl))
  obtain ⟨c9, ev9, st9, ex9⟩ := own_sta rfl nn24 (hw _ (List.mem_of_getElem? (i := 6) rfl)) (hw _ (List.mem_of_getElem? (i := 40) rfl))
  obtain ⟨c6, ev6, st6, ex6⟩ := own_sta rfl nn26 (hw _ (List.mem_of_getElem? (i := 6) rfl)) (hw _ (List.mem_of_getElem? (i := 43) rfl))
  have ordinal3 := own_fld ev3 nn2
  have ordinal0 := own_fld ev0 nn3
  have ordinal5 := own_fld ev5 nn5
  have ordinal12 := own_fld ev12 nn7
  have ordinal13 := own_fld ev13 nn9
  have ordinal4 := own_fld ev4 nn11
  have ordinal7 := own_fld ev7 nn13
  have ordinal2 := own_fld ev2 nn15
  have ordinal11 := own_fld ev11 nn17
  have ordinal10 := own_fld ev10 nn19
  have ordinal8 := own_fld ev8 nn21
  have ordinal1 := own_fld ev1 nn23
  have ordinal9 := own_fld ev9 nn25
  have ordinal6 := own_fld ev6 hn26
  have hE : ∀ i, i < 14 → Exa s s.heap ((fun i => [c0, c1, c2, c3, c4, c5, c6, c7, c8, c9, c10, c11, c12, c13].getD i c0) i) "com/example/stylewright/stylewright/AtomicType" := by
    intro i hi
    obtain hi' : i = 0 ∨ i = 1 ∨ i = 2 ∨ i = 3 ∨ i = 4 ∨ i = 5 ∨ i = 6 ∨ i = 7 ∨ i = 8 ∨ i = 9 ∨ i = 10 ∨ i = 11 ∨ i = 12 ∨ i = 13 := by omega
    clear hi
    rcases hi' with rfl | rfl | rfl | rfl | rfl | rfl | rfl | rfl | rfl | rfl | rfl | rfl | rfl | rfl
    · exact ex0
    · exact ex1
    · exact ex2
    · exact ex3
    · exact ex4
    · exact ex5
    · exact ex6
    · exact ex7
    · exact ex8
    · exact ex9
    · exact ex10
    · exact ex11
    · exact ex12
    · exact ex13
  have hFo : ∀ i, i < 14 → Fld s s.heap ((fun i => [c0, c1, c2, c3, c4, c5, c6, c7, c8, c9, c10, c11, c12, c13].getD i c0) i) "java/lang/Enum" "ordinal" "I" (.int (Int32.ofNat i)) := by
    intro i hi
    obtain hi' : i = 0 ∨ i = 1 ∨ i = 2 ∨ i = 3 ∨ i = 4 ∨ i = 5 ∨ i = 6 ∨ i = 7 ∨ i = 8 ∨ i = 9 ∨ i = 10 ∨ i = 11 ∨ i = 12 ∨ i = 13 := by omega
    clear hi
    rcases hi' with rfl | rfl | rfl | rfl | rfl | rfl | rfl | rfl | rfl | rfl | rfl | rfl | rfl | rfl
    · exact ordinal0
    · exact ordinal1
    · exact ordinal2
    · exact ordinal3
    · exact ordinal4
    · exact ordinal5
    · exact ordinal6
    · exact ordinal7
    · exact ordinal8
    · exact ordinal9
    · exact ordinal10
    · exact ordinal11
    · exact ordinal12
    · exact ordinal13
  obtain ⟨n, o, h1, h2, h3, _, L, rfl, ⟨rfl, N⟩, hq⟩ := rm0 l s _ hw (fun i => [c0, c1, c2, c3, c4, c5, c6, c7, c8, c9, c10, c11, c12, c13].getD i c0) ⟨st0, st1, st2, st3, st4, st5, st6, st7, st8, st9, st10, st11, st12, st13⟩ hE hFo i0 p e ha hc hk s m _ below hf ((Spec.applies_iff_loose hf).mp happ).1 ⟨rfl, State.Warmed39.refl s, rfl⟩ trivial
  refine ⟨n, _, h1, h2, h3, hpost _ _ _ _ _ _ ⟨Cond.after_iff.mpr rfl, Cond.after_iff.mpr (eq_i res_at (Term.int_eval (1)) rfl), trivial⟩ ⟨hq.1, hq.2.1, (hq.2.2.sift fun y hy => Or.inr (N y hy)).mono (by decide) (by decide)⟩⟩
theorem main_1_1 : Claimed_1_1 := comes_1 fun _ _ _ _ _ _ h hF => ⟨h.1, hF⟩
theorem main_1_2 : Claimed_1_2 := comes_1 fun _ _ _ _ _ _ h hF => ⟨h.2.1, hF⟩
end Jvm.Pilot.@@N@@
namespace Jvm.Pilot.@@N@@
open Jvm Jvm.ClassFile Sem Op Lib Jvm.Free Jvm.Stand Jvm.Pilot.@@N@@.Jvm.D
/-! MADE BY PROGRAM (witnessworld.py) out of the Statement's table words and the real class files: 12 classes; the members and pool entries that the words name. The judged class is class 1, her method 3. -/
namespace start1
open Jvm.ClassFile
def u (s : String) : CpInfo := .utf8 (stringToUtf16 s)
/-- a pool by its gaps: so many unusable entries, then the entry; so many at the end -/
def gap : Nat → List CpInfo → List CpInfo
  | 0, r => r
  | n + 1, r => .unusable :: gap n r
def poolList (es : List (Nat × CpInfo)) (last : Nat) : List CpInfo := es.foldr (fun e r => gap e.1 (e.2 :: r)) (gap last [])
def pool (es : List (Nat × CpInfo)) (last : Nat) : Array CpInfo := ⟨poolList es last⟩
def fileOf (pool : Array CpInfo) (this : Nat) (attrs : Array Attribute := #[]) (ms : Array MethodInfo := #[]) (fl : Nat := 33) (sup : Nat := 0) (ifs : Array Nat := #[]) (fds : Array FieldInfo := #[]) : ClassFile where
  minorVersion := 0
  majorVersion := 65
  constantPool := pool
  accessFlags := fl
  thisClass := this
  superClass := sup
  interfaces := ifs
  fields := fds
  methods := ms
  attributes := attrs
def plain (name : String) (sup : Option ClassId) : Class where
  name := name
  kind := .ordinary
  loader := none
  accessFlags := 33
  super := sup
  interfaces := #[]
  cf := none
  fields := #[]
  methods := #[]
  instanceTypes := #[]
  staticTypes := #[]
  resolved := #[]
  callSites := []
  init := .initialized
  statics := none
  mirror := none

def pool0 : Array CpInfo := pool [(5, u "<init>"), (0, u "()V"), (1, .class_ 10), (1, u "java/lang/Object")] 113

def k0m0 : Method := { name := "<init>", desc := "()V", sig := { parameters := [], returnType := none }, accessFlags := 1, code := none }
/-- java/lang/Object -/
def k0 : Class := { plain "java/lang/Object" none with
  accessFlags := 33
  interfaces := #[]
  cf := some (fileOf pool0 8 #[] #[{ accessFlags := 1, nameIndex := 5, descriptorIndex := 6, attributes := #[] }] 33 0 #[] #[])
  fields := #[]
  methods := #[k0m0]
  instanceTypes := #[]
  staticTypes := #[]
  resolved := Array.replicate 124 none
  statics := none }

def pool1 : Array CpInfo := pool [(2, .class_ 4), (1, u "java/lang/Object"), (0, u "<init>"), (0, u "()V"), (0, .fieldref 8 9), (0, .class_ 10), (0, .nameAndType 11 12), (0, u "com/example/stylewright/stylewright/AtomicType"), (0, u "ANY_ATOMIC"), (0, u "Lcom/example/stylewright/stylewright/AtomicType;"), (0, .fieldref 8 14), (0, .nameAndType 15 12), (0, u "UNTYPED_ATOMIC"), (0, .fieldref 8 17), (0, .nameAndType 18 12), (0, u "STRING"), (0, .fieldref 8 20), (0, .nameAndType 21 12), (0, u "ANY_URI"), (0, .fieldref 8 23), (0, .nameAndType 24 12), (0, u "BOOLEAN"), (0, .fieldref 8 26), (0, .nameAndType 27 12), (0, u "NUMERIC"), (0, .fieldref 8 29), (0, .nameAndType 30 12), (0, u "DECIMAL"), (0, .fieldref 8 32), (0, .nameAndType 33 12), (0, u "INTEGER"), (0, .fieldref 8 35), (0, .nameAndType 36 12), (0, u "FLOAT"), (0, .fieldref 8 38), (0, .nameAndType 39 12), (0, u "DOUBLE"), (0, .fieldref 8 41), (0, .nameAndType 42 12), (0, u "DATE"), (0, .fieldref 8 44), (0, .nameAndType 45 12), (0, u "DATE_TIME"), (0, .fieldref 8 47), (0, .nameAndType 48 12), (0, u "DAY_TIME_DURATION"), (0, .fieldref 8 50), (0, .nameAndType 51 12), (0, u "QNAME"), (0, .integer 2147483647), (0, .methodref 54 55), (0, .class_ 56), (0, .nameAndType 57 58), (0, u "com/example/stylewright/stylewright/AtomicTypeIsConcretePinLaw"), (0, u "pick"), (0, u "(I)Lcom/example/stylewright/stylewright/AtomicType;"), (0, .methodref 8 60), (0, .nameAndType 61 62), (0, u "isConcrete"), (0, u "()Z"), (0, .methodref 54 64), (0, .nameAndType 65 66), (0, u "expectedConcrete"), (0, u "(I)Z"), (3, u "law")] 2

def k1m0 : Method := { name := "<init>", desc := "()V", sig := { parameters := [], returnType := none }, accessFlags := 2, code := none }
def k1c1 : Code := { maxStack := 2, maxLocals := 1, code := method_2_code, exceptionTable := #[], attributes := #[] }
def k1m1 : Method := { name := "pick", desc := "(I)Lcom/example/stylewright/stylewright/AtomicType;", sig := { parameters := [.int], returnType := some (.object "com/example/stylewright/stylewright/AtomicType") }, accessFlags := 10, code := some k1c1 }
def k1c2 : Code := { maxStack := 2, maxLocals := 1, code := method_3_code, exceptionTable := #[], attributes := #[] }
def k1m2 : Method := { name := "expectedConcrete", desc := "(I)Z", sig := { parameters := [.int], returnType := some .boolean }, accessFlags := 10, code := some k1c2 }
def k1c3 : Code := { maxStack := 2, maxLocals := 3, code := code, exceptionTable := #[], attributes := #[] }
def k1m3 : Method := { name := "law", desc := "(I)Z", sig := { parameters := [.int], returnType := some .boolean }, accessFlags := 9, code := some k1c3 }
/-- com/example/stylewright/stylewright/AtomicTypeIsConcretePinLaw -/
def k1 : Class := { plain "com/example/stylewright/stylewright/AtomicTypeIsConcretePinLaw" (some 0) with
  accessFlags := 49
  interfaces := #[]
  cf := some (fileOf pool1 54 #[] #[{ accessFlags := 2, nameIndex := 5, descriptorIndex := 6, attributes := #[] }, { accessFlags := 10, nameIndex := 57, descriptorIndex := 58, attributes := #[] }, { accessFlags := 10, nameIndex := 65, descriptorIndex := 66, attributes := #[] }, { accessFlags := 9, nameIndex := 70, descriptorIndex := 66, attributes := #[] }] 49 2 #[] #[])
  fields := #[]
  methods := #[k1m0, k1m1, k1m2, k1m3]
  instanceTypes := #[]
  staticTypes := #[]
  resolved := Array.replicate 73 none
  statics := none }

def pool2 : Array CpInfo := pool [(1, .class_ 2), (0, u "java/lang/constant/Constable"), (0, .class_ 4), (0, u "java/lang/Object")] 6

/-- java/lang/constant/Constable -/
def k2 : Class := { plain "java/lang/constant/Constable" (some 0) with
  accessFlags := 1537
  interfaces := #[]
  cf := some (fileOf pool2 1 #[] #[] 1537 3 #[] #[])
  fields := #[]
  methods := #[]
  instanceTypes := #[]
  staticTypes := #[]
  resolved := Array.replicate 11 none
  statics := none }

def pool3 : Array CpInfo := pool [(1, .class_ 2), (0, u "java/lang/Comparable"), (0, .class_ 4), (0, u "java/lang/Object")] 7

/-- java/lang/Comparable -/
def k3 : Class := { plain "java/lang/Comparable" (some 0) with
  accessFlags := 1537
  interfaces := #[]
  cf := some (fileOf pool3 1 #[] #[] 1537 3 #[] #[])
  fields := #[]
  methods := #[]
  instanceTypes := #[]
  staticTypes := #[]
  resolved := Array.replicate 12 none
  statics := none }

def pool4 : Array CpInfo := pool [(1, .class_ 2), (0, u "java/io/Serializable"), (0, .class_ 4), (0, u "java/lang/Object")] 2

/-- java/io/Serializable -/
def k4 : Class := { plain "java/io/Serializable" (some 0) with
  accessFlags := 1537
  interfaces := #[]
  cf := some (fileOf pool4 1 #[] #[] 1537 3 #[] #[])
  fields := #[]
  methods := #[]
  instanceTypes := #[]
  staticTypes := #[]
  resolved := Array.replicate 7 none
  statics := none }

def pool5 : Array CpInfo := pool [(2, .class_ 4), (1, u "java/lang/Enum"), (0, u "name"), (0, u "Ljava/lang/String;"), (2, u "ordinal"), (0, u "I"), (1, .class_ 14), (1, u "java/lang/Object"), (4, u "hash"), (86, .class_ 108), (1, u "java/lang/Enum$EnumDesc"), (2, .class_ 112), (0, u "java/lang/constant/Constable"), (0, .class_ 114), (0, u "java/lang/Comparable"), (0, .class_ 116), (0, u "java/io/Serializable")] 87

/-- java/lang/Enum -/
def k5 : Class := { plain "java/lang/Enum" (some 0) with
  accessFlags := 1057
  interfaces := #[2, 3, 4]
  cf := some (fileOf pool5 2 #[.nestMembers #[106]] #[] 1057 12 #[111, 113, 115] #[{ accessFlags := 18, nameIndex := 5, descriptorIndex := 6, attributes := #[] }, { accessFlags := 18, nameIndex := 9, descriptorIndex := 10, attributes := #[] }, { accessFlags := 2, nameIndex := 19, descriptorIndex := 10, attributes := #[] }])
  fields := #[{ name := "name", type := (.object "java/lang/String"), accessFlags := 18, slot := 0, constantValue := 0 }, { name := "ordinal", type := .int, accessFlags := 18, slot := 1, constantValue := 0 }, { name := "hash", type := .int, accessFlags := 2, slot := 2, constantValue := 0 }]
  methods := #[]
  instanceTypes := #[(.object "java/lang/String"), .int, .int]
  staticTypes := #[]
  resolved := Array.replicate 204 none
  statics := none }

def pool6 : Array CpInfo := pool [(1, .class_ 2), (0, u "com/example/stylewright/stylewright/AtomicType"), (0, .fieldref 1 4), (0, .nameAndType 5 6), (0, u "ANY_ATOMIC"), (0, u "Lcom/example/stylewright/stylewright/AtomicType;"), (2, u "UNTYPED_ATOMIC"), (2, u "STRING"), (2, u "ANY_URI"), (2, u "BOOLEAN"), (0, .fieldref 1 20), (0, .nameAndType 21 6), (0, u "NUMERIC"), (2, u "DECIMAL"), (2, u "INTEGER"), (2, u "FLOAT"), (2, u "DOUBLE"), (2, u "DATE"), (2, u "DATE_TIME"), (2, u "DAY_TIME_DURATION"), (2, u "QNAME"), (2, u "$VALUES"), (0, u "[Lcom/example/stylewright/stylewright/AtomicType;"), (6, .class_ 58), (1, u "java/lang/Enum"), (8, u "localName"), (0, u "Ljava/lang/String;"), (2, u "parent"), (16, u "()Z"), (42, u "BUILT_IN_NAMES"), (0, u "Ljava/util/Set;"), (140, u "XS_NAMESPACE"), (11, u "isConcrete")] 43

def k6c0 : Code := { maxStack := 2, maxLocals := 1, code := prog_5_method_6_code, exceptionTable := #[], attributes := #[] }
def k6m0 : Method := { name := "isConcrete", desc := "()Z", sig := { parameters := [], returnType := some .boolean }, accessFlags := 0, code := some k6c0 }
/-- com/example/stylewright/stylewright/AtomicType -/
def k6 : Class := { plain "com/example/stylewright/stylewright/AtomicType" (some 5) with
  accessFlags := 16432
  interfaces := #[]
  cf := some (fileOf pool6 1 #[] #[{ accessFlags := 0, nameIndex := 285, descriptorIndex := 88, attributes := #[] }] 16432 56 #[] #[{ accessFlags := 16409, nameIndex := 5, descriptorIndex := 6, attributes := #[] }, { accessFlags := 16409, nameIndex := 9, descriptorIndex := 6, attributes := #[] }, { accessFlags := 16409, nameIndex := 12, descriptorIndex := 6, attributes := #[] }, { accessFlags := 16409, nameIndex := 15, descriptorIndex := 6, attributes := #[] }, { accessFlags := 16409, nameIndex := 18, descriptorIndex := 6, attributes := #[] }, { accessFlags := 16409, nameIndex := 21, descriptorIndex := 6, attributes := #[] }, { accessFlags := 16409, nameIndex := 24, descriptorIndex := 6, attributes := #[] }, { accessFlags := 16409, nameIndex := 27, descriptorIndex := 6, attributes := #[] }, { accessFlags := 16409, nameIndex := 30, descriptorIndex := 6, attributes := #[] }, { accessFlags := 16409, nameIndex := 33, descriptorIndex := 6, attributes := #[] }, { accessFlags := 16409, nameIndex := 36, descriptorIndex := 6, attributes := #[] }, { accessFlags := 16409, nameIndex := 39, descriptorIndex := 6, attributes := #[] }, { accessFlags := 16409, nameIndex := 42, descriptorIndex := 6, attributes := #[] }, { accessFlags := 16409, nameIndex := 45, descriptorIndex := 6, attributes := #[] }, { accessFlags := 24, nameIndex := 273, descriptorIndex := 68, attributes := #[] }, { accessFlags := 26, nameIndex := 131, descriptorIndex := 132, attributes := #[] }, { accessFlags := 18, nameIndex := 67, descriptorIndex := 68, attributes := #[] }, { accessFlags := 18, nameIndex := 71, descriptorIndex := 6, attributes := #[] }, { accessFlags := 4122, nameIndex := 48, descriptorIndex := 49, attributes := #[] }])
  fields := #[{ name := "ANY_ATOMIC", type := (.object "com/example/stylewright/stylewright/AtomicType"), accessFlags := 16409, slot := 0, constantValue := 0 }, { name := "UNTYPED_ATOMIC", type := (.object "com/example/stylewright/stylewright/AtomicType"), accessFlags := 16409, slot := 1, constantValue := 0 }, { name := "STRING", type := (.object "com/example/stylewright/stylewright/AtomicType"), accessFlags := 16409, slot := 2, constantValue := 0 }, { name := "ANY_URI", type := (.object "com/example/stylewright/stylewright/AtomicType"), accessFlags := 16409, slot := 3, constantValue := 0 }, { name := "BOOLEAN", type := (.object "com/example/stylewright/stylewright/AtomicType"), accessFlags := 16409, slot := 4, constantValue := 0 }, { name := "NUMERIC", type := (.object "com/example/stylewright/stylewright/AtomicType"), accessFlags := 16409, slot := 5, constantValue := 0 }, { name := "DECIMAL", type := (.object "com/example/stylewright/stylewright/AtomicType"), accessFlags := 16409, slot := 6, constantValue := 0 }, { name := "INTEGER", type := (.object "com/example/stylewright/stylewright/AtomicType"), accessFlags := 16409, slot := 7, constantValue := 0 }, { name := "FLOAT", type := (.object "com/example/stylewright/stylewright/AtomicType"), accessFlags := 16409, slot := 8, constantValue := 0 }, { name := "DOUBLE", type := (.object "com/example/stylewright/stylewright/AtomicType"), accessFlags := 16409, slot := 9, constantValue := 0 }, { name := "DATE", type := (.object "com/example/stylewright/stylewright/AtomicType"), accessFlags := 16409, slot := 10, constantValue := 0 }, { name := "DATE_TIME", type := (.object "com/example/stylewright/stylewright/AtomicType"), accessFlags := 16409, slot := 11, constantValue := 0 }, { name := "DAY_TIME_DURATION", type := (.object "com/example/stylewright/stylewright/AtomicType"), accessFlags := 16409, slot := 12, constantValue := 0 }, { name := "QNAME", type := (.object "com/example/stylewright/stylewright/AtomicType"), accessFlags := 16409, slot := 13, constantValue := 0 }, { name := "XS_NAMESPACE", type := (.object "java/lang/String"), accessFlags := 24, slot := 14, constantValue := 0 }, { name := "BUILT_IN_NAMES", type := (.object "java/util/Set"), accessFlags := 26, slot := 15, constantValue := 0 }, { name := "localName", type := (.object "java/lang/String"), accessFlags := 18, slot := 3, constantValue := 0 }, { name := "parent", type := (.object "com/example/stylewright/stylewright/AtomicType"), accessFlags := 18, slot := 4, constantValue := 0 }, { name := "$VALUES", type := (.array (.object "com/example/stylewright/stylewright/AtomicType")), accessFlags := 4122, slot := 16, constantValue := 0 }]
  methods := #[k6m0]
  instanceTypes := #[(.object "java/lang/String"), .int, .int, (.object "java/lang/String"), (.object "com/example/stylewright/stylewright/AtomicType")]
  staticTypes := #[(.object "com/example/stylewright/stylewright/AtomicType"), (.object "com/example/stylewright/stylewright/AtomicType"), (.object "com/example/stylewright/stylewright/AtomicType"), (.object "com/example/stylewright/stylewright/AtomicType"), (.object "com/example/stylewright/stylewright/AtomicType"), (.object "com/example/stylewright/stylewright/AtomicType"), (.object "com/example/stylewright/stylewright/AtomicType"), (.object "com/example/stylewright/stylewright/AtomicType"), (.object "com/example/stylewright/stylewright/AtomicType"), (.object "com/example/stylewright/stylewright/AtomicType"), (.object "com/example/stylewright/stylewright/AtomicType"), (.object "com/example/stylewright/stylewright/AtomicType"), (.object "com/example/stylewright/stylewright/AtomicType"), (.object "com/example/stylewright/stylewright/AtomicType"), (.object "java/lang/String"), (.object "java/util/Set"), (.array (.object "com/example/stylewright/stylewright/AtomicType"))]
  resolved := Array.replicate 329 none
  statics := some 0 }

def pool7 : Array CpInfo := pool [(1, u "java/lang/Cloneable"), (0, .class_ 1), (0, u "java/lang/Object"), (0, .class_ 3)] 3

/-- java/lang/Cloneable -/
def k7 : Class := { plain "java/lang/Cloneable" (some 0) with
  accessFlags := 1537
  interfaces := #[]
  cf := some (fileOf pool7 2 #[] #[] 1537 4 #[] #[])
  fields := #[]
  methods := #[]
  instanceTypes := #[]
  staticTypes := #[]
  resolved := Array.replicate 8 none
  statics := none }

/-- the primitive byte -/
def k8 : Class := { plain "byte" none with kind := .primitive 'B', accessFlags := 0x411 }
/-- [B -/
def k9 : Class := { plain "[B" (some 0) with kind := .array 8 .byte, interfaces := #[7, 4], accessFlags := 1041 }

/-- the primitive int -/
def k10 : Class := { plain "int" none with kind := .primitive 'I', accessFlags := 0x411 }
/-- [I -/
def k11 : Class := { plain "[I" (some 0) with kind := .array 10 .int, interfaces := #[7, 4], accessFlags := 1041 }

def heap : Heap := #[{ cls := 6, slots := #[.ref 1, .ref 2, .ref 3, .ref 4, .ref 5, .ref 6, .ref 7, .ref 8, .ref 9, .ref 10, .ref 11, .ref 12, .ref 13, .ref 14, .null, .null, .null], vm := .statics 6 },
  { cls := 6, slots := #[.null, .int 0, .int 0, .null, .null], vm := .none },
  { cls := 6, slots := #[.null, .int 1, .int 0, .null, .null], vm := .none },
  { cls := 6, slots := #[.null, .int 2, .int 0, .null, .null], vm := .none },
  { cls := 6, slots := #[.null, .int 3, .int 0, .null, .null], vm := .none },
  { cls := 6, slots := #[.null, .int 4, .int 0, .null, .null], vm := .none },
  { cls := 6, slots := #[.null, .int 5, .int 0, .null, .null], vm := .none },
  { cls := 6, slots := #[.null, .int 6, .int 0, .null, .null], vm := .none },
  { cls := 6, slots := #[.null, .int 7, .int 0, .null, .null], vm := .none },
  { cls := 6, slots := #[.null, .int 8, .int 0, .null, .null], vm := .none },
  { cls := 6, slots := #[.null, .int 9, .int 0, .null, .null], vm := .none },
  { cls := 6, slots := #[.null, .int 10, .int 0, .null, .null], vm := .none },
  { cls := 6, slots := #[.null, .int 11, .int 0, .null, .null], vm := .none },
  { cls := 6, slots := #[.null, .int 12, .int 0, .null, .null], vm := .none },
  { cls := 6, slots := #[.null, .int 13, .int 0, .null, .null], vm := .none }]
def classes : Array Class := #[k0, k1, k2, k3, k4, k5, k6, k7, k8, k9, k10, k11]
def interned : List (Array UInt16 × Addr) := []
def slotsUsed : Nat := 87
def theMethod : MethodId := ⟨1, 3⟩
def args0 : Array Value := #[.int 5]
def aboutOver (below : List Frame) : State where
  vm := { classes := classes, interned := interned.toArray }
  heap := heap
  slotsUsed := slotsUsed
  threads := #[{ frames := .invoking theMethod args0 :: below }]
def below0 : List Frame := [.native { method := ⟨0, 0⟩, args := #[] }]
def about1 : State := aboutOver below0
def p0 : Program := .bare "" "" ""
def e0 : Env := launch0.env 0 0 0
theorem w_frames : about1.frames = Frame.invoking theMethod args0 :: below0 := rfl
set_option maxRecDepth 65536 in
theorem w_args : argsFit about1.vm theMethod args0 = true := by decide +kernel
set_option maxRecDepth 65536 in
theorem w_heap : heapFits about1 = true := by decide +kernel
set_option maxRecDepth 65536 in
theorem w_runnable : about1.curStatus? = some .runnable := by decide +kernel
set_option maxRecDepth 65536 in
theorem w_alone : about1.alone = true := by decide +kernel
set_option maxRecDepth 65536 in
theorem w_named : about1.methodNamed? x = some theMethod := by decide +kernel
set_option maxRecDepth 65536 in
theorem w_hears : about1.hears theMethod below0 = true := by decide +kernel
set_option maxRecDepth 65536 in
theorem w_ripe : about1.ripe theMethod args0 below0 = true := by decide +kernel
theorem w_running : about1.status = .running := rfl
set_option maxRecDepth 65536 in
theorem w_room : about1.hasRoom e0.platform room_1 = true :=
  launch0.hasRoom_least _ room_1 (by decide +kernel) (by decide +kernel) (by decide +kernel) (by decide +kernel) (by decide +kernel) (by decide +kernel)
theorem allAtoms_all (ts : List Jvm.Cond) (a : Array Jvm.Value) (st : Jvm.State) : (allAtoms ts).before a st = ts.all (fun c => c.before a st) := by
  induction ts with
  | nil => rfl
  | cons c t ih =>
    show (Jvm.Cond.and c (allAtoms t)).before a st = _
    rw [Jvm.Cond.before_and, ih, List.all_cons]
def words1 : List Jvm.Cond := Jvm.Cond.code x code maxLocals ret :: tables_1
/-- a 'code' word, met by the world's own term for the bytes: nothing is compared byte by byte -/
theorem code_word {y : MethodName} {bytes : ByteArray} {mx : Nat} {rt : Option FieldType} {a : Array Value} {s : State} {m : MethodId} {meth : Method} {c : Code} (h1 : s.methodNamed? y = some m) (h2 : s.vm.method? m = some meth) (h3 : meth.code = some c) (h4 : c.code = bytes)
    (h5 : (c.maxLocals == mx && c.exceptionTable.isEmpty && decide (c.maxStack ≤ mostOperands) && decide (meth.sig.returnType = rt) && !meth.locks && decide (parseMethodDescriptor y.desc = some meth.sig)) = true) : (Jvm.Cond.code y bytes mx rt).before a s = true := by
  simp only [Bool.and_eq_true, beq_iff_eq, Bool.not_eq_true', decide_eq_true_eq] at h5
  obtain ⟨⟨⟨⟨⟨g1, g2⟩, g3⟩, g4⟩, g5⟩, g6⟩ := h5
  simp [Cond.before, Cond.holds, Cond.value, h1, h2, h3, h4, g1, g2, g3, g4, g5, g6]
def isCode : Jvm.Cond → Bool
  | .code _ _ _ _ => true
  | _ => false
theorem all_split {L : List Jvm.Cond} {P : Jvm.Cond → Bool} (h1 : L.all (fun c => isCode c || P c) = true) (h2 : ∀ c ∈ L.filter isCode, P c = true) : L.all P = true := by
  refine List.all_eq_true.mpr fun c hc => ?_
  have h := List.all_eq_true.mp h1 c hc
  rcases Bool.eq_false_or_eq_true (isCode c) with hi | hi
  · exact h2 c (List.mem_filter.mpr ⟨hc, hi⟩)
  · simpa [hi] using h
set_option maxRecDepth 65536 in
theorem w_c0 : (Jvm.Cond.code x code maxLocals ret).before args0 about1 = true := code_word (m := ⟨1, 3⟩) (meth := k1m3) (c := k1c3) (by decide +kernel) rfl rfl rfl (by decide +kernel)
set_option maxRecDepth 65536 in
theorem w_c1 : (Jvm.Cond.code ({ cls := "com/example/stylewright/stylewright/AtomicTypeIsConcretePinLaw", name := "pick", desc := "(I)Lcom/example/stylewright/stylewright/AtomicType;" } : Jvm.MethodName) method_2_code (1 : Nat) (Option.some (Jvm.ClassFile.FieldType.object "com/example/stylewright/stylewright/AtomicType"))).before args0 about1 = true := code_word (m := ⟨1, 1⟩) (meth := k1m1) (c := k1c1) (by decide +kernel) rfl rfl rfl (by decide +kernel)
set_option maxRecDepth 65536 in
theorem w_c2 : (Jvm.Cond.code ({ cls := "com/example/stylewright/stylewright/AtomicType", name := "isConcrete", desc := "()Z" } : Jvm.MethodName) prog_5_method_6_code (1 : Nat) (Option.some Jvm.ClassFile.FieldType.boolean)).before args0 about1 = true := code_word (m := ⟨6, 0⟩) (meth := k6m0) (c := k6c0) (by decide +kernel) rfl rfl rfl (by decide +kernel)
set_option maxRecDepth 65536 in
theorem w_c3 : (Jvm.Cond.code ({ cls := "com/example/stylewright/stylewright/AtomicTypeIsConcretePinLaw", name := "expectedConcrete", desc := "(I)Z" } : Jvm.MethodName) method_3_code (1 : Nat) (Option.some Jvm.ClassFile.FieldType.boolean)).before args0 about1 = true := code_word (m := ⟨1, 2⟩) (meth := k1m2) (c := k1c2) (by decide +kernel) rfl rfl rfl (by decide +kernel)
def codes1 : List Jvm.Cond := [Jvm.Cond.code x code maxLocals ret, Jvm.Cond.code ({ cls := "com/example/stylewright/stylewright/AtomicTypeIsConcretePinLaw", name := "pick", desc := "(I)Lcom/example/stylewright/stylewright/AtomicType;" } : Jvm.MethodName) method_2_code (1 : Nat) (Option.some (Jvm.ClassFile.FieldType.object "com/example/stylewright/stylewright/AtomicType")), Jvm.Cond.code ({ cls := "com/example/stylewright/stylewright/AtomicType", name := "isConcrete", desc := "()Z" } : Jvm.MethodName) prog_5_method_6_code (1 : Nat) (Option.some Jvm.ClassFile.FieldType.boolean), Jvm.Cond.code ({ cls := "com/example/stylewright/stylewright/AtomicTypeIsConcretePinLaw", name := "expectedConcrete", desc := "(I)Z" } : Jvm.MethodName) method_3_code (1 : Nat) (Option.some Jvm.ClassFile.FieldType.boolean)]
set_option maxRecDepth 65536 in
theorem codes_eq : words1.filter isCode = codes1 := rfl
theorem w_codes : ∀ c ∈ words1.filter isCode, c.before args0 about1 = true := by
  rw [codes_eq]
  intro c hc
  simp only [codes1, List.mem_cons, List.not_mem_nil, or_false] at hc
  rcases hc with rfl | rfl | rfl | rfl
  · exact w_c0
  · exact w_c1
  · exact w_c2
  · exact w_c3
set_option maxRecDepth 65536 in
theorem w_t1 : (words1.take 24).all (fun c => isCode c || c.before args0 about1) = true := by decide +kernel
set_option maxRecDepth 65536 in
theorem w_t2 : (words1.drop 24).all (fun c => isCode c || c.before args0 about1) = true := by decide +kernel
theorem w_tables : (allAtoms (Jvm.Cond.code x code maxLocals ret :: tables_1)).before args0 about1 = true := by
  rw [allAtoms_all]
  show words1.all (fun c => c.before args0 about1) = true
  refine all_split ?_ w_codes
  rw [← List.take_append_drop 24 words1, List.all_append, w_t1, w_t2]
  rfl
set_option maxRecDepth 65536 in
theorem w_case : (Jvm.Cond.and given_1 narrow_1).before args0 about1 = true := by decide +kernel
theorem w_applies : (headSpec (Jvm.Cond.code x code maxLocals ret :: tables_1) room_1).applies x e0.platform about1 = true :=
  (Spec.applies_iff w_frames).mpr ⟨w_running, w_runnable, w_alone, w_named, w_hears, w_ripe, w_room, w_tables⟩
theorem atStart : AtStart classFile x code maxLocals ret World_1 tables_1 room_1 Calls_1 rest_1 Pre_1 launch0 p0 e0 about1 theMethod args0 below0 :=
  ⟨lists_1, trivial, launch0.admits_env _ _ _, launch0.least_env, fairChoices_fair.cas, fairChoices_fair.clock, w_frames, w_args, w_heap, w_applies, trivial, trivial, w_case⟩
end start1
theorem witness_1 : WitnessClaimed_1 := ⟨start1.p0, start1.e0, start1.about1, start1.theMethod, start1.args0, start1.below0, start1.atStart⟩
end Jvm.Pilot.@@N@@
