import JvmDerived
import JvmDerived.Pilot.@@N@@Statement
import JvmDerived.Pilot.@@N@@Code
set_option linter.unusedVariables false
set_option linter.unusedSimpArgs false
namespace Jvm.Pilot.@@N@@
open Jvm Jvm.ClassFile Sem Op Lib Jvm.Free Jvm.Stand Jvm.LawKit Jvm.RoadKit Bundle Jvm.Pilot.@@N@@.Jvm.D
section Own
variable {p : Program} {l : Launch} {e : Env} {R : Room} {s : State} {m : MethodId} {args : Array Value} {below : List Frame} {meth : Method} {c : Code} {T : State} {locs : List Loc} {cells slots : Nat} {Z : State} {a0 : Array Value} {h : Heap} {Q : Outcome → State → Prop}
/-- the run from A comes to an end that Q takes -/
def own_G (p : Program) (e : Env) (below : List Frame) (Q : Outcome → State → Prop) (A : State) : Prop :=
  ∃ s₂ o, Steps p.tables e below A s₂ ∧ s₂.status = .running ∧ Ended s₂ below o ∧ Q o s₂
theorem own_go {A B : State} (k : ∀ t, Steps p.tables e below B t → Steps p.tables e below A t) (hB : own_G p e below Q B) : own_G p e below Q A := by
  obtain ⟨s₂, o, h1, h2⟩ := hB
  exact ⟨s₂, o, k _ h1, h2⟩
theorem own_ret (X : Stand p l e R s m args below meth c T locs cells slots) (hlk : meth.locks = false) {v : Option Value} (hv : meth.sig.returnType = none → v = none) {A : State}
    (hst : ∀ fs, (∀ (f : JFrame) (acts : List Action), f.method = m → f.locked = none → f.entered = [] → (doReturn e (T.setTop f) acts v).1 = T.setFrames fs) → Steps p.tables e below A (T.setFrames fs))
    (hQ : ∀ U : State, U.heap = T.heap → FrameEnd s (.returned v) U locs cells slots → Q (.returned v) U) : own_G p e below Q A := by
  obtain ⟨fs, hr, hrun, hended, hW, hsame⟩ := X.leave (v := v) hv hlk
  exact ⟨_, _, hst fs hr, hrun, hended, hQ _ rfl ⟨⟨_, rfl⟩, hW, hsame⟩⟩
/-- ireturn of a boolean, byte, char or short -/
theorem own_retN (X : Stand p l e R s m args below meth c T locs cells slots) (hx : p.tables.exec = Jvm.exec) (hlk : meth.locks = false) {t : FieldType} (ht : t = .boolean ∨ t = .byte ∨ t = .char ∨ t = .short) {pc : Nat} {Ls : Array Slot} {z : Int32} {rest : List Value}
    (hret : meth.sig.returnType = some t) (hd : decode c.code pc = .ok (.ireturn, 1)) {w : Int32} (hw : nar t z = w)
    (hQ : ∀ U : State, U.heap = T.heap → FrameEnd s (.returned (some (.int w))) U locs cells slots → Q (.returned (some (.int w))) U) : own_G p e below Q (T.setTop (mkF m pc Ls (.int z :: rest))) := by
  subst hw
  exact own_ret X hlk (fun h => by rw [hret] at h; cases h) (fun fs hr => retN X hx hret ht hd hr) hQ
/-- ireturn of an int -/
theorem own_retI (X : Stand p l e R s m args below meth c T locs cells slots) (hx : p.tables.exec = Jvm.exec) (hlk : meth.locks = false) {pc : Nat} {Ls : Array Slot} {z : Int32} {rest : List Value}
    (hret : meth.sig.returnType = some .int) (hd : decode c.code pc = .ok (.ireturn, 1))
    (hQ : ∀ U : State, U.heap = T.heap → FrameEnd s (.returned (some (.int z))) U locs cells slots → Q (.returned (some (.int z))) U) : own_G p e below Q (T.setTop (mkF m pc Ls (.int z :: rest))) :=
  own_ret X hlk (fun h => by rw [hret] at h; cases h) (fun fs hr => retOut X hx hret rfl (Or.inl ⟨rfl, Or.inl rfl, _, rfl⟩) hd hr) hQ
/-- areturn -/
theorem own_retR (X : Stand p l e R s m args below meth c T locs cells slots) (hx : p.tables.exec = Jvm.exec) (hlk : meth.locks = false) {t : FieldType} (ht : t.isReference = true) {pc : Nat} {Ls : Array Slot} {w : Value} (hr : w.isRef = true) (hn : narrow t w = w) {rest : List Value}
    (hret : meth.sig.returnType = some t) (hd : decode c.code pc = .ok (.areturn, 1))
    (hQ : ∀ U : State, U.heap = T.heap → FrameEnd s (.returned (some w)) U locs cells slots → Q (.returned (some w)) U) : own_G p e below Q (T.setTop (mkF m pc Ls (w :: rest))) :=
  own_ret X hlk (fun h => by rw [hret] at h; cases h) (fun fs hr' => retOut X hx hret hn (Or.inr (Or.inr (Or.inr (Or.inr ⟨rfl, ht, hr⟩)))) hd hr') hQ
/-- return of nothing -/
theorem own_retV (X : Stand p l e R s m args below meth c T locs cells slots) (hx : p.tables.exec = Jvm.exec) (hlk : meth.locks = false) {pc : Nat} {Ls : Array Slot}
    (hret : meth.sig.returnType = none) (hd : decode c.code pc = .ok (.return_, 1))
    (hQ : ∀ U : State, U.heap = T.heap → FrameEnd s (.returned none) U locs cells slots → Q (.returned none) U) : own_G p e below Q (T.setTop (mkF m pc Ls [])) :=
  own_ret X hlk (fun _ => rfl) (fun fs hr => X.returnOut hx hret hd hr) hQ
/-- a body's contract: called with as' over the heap h0 it returns, and QC says what -/
def own_C (l : Launch) (Z : State) (y : MethodName) (bytes : ByteArray) (maxL : Nat) (ret : Option FieldType) (ws : List Jvm.Cond) (rm : Room) (as' : Array Value) (h0 : Heap) (QC : Option Value → Heap → List Loc → Prop) : Prop :=
  MetFree l y (head1 (Jvm.Cond.code y bytes maxL ret :: ws) rm) (fun a U => a = as' ∧ Z.Warmed39 U.vm ∧ U.heap = h0) (fun _ _ _ _ _ => True) (fun _ U o U' => ∃ v L, o = .returned v ∧ QC v U'.heap L ∧ FrameEnd U o U' L rm.cells rm.slots)
theorem own_body {l : Launch} {Z : State} {y : MethodName} {bytes : ByteArray} {maxL : Nat} {ret : Option FieldType} {ws : List Jvm.Cond} {rm : Room} {as' : Array Value} {h0 : Heap} {QC : Option Value → Heap → List Loc → Prop}
    (hpn : plainName y.cls = true) {Ls : Array Slot} (hef : ∀ m, entryFrame m as' maxL = mkF m 0 Ls [])
    (H : ∀ (p : Program) (e : Env) (s : State) (m : MethodId) (below : List Frame) (meth : Method) (c : Code) (T : State) (Q : Outcome → State → Prop), p.tables.exec = Jvm.exec → c.code = bytes → c.maxLocals = maxL → s.vm.findClass y.cls = some m.cls → meth.name = y.name → meth.sig.returnType = ret → meth.locks = false → Z.Warmed39 s.vm → T.heap = h0 →
      Stand p l e rm s m as' below meth c T [] 0 0 →
      (∀ (v : Option Value) (L : List Loc) (k n : Nat) (U : State), QC v U.heap L → k ≤ rm.cells → n ≤ rm.slots → FrameEnd s (.returned v) U L k n → Q (.returned v) U) → own_G p e below Q (T.setTop (mkF m 0 Ls []))) :
    own_C l Z y bytes maxL ret ws rm as' h0 QC := by
  refine MetFree.of_bodySF (plainFor_of_name hpn) hisR ?_
  intro p e s m args below meth c s₁ Bd hml0 hP hK
  obtain ⟨ha, hZ, hh⟩ := hP
  subst ha
  have X0 : Stand p l e rm s m args below meth c s₁ [] 0 0 := Stand.of_body Bd
  have e0 : s₁.heap = h0 := by rw [← hh, Bd.state]; rfl
  obtain ⟨s₂, o, h1, h2, h3, h4⟩ := H p e s m below meth c s₁ (fun o U' => ∃ v L, o = .returned v ∧ QC v U'.heap L ∧ FrameEnd s o U' L rm.cells rm.slots) Bd.exec Bd.bytes hml0 (findClass_of_methodNamed Bd.named) (name_of_methodNamed Bd.named Bd.method).1 Bd.returns Bd.notSynchronized hZ e0 X0
    (fun v L k n U hq hk hn hF => ⟨v, L, rfl, hq, hF.1, hF.2.1, hF.2.2.mono hk hn⟩)
  exact ⟨s₂, o, castTop (hef m) h1, h2, h3, h4⟩
theorem own_callS (X : Stand p l e R s m args below meth c T locs cells slots) (hx : p.tables.exec = Jvm.exec) (hZ : Z.Warmed39 s.vm) {own : String} {index : Nat} {y : MethodName} {bytes : ByteArray} {maxL : Nat} {ret : Option FieldType} (hown : s.vm.findClass own = some m.cls)
    (w1 : (Jvm.Cond.methodLink own index y).before a0 Z = true) (w2 : (Jvm.Cond.static y).before a0 Z = true) (w3 : (Jvm.Cond.initialized y.cls).before a0 Z = true) (w4 : (Jvm.Cond.code y bytes maxL ret).before a0 Z = true)
    (hy : y.cls ≠ "java/lang/invoke/MethodHandle" ∧ y.cls ≠ "java/lang/invoke/VarHandle")
    {rm : Room} {argsL rest : List Value} {QC : Option Value → Heap → List Loc → Prop} (eT : T.heap = h) (hC : own_C l Z y bytes maxL ret [] rm argsL.toArray h QC)
    {pc : Nat} {Ls : Array Slot} {st : List Value} (hst : st = argsL.reverse ++ rest) (hml : Ls.size = c.maxLocals) {ps : List FieldType} {r : Option FieldType} (hpd : parseMethodDescriptor y.desc = some ⟨ps, r⟩) (hlen : argsL.length = ps.length)
    (hd : decode c.code pc = .ok (.invokestatic index, 3)) {W : Nat} (hW : (rest.map fun v => v.category).sum ≤ W) (hf : rm.frames + 1 ≤ R.frames) (hl : W + (maxL + 11) + rm.locals ≤ R.locals) (hcc : cells + rm.cells ≤ R.cells) (hss : slots + rm.slots ≤ R.slots)
    (K : ∀ (v : Option Value) (T' : State) (L : List Loc), Stand p l e R s m args below meth c T' (locs ++ L) (cells + rm.cells) (slots + rm.slots) → QC v T'.heap L → own_G p e below Q (T'.setTop (mkF m (pc + 3) Ls (v.toList ++ rest)))) :
    own_G p e below Q (T.setTop (mkF m pc Ls st)) := by
  subst hst
  obtain ⟨v, vm1, ⟨T', L', k', n'⟩, -, X', ⟨L, hQ, l1, y1, z1⟩, st'⟩ := Jvm.LawKit.callS X hx (y := y) hown (mvT hZ w1) (mvT hZ w2) (mvT hZ w3) (mvT hZ w4) hy (backOf (W := W) hC hZ w4 w3 hf hl) (g := mkF m pc Ls (argsL.reverse ++ rest)) rfl hml (argsL := argsL) (rest := rest) (lenOf hpd hlen) rfl
    (by show 2 * 0 + _ ≤ _; rw [Nat.mul_zero, Nat.zero_add]; exact hW) hd (fun vm hv => ⟨rfl, eT, hcc, hss⟩)
  dsimp only [Pt.U, Pt.locs, Pt.cells, Pt.slots] at X' l1 y1 z1 st' hQ
  subst l1 y1 z1
  exact own_go st' (K v T' L X' hQ)
theorem own_callV (X : Stand p l e R s m args below meth c T locs cells slots) (hx : p.tables.exec = Jvm.exec) (hZ : Z.Warmed39 s.vm) {own C : String} {index : Nat} {y : MethodName} {bytes : ByteArray} {maxL : Nat} {ret : Option FieldType} (hown : s.vm.findClass own = some m.cls)
    (w1 : (Jvm.Cond.methodLink own index y).before a0 Z = true) (w2 : (Jvm.Cond.declares y).before a0 Z = true) (w3 : (Jvm.Cond.selects C y y).before a0 Z = true) (w4 : (Jvm.Cond.instanceMethod y).before a0 Z = true) (w5 : (Jvm.Cond.code y bytes maxL ret).before a0 Z = true) (w6 : (Jvm.Cond.initialized y.cls).before a0 Z = true)
    (hy : y.cls ≠ "java/lang/invoke/MethodHandle" ∧ y.cls ≠ "java/lang/invoke/VarHandle")
    {rm : Room} {argsL rest : List Value} {QC : Option Value → Heap → List Loc → Prop} (eT : T.heap = h) {b : Addr} (E : Exa Z h b C) (hC : own_C l Z y bytes maxL ret [] rm (.ref b :: argsL).toArray h QC)
    {pc : Nat} {Ls : Array Slot} {st : List Value} (hst : st = argsL.reverse ++ .ref b :: rest) (hml : Ls.size = c.maxLocals) {ps : List FieldType} {r : Option FieldType} (hpd : parseMethodDescriptor y.desc = some ⟨ps, r⟩) (hlen : argsL.length = ps.length)
    (hd : decode c.code pc = .ok (.invokevirtual index, 3)) {W : Nat} (hW : (rest.map fun v => v.category).sum ≤ W) (hf : rm.frames + 1 ≤ R.frames) (hl : W + (maxL + 11) + rm.locals ≤ R.locals) (hcc : cells + rm.cells ≤ R.cells) (hss : slots + rm.slots ≤ R.slots)
    (K : ∀ (v : Option Value) (T' : State) (L : List Loc), Stand p l e R s m args below meth c T' (locs ++ L) (cells + rm.cells) (slots + rm.slots) → QC v T'.heap L → own_G p e below Q (T'.setTop (mkF m (pc + 3) Ls (v.toList ++ rest)))) :
    own_G p e below Q (T.setTop (mkF m pc Ls st)) := by
  subst hst
  obtain ⟨cq, kq, qa, qb, qc⟩ := isOf hZ eT E
  obtain ⟨v, vm1, ⟨T', L', k', n'⟩, -, X', ⟨L, hQ, l1, y1, z1⟩, st'⟩ := X.virtualBack hx (y := y) (z := y) hown (mvT hZ w1) (mvT hZ w2) (notFace_of_selects (args := #[]) (mvT hZ w3)) (mvT hZ w3) (mvT hZ w4) hy (backOf (W := W) hC hZ w5 w6 hf hl) qa qc (g := mkF m pc Ls (argsL.reverse ++ .ref b :: rest)) rfl hml (Steps.refl _) (argsL := argsL) (rest := rest) (lenOf hpd hlen) rfl
    (by show 2 * 0 + _ ≤ _; rw [Nat.mul_zero, Nat.zero_add]; exact hW) hd (fun vm hv => ⟨rfl, eT, hcc, hss⟩)
  dsimp only [Pt.U, Pt.locs, Pt.cells, Pt.slots] at X' l1 y1 z1 st' hQ
  subst l1 y1 z1
  exact own_go (fun t k => st'.trans k) (K v T' L X' hQ)
theorem own_getS (X : Stand p l e R s m args below meth c T locs cells slots) (hx : p.tables.exec = Jvm.exec) (hZ : Z.Warmed39 s.vm) {own O n d : String} {index : Nat} (hown : s.vm.findClass own = some m.cls) (w : (Jvm.Cond.fieldLink own index O n d).before a0 Z = true) (eT : T.heap = h) {v : Value} (F : Sta Z h O n d v)
    {pc : Nat} {Ls : Array Slot} {st : List Value} (hd : decode c.code pc = .ok (.getstatic index, 3))
    (K : ∀ T' : State, Stand p l e R s m args below meth c T' locs cells slots → T'.heap = h → own_G p e below Q (T'.setTop (mkF m (pc + 3) Ls (v :: st)))) : own_G p e below Q (T.setTop (mkF m pc Ls st)) := by
  obtain ⟨T', X', e', st'⟩ := getS2 X hx hZ hown (host := "") (Or.inl w) Via.refl eT F (g := mkF m pc Ls st) rfl hd
  exact own_go st' (K T' X' e')
theorem own_getF (X : Stand p l e R s m args below meth c T locs cells slots) (hx : p.tables.exec = Jvm.exec) (hZ : Z.Warmed39 s.vm) {own O n d : String} {index : Nat} (hown : s.vm.findClass own = some m.cls) (w : (Jvm.Cond.fieldLink own index O n d).before a0 Z = true) (eT : T.heap = h) {a : Addr} {v : Value} (F : Fld Z h a O n d v)
    {pc : Nat} {Ls : Array Slot} {st : List Value} (hd : decode c.code pc = .ok (.getfield index, 3))
    (K : ∀ T' : State, Stand p l e R s m args below meth c T' locs cells slots → T'.heap = h → own_G p e below Q (T'.setTop (mkF m (pc + 3) Ls (v :: st)))) : own_G p e below Q (T.setTop (mkF m pc Ls (.ref a :: st))) := by
  obtain ⟨T', X', e', st'⟩ := getF X hx hZ hown (host := "") (Or.inl w) Via.refl eT F (g := mkF m pc Ls (.ref a :: st)) rfl rfl hd
  exact own_go st' (K T' X' e')
/-- a body that changes nothing returns v -/
def own_P (v : Value) (h0 : Heap) (v' : Option Value) (h : Heap) (L : List Loc) : Prop := v' = some v ∧ h = h0 ∧ L = []
/-- a static call of a body that changes nothing -/
theorem own_callSP (X : Stand p l e R s m args below meth c T locs cells slots) (hx : p.tables.exec = Jvm.exec) (hZ : Z.Warmed39 s.vm) {own : String} {index : Nat} {y : MethodName} {bytes : ByteArray} {maxL : Nat} {ret : Option FieldType} (hown : s.vm.findClass own = some m.cls)
    (w1 : (Jvm.Cond.methodLink own index y).before a0 Z = true) (w2 : (Jvm.Cond.static y).before a0 Z = true) (w3 : (Jvm.Cond.initialized y.cls).before a0 Z = true) (w4 : (Jvm.Cond.code y bytes maxL ret).before a0 Z = true)
    (hy : y.cls ≠ "java/lang/invoke/MethodHandle" ∧ y.cls ≠ "java/lang/invoke/VarHandle")
    {fr lo : Nat} {argsL rest : List Value} {v : Value} (eT : T.heap = h) (hC : own_C l Z y bytes maxL ret [] ({ frames := fr, cells := 0, slots := 0, locals := lo } : Room) argsL.toArray h (own_P v h))
    {pc : Nat} {Ls : Array Slot} {st : List Value} (hst : st = argsL.reverse ++ rest) (hml : Ls.size = c.maxLocals) {ps : List FieldType} {r : Option FieldType} (hpd : parseMethodDescriptor y.desc = some ⟨ps, r⟩) (hlen : argsL.length = ps.length)
    (hd : decode c.code pc = .ok (.invokestatic index, 3)) {W : Nat} (hW : (rest.map fun v => v.category).sum ≤ W) (hf : fr + 1 ≤ R.frames) (hl : W + (maxL + 11) + lo ≤ R.locals) (hcc : cells ≤ R.cells) (hss : slots ≤ R.slots)
    (K : ∀ T' : State, Stand p l e R s m args below meth c T' locs cells slots → T'.heap = h → own_G p e below Q (T'.setTop (mkF m (pc + 3) Ls (v :: rest)))) :
    own_G p e below Q (T.setTop (mkF m pc Ls st)) :=
  own_callS X hx hZ hown w1 w2 w3 w4 hy eT hC hst hml hpd hlen hd hW hf hl hcc hss fun v' T' L X' hq => by
    obtain ⟨rfl, e', rfl⟩ := hq
    rw [List.append_nil] at X'
    exact K T' X' e'
/-- a virtual call of a body that changes nothing -/
theorem own_callVP (X : Stand p l e R s m args below meth c T locs cells slots) (hx : p.tables.exec = Jvm.exec) (hZ : Z.Warmed39 s.vm) {own C : String} {index : Nat} {y : MethodName} {bytes : ByteArray} {maxL : Nat} {ret : Option FieldType} (hown : s.vm.findClass own = some m.cls)
    (w1 : (Jvm.Cond.methodLink own index y).before a0 Z = true) (w2 : (Jvm.Cond.declares y).before a0 Z = true) (w3 : (Jvm.Cond.selects C y y).before a0 Z = true) (w4 : (Jvm.Cond.instanceMethod y).before a0 Z = true) (w5 : (Jvm.Cond.code y bytes maxL ret).before a0 Z = true) (w6 : (Jvm.Cond.initialized y.cls).before a0 Z = true)
    (hy : y.cls ≠ "java/lang/invoke/MethodHandle" ∧ y.cls ≠ "java/lang/invoke/VarHandle")
    {fr lo : Nat} {argsL rest : List Value} {v : Value} (eT : T.heap = h) {b : Addr} (E : Exa Z h b C) (hC : own_C l Z y bytes maxL ret [] ({ frames := fr, cells := 0, slots := 0, locals := lo } : Room) (.ref b :: argsL).toArray h (own_P v h))
    {pc : Nat} {Ls : Array Slot} {st : List Value} (hst : st = argsL.reverse ++ .ref b :: rest) (hml : Ls.size = c.maxLocals) {ps : List FieldType} {r : Option FieldType} (hpd : parseMethodDescriptor y.desc = some ⟨ps, r⟩) (hlen : argsL.length = ps.length)
    (hd : decode c.code pc = .ok (.invokevirtual index, 3)) {W : Nat} (hW : (rest.map fun v => v.category).sum ≤ W) (hf : fr + 1 ≤ R.frames) (hl : W + (maxL + 11) + lo ≤ R.locals) (hcc : cells ≤ R.cells) (hss : slots ≤ R.slots)
    (K : ∀ T' : State, Stand p l e R s m args below meth c T' locs cells slots → T'.heap = h → own_G p e below Q (T'.setTop (mkF m (pc + 3) Ls (v :: rest)))) :
    own_G p e below Q (T.setTop (mkF m pc Ls st)) :=
  own_callV X hx hZ hown w1 w2 w3 w4 w5 w6 hy eT E hC hst hml hpd hlen hd hW hf hl hcc hss fun v' T' L X' hq => by
    obtain ⟨rfl, e', rfl⟩ := hq
    rw [List.append_nil] at X'
    exact K T' X' e'
/-- a static of exactly the class C, out of a case's words -/
theorem own_sta {t : Term} {C n d : String} (ht : t = .static C n d) {K : String} (hq : (Jvm.Cond.exactly t K).value a0 Z none Z [] = some true) (wi : (Jvm.Cond.initialized C).before a0 Z = true) (wl : (Jvm.Cond.laysStatic C n d).before a0 Z = true) :
    ∃ a : Addr, t.eval a0 Z none [] Z = some (.ref a) ∧ Sta Z Z.heap C n d (.ref a) ∧ Exa Z Z.heap a K := by
  subst ht
  obtain ⟨a, ev⟩ := exa_v hq
  exact ⟨a, ev, Sta.start ev (Or.inr ⟨wi, wl⟩), Exa.start ev hq⟩
theorem own_fld {t : Term} {a : Addr} {C n d : String} {k : Int32} (ev : t.eval a0 Z none [] Z = some (.ref a)) (hq : (Jvm.Cond.eq (.field t C n d) (.int k)).value a0 Z none Z [] = some true) : Fld Z Z.heap a C n d (.int k) := by
  obtain ⟨x, y, h1, h2, -, -⟩ := cmp_v (Or.inl hq)
  have h2' : y = .int k := (Option.some.inj ((Term.int_eval k).symm.trans h2)).symm
  subst h2'
  have hxy : x = .int k := by
    cases x <;> simp [Jvm.Cond.value, h1, h2] at hq ⊢
    exact hq
  subst hxy
  rw [fld_at ev] at h1
  exact Fld.start h1
theorem own_mod (k : Int32) (n : Nat) (hn : 0 < n) (hn2 : n < 2147483648) (y : Int32) (hy : y.toInt = (n : Int)) : ∃ i : Nat, i < n ∧ (k &&& (2147483647 : Int32)) % y = Int32.ofNat i := by
  have hm := c_mask k (2147483647 : Int32) 31 (by decide) (by decide)
  have h0 : 0 ≤ (k &&& (2147483647 : Int32)).toInt := by rw [hm]; omega
  have hr := (c_irem (k &&& (2147483647 : Int32)) y n hy).1 h0
  have h1 : 0 ≤ ((k &&& (2147483647 : Int32)) % y).toInt ∧ ((k &&& (2147483647 : Int32)) % y).toInt < n := by rw [hr]; exact ⟨Int.emod_nonneg _ (by omega), Int.emod_lt_of_pos _ (by omega)⟩
  generalize (k &&& (2147483647 : Int32)) % y = z at h1
  refine ⟨z.toInt.toNat, by omega, ?_⟩
  apply Int32.toInt_inj.mp
  rw [Int32.toInt_ofNat_small (by omega)]
  omega
end Own
section OwnA
variable {p : Program} {l : Launch} {e : Env} {R : Room} {s : State} {m : MethodId} {args : Array Value} {below : List Frame} {meth : Method} {c : Code} {T : State} {locs : List Loc} {cells slots : Nat} {Z : State} {a0 : Array Value} {h h' : Heap} {Q : Outcome → State → Prop} {a b : Addr} {k : ClassId} {ty : FieldType} {n i n0 : Nat} {f : Nat → Value} {j : Int32} {pc : Nat} {Ls : Array Slot} {rest : List Value}
/-- the array at a (of the class k, of n places): its first i places hold f 0 .. f (i - 1) -/
def own_F (Z : State) (h : Heap) (a : Addr) (k : ClassId) (ty : FieldType) (n : Nat) (f : Nat → Value) (i : Nat) : Prop :=
  ∃ cl : Cell, Arr Z h a cl ty ∧ cl.cls = k ∧ cl.slots.size = n ∧ ∀ j, j < i → cl.slots[j]? = some (f j)
theorem own_F_ext (E : Ext h h') (F : own_F Z h a k ty n f i) : own_F Z h' a k ty n f i := by
  obtain ⟨cl, A, r⟩ := F
  exact ⟨cl, A.ext E, r⟩
theorem own_F_other {sl : Nat} {v : Value} (W : Wr h h' b sl v) (q : a ≠ b) (F : own_F Z h a k ty n f i) : own_F Z h' a k ty n f i := by
  obtain ⟨cl, A, r⟩ := F
  exact ⟨cl, A.other W q, r⟩
theorem own_F_lt (F : own_F Z h a k ty n f i) : a < h.size := by
  obtain ⟨cl, A, r⟩ := F
  exact A.lt
theorem own_F_set (F : own_F Z h a k ty n f i) (hi : i < n) (W : Wr h h' a i (f i)) : own_F Z h' a k ty n f (i + 1) := by
  obtain ⟨cl, A, q1, q2, q3⟩ := F
  refine ⟨cl.setSlot i (f i), A.same W, q1, by rw [sz_set]; exact q2, fun j hj => ?_⟩
  show (cl.slots.setIfInBounds i (f i))[j]? = _
  rw [Array.getElem?_setIfInBounds]
  by_cases q : i = j
  · subst q; rw [if_pos rfl, if_pos (by omega)]
  · rw [if_neg q]; exact q3 j (by omega)
theorem own_nat (hi : i < 2147483648) : (Int32.ofNat i).toNatClampNeg = i := by
  show (Int32.ofNat i).toInt.toNat = i
  rw [Int32.toInt_ofNat_small (by omega)]
  omega
theorem own_nn (hi : i < 2147483648) : ¬ Int32.ofNat i < 0 := by
  rw [Int32.lt_iff_toInt_lt, Int32.toInt_ofNat_small (by omega)]
  show ¬ (i : Int) < 0
  omega
theorem own_inb {cl : Cell} (q2 : cl.slots.size = n) (hi : i < n) (hn : n < 2147483648) : ¬ (Int32.ofNat i < 0 ∨ cl.slots.size ≤ (Int32.ofNat i).toNatClampNeg) := by
  rw [own_nat (by omega), q2]
  intro q
  rcases q with q | q
  · exact own_nn (by omega) q
  · omega
theorem own_stJ (X : Stand p l e R s m args below meth c T locs cells slots) (hx : p.tables.exec = Jvm.exec) (hZ : Z.Warmed39 s.vm) (eT : T.heap = h) (N : Fr n0 locs) (O : Old Z n0 h) (ha : n0 ≤ a) (F : own_F Z h a k .long n f i) (hi : i < n) (hn : n < 2147483648) {x : Int64} (hf : f i = .long x) (hj : j = Int32.ofNat i) (hd : decode c.code pc = .ok (.lastore, 1))
    (K : ∀ (T' : State) (h' : Heap) (locs' : List Loc), Stand p l e R s m args below meth c T' locs' cells slots → T'.heap = h' → Fr n0 locs' → Old Z n0 h' → Wr h h' a i (f i) → own_F Z h' a k .long n f (i + 1) → own_G p e below Q (T'.setTop (mkF m (pc + 1) Ls rest))) :
    own_G p e below Q (T.setTop (mkF m pc Ls (.long x :: .int j :: .ref a :: rest))) := by
  subst hj
  obtain ⟨cl, A, q1, q2, q3⟩ := id F
  obtain ⟨T', h', X', e', W, st⟩ := stJ X hx hZ eT A (own_inb q2 hi hn) (g := mkF m pc Ls (.long x :: .int (Int32.ofNat i) :: .ref a :: rest)) rfl rfl hd
  rw [own_nat (by omega)] at W
  rw [← hf] at W
  exact own_go st (K T' h' _ X' e' (Fr.snoc X' N ha) (O.wr W ha) W (own_F_set F hi W))
theorem own_stI (X : Stand p l e R s m args below meth c T locs cells slots) (hx : p.tables.exec = Jvm.exec) (hZ : Z.Warmed39 s.vm) (eT : T.heap = h) (N : Fr n0 locs) (O : Old Z n0 h) (ha : n0 ≤ a) (F : own_F Z h a k .int n f i) (hi : i < n) (hn : n < 2147483648) {x : Int32} (hf : f i = .int x) (hj : j = Int32.ofNat i) (hd : decode c.code pc = .ok (.iastore, 1))
    (K : ∀ (T' : State) (h' : Heap) (locs' : List Loc), Stand p l e R s m args below meth c T' locs' cells slots → T'.heap = h' → Fr n0 locs' → Old Z n0 h' → Wr h h' a i (f i) → own_F Z h' a k .int n f (i + 1) → own_G p e below Q (T'.setTop (mkF m (pc + 1) Ls rest))) :
    own_G p e below Q (T.setTop (mkF m pc Ls (.int x :: .int j :: .ref a :: rest))) := by
  subst hj
  obtain ⟨cl, A, q1, q2, q3⟩ := id F
  obtain ⟨T', h', X', e', W, st⟩ := stI X hx hZ eT A (own_inb q2 hi hn) (g := mkF m pc Ls (.int x :: .int (Int32.ofNat i) :: .ref a :: rest)) rfl rfl hd
  rw [own_nat (by omega)] at W
  rw [← hf] at W
  exact own_go st (K T' h' _ X' e' (Fr.snoc X' N ha) (O.wr W ha) W (own_F_set F hi W))
theorem own_stZ (X : Stand p l e R s m args below meth c T locs cells slots) (hx : p.tables.exec = Jvm.exec) (hZ : Z.Warmed39 s.vm) (eT : T.heap = h) (N : Fr n0 locs) (O : Old Z n0 h) (ha : n0 ≤ a) (F : own_F Z h a k .boolean n f i) (hi : i < n) (hn : n < 2147483648) {x : Int32} (hf : f i = .int (nar .boolean x)) (hj : j = Int32.ofNat i) (hd : decode c.code pc = .ok (.bastore, 1))
    (K : ∀ (T' : State) (h' : Heap) (locs' : List Loc), Stand p l e R s m args below meth c T' locs' cells slots → T'.heap = h' → Fr n0 locs' → Old Z n0 h' → Wr h h' a i (f i) → own_F Z h' a k .boolean n f (i + 1) → own_G p e below Q (T'.setTop (mkF m (pc + 1) Ls rest))) :
    own_G p e below Q (T.setTop (mkF m pc Ls (.int x :: .int j :: .ref a :: rest))) := by
  subst hj
  obtain ⟨cl, A, q1, q2, q3⟩ := id F
  obtain ⟨T', h', X', e', W, st⟩ := stZ X hx hZ eT A (own_inb q2 hi hn) (g := mkF m pc Ls (.int x :: .int (Int32.ofNat i) :: .ref a :: rest)) rfl rfl hd
  rw [own_nat (by omega)] at W
  rw [← hf] at W
  exact own_go st (K T' h' _ X' e' (Fr.snoc X' N ha) (O.wr W ha) W (own_F_set F hi W))
theorem own_stB (X : Stand p l e R s m args below meth c T locs cells slots) (hx : p.tables.exec = Jvm.exec) (hZ : Z.Warmed39 s.vm) (eT : T.heap = h) (N : Fr n0 locs) (O : Old Z n0 h) (ha : n0 ≤ a) (F : own_F Z h a k .byte n f i) (hi : i < n) (hn : n < 2147483648) {x : Int32} (hf : f i = .int (nar .byte x)) (hj : j = Int32.ofNat i) (hd : decode c.code pc = .ok (.bastore, 1))
    (K : ∀ (T' : State) (h' : Heap) (locs' : List Loc), Stand p l e R s m args below meth c T' locs' cells slots → T'.heap = h' → Fr n0 locs' → Old Z n0 h' → Wr h h' a i (f i) → own_F Z h' a k .byte n f (i + 1) → own_G p e below Q (T'.setTop (mkF m (pc + 1) Ls rest))) :
    own_G p e below Q (T.setTop (mkF m pc Ls (.int x :: .int j :: .ref a :: rest))) := by
  subst hj
  obtain ⟨cl, A, q1, q2, q3⟩ := id F
  obtain ⟨T', h', X', e', W, st⟩ := stB X hx hZ eT A (own_inb q2 hi hn) (g := mkF m pc Ls (.int x :: .int (Int32.ofNat i) :: .ref a :: rest)) rfl rfl hd
  rw [own_nat (by omega)] at W
  rw [← hf] at W
  exact own_go st (K T' h' _ X' e' (Fr.snoc X' N ha) (O.wr W ha) W (own_F_set F hi W))
theorem own_stR (X : Stand p l e R s m args below meth c T locs cells slots) (hx : p.tables.exec = Jvm.exec) (hZ : Z.Warmed39 s.vm) (eT : T.heap = h) (N : Fr n0 locs) (O : Old Z n0 h) (ha : n0 ≤ a) (F : own_F Z h a k ty n f i) (hi : i < n) (hn : n < 2147483648) (hty : ty.isReference = true) {C : String} (V : Ovr Z k C) {y : Addr} (I : Ins Z h y C true) (hf : f i = .ref y) (hj : j = Int32.ofNat i) (hd : decode c.code pc = .ok (.aastore, 1))
    (K : ∀ (T' : State) (h' : Heap) (locs' : List Loc), Stand p l e R s m args below meth c T' locs' cells slots → T'.heap = h' → Fr n0 locs' → Old Z n0 h' → Wr h h' a i (f i) → own_F Z h' a k ty n f (i + 1) → own_G p e below Q (T'.setTop (mkF m (pc + 1) Ls rest))) :
    own_G p e below Q (T.setTop (mkF m pc Ls (.ref y :: .int j :: .ref a :: rest))) := by
  subst hj
  obtain ⟨cl, A, q1, q2, q3⟩ := id F
  obtain ⟨T', h', X', e', W, st⟩ := stR X hx hZ eT A (own_inb q2 hi hn) hty (Sto.ofV A q1 V I) (g := mkF m pc Ls (.ref y :: .int (Int32.ofNat i) :: .ref a :: rest)) rfl rfl hd
  rw [own_nat (by omega)] at W
  rw [← hf] at W
  exact own_go st (K T' h' _ X' e' (Fr.snoc X' N ha) (O.wr W ha) W (own_F_set F hi W))
theorem own_ldI (X : Stand p l e R s m args below meth c T locs cells slots) (hx : p.tables.exec = Jvm.exec) (hZ : Z.Warmed39 s.vm) (eT : T.heap = h) (F : own_F Z h a k .int n f n) (hi : i < n) (hn : n < 2147483648) (hj : j = Int32.ofNat i) (hd : decode c.code pc = .ok (.iaload, 1))
    (K : own_G p e below Q (T.setTop (mkF m (pc + 1) Ls (f i :: rest)))) : own_G p e below Q (T.setTop (mkF m pc Ls (.int j :: .ref a :: rest))) := by
  subst hj
  obtain ⟨cl, A, q1, q2, q3⟩ := id F
  exact own_go (fun t kk => X.iaload hx (by rw [eT]; exact A.1) (State.isArrayOf_alike hZ.alike A.2.1) A.2.2 (own_inb q2 hi hn) (by rw [own_nat (by omega)]; exact q3 i hi) (g := mkF m pc Ls (.int (Int32.ofNat i) :: .ref a :: rest)) rfl rfl hd t kk) K
theorem own_ldJ (X : Stand p l e R s m args below meth c T locs cells slots) (hx : p.tables.exec = Jvm.exec) (hZ : Z.Warmed39 s.vm) (eT : T.heap = h) (F : own_F Z h a k .long n f n) (hi : i < n) (hn : n < 2147483648) (hj : j = Int32.ofNat i) (hd : decode c.code pc = .ok (.laload, 1))
    (K : own_G p e below Q (T.setTop (mkF m (pc + 1) Ls (f i :: rest)))) : own_G p e below Q (T.setTop (mkF m pc Ls (.int j :: .ref a :: rest))) := by
  subst hj
  obtain ⟨cl, A, q1, q2, q3⟩ := id F
  exact own_go (fun t kk => X.laload hx (by rw [eT]; exact A.1) (State.isArrayOf_alike hZ.alike A.2.1) A.2.2 (own_inb q2 hi hn) (by rw [own_nat (by omega)]; exact q3 i hi) (g := mkF m pc Ls (.int (Int32.ofNat i) :: .ref a :: rest)) rfl rfl hd t kk) K
theorem own_ldZ (X : Stand p l e R s m args below meth c T locs cells slots) (hx : p.tables.exec = Jvm.exec) (hZ : Z.Warmed39 s.vm) (eT : T.heap = h) (F : own_F Z h a k .boolean n f n) (hi : i < n) (hn : n < 2147483648) (hj : j = Int32.ofNat i) (hd : decode c.code pc = .ok (.baload, 1))
    (K : own_G p e below Q (T.setTop (mkF m (pc + 1) Ls (f i :: rest)))) : own_G p e below Q (T.setTop (mkF m pc Ls (.int j :: .ref a :: rest))) := by
  subst hj
  obtain ⟨cl, A, q1, q2, q3⟩ := id F
  exact own_go (fun t kk => X.baloadBooleans hx (by rw [eT]; exact A.1) (State.isArrayOf_alike hZ.alike A.2.1) A.2.2 (own_inb q2 hi hn) (by rw [own_nat (by omega)]; exact q3 i hi) (g := mkF m pc Ls (.int (Int32.ofNat i) :: .ref a :: rest)) rfl rfl hd t kk) K
theorem own_ldB (X : Stand p l e R s m args below meth c T locs cells slots) (hx : p.tables.exec = Jvm.exec) (hZ : Z.Warmed39 s.vm) (eT : T.heap = h) (F : own_F Z h a k .byte n f n) (hi : i < n) (hn : n < 2147483648) (hj : j = Int32.ofNat i) (hd : decode c.code pc = .ok (.baload, 1))
    (K : own_G p e below Q (T.setTop (mkF m (pc + 1) Ls (f i :: rest)))) : own_G p e below Q (T.setTop (mkF m pc Ls (.int j :: .ref a :: rest))) := by
  subst hj
  obtain ⟨cl, A, q1, q2, q3⟩ := id F
  exact own_go (fun t kk => X.baloadBytes hx (by rw [eT]; exact A.1) (State.isArrayOf_alike hZ.alike A.2.1) A.2.2 (own_inb q2 hi hn) (by rw [own_nat (by omega)]; exact q3 i hi) (g := mkF m pc Ls (.int (Int32.ofNat i) :: .ref a :: rest)) rfl rfl hd t kk) K
theorem own_ldR (X : Stand p l e R s m args below meth c T locs cells slots) (hx : p.tables.exec = Jvm.exec) (hZ : Z.Warmed39 s.vm) (eT : T.heap = h) (F : own_F Z h a k ty n f n) (hty : ty.isReference = true) (hi : i < n) (hn : n < 2147483648) (hj : j = Int32.ofNat i) (hd : decode c.code pc = .ok (.aaload, 1))
    (K : own_G p e below Q (T.setTop (mkF m (pc + 1) Ls (f i :: rest)))) : own_G p e below Q (T.setTop (mkF m pc Ls (.int j :: .ref a :: rest))) := by
  subst hj
  obtain ⟨cl, A, q1, q2, q3⟩ := id F
  exact own_go (fun t kk => X.aaload hx (by rw [eT]; exact A.1) (State.isArrayOf_alike hZ.alike A.2.1) hty A.2.2 (own_inb q2 hi hn) (by rw [own_nat (by omega)]; exact q3 i hi) (g := mkF m pc Ls (.int (Int32.ofNat i) :: .ref a :: rest)) rfl rfl hd t kk) K
theorem own_len (X : Stand p l e R s m args below meth c T locs cells slots) (hx : p.tables.exec = Jvm.exec) (hZ : Z.Warmed39 s.vm) (eT : T.heap = h) (F : own_F Z h a k ty n f i) (hd : decode c.code pc = .ok (.arraylength, 1))
    (K : own_G p e below Q (T.setTop (mkF m (pc + 1) Ls (.int (Int32.ofNat n) :: rest)))) : own_G p e below Q (T.setTop (mkF m pc Ls (.ref a :: rest))) := by
  obtain ⟨cl, A, q1, q2, q3⟩ := id F
  subst q2
  exact own_go (fun t kk => X.arraylength hx (by rw [eT]; exact A.1) (State.isArrayOf_alike hZ.alike A.2.1) (g := mkF m pc Ls (.ref a :: rest)) rfl rfl hd t kk) K
theorem own_newP (X : Stand p l e R s m args below meth c T locs cells slots) (hx : p.tables.exec = Jvm.exec) (hZ : Z.Warmed39 s.vm) {aty : ArrayType} (hty : newarray.typeOf aty = ty) (w : (Jvm.Cond.arrayClass ty).before a0 Z = true) (eT : T.heap = h) (O : Old Z n0 h) (hj : j = Int32.ofNat n) (hn : n * 8 ≤ 536870912) (hc : cells + 1 ≤ R.cells) (hl : slots + n ≤ R.slots) (hd : decode c.code pc = .ok (.newarray aty, 2))
    (K : ∀ (T' : State) (h' : Heap) (a : Addr) (k : ClassId), Stand p l e R s m args below meth c T' locs (cells + 1) (slots + n) → T'.heap = h' → Ext h h' → a = h.size → n0 ≤ a → Old Z n0 h' → (∀ f, own_F Z h' a k ty n f 0) → own_G p e below Q (T'.setTop (mkF m (pc + 2) Ls (.ref a :: rest)))) :
    own_G p e below Q (T.setTop (mkF m pc Ls (.int j :: rest))) := by
  subst hj hty
  obtain ⟨T', h', cA, X', e', E, A, st⟩ := newP X hx hZ w eT (g := mkF m pc Ls (.int (Int32.ofNat n) :: rest)) rfl hd rfl (own_nn (by omega)) (cap := n) (by rw [own_nat (by omega)]; exact Nat.le_refl _) hn hc hl
  refine own_go st (K T' h' h.size cA X' e' E rfl (by rw [← O.1]; exact O.2.1) (O.ext E) fun f => ⟨_, A, rfl, ?_, fun j hj => absurd hj (Nat.not_lt_zero j)⟩)
  rw [sz_new, own_nat (by omega)]
theorem own_newR (X : Stand p l e R s m args below meth c T locs cells slots) (hx : p.tables.exec = Jvm.exec) (hZ : Z.Warmed39 s.vm) {own C : String} {index : Nat} (hown : s.vm.findClass own = some m.cls) (w1 : (Jvm.Cond.classLink own index C).before a0 Z = true) (w2 : (Jvm.Cond.arrayOver (.object C)).before a0 Z = true) (eT : T.heap = h) (O : Old Z n0 h) (hj : j = Int32.ofNat n) (hn : n * 8 ≤ 536870912) (hc : cells + 1 ≤ R.cells) (hl : slots + n ≤ R.slots) (hd : decode c.code pc = .ok (.anewarray index, 3))
    (K : ∀ (T' : State) (h' : Heap) (a : Addr) (k : ClassId), Stand p l e R s m args below meth c T' locs (cells + 1) (slots + n) → T'.heap = h' → Ext h h' → a = h.size → n0 ≤ a → Old Z n0 h' → Ovr Z k C → (∀ f, own_F Z h' a k (.object C) n f 0) → own_G p e below Q (T'.setTop (mkF m (pc + 3) Ls (.ref a :: rest)))) :
    own_G p e below Q (T.setTop (mkF m pc Ls (.int j :: rest))) := by
  subst hj
  obtain ⟨T', h', cA, X', e', E, A, V, st⟩ := newR X hx hZ hown w1 w2 eT (g := mkF m pc Ls (.int (Int32.ofNat n) :: rest)) rfl hd rfl (own_nn (by omega)) (cap := n) (by rw [own_nat (by omega)]; exact Nat.le_refl _) hn hc hl
  refine own_go st (K T' h' h.size cA X' e' E rfl (by rw [← O.1]; exact O.2.1) (O.ext E) V fun f => ⟨_, A, rfl, ?_, fun j hj => absurd hj (Nat.not_lt_zero j)⟩)
  rw [sz_new, own_nat (by omega)]
end OwnA
/-- x lies in one of the ranges -/
def own_in : List (Int × Int) → Int → Bool
  | [], _ => false
  | (a, b) :: t, x => (decide (a ≤ x) && decide (x ≤ b)) || own_in t x
def own_R : List (Int × Int) → Int → Prop
  | [], _ => False
  | (a, b) :: t, x => (a ≤ x ∧ x ≤ b) ∨ own_R t x
theorem own_in_iff : ∀ (L : List (Int × Int)) (x : Int), own_in L x = true ↔ own_R L x
  | [], x => by simp [own_in, own_R]
  | (a, b) :: t, x => by
    have ih := own_in_iff t x
    simp [own_in, own_R, ih]
theorem own_ltY {c k : Int32} {a : Int} (hk : k.toInt = a) (h : c.toInt < a) : c < k := by rw [Int32.lt_iff_toInt_lt, hk]; exact h
theorem own_ltN {c k : Int32} {a : Int} (hk : k.toInt = a) (h : ¬ c.toInt < a) : ¬ c < k := by rw [Int32.lt_iff_toInt_lt, hk]; exact h
theorem own_gtY {c k : Int32} {a : Int} (hk : k.toInt = a) (h : ¬ c.toInt ≤ a) : k < c := by rw [Int32.lt_iff_toInt_lt, hk]; omega
theorem own_gtN {c k : Int32} {a : Int} (hk : k.toInt = a) (h : c.toInt ≤ a) : ¬ k < c := by rw [Int32.lt_iff_toInt_lt, hk]; omega
theorem own_eqY {c k : Int32} {a : Int} (hk : k.toInt = a) (h : c.toInt = a) : c = k := Int32.toInt_inj.mp (h.trans hk.symm)
theorem own_eqN {c k : Int32} {a : Int} (hk : k.toInt = a) (h : ¬ c.toInt = a) : ¬ c = k := fun q => h (q ▸ hk)
theorem own_hit {a b x : Int} {t : List (Int × Int)} (h1 : ¬ x < a) (h2 : x ≤ b) : own_in ((a, b) :: t) x = true := by
  have h1' : a ≤ x := by omega
  simp [own_in, h1', h2]
theorem own_lo {a b x : Int} {t : List (Int × Int)} (h : x < a) : own_in ((a, b) :: t) x = own_in t x := by
  have h' : ¬ a ≤ x := by omega
  simp [own_in, h']
theorem own_up {a b x : Int} {t : List (Int × Int)} (h : ¬ x ≤ b) : own_in ((a, b) :: t) x = own_in t x := by
  simp [own_in, h]
theorem own_one {a x : Int} {t : List (Int × Int)} (h : x = a) : own_in ((a, a) :: t) x = true := own_hit (by omega) (by omega)
theorem own_not {a x : Int} {t : List (Int × Int)} (h : ¬ x = a) : own_in ((a, a) :: t) x = own_in t x := by
  by_cases q : x < a
  · exact own_lo q
  · exact own_up (by omega)
theorem dn_0 : decode prog_201_method_8_code 0 = .ok (.iload_n 0, 1) := by decide +kernel
theorem dn_1 : decode prog_201_method_8_code 1 = .ok (.bipush 65, 2) := by decide +kernel
theorem dn_3 : decode prog_201_method_8_code 3 = .ok (.if_icmp .lt 9, 3) := by decide +kernel
theorem dn_6 : decode prog_201_method_8_code 6 = .ok (.iload_n 0, 1) := by decide +kernel
theorem dn_7 : decode prog_201_method_8_code 7 = .ok (.bipush 90, 2) := by decide +kernel
theorem dn_9 : decode prog_201_method_8_code 9 = .ok (.if_icmp .le 182, 3) := by decide +kernel
theorem dn_12 : decode prog_201_method_8_code 12 = .ok (.iload_n 0, 1) := by decide +kernel
theorem dn_13 : decode prog_201_method_8_code 13 = .ok (.bipush 95, 2) := by decide +kernel
theorem dn_15 : decode prog_201_method_8_code 15 = .ok (.if_icmp .eq 176, 3) := by decide +kernel
theorem dn_18 : decode prog_201_method_8_code 18 = .ok (.iload_n 0, 1) := by decide +kernel
theorem dn_19 : decode prog_201_method_8_code 19 = .ok (.bipush 97, 2) := by decide +kernel
theorem dn_21 : decode prog_201_method_8_code 21 = .ok (.if_icmp .lt 9, 3) := by decide +kernel
theorem dn_24 : decode prog_201_method_8_code 24 = .ok (.iload_n 0, 1) := by decide +kernel
theorem dn_25 : decode prog_201_method_8_code 25 = .ok (.bipush 122, 2) := by decide +kernel
theorem dn_27 : decode prog_201_method_8_code 27 = .ok (.if_icmp .le 164, 3) := by decide +kernel
theorem dn_30 : decode prog_201_method_8_code 30 = .ok (.iload_n 0, 1) := by decide +kernel
theorem dn_31 : decode prog_201_method_8_code 31 = .ok (.sipush 192, 3) := by decide +kernel
theorem dn_34 : decode prog_201_method_8_code 34 = .ok (.if_icmp .lt 10, 3) := by decide +kernel
theorem dn_37 : decode prog_201_method_8_code 37 = .ok (.iload_n 0, 1) := by decide +kernel
theorem dn_38 : decode prog_201_method_8_code 38 = .ok (.sipush 214, 3) := by decide +kernel
theorem dn_41 : decode prog_201_method_8_code 41 = .ok (.if_icmp .le 150, 3) := by decide +kernel
theorem dn_44 : decode prog_201_method_8_code 44 = .ok (.iload_n 0, 1) := by decide +kernel
theorem dn_45 : decode prog_201_method_8_code 45 = .ok (.sipush 216, 3) := by decide +kernel
theorem dn_48 : decode prog_201_method_8_code 48 = .ok (.if_icmp .lt 10, 3) := by decide +kernel
theorem dn_51 : decode prog_201_method_8_code 51 = .ok (.iload_n 0, 1) := by decide +kernel
theorem dn_52 : decode prog_201_method_8_code 52 = .ok (.sipush 246, 3) := by decide +kernel
theorem dn_55 : decode prog_201_method_8_code 55 = .ok (.if_icmp .le 136, 3) := by decide +kernel
theorem dn_58 : decode prog_201_method_8_code 58 = .ok (.iload_n 0, 1) := by decide +kernel
theorem dn_59 : decode prog_201_method_8_code 59 = .ok (.sipush 248, 3) := by decide +kernel
theorem dn_62 : decode prog_201_method_8_code 62 = .ok (.if_icmp .lt 10, 3) := by decide +kernel
theorem dn_65 : decode prog_201_method_8_code 65 = .ok (.iload_n 0, 1) := by decide +kernel
theorem dn_66 : decode prog_201_method_8_code 66 = .ok (.sipush 767, 3) := by decide +kernel
theorem dn_69 : decode prog_201_method_8_code 69 = .ok (.if_icmp .le 122, 3) := by decide +kernel
theorem dn_72 : decode prog_201_method_8_code 72 = .ok (.iload_n 0, 1) := by decide +kernel
theorem dn_73 : decode prog_201_method_8_code 73 = .ok (.sipush 880, 3) := by decide +kernel
theorem dn_76 : decode prog_201_method_8_code 76 = .ok (.if_icmp .lt 10, 3) := by decide +kernel
theorem dn_79 : decode prog_201_method_8_code 79 = .ok (.iload_n 0, 1) := by decide +kernel
theorem dn_80 : decode prog_201_method_8_code 80 = .ok (.sipush 893, 3) := by decide +kernel
theorem dn_83 : decode prog_201_method_8_code 83 = .ok (.if_icmp .le 108, 3) := by decide +kernel
theorem dn_86 : decode prog_201_method_8_code 86 = .ok (.iload_n 0, 1) := by decide +kernel
theorem dn_87 : decode prog_201_method_8_code 87 = .ok (.sipush 895, 3) := by decide +kernel
theorem dn_90 : decode prog_201_method_8_code 90 = .ok (.if_icmp .lt 10, 3) := by decide +kernel
theorem dn_93 : decode prog_201_method_8_code 93 = .ok (.iload_n 0, 1) := by decide +kernel
theorem dn_94 : decode prog_201_method_8_code 94 = .ok (.sipush 8191, 3) := by decide +kernel
theorem dn_97 : decode prog_201_method_8_code 97 = .ok (.if_icmp .le 94, 3) := by decide +kernel
theorem dn_100 : decode prog_201_method_8_code 100 = .ok (.iload_n 0, 1) := by decide +kernel
theorem dn_101 : decode prog_201_method_8_code 101 = .ok (.sipush 8204, 3) := by decide +kernel
theorem dn_104 : decode prog_201_method_8_code 104 = .ok (.if_icmp .lt 10, 3) := by decide +kernel
theorem dn_107 : decode prog_201_method_8_code 107 = .ok (.iload_n 0, 1) := by decide +kernel
theorem dn_108 : decode prog_201_method_8_code 108 = .ok (.sipush 8205, 3) := by decide +kernel
theorem dn_111 : decode prog_201_method_8_code 111 = .ok (.if_icmp .le 80, 3) := by decide +kernel
theorem dn_114 : decode prog_201_method_8_code 114 = .ok (.iload_n 0, 1) := by decide +kernel
theorem dn_115 : decode prog_201_method_8_code 115 = .ok (.sipush 8304, 3) := by decide +kernel
theorem dn_118 : decode prog_201_method_8_code 118 = .ok (.if_icmp .lt 10, 3) := by decide +kernel
theorem dn_121 : decode prog_201_method_8_code 121 = .ok (.iload_n 0, 1) := by decide +kernel
theorem dn_122 : decode prog_201_method_8_code 122 = .ok (.sipush 8591, 3) := by decide +kernel
theorem dn_125 : decode prog_201_method_8_code 125 = .ok (.if_icmp .le 66, 3) := by decide +kernel
theorem dn_128 : decode prog_201_method_8_code 128 = .ok (.iload_n 0, 1) := by decide +kernel
theorem dn_129 : decode prog_201_method_8_code 129 = .ok (.sipush 11264, 3) := by decide +kernel
theorem dn_132 : decode prog_201_method_8_code 132 = .ok (.if_icmp .lt 10, 3) := by decide +kernel
theorem dn_135 : decode prog_201_method_8_code 135 = .ok (.iload_n 0, 1) := by decide +kernel
theorem dn_136 : decode prog_201_method_8_code 136 = .ok (.sipush 12271, 3) := by decide +kernel
theorem dn_139 : decode prog_201_method_8_code 139 = .ok (.if_icmp .le 52, 3) := by decide +kernel
theorem dn_142 : decode prog_201_method_8_code 142 = .ok (.iload_n 0, 1) := by decide +kernel
theorem dn_143 : decode prog_201_method_8_code 143 = .ok (.sipush 12289, 3) := by decide +kernel
theorem dn_146 : decode prog_201_method_8_code 146 = .ok (.if_icmp .lt 9, 3) := by decide +kernel
theorem dn_149 : decode prog_201_method_8_code 149 = .ok (.iload_n 0, 1) := by decide +kernel
theorem dn_150 : decode prog_201_method_8_code 150 = .ok (.ldc 89, 2) := by decide +kernel
theorem dn_152 : decode prog_201_method_8_code 152 = .ok (.if_icmp .le 39, 3) := by decide +kernel
theorem dn_155 : decode prog_201_method_8_code 155 = .ok (.iload_n 0, 1) := by decide +kernel
theorem dn_156 : decode prog_201_method_8_code 156 = .ok (.ldc 90, 2) := by decide +kernel
theorem dn_158 : decode prog_201_method_8_code 158 = .ok (.if_icmp .lt 9, 3) := by decide +kernel
theorem dn_161 : decode prog_201_method_8_code 161 = .ok (.iload_n 0, 1) := by decide +kernel
theorem dn_162 : decode prog_201_method_8_code 162 = .ok (.ldc 91, 2) := by decide +kernel
theorem dn_164 : decode prog_201_method_8_code 164 = .ok (.if_icmp .le 27, 3) := by decide +kernel
theorem dn_167 : decode prog_201_method_8_code 167 = .ok (.iload_n 0, 1) := by decide +kernel
theorem dn_168 : decode prog_201_method_8_code 168 = .ok (.ldc 92, 2) := by decide +kernel
theorem dn_170 : decode prog_201_method_8_code 170 = .ok (.if_icmp .lt 9, 3) := by decide +kernel
theorem dn_173 : decode prog_201_method_8_code 173 = .ok (.iload_n 0, 1) := by decide +kernel
theorem dn_174 : decode prog_201_method_8_code 174 = .ok (.ldc 93, 2) := by decide +kernel
theorem dn_176 : decode prog_201_method_8_code 176 = .ok (.if_icmp .le 15, 3) := by decide +kernel
theorem dn_179 : decode prog_201_method_8_code 179 = .ok (.iload_n 0, 1) := by decide +kernel
theorem dn_180 : decode prog_201_method_8_code 180 = .ok (.ldc 94, 2) := by decide +kernel
theorem dn_182 : decode prog_201_method_8_code 182 = .ok (.if_icmp .lt 13, 3) := by decide +kernel
theorem dn_185 : decode prog_201_method_8_code 185 = .ok (.iload_n 0, 1) := by decide +kernel
theorem dn_186 : decode prog_201_method_8_code 186 = .ok (.ldc 95, 2) := by decide +kernel
theorem dn_188 : decode prog_201_method_8_code 188 = .ok (.if_icmp .gt 7, 3) := by decide +kernel
theorem dn_191 : decode prog_201_method_8_code 191 = .ok (.iconst 1, 1) := by decide +kernel
theorem dn_192 : decode prog_201_method_8_code 192 = .ok (.goto 4, 3) := by decide +kernel
theorem dn_195 : decode prog_201_method_8_code 195 = .ok (.iconst 0, 1) := by decide +kernel
theorem dn_196 : decode prog_201_method_8_code 196 = .ok (.ireturn, 1) := by decide +kernel
theorem pn_l : plainName "com/example/cardinality/cardinality/XmlNamesIsNameStartPinLaw" = true := by first | (simp [plainName, overriddenIn]; done) | decide +kernel
theorem pn_n : plainName "com/example/cardinality/cardinality/XmlNames" = true := by first | (simp [plainName, overriddenIn]; done) | decide +kernel
theorem pd_n : parseMethodDescriptor "(I)Z" = some ⟨[.int], some .boolean⟩ := by decide +kernel
theorem ef_p (m : MethodId) (x0 : Int32) : entryFrame m #[(.int x0)] 1 = mkF m 0 #[.val (.int x0)] [] := by first | (simp [entryFrame, mkF, argsToLocals, Value.category, maxLocals]; done) | rfl
theorem ef_0 (m : MethodId) (x0 x1 : Int32) : entryFrame m #[(.int x0), (.int x1)] maxLocals = mkF m 0 #[.val (.int x0), .val (.int x1), .unset, .unset, .unset, .unset, .unset, .unset, .unset, .unset, .unset, .unset, .unset] [] := by first | (simp [entryFrame, mkF, argsToLocals, Value.category, maxLocals]; done) | rfl
def own_rs : List (Int × Int) := [(65, 90), (95, 95), (97, 122), (192, 214), (216, 246), (248, 767), (880, 893), (895, 8191), (8204, 8205), (8304, 8591), (11264, 12271), (12289, 55295), (63744, 64975), (65008, 65533), (65536, 983039)]
set_option maxRecDepth 65536 in
set_option maxHeartbeats 40000000 in
theorem own_ns (l : Launch) (Z : State) (a0 : Array Value) (hw : ∀ d ∈ tables_1, d.before a0 Z = true) (h0 : Heap) (p1 : Int32) :
    own_C l Z (⟨"com/example/cardinality/cardinality/XmlNames", "isNameStart", "(I)Z"⟩ : MethodName) prog_201_method_8_code 1 (some .boolean) [] ({ frames := 0, cells := 0, slots := 0, locals := 0 } : Room) #[.int p1] h0 (own_P (.int (if own_in own_rs p1.toInt = true then 1 else 0)) h0) := by
  refine own_body pn_n (fun m => ef_p m _) ?_
  intro p e s m below meth c T Q hx hby hml hown hnm hret hlk hZ e0 X0 hR
  have LT : own_in own_rs p1.toInt = true → own_G p e below Q (T.setTop (mkF m 191 #[.val (.int p1)] [])) := by
    intro hv0
    show own_G p e below Q (T.setTop (mkF m 191 #[.val (.int p1)] []))
    refine own_go (fun _ k => XS.iconst X0.here hx rfl (hb hby dn_191) k) ?_
    show own_G p e below Q (T.setTop (mkF m 192 #[.val (.int p1)] [(.int (1 : Int32))]))
    refine own_go (fun _ k => XS.goto X0.here hx rfl (pc0 := 192) (pc' := 196) rfl (hb hby dn_192) (by decide) (by decide) k) ?_
    show own_G p e below Q (T.setTop (mkF m 196 #[.val (.int p1)] [(.int (1 : Int32))]))
    exact own_retN X0 hx hlk (Or.inl rfl) hret (hb hby dn_196) (by rw [if_pos hv0]; rfl) (fun U hU hF => hR _ _ _ _ _ ⟨rfl, hU.trans e0, rfl⟩ (by decide) (by decide) hF)
  have LF : own_in own_rs p1.toInt = false → own_G p e below Q (T.setTop (mkF m 195 #[.val (.int p1)] [])) := by
    intro hv0
    show own_G p e below Q (T.setTop (mkF m 195 #[.val (.int p1)] []))
    refine own_go (fun _ k => XS.iconst X0.here hx rfl (hb hby dn_195) k) ?_
    show own_G p e below Q (T.setTop (mkF m 196 #[.val (.int p1)] [(.int (0 : Int32))]))
    exact own_retN X0 hx hlk (Or.inl rfl) hret (hb hby dn_196) (by rw [hv0]; rfl) (fun U hU hF => hR _ _ _ _ _ ⟨rfl, hU.trans e0, rfl⟩ (by decide) (by decide) hF)
  have L14 : own_in own_rs p1.toInt = own_in [(65536, 983039)] p1.toInt → own_G p e below Q (T.setTop (mkF m 179 #[.val (.int p1)] [])) := by
    intro hv0
    show own_G p e below Q (T.setTop (mkF m 179 #[.val (.int p1)] []))
    refine own_go (fun _ k => XS.iloadN X0.here hx rfl (hb hby dn_179) rfl  k) ?_
    show own_G p e below Q (T.setTop (mkF m 180 #[.val (.int p1)] [(.int p1)]))
    refine own_go (fun _ k => X0.ldcI hx hown (mvT hZ (hw _ (List.mem_of_getElem? (i := 41) rfl))) rfl (hb hby dn_180) k) ?_
    show own_G p e below Q (T.setTop (mkF m 182 #[.val (.int p1)] [(.int (65536 : Int32)), (.int p1)]))
    by_cases h1 : p1.toInt < 65536
    · refine own_go (fun _ k => XS.icmpYes X0.here hx rfl (pc0 := 182) (pc' := 195) rfl (hb hby dn_182) rfl (tlt (own_ltY (by decide) h1)).1 (by decide) (by decide) k) ?_
      show own_G p e below Q (T.setTop (mkF m 195 #[.val (.int p1)] []))
      exact LF (hv0.trans (own_lo h1))
    · refine own_go (fun _ k => XS.icmpNo X0.here hx rfl (hb hby dn_182) rfl (flt (own_ltN (by decide) h1)).1 k) ?_
      show own_G p e below Q (T.setTop (mkF m 185 #[.val (.int p1)] []))
      refine own_go (fun _ k => XS.iloadN X0.here hx rfl (hb hby dn_185) rfl  k) ?_
      show own_G p e below Q (T.setTop (mkF m 186 #[.val (.int p1)] [(.int p1)]))
      refine own_go (fun _ k => X0.ldcI hx hown (mvT hZ (hw _ (List.mem_of_getElem? (i := 45) rfl))) rfl (hb hby dn_186) k) ?_
      show own_G p e below Q (T.setTop (mkF m 188 #[.val (.int p1)] [(.int (983039 : Int32)), (.int p1)]))
      by_cases h2 : p1.toInt ≤ 983039
      · refine own_go (fun _ k => XS.icmpNo X0.here hx rfl (hb hby dn_188) rfl (flt (own_gtN (by decide) h2)).2.2.1 k) ?_
        show own_G p e below Q (T.setTop (mkF m 191 #[.val (.int p1)] []))
        exact LT (hv0.trans (own_hit h1 h2))
      · refine own_go (fun _ k => XS.icmpYes X0.here hx rfl (pc0 := 188) (pc' := 195) rfl (hb hby dn_188) rfl (tlt (own_gtY (by decide) h2)).2.2.1 (by decide) (by decide) k) ?_
        show own_G p e below Q (T.setTop (mkF m 195 #[.val (.int p1)] []))
        exact LF (hv0.trans (own_up h2))
  have L13 : own_in own_rs p1.toInt = own_in [(65008, 65533), (65536, 983039)] p1.toInt → own_G p e below Q (T.setTop (mkF m 167 #[.val (.int p1)] [])) := by
    intro hv0
    show own_G p e below Q (T.setTop (mkF m 167 #[.val (.int p1)] []))
    refine own_go (fun _ k => XS.iloadN X0.here hx rfl (hb hby dn_167) rfl  k) ?_
    show own_G p e below Q (T.setTop (mkF m 168 #[.val (.int p1)] [(.int p1)]))
    refine own_go (fun _ k => X0.ldcI hx hown (mvT hZ (hw _ (List.mem_of_getElem? (i := 40) rfl))) rfl (hb hby dn_168) k) ?_
    show own_G p e below Q (T.setTop (mkF m 170 #[.val (.int p1)] [(.int (65008 : Int32)), (.int p1)]))
    by_cases h1 : p1.toInt < 65008
    · refine own_go (fun _ k => XS.icmpYes X0.here hx rfl (pc0 := 170) (pc' := 179) rfl (hb hby dn_170) rfl (tlt (own_ltY (by decide) h1)).1 (by decide) (by decide) k) ?_
      show own_G p e below Q (T.setTop (mkF m 179 #[.val (.int p1)] []))
      exact L14 (hv0.trans (own_lo h1))
    · refine own_go (fun _ k => XS.icmpNo X0.here hx rfl (hb hby dn_170) rfl (flt (own_ltN (by decide) h1)).1 k) ?_
      show own_G p e below Q (T.setTop (mkF m 173 #[.val (.int p1)] []))
      refine own_go (fun _ k => XS.iloadN X0.here hx rfl (hb hby dn_173) rfl  k) ?_
      show own_G p e below Q (T.setTop (mkF m 174 #[.val (.int p1)] [(.int p1)]))
      refine own_go (fun _ k => X0.ldcI hx hown (mvT hZ (hw _ (List.mem_of_getElem? (i := 44) rfl))) rfl (hb hby dn_174) k) ?_
      show own_G p e below Q (T.setTop (mkF m 176 #[.val (.int p1)] [(.int (65533 : Int32)), (.int p1)]))
      by_cases h2 : p1.toInt ≤ 65533
      · refine own_go (fun _ k => XS.icmpYes X0.here hx rfl (pc0 := 176) (pc' := 191) rfl (hb hby dn_176) rfl (flt (own_gtN (by decide) h2)).2.2.2 (by decide) (by decide) k) ?_
        show own_G p e below Q (T.setTop (mkF m 191 #[.val (.int p1)] []))
        exact LT (hv0.trans (own_hit h1 h2))
      · refine own_go (fun _ k => XS.icmpNo X0.here hx rfl (hb hby dn_176) rfl (tlt (own_gtY (by decide) h2)).2.2.2 k) ?_
        show own_G p e below Q (T.setTop (mkF m 179 #[.val (.int p1)] []))
        exact L14 (hv0.trans (own_up h2))
  have L12 : own_in own_rs p1.toInt = own_in [(63744, 64975), (65008, 65533), (65536, 983039)] p1.toInt → own_G p e below Q (T.setTop (mkF m 155 #[.val (.int p1)] [])) := by
    intro hv0
    show own_G p e below Q (T.setTop (mkF m 155 #[.val (.int p1)] []))
    refine own_go (fun _ k => XS.iloadN X0.here hx rfl (hb hby dn_155) rfl  k) ?_
    show own_G p e below Q (T.setTop (mkF m 156 #[.val (.int p1)] [(.int p1)]))
    refine own_go (fun _ k => X0.ldcI hx hown (mvT hZ (hw _ (List.mem_of_getElem? (i := 39) rfl))) rfl (hb hby dn_156) k) ?_
    show own_G p e below Q (T.setTop (mkF m 158 #[.val (.int p1)] [(.int (63744 : Int32)), (.int p1)]))
    by_cases h1 : p1.toInt < 63744
    · refine own_go (fun _ k => XS.icmpYes X0.here hx rfl (pc0 := 158) (pc' := 167) rfl (hb hby dn_158) rfl (tlt (own_ltY (by decide) h1)).1 (by decide) (by decide) k) ?_
      show own_G p e below Q (T.setTop (mkF m 167 #[.val (.int p1)] []))
      exact L13 (hv0.trans (own_lo h1))
    · refine own_go (fun _ k => XS.icmpNo X0.here hx rfl (hb hby dn_158) rfl (flt (own_ltN (by decide) h1)).1 k) ?_
      show own_G p e below Q (T.setTop (mkF m 161 #[.val (.int p1)] []))
      refine own_go (fun _ k => XS.iloadN X0.here hx rfl (hb hby dn_161) rfl  k) ?_
      show own_G p e below Q (T.setTop (mkF m 162 #[.val (.int p1)] [(.int p1)]))
      refine own_go (fun _ k => X0.ldcI hx hown (mvT hZ (hw _ (List.mem_of_getElem? (i := 43) rfl))) rfl (hb hby dn_162) k) ?_
      show own_G p e below Q (T.setTop (mkF m 164 #[.val (.int p1)] [(.int (64975 : Int32)), (.int p1)]))
      by_cases h2 : p1.toInt ≤ 64975
      · refine own_go (fun _ k => XS.icmpYes X0.here hx rfl (pc0 := 164) (pc' := 191) rfl (hb hby dn_164) rfl (flt (own_gtN (by decide) h2)).2.2.2 (by decide) (by decide) k) ?_
        show own_G p e below Q (T.setTop (mkF m 191 #[.val (.int p1)] []))
        exact LT (hv0.trans (own_hit h1 h2))
      · refine own_go (fun _ k => XS.icmpNo X0.here hx rfl (hb hby dn_164) rfl (tlt (own_gtY (by decide) h2)).2.2.2 k) ?_
        show own_G p e below Q (T.setTop (mkF m 167 #[.val (.int p1)] []))
        exact L13 (hv0.trans (own_up h2))
  have L11 : own_in own_rs p1.toInt = own_in [(12289, 55295), (63744, 64975), (65008, 65533), (65536, 983039)] p1.toInt → own_G p e below Q (T.setTop (mkF m 142 #[.val (.int p1)] [])) := by
    intro hv0
    show own_G p e below Q (T.setTop (mkF m 142 #[.val (.int p1)] []))
    refine own_go (fun _ k => XS.iloadN X0.here hx rfl (hb hby dn_142) rfl  k) ?_
    show own_G p e below Q (T.setTop (mkF m 143 #[.val (.int p1)] [(.int p1)]))
    refine own_go (fun _ k => XS.sipush X0.here hx rfl (hb hby dn_143) k) ?_
    show own_G p e below Q (T.setTop (mkF m 146 #[.val (.int p1)] [(.int (12289 : Int32)), (.int p1)]))
    by_cases h1 : p1.toInt < 12289
    · refine own_go (fun _ k => XS.icmpYes X0.here hx rfl (pc0 := 146) (pc' := 155) rfl (hb hby dn_146) rfl (tlt (own_ltY (by decide) h1)).1 (by decide) (by decide) k) ?_
      show own_G p e below Q (T.setTop (mkF m 155 #[.val (.int p1)] []))
      exact L12 (hv0.trans (own_lo h1))
    · refine own_go (fun _ k => XS.icmpNo X0.here hx rfl (hb hby dn_146) rfl (flt (own_ltN (by decide) h1)).1 k) ?_
      show own_G p e below Q (T.setTop (mkF m 149 #[.val (.int p1)] []))
      refine own_go (fun _ k => XS.iloadN X0.here hx rfl (hb hby dn_149) rfl  k) ?_
      show own_G p e below Q (T.setTop (mkF m 150 #[.val (.int p1)] [(.int p1)]))
      refine own_go (fun _ k => X0.ldcI hx hown (mvT hZ (hw _ (List.mem_of_getElem? (i := 42) rfl))) rfl (hb hby dn_150) k) ?_
      show own_G p e below Q (T.setTop (mkF m 152 #[.val (.int p1)] [(.int (55295 : Int32)), (.int p1)]))
      by_cases h2 : p1.toInt ≤ 55295
      · refine own_go (fun _ k => XS.icmpYes X0.here hx rfl (pc0 := 152) (pc' := 191) rfl (hb hby dn_152) rfl (flt (own_gtN (by decide) h2)).2.2.2 (by decide) (by decide) k) ?_
        show own_G p e below Q (T.setTop (mkF m 191 #[.val (.int p1)] []))
        exact LT (hv0.trans (own_hit h1 h2))
      · refine own_go (fun _ k => XS.icmpNo X0.here hx rfl (hb hby dn_152) rfl (tlt (own_gtY (by decide) h2)).2.2.2 k) ?_
        show own_G p e below Q (T.setTop (mkF m 155 #[.val (.int p1)] []))
        exact L12 (hv0.trans (own_up h2))
  have L10 : own_in own_rs p1.toInt = own_in [(11264, 12271), (12289, 55295), (63744, 64975), (65008, 65533), (65536, 983039)] p1.toInt → own_G p e below Q (T.setTop (mkF m 128 #[.val (.int p1)] [])) := by
    intro hv0
    show own_G p e below Q (T.setTop (mkF m 128 #[.val (.int p1)] []))
    refine own_go (fun _ k => XS.iloadN X0.here hx rfl (hb hby dn_128) rfl  k) ?_
    show own_G p e below Q (T.setTop (mkF m 129 #[.val (.int p1)] [(.int p1)]))
    refine own_go (fun _ k => XS.sipush X0.here hx rfl (hb hby dn_129) k) ?_
    show own_G p e below Q (T.setTop (mkF m 132 #[.val (.int p1)] [(.int (11264 : Int32)), (.int p1)]))
    by_cases h1 : p1.toInt < 11264
    · refine own_go (fun _ k => XS.icmpYes X0.here hx rfl (pc0 := 132) (pc' := 142) rfl (hb hby dn_132) rfl (tlt (own_ltY (by decide) h1)).1 (by decide) (by decide) k) ?_
      show own_G p e below Q (T.setTop (mkF m 142 #[.val (.int p1)] []))
      exact L11 (hv0.trans (own_lo h1))
    · refine own_go (fun _ k => XS.icmpNo X0.here hx rfl (hb hby dn_132) rfl (flt (own_ltN (by decide) h1)).1 k) ?_
      show own_G p e below Q (T.setTop (mkF m 135 #[.val (.int p1)] []))
      refine own_go (fun _ k => XS.iloadN X0.here hx rfl (hb hby dn_135) rfl  k) ?_
      show own_G p e below Q (T.setTop (mkF m 136 #[.val (.int p1)] [(.int p1)]))
      refine own_go (fun _ k => XS.sipush X0.here hx rfl (hb hby dn_136) k) ?_
      show own_G p e below Q (T.setTop (mkF m 139 #[.val (.int p1)] [(.int (12271 : Int32)), (.int p1)]))
      by_cases h2 : p1.toInt ≤ 12271
      · refine own_go (fun _ k => XS.icmpYes X0.here hx rfl (pc0 := 139) (pc' := 191) rfl (hb hby dn_139) rfl (flt (own_gtN (by decide) h2)).2.2.2 (by decide) (by decide) k) ?_
        show own_G p e below Q (T.setTop (mkF m 191 #[.val (.int p1)] []))
        exact LT (hv0.trans (own_hit h1 h2))
      · refine own_go (fun _ k => XS.icmpNo X0.here hx rfl (hb hby dn_139) rfl (tlt (own_gtY (by decide) h2)).2.2.2 k) ?_
        show own_G p e below Q (T.setTop (mkF m 142 #[.val (.int p1)] []))
        exact L11 (hv0.trans (own_up h2))
  have L9 : own_in own_rs p1.toInt = own_in [(8304, 8591), (11264, 12271), (12289, 55295), (63744, 64975), (65008, 65533), (65536, 983039)] p1.toInt → own_G p e below Q (T.setTop (mkF m 114 #[.val (.int p1)] [])) := by
    intro hv0
    show own_G p e below Q (T.setTop (mkF m 114 #[.val (.int p1)] []))
    refine own_go (fun _ k => XS.iloadN X0.here hx rfl (hb hby dn_114) rfl  k) ?_
    show own_G p e below Q (T.setTop (mkF m 115 #[.val (.int p1)] [(.int p1)]))
    refine own_go (fun _ k => XS.sipush X0.here hx rfl (hb hby dn_115) k) ?_
    show own_G p e below Q (T.setTop (mkF m 118 #[.val (.int p1)] [(.int (8304 : Int32)), (.int p1)]))
    by_cases h1 : p1.toInt < 8304
    · refine own_go (fun _ k => XS.icmpYes X0.here hx rfl (pc0 := 118) (pc' := 128) rfl (hb hby dn_118) rfl (tlt (own_ltY (by decide) h1)).1 (by decide) (by decide) k) ?_
      show own_G p e below Q (T.setTop (mkF m 128 #[.val (.int p1)] []))
      exact L10 (hv0.trans (own_lo h1))
    · refine own_go (fun _ k => XS.icmpNo X0.here hx rfl (hb hby dn_118) rfl (flt (own_ltN (by decide) h1)).1 k) ?_
      show own_G p e below Q (T.setTop (mkF m 121 #[.val (.int p1)] []))
      refine own_go (fun _ k => XS.iloadN X0.here hx rfl (hb hby dn_121) rfl  k) ?_
      show own_G p e below Q (T.setTop (mkF m 122 #[.val (.int p1)] [(.int p1)]))
      refine own_go (fun _ k => XS.sipush X0.here hx rfl (hb hby dn_122) k) ?_
      show own_G p e below Q (T.setTop (mkF m 125 #[.val (.int p1)] [(.int (8591 : Int32)), (.int p1)]))
      by_cases h2 : p1.toInt ≤ 8591
      · refine own_go (fun _ k => XS.icmpYes X0.here hx rfl (pc0 := 125) (pc' := 191) rfl (hb hby dn_125) rfl (flt (own_gtN (by decide) h2)).2.2.2 (by decide) (by decide) k) ?_
        show own_G p e below Q (T.setTop (mkF m 191 #[.val (.int p1)] []))
        exact LT (hv0.trans (own_hit h1 h2))
      · refine own_go (fun _ k => XS.icmpNo X0.here hx rfl (hb hby dn_125) rfl (tlt (own_gtY (by decide) h2)).2.2.2 k) ?_
        show own_G p e below Q (T.setTop (mkF m 128 #[.val (.int p1)] []))
        exact L10 (hv0.trans (own_up h2))
  have L8 : own_in own_rs p1.toInt = own_in [(8204, 8205), (8304, 8591), (11264, 12271), (12289, 55295), (63744, 64975), (65008, 65533), (65536, 983039)] p1.toInt → own_G p e below Q (T.setTop (mkF m 100 #[.val (.int p1)] [])) := by
    intro hv0
    show own_G p e below Q (T.setTop (mkF m 100 #[.val (.int p1)] []))
    refine own_go (fun _ k => XS.iloadN X0.here hx rfl (hb hby dn_100) rfl  k) ?_
    show own_G p e below Q (T.setTop (mkF m 101 #[.val (.int p1)] [(.int p1)]))
    refine own_go (fun _ k => XS.sipush X0.here hx rfl (hb hby dn_101) k) ?_
    show own_G p e below Q (T.setTop (mkF m 104 #[.val (.int p1)] [(.int (8204 : Int32)), (.int p1)]))
    by_cases h1 : p1.toInt < 8204
    · refine own_go (fun _ k => XS.icmpYes X0.here hx rfl (pc0 := 104) (pc' := 114) rfl (hb hby dn_104) rfl (tlt (own_ltY (by decide) h1)).1 (by decide) (by decide) k) ?_
      show own_G p e below Q (T.setTop (mkF m 114 #[.val (.int p1)] []))
      exact L9 (hv0.trans (own_lo h1))
    · refine own_go (fun _ k => XS.icmpNo X0.here hx rfl (hb hby dn_104) rfl (flt (own_ltN (by decide) h1)).1 k) ?_
      show own_G p e below Q (T.setTop (mkF m 107 #[.val (.int p1)] []))
      refine own_go (fun _ k => XS.iloadN X0.here hx rfl (hb hby dn_107) rfl  k) ?_
      show own_G p e below Q (T.setTop (mkF m 108 #[.val (.int p1)] [(.int p1)]))
      refine own_go (fun _ k => XS.sipush X0.here hx rfl (hb hby dn_108) k) ?_
      show own_G p e below Q (T.setTop (mkF m 111 #[.val (.int p1)] [(.int (8205 : Int32)), (.int p1)]))
      by_cases h2 : p1.toInt ≤ 8205
      · refine own_go (fun _ k => XS.icmpYes X0.here hx rfl (pc0 := 111) (pc' := 191) rfl (hb hby dn_111) rfl (flt (own_gtN (by decide) h2)).2.2.2 (by decide) (by decide) k) ?_
        show own_G p e below Q (T.setTop (mkF m 191 #[.val (.int p1)] []))
        exact LT (hv0.trans (own_hit h1 h2))
      · refine own_go (fun _ k => XS.icmpNo X0.here hx rfl (hb hby dn_111) rfl (tlt (own_gtY (by decide) h2)).2.2.2 k) ?_
        show own_G p e below Q (T.setTop (mkF m 114 #[.val (.int p1)] []))
        exact L9 (hv0.trans (own_up h2))
  have L7 : own_in own_rs p1.toInt = own_in [(895, 8191), (8204, 8205), (8304, 8591), (11264, 12271), (12289, 55295), (63744, 64975), (65008, 65533), (65536, 983039)] p1.toInt → own_G p e below Q (T.setTop (mkF m 86 #[.val (.int p1)] [])) := by
    intro hv0
    show own_G p e below Q (T.setTop (mkF m 86 #[.val (.int p1)] []))
    refine own_go (fun _ k => XS.iloadN X0.here hx rfl (hb hby dn_86) rfl  k) ?_
    show own_G p e below Q (T.setTop (mkF m 87 #[.val (.int p1)] [(.int p1)]))
    refine own_go (fun _ k => XS.sipush X0.here hx rfl (hb hby dn_87) k) ?_
    show own_G p e below Q (T.setTop (mkF m 90 #[.val (.int p1)] [(.int (895 : Int32)), (.int p1)]))
    by_cases h1 : p1.toInt < 895
    · refine own_go (fun _ k => XS.icmpYes X0.here hx rfl (pc0 := 90) (pc' := 100) rfl (hb hby dn_90) rfl (tlt (own_ltY (by decide) h1)).1 (by decide) (by decide) k) ?_
      show own_G p e below Q (T.setTop (mkF m 100 #[.val (.int p1)] []))
      exact L8 (hv0.trans (own_lo h1))
    · refine own_go (fun _ k => XS.icmpNo X0.here hx rfl (hb hby dn_90) rfl (flt (own_ltN (by decide) h1)).1 k) ?_
      show own_G p e below Q (T.setTop (mkF m 93 #[.val (.int p1)] []))
      refine own_go (fun _ k => XS.iloadN X0.here hx rfl (hb hby dn_93) rfl  k) ?_
      show own_G p e below Q (T.setTop (mkF m 94 #[.val (.int p1)] [(.int p1)]))
      refine own_go (fun _ k => XS.sipush X0.here hx rfl (hb hby dn_94) k) ?_
      show own_G p e below Q (T.setTop (mkF m 97 #[.val (.int p1)] [(.int (8191 : Int32)), (.int p1)]))
      by_cases h2 : p1.toInt ≤ 8191
      · refine own_go (fun _ k => XS.icmpYes X0.here hx rfl (pc0 := 97) (pc' := 191) rfl (hb hby dn_97) rfl (flt (own_gtN (by decide) h2)).2.2.2 (by decide) (by decide) k) ?_
        show own_G p e below Q (T.setTop (mkF m 191 #[.val (.int p1)] []))
        exact LT (hv0.trans (own_hit h1 h2))
      · refine own_go (fun _ k => XS.icmpNo X0.here hx rfl (hb hby dn_97) rfl (tlt (own_gtY (by decide) h2)).2.2.2 k) ?_
        show own_G p e below Q (T.setTop (mkF m 100 #[.val (.int p1)] []))
        exact L8 (hv0.trans (own_up h2))
  have L6 : own_in own_rs p1.toInt = own_in [(880, 893), (895, 8191), (8204, 8205), (8304, 8591), (11264, 12271), (12289, 55295), (63744, 64975), (65008, 65533), (65536, 983039)] p1.toInt → own_G p e below Q (T.setTop (mkF m 72 #[.val (.int p1)] [])) := by
    intro hv0
    show own_G p e below Q (T.setTop (mkF m 72 #[.val (.int p1)] []))
    refine own_go (fun _ k => XS.iloadN X0.here hx rfl (hb hby dn_72) rfl  k) ?_
    show own_G p e below Q (T.setTop (mkF m 73 #[.val (.int p1)] [(.int p1)]))
    refine own_go (fun _ k => XS.sipush X0.here hx rfl (hb hby dn_73) k) ?_
    show own_G p e below Q (T.setTop (mkF m 76 #[.val (.int p1)] [(.int (880 : Int32)), (.int p1)]))
    by_cases h1 : p1.toInt < 880
    · refine own_go (fun _ k => XS.icmpYes X0.here hx rfl (pc0 := 76) (pc' := 86) rfl (hb hby dn_76) rfl (tlt (own_ltY (by decide) h1)).1 (by decide) (by decide) k) ?_
      show own_G p e below Q (T.setTop (mkF m 86 #[.val (.int p1)] []))
      exact L7 (hv0.trans (own_lo h1))
    · refine own_go (fun _ k => XS.icmpNo X0.here hx rfl (hb hby dn_76) rfl (flt (own_ltN (by decide) h1)).1 k) ?_
      show own_G p e below Q (T.setTop (mkF m 79 #[.val (.int p1)] []))
      refine own_go (fun _ k => XS.iloadN X0.here hx rfl (hb hby dn_79) rfl  k) ?_
      show own_G p e below Q (T.setTop (mkF m 80 #[.val (.int p1)] [(.int p1)]))
      refine own_go (fun _ k => XS.sipush X0.here hx rfl (hb hby dn_80) k) ?_
      show own_G p e below Q (T.setTop (mkF m 83 #[.val (.int p1)] [(.int (893 : Int32)), (.int p1)]))
      by_cases h2 : p1.toInt ≤ 893
      · refine own_go (fun _ k => XS.icmpYes X0.here hx rfl (pc0 := 83) (pc' := 191) rfl (hb hby dn_83) rfl (flt (own_gtN (by decide) h2)).2.2.2 (by decide) (by decide) k) ?_
        show own_G p e below Q (T.setTop (mkF m 191 #[.val (.int p1)] []))
        exact LT (hv0.trans (own_hit h1 h2))
      · refine own_go (fun _ k => XS.icmpNo X0.here hx rfl (hb hby dn_83) rfl (tlt (own_gtY (by decide) h2)).2.2.2 k) ?_
        show own_G p e below Q (T.setTop (mkF m 86 #[.val (.int p1)] []))
        exact L7 (hv0.trans (own_up h2))
  have L5 : own_in own_rs p1.toInt = own_in [(248, 767), (880, 893), (895, 8191), (8204, 8205), (8304, 8591), (11264, 12271), (12289, 55295), (63744, 64975), (65008, 65533), (65536, 983039)] p1.toInt → own_G p e below Q (T.setTop (mkF m 58 #[.val (.int p1)] [])) := by
    intro hv0
    show own_G p e below Q (T.setTop (mkF m 58 #[.val (.int p1)] []))
    refine own_go (fun _ k => XS.iloadN X0.here hx rfl (hb hby dn_58) rfl  k) ?_
    show own_G p e below Q (T.setTop (mkF m 59 #[.val (.int p1)] [(.int p1)]))
    refine own_go (fun _ k => XS.sipush X0.here hx rfl (hb hby dn_59) k) ?_
    show own_G p e below Q (T.setTop (mkF m 62 #[.val (.int p1)] [(.int (248 : Int32)), (.int p1)]))
    by_cases h1 : p1.toInt < 248
    · refine own_go (fun _ k => XS.icmpYes X0.here hx rfl (pc0 := 62) (pc' := 72) rfl (hb hby dn_62) rfl (tlt (own_ltY (by decide) h1)).1 (by decide) (by decide) k) ?_
      show own_G p e below Q (T.setTop (mkF m 72 #[.val (.int p1)] []))
      exact L6 (hv0.trans (own_lo h1))
    · refine own_go (fun _ k => XS.icmpNo X0.here hx rfl (hb hby dn_62) rfl (flt (own_ltN (by decide) h1)).1 k) ?_
      show own_G p e below Q (T.setTop (mkF m 65 #[.val (.int p1)] []))
      refine own_go (fun _ k => XS.iloadN X0.here hx rfl (hb hby dn_65) rfl  k) ?_
      show own_G p e below Q (T.setTop (mkF m 66 #[.val (.int p1)] [(.int p1)]))
      refine own_go (fun _ k => XS.sipush X0.here hx rfl (hb hby dn_66) k) ?_
      show own_G p e below Q (T.setTop (mkF m 69 #[.val (.int p1)] [(.int (767 : Int32)), (.int p1)]))
      by_cases h2 : p1.toInt ≤ 767
      · refine own_go (fun _ k => XS.icmpYes X0.here hx rfl (pc0 := 69) (pc' := 191) rfl (hb hby dn_69) rfl (flt (own_gtN (by decide) h2)).2.2.2 (by decide) (by decide) k) ?_
        show own_G p e below Q (T.setTop (mkF m 191 #[.val (.int p1)] []))
        exact LT (hv0.trans (own_hit h1 h2))
      · refine own_go (fun _ k => XS.icmpNo X0.here hx rfl (hb hby dn_69) rfl (tlt (own_gtY (by decide) h2)).2.2.2 k) ?_
        show own_G p e below Q (T.setTop (mkF m 72 #[.val (.int p1)] []))
        exact L6 (hv0.trans (own_up h2))
  have L4 : own_in own_rs p1.toInt = own_in [(216, 246), (248, 767), (880, 893), (895, 8191), (8204, 8205), (8304, 8591), (11264, 12271), (12289, 55295), (63744, 64975), (65008, 65533), (65536, 983039)] p1.toInt → own_G p e below Q (T.setTop (mkF m 44 #[.val (.int p1)] [])) := by
    intro hv0
    show own_G p e below Q (T.setTop (mkF m 44 #[.val (.int p1)] []))
    refine own_go (fun _ k => XS.iloadN X0.here hx rfl (hb hby dn_44) rfl  k) ?_
    show own_G p e below Q (T.setTop (mkF m 45 #[.val (.int p1)] [(.int p1)]))
    refine own_go (fun _ k => XS.sipush X0.here hx rfl (hb hby dn_45) k) ?_
    show own_G p e below Q (T.setTop (mkF m 48 #[.val (.int p1)] [(.int (216 : Int32)), (.int p1)]))
    by_cases h1 : p1.toInt < 216
    · refine own_go (fun _ k => XS.icmpYes X0.here hx rfl (pc0 := 48) (pc' := 58) rfl (hb hby dn_48) rfl (tlt (own_ltY (by decide) h1)).1 (by decide) (by decide) k) ?_
      show own_G p e below Q (T.setTop (mkF m 58 #[.val (.int p1)] []))
      exact L5 (hv0.trans (own_lo h1))
    · refine own_go (fun _ k => XS.icmpNo X0.here hx rfl (hb hby dn_48) rfl (flt (own_ltN (by decide) h1)).1 k) ?_
      show own_G p e below Q (T.setTop (mkF m 51 #[.val (.int p1)] []))
      refine own_go (fun _ k => XS.iloadN X0.here hx rfl (hb hby dn_51) rfl  k) ?_
      show own_G p e below Q (T.setTop (mkF m 52 #[.val (.int p1)] [(.int p1)]))
      refine own_go (fun _ k => XS.sipush X0.here hx rfl (hb hby dn_52) k) ?_
      show own_G p e below Q (T.setTop (mkF m 55 #[.val (.int p1)] [(.int (246 : Int32)), (.int p1)]))
      by_cases h2 : p1.toInt ≤ 246
      · refine own_go (fun _ k => XS.icmpYes X0.here hx rfl (pc0 := 55) (pc' := 191) rfl (hb hby dn_55) rfl (flt (own_gtN (by decide) h2)).2.2.2 (by decide) (by decide) k) ?_
        show own_G p e below Q (T.setTop (mkF m 191 #[.val (.int p1)] []))
        exact LT (hv0.trans (own_hit h1 h2))
      · refine own_go (fun _ k => XS.icmpNo X0.here hx rfl (hb hby dn_55) rfl (tlt (own_gtY (by decide) h2)).2.2.2 k) ?_
        show own_G p e below Q (T.setTop (mkF m 58 #[.val (.int p1)] []))
        exact L5 (hv0.trans (own_up h2))
  have L3 : own_in own_rs p1.toInt = own_in [(192, 214), (216, 246), (248, 767), (880, 893), (895, 8191), (8204, 8205), (8304, 8591), (11264, 12271), (12289, 55295), (63744, 64975), (65008, 65533), (65536, 983039)] p1.toInt → own_G p e below Q (T.setTop (mkF m 30 #[.val (.int p1)] [])) := by
    intro hv0
    show own_G p e below Q (T.setTop (mkF m 30 #[.val (.int p1)] []))
    refine own_go (fun _ k => XS.iloadN X0.here hx rfl (hb hby dn_30) rfl  k) ?_
    show own_G p e below Q (T.setTop (mkF m 31 #[.val (.int p1)] [(.int p1)]))
    refine own_go (fun _ k => XS.sipush X0.here hx rfl (hb hby dn_31) k) ?_
    show own_G p e below Q (T.setTop (mkF m 34 #[.val (.int p1)] [(.int (192 : Int32)), (.int p1)]))
    by_cases h1 : p1.toInt < 192
    · refine own_go (fun _ k => XS.icmpYes X0.here hx rfl (pc0 := 34) (pc' := 44) rfl (hb hby dn_34) rfl (tlt (own_ltY (by decide) h1)).1 (by decide) (by decide) k) ?_
      show own_G p e below Q (T.setTop (mkF m 44 #[.val (.int p1)] []))
      exact L4 (hv0.trans (own_lo h1))
    · refine own_go (fun _ k => XS.icmpNo X0.here hx rfl (hb hby dn_34) rfl (flt (own_ltN (by decide) h1)).1 k) ?_
      show own_G p e below Q (T.setTop (mkF m 37 #[.val (.int p1)] []))
      refine own_go (fun _ k => XS.iloadN X0.here hx rfl (hb hby dn_37) rfl  k) ?_
      show own_G p e below Q (T.setTop (mkF m 38 #[.val (.int p1)] [(.int p1)]))
      refine own_go (fun _ k => XS.sipush X0.here hx rfl (hb hby dn_38) k) ?_
      show own_G p e below Q (T.setTop (mkF m 41 #[.val (.int p1)] [(.int (214 : Int32)), (.int p1)]))
      by_cases h2 : p1.toInt ≤ 214
      · refine own_go (fun _ k => XS.icmpYes X0.here hx rfl (pc0 := 41) (pc' := 191) rfl (hb hby dn_41) rfl (flt (own_gtN (by decide) h2)).2.2.2 (by decide) (by decide) k) ?_
        show own_G p e below Q (T.setTop (mkF m 191 #[.val (.int p1)] []))
        exact LT (hv0.trans (own_hit h1 h2))
      · refine own_go (fun _ k => XS.icmpNo X0.here hx rfl (hb hby dn_41) rfl (tlt (own_gtY (by decide) h2)).2.2.2 k) ?_
        show own_G p e below Q (T.setTop (mkF m 44 #[.val (.int p1)] []))
        exact L4 (hv0.trans (own_up h2))
  have L2 : own_in own_rs p1.toInt = own_in [(97, 122), (192, 214), (216, 246), (248, 767), (880, 893), (895, 8191), (8204, 8205), (8304, 8591), (11264, 12271), (12289, 55295), (63744, 64975), (65008, 65533), (65536, 983039)] p1.toInt → own_G p e below Q (T.setTop (mkF m 18 #[.val (.int p1)] [])) := by
    intro hv0
    show own_G p e below Q (T.setTop (mkF m 18 #[.val (.int p1)] []))
    refine own_go (fun _ k => XS.iloadN X0.here hx rfl (hb hby dn_18) rfl  k) ?_
    show own_G p e below Q (T.setTop (mkF m 19 #[.val (.int p1)] [(.int p1)]))
    refine own_go (fun _ k => XS.bipush X0.here hx rfl (hb hby dn_19) k) ?_
    show own_G p e below Q (T.setTop (mkF m 21 #[.val (.int p1)] [(.int (97 : Int32)), (.int p1)]))
    by_cases h1 : p1.toInt < 97
    · refine own_go (fun _ k => XS.icmpYes X0.here hx rfl (pc0 := 21) (pc' := 30) rfl (hb hby dn_21) rfl (tlt (own_ltY (by decide) h1)).1 (by decide) (by decide) k) ?_
      show own_G p e below Q (T.setTop (mkF m 30 #[.val (.int p1)] []))
      exact L3 (hv0.trans (own_lo h1))
    · refine own_go (fun _ k => XS.icmpNo X0.here hx rfl (hb hby dn_21) rfl (flt (own_ltN (by decide) h1)).1 k) ?_
      show own_G p e below Q (T.setTop (mkF m 24 #[.val (.int p1)] []))
      refine own_go (fun _ k => XS.iloadN X0.here hx rfl (hb hby dn_24) rfl  k) ?_
      show own_G p e below Q (T.setTop (mkF m 25 #[.val (.int p1)] [(.int p1)]))
      refine own_go (fun _ k => XS.bipush X0.here hx rfl (hb hby dn_25) k) ?_
      show own_G p e below Q (T.setTop (mkF m 27 #[.val (.int p1)] [(.int (122 : Int32)), (.int p1)]))
      by_cases h2 : p1.toInt ≤ 122
      · refine own_go (fun _ k => XS.icmpYes X0.here hx rfl (pc0 := 27) (pc' := 191) rfl (hb hby dn_27) rfl (flt (own_gtN (by decide) h2)).2.2.2 (by decide) (by decide) k) ?_
        show own_G p e below Q (T.setTop (mkF m 191 #[.val (.int p1)] []))
        exact LT (hv0.trans (own_hit h1 h2))
      · refine own_go (fun _ k => XS.icmpNo X0.here hx rfl (hb hby dn_27) rfl (tlt (own_gtY (by decide) h2)).2.2.2 k) ?_
        show own_G p e below Q (T.setTop (mkF m 30 #[.val (.int p1)] []))
        exact L3 (hv0.trans (own_up h2))
  have L1 : own_in own_rs p1.toInt = own_in [(95, 95), (97, 122), (192, 214), (216, 246), (248, 767), (880, 893), (895, 8191), (8204, 8205), (8304, 8591), (11264, 12271), (12289, 55295), (63744, 64975), (65008, 65533), (65536, 983039)] p1.toInt → own_G p e below Q (T.setTop (mkF m 12 #[.val (.int p1)] [])) := by
    intro hv0
    show own_G p e below Q (T.setTop (mkF m 12 #[.val (.int p1)] []))
    refine own_go (fun _ k => XS.iloadN X0.here hx rfl (hb hby dn_12) rfl  k) ?_
    show own_G p e below Q (T.setTop (mkF m 13 #[.val (.int p1)] [(.int p1)]))
    refine own_go (fun _ k => XS.bipush X0.here hx rfl (hb hby dn_13) k) ?_
    show own_G p e below Q (T.setTop (mkF m 15 #[.val (.int p1)] [(.int (95 : Int32)), (.int p1)]))
    by_cases h1 : p1.toInt = 95
    · refine own_go (fun _ k => XS.icmpYes X0.here hx rfl (pc0 := 15) (pc' := 191) rfl (hb hby dn_15) rfl (teq (own_eqY (by decide) h1)).1 (by decide) (by decide) k) ?_
      show own_G p e below Q (T.setTop (mkF m 191 #[.val (.int p1)] []))
      exact LT (hv0.trans (own_one h1))
    · refine own_go (fun _ k => XS.icmpNo X0.here hx rfl (hb hby dn_15) rfl (feq (own_eqN (by decide) h1)).1 k) ?_
      show own_G p e below Q (T.setTop (mkF m 18 #[.val (.int p1)] []))
      exact L2 (hv0.trans (own_not h1))
  have L0 : own_in own_rs p1.toInt = own_in [(65, 90), (95, 95), (97, 122), (192, 214), (216, 246), (248, 767), (880, 893), (895, 8191), (8204, 8205), (8304, 8591), (11264, 12271), (12289, 55295), (63744, 64975), (65008, 65533), (65536, 983039)] p1.toInt → own_G p e below Q (T.setTop (mkF m 0 #[.val (.int p1)] [])) := by
    intro hv0
    show own_G p e below Q (T.setTop (mkF m 0 #[.val (.int p1)] []))
    refine own_go (fun _ k => XS.iloadN X0.here hx rfl (hb hby dn_0) rfl  k) ?_
    show own_G p e below Q (T.setTop (mkF m 1 #[.val (.int p1)] [(.int p1)]))
    refine own_go (fun _ k => XS.bipush X0.here hx rfl (hb hby dn_1) k) ?_
    show own_G p e below Q (T.setTop (mkF m 3 #[.val (.int p1)] [(.int (65 : Int32)), (.int p1)]))
    by_cases h1 : p1.toInt < 65
    · refine own_go (fun _ k => XS.icmpYes X0.here hx rfl (pc0 := 3) (pc' := 12) rfl (hb hby dn_3) rfl (tlt (own_ltY (by decide) h1)).1 (by decide) (by decide) k) ?_
      show own_G p e below Q (T.setTop (mkF m 12 #[.val (.int p1)] []))
      exact L1 (hv0.trans (own_lo h1))
    · refine own_go (fun _ k => XS.icmpNo X0.here hx rfl (hb hby dn_3) rfl (flt (own_ltN (by decide) h1)).1 k) ?_
      show own_G p e below Q (T.setTop (mkF m 6 #[.val (.int p1)] []))
      refine own_go (fun _ k => XS.iloadN X0.here hx rfl (hb hby dn_6) rfl  k) ?_
      show own_G p e below Q (T.setTop (mkF m 7 #[.val (.int p1)] [(.int p1)]))
      refine own_go (fun _ k => XS.bipush X0.here hx rfl (hb hby dn_7) k) ?_
      show own_G p e below Q (T.setTop (mkF m 9 #[.val (.int p1)] [(.int (90 : Int32)), (.int p1)]))
      by_cases h2 : p1.toInt ≤ 90
      · refine own_go (fun _ k => XS.icmpYes X0.here hx rfl (pc0 := 9) (pc' := 191) rfl (hb hby dn_9) rfl (flt (own_gtN (by decide) h2)).2.2.2 (by decide) (by decide) k) ?_
        show own_G p e below Q (T.setTop (mkF m 191 #[.val (.int p1)] []))
        exact LT (hv0.trans (own_hit h1 h2))
      · refine own_go (fun _ k => XS.icmpNo X0.here hx rfl (hb hby dn_9) rfl (tlt (own_gtY (by decide) h2)).2.2.2 k) ?_
        show own_G p e below Q (T.setTop (mkF m 12 #[.val (.int p1)] []))
        exact L1 (hv0.trans (own_up h2))
  exact L0 rfl
def own_s (i : Nat) : Int64 := ([-2147483648, 65, 91, 95, 96, 97, 123, 192, 215, 216, 247, 248, 768, 880, 894, 895, 8192, 8204, 8206, 8304, 8592, 11264, 12272, 12289, 55296, 63744, 64976, 65008, 65534, 65536, 983040, 2147483648] : List Int64).getD i 0
theorem own_tab : ∀ i : Nat, i < 31 → -2147483648 ≤ (own_s i).toInt ∧ (own_s i).toInt < (own_s (i + 1)).toInt ∧ (own_s (i + 1)).toInt ≤ 2147483648 := by decide
theorem own_plain (i : Nat) (hi : i < 31) (c : Int32) (h1 : (own_s i).toInt ≤ c.toInt) (h2 : c.toInt < (own_s (i + 1)).toInt) : (if own_in own_rs (c).toInt = true then (1 : Int32) else 0) = (if (Int32.ofNat i &&& (1 : Int32)) = (1 : Int32) then 1 else 0) := by
  generalize c.toInt = y at h1 h2 ⊢
  obtain hi' : i = 0 ∨ i = 1 ∨ i = 2 ∨ i = 3 ∨ i = 4 ∨ i = 5 ∨ i = 6 ∨ i = 7 ∨ i = 8 ∨ i = 9 ∨ i = 10 ∨ i = 11 ∨ i = 12 ∨ i = 13 ∨ i = 14 ∨ i = 15 ∨ i = 16 ∨ i = 17 ∨ i = 18 ∨ i = 19 ∨ i = 20 ∨ i = 21 ∨ i = 22 ∨ i = 23 ∨ i = 24 ∨ i = 25 ∨ i = 26 ∨ i = 27 ∨ i = 28 ∨ i = 29 ∨ i = 30 := by omega
  clear hi
  rcases hi' with rfl | rfl | rfl | rfl | rfl | rfl | rfl | rfl | rfl | rfl | rfl | rfl | rfl | rfl | rfl | rfl | rfl | rfl | rfl | rfl | rfl | rfl | rfl | rfl | rfl | rfl | rfl | rfl | rfl | rfl | rfl
  · rw [(by decide : (own_s 0).toInt = -2147483648)] at h1
    rw [(by decide : (own_s (0 + 1)).toInt = 65)] at h2
    rw [if_neg fun q => (by have q' := (own_in_iff own_rs y).mp q; simp only [own_rs, own_R, or_false] at q'; omega), if_neg (by decide)]
  · rw [(by decide : (own_s 1).toInt = 65)] at h1
    rw [(by decide : (own_s (1 + 1)).toInt = 91)] at h2
    rw [if_pos ((own_in_iff own_rs y).mpr (by simp only [own_rs, own_R, or_false]; omega)), if_pos (by decide)]
  · rw [(by decide : (own_s 2).toInt = 91)] at h1
    rw [(by decide : (own_s (2 + 1)).toInt = 95)] at h2
    rw [if_neg fun q => (by have q' := (own_in_iff own_rs y).mp q; simp only [own_rs, own_R, or_false] at q'; omega), if_neg (by decide)]
  · rw [(by decide : (own_s 3).toInt = 95)] at h1
    rw [(by decide : (own_s (3 + 1)).toInt = 96)] at h2
    rw [if_pos ((own_in_iff own_rs y).mpr (by simp only [own_rs, own_R, or_false]; omega)), if_pos (by decide)]
  · rw [(by decide : (own_s 4).toInt = 96)] at h1
    rw [(by decide : (own_s (4 + 1)).toInt = 97)] at h2
    rw [if_neg fun q => (by have q' := (own_in_iff own_rs y).mp q; simp only [own_rs, own_R, or_false] at q'; omega), if_neg (by decide)]
  · rw [(by decide : (own_s 5).toInt = 97)] at h1
    rw [(by decide : (own_s (5 + 1)).toInt = 123)] at h2
    rw [if_pos ((own_in_iff own_rs y).mpr (by simp only [own_rs, own_R, or_false]; omega)), if_pos (by decide)]
  · rw [(by decide : (own_s 6).toInt = 123)] at h1
    rw [(by decide : (own_s (6 + 1)).toInt = 192)] at h2
    rw [if_neg fun q => (by have q' := (own_in_iff own_rs y).mp q; simp only [own_rs, own_R, or_false] at q'; omega), if_neg (by decide)]
  · rw [(by decide : (own_s 7).toInt = 192)] at h1
    rw [(by decide : (own_s (7 + 1)).toInt = 215)] at h2
    rw [if_pos ((own_in_iff own_rs y).mpr (by simp only [own_rs, own_R, or_false]; omega)), if_pos (by decide)]
  · rw [(by decide : (own_s 8).toInt = 215)] at h1
    rw [(by decide : (own_s (8 + 1)).toInt = 216)] at h2
    rw [if_neg fun q => (by have q' := (own_in_iff own_rs y).mp q; simp only [own_rs, own_R, or_false] at q'; omega), if_neg (by decide)]
  · rw [(by decide : (own_s 9).toInt = 216)] at h1
    rw [(by decide : (own_s (9 + 1)).toInt = 247)] at h2
    rw [if_pos ((own_in_iff own_rs y).mpr (by simp only [own_rs, own_R, or_false]; omega)), if_pos (by decide)]
  · rw [(by decide : (own_s 10).toInt = 247)] at h1
    rw [(by decide : (own_s (10 + 1)).toInt = 248)] at h2
    rw [if_neg fun q => (by have q' := (own_in_iff own_rs y).mp q; simp only [own_rs, own_R, or_false] at q'; omega), if_neg (by decide)]
  · rw [(by decide : (own_s 11).toInt = 248)] at h1
    rw [(by decide : (own_s (11 + 1)).toInt = 768)] at h2
    rw [if_pos ((own_in_iff own_rs y).mpr (by simp only [own_rs, own_R, or_false]; omega)), if_pos (by decide)]
  · rw [(by decide : (own_s 12).toInt = 768)] at h1
    rw [(by decide : (own_s (12 + 1)).toInt = 880)] at h2
    rw [if_neg fun q => (by have q' := (own_in_iff own_rs y).mp q; simp only [own_rs, own_R, or_false] at q'; omega), if_neg (by decide)]
  · rw [(by decide : (own_s 13).toInt = 880)] at h1
    rw [(by decide : (own_s (13 + 1)).toInt = 894)] at h2
    rw [if_pos ((own_in_iff own_rs y).mpr (by simp only [own_rs, own_R, or_false]; omega)), if_pos (by decide)]
  · rw [(by decide : (own_s 14).toInt = 894)] at h1
    rw [(by decide : (own_s (14 + 1)).toInt = 895)] at h2
    rw [if_neg fun q => (by have q' := (own_in_iff own_rs y).mp q; simp only [own_rs, own_R, or_false] at q'; omega), if_neg (by decide)]
  · rw [(by decide : (own_s 15).toInt = 895)] at h1
    rw [(by decide : (own_s (15 + 1)).toInt = 8192)] at h2
    rw [if_pos ((own_in_iff own_rs y).mpr (by simp only [own_rs, own_R, or_false]; omega)), if_pos (by decide)]
  · rw [(by decide : (own_s 16).toInt = 8192)] at h1
    rw [(by decide : (own_s (16 + 1)).toInt = 8204)] at h2
    rw [if_neg fun q => (by have q' := (own_in_iff own_rs y).mp q; simp only [own_rs, own_R, or_false] at q'; omega), if_neg (by decide)]
  · rw [(by decide : (own_s 17).toInt = 8204)] at h1
    rw [(by decide : (own_s (17 + 1)).toInt = 8206)] at h2
    rw [if_pos ((own_in_iff own_rs y).mpr (by simp only [own_rs, own_R, or_false]; omega)), if_pos (by decide)]
  · rw [(by decide : (own_s 18).toInt = 8206)] at h1
    rw [(by decide : (own_s (18 + 1)).toInt = 8304)] at h2
    rw [if_neg fun q => (by have q' := (own_in_iff own_rs y).mp q; simp only [own_rs, own_R, or_false] at q'; omega), if_neg (by decide)]
  · rw [(by decide : (own_s 19).toInt = 8304)] at h1
    rw [(by decide : (own_s (19 + 1)).toInt = 8592)] at h2
    rw [if_pos ((own_in_iff own_rs y).mpr (by simp only [own_rs, own_R, or_false]; omega)), if_pos (by decide)]
  · rw [(by decide : (own_s 20).toInt = 8592)] at h1
    rw [(by decide : (own_s (20 + 1)).toInt = 11264)] at h2
    rw [if_neg fun q => (by have q' := (own_in_iff own_rs y).mp q; simp only [own_rs, own_R, or_false] at q'; omega), if_neg (by decide)]
  · rw [(by decide : (own_s 21).toInt = 11264)] at h1
    rw [(by decide : (own_s (21 + 1)).toInt = 12272)] at h2
    rw [if_pos ((own_in_iff own_rs y).mpr (by simp only [own_rs, own_R, or_false]; omega)), if_pos (by decide)]
  · rw [(by decide : (own_s 22).toInt = 12272)] at h1
    rw [(by decide : (own_s (22 + 1)).toInt = 12289)] at h2
    rw [if_neg fun q => (by have q' := (own_in_iff own_rs y).mp q; simp only [own_rs, own_R, or_false] at q'; omega), if_neg (by decide)]
  · rw [(by decide : (own_s 23).toInt = 12289)] at h1
    rw [(by decide : (own_s (23 + 1)).toInt = 55296)] at h2
    rw [if_pos ((own_in_iff own_rs y).mpr (by simp only [own_rs, own_R, or_false]; omega)), if_pos (by decide)]
  · rw [(by decide : (own_s 24).toInt = 55296)] at h1
    rw [(by decide : (own_s (24 + 1)).toInt = 63744)] at h2
    rw [if_neg fun q => (by have q' := (own_in_iff own_rs y).mp q; simp only [own_rs, own_R, or_false] at q'; omega), if_neg (by decide)]
  · rw [(by decide : (own_s 25).toInt = 63744)] at h1
    rw [(by decide : (own_s (25 + 1)).toInt = 64976)] at h2
    rw [if_pos ((own_in_iff own_rs y).mpr (by simp only [own_rs, own_R, or_false]; omega)), if_pos (by decide)]
  · rw [(by decide : (own_s 26).toInt = 64976)] at h1
    rw [(by decide : (own_s (26 + 1)).toInt = 65008)] at h2
    rw [if_neg fun q => (by have q' := (own_in_iff own_rs y).mp q; simp only [own_rs, own_R, or_false] at q'; omega), if_neg (by decide)]
  · rw [(by decide : (own_s 27).toInt = 65008)] at h1
    rw [(by decide : (own_s (27 + 1)).toInt = 65534)] at h2
    rw [if_pos ((own_in_iff own_rs y).mpr (by simp only [own_rs, own_R, or_false]; omega)), if_pos (by decide)]
  · rw [(by decide : (own_s 28).toInt = 65534)] at h1
    rw [(by decide : (own_s (28 + 1)).toInt = 65536)] at h2
    rw [if_neg fun q => (by have q' := (own_in_iff own_rs y).mp q; simp only [own_rs, own_R, or_false] at q'; omega), if_neg (by decide)]
  · rw [(by decide : (own_s 29).toInt = 65536)] at h1
    rw [(by decide : (own_s (29 + 1)).toInt = 983040)] at h2
    rw [if_pos ((own_in_iff own_rs y).mpr (by simp only [own_rs, own_R, or_false]; omega)), if_pos (by decide)]
  · rw [(by decide : (own_s 30).toInt = 983040)] at h1
    rw [(by decide : (own_s (30 + 1)).toInt = 2147483648)] at h2
    rw [if_neg fun q => (by have q' := (own_in_iff own_rs y).mp q; simp only [own_rs, own_R, or_false] at q'; omega), if_neg (by decide)]
theorem own_three (i : Nat) (hi : i < 31) (d : Int32) (lo nx : Int64) (hlo : lo = own_s i) (hnx : nx = own_s (i + 1)) :
    nx - lo ≠ 0 ∧ ((own_s i).toInt ≤ lo.toInt32.toInt ∧ lo.toInt32.toInt < (own_s (i + 1)).toInt) ∧ ((own_s i).toInt ≤ (nx - 1).toInt32.toInt ∧ (nx - 1).toInt32.toInt < (own_s (i + 1)).toInt) ∧
    ((own_s i).toInt ≤ (lo + ((d.toInt64 &&& (4294967295 : Int64)) - ((d.toInt64 &&& (4294967295 : Int64)) / (nx - lo)) * (nx - lo))).toInt32.toInt ∧ (lo + ((d.toInt64 &&& (4294967295 : Int64)) - ((d.toInt64 &&& (4294967295 : Int64)) / (nx - lo)) * (nx - lo))).toInt32.toInt < (own_s (i + 1)).toInt) := by
  obtain ⟨t1, t2, t3⟩ := own_tab i hi
  rw [← hlo] at t1 t2 ⊢
  rw [← hnx] at t2 t3 ⊢
  have hm := c_maskL d.toInt64 (4294967295 : Int64) 32 (by decide) (by decide)
  have hm0 : 0 ≤ (d.toInt64 &&& (4294967295 : Int64)).toInt := by rw [hm]; omega
  generalize d.toInt64 &&& (4294967295 : Int64) = z at hm0 ⊢
  have hs := c_lsub nx lo
  have rs := rng64 (nx - lo)
  have hs' : (nx - lo).toInt = nx.toInt - lo.toInt := by omega
  have hr := (c_lrem z (nx - lo) _ rfl).1 hm0
  have hr0 : 0 ≤ (z - (z / (nx - lo)) * (nx - lo)).toInt ∧ (z - (z / (nx - lo)) * (nx - lo)).toInt < (nx - lo).toInt := by
    rw [hr]
    exact ⟨Int.emod_nonneg _ (by omega), Int.emod_lt_of_pos _ (by omega)⟩
  generalize z - (z / (nx - lo)) * (nx - lo) = w at hr0 ⊢
  have ha := c_ladd lo w
  have ra := rng64 (lo + w)
  have hb := c_lsub nx 1
  have rb := rng64 (nx - 1)
  have h1 : (1 : Int64).toInt = 1 := by decide
  have k1 := c_l2i lo
  have k2 := c_l2i (nx - 1)
  have k3 := c_l2i (lo + w)
  have r1 := rng32 lo.toInt32
  have r2 := rng32 (nx - 1).toInt32
  have r3 := rng32 (lo + w).toInt32
  have z0 : nx - lo ≠ 0 := by
    intro q
    rw [q] at hs'
    have : (0 : Int64).toInt = 0 := by decide
    omega
  refine ⟨z0, ⟨?_, ?_⟩, ⟨?_, ?_⟩, ⟨?_, ?_⟩⟩ <;> omega
theorem own_succ (i : Nat) : Int32.ofNat i + 1 = Int32.ofNat (i + 1) := (Int32.ofNat_add i 1).symm
set_option maxRecDepth 65536 in
set_option maxHeartbeats 40000000 in
theorem rm0 (l : Launch) (Z : State) (a0 : Array Value) (hw : ∀ d ∈ tables_1, d.before a0 Z = true) (p1 p2 : Int32) :
    own_C l Z x code maxLocals ret tables_1 room_1 #[.int p1, .int p2] Z.heap (fun v h L => v = some (.int 1) ∧ Fr Z.heap.size L) := by
  refine own_body pn_l (fun m => ef_0 m _ _) ?_
  intro p e s m below meth c T Q hx hby hml hown hnm hret hlk hZ e0 X0 hR
  have O0 := Old.start Z
  have N0 := Fr.nil Z.heap.size
  obtain ⟨i, hi, hr⟩ := own_mod p1 31 (by decide) (by decide) (31 : Int32) (by decide)
  show own_G p e below Q (T.setTop (mkF m 0 #[.val (.int p1), .val (.int p2), .unset, .unset, .unset, .unset, .unset, .unset, .unset, .unset, .unset, .unset, .unset] []))
  refine own_go (fun _ k => XS.bipush X0.here hx rfl (hb hby at_0) k) ?_
  show own_G p e below Q (T.setTop (mkF m 2 #[.val (.int p1), .val (.int p2), .unset, .unset, .unset, .unset, .unset, .unset, .unset, .unset, .unset, .unset, .unset] [(.int (32 : Int32))]))
  refine own_newP X0 hx hZ (aty := .long) rfl (hw _ (List.mem_of_getElem? (i := 0) rfl)) e0 O0 (n := 32) (by decide) (by decide) (by decide) (by decide) (hb hby at_2) ?_
  intro T1 h1 a1 k1 X1 e1 E1 q1 g1 O1 F1
  replace F1 := F1 (fun i => .long (own_s i))
  show own_G p e below Q (T1.setTop (mkF m 4 #[.val (.int p1), .val (.int p2), .unset, .unset, .unset, .unset, .unset, .unset, .unset, .unset, .unset, .unset, .unset] [(.ref a1)]))
  refine own_go (fun _ k => XS.dup X1.here hx rfl (hb hby at_4) rfl rfl k) ?_
  show own_G p e below Q (T1.setTop (mkF m 5 #[.val (.int p1), .val (.int p2), .unset, .unset, .unset, .unset, .unset, .unset, .unset, .unset, .unset, .unset, .unset] [(.ref a1), (.ref a1)]))
  refine own_go (fun _ k => XS.iconst X1.here hx rfl (hb hby at_5) k) ?_
  show own_G p e below Q (T1.setTop (mkF m 6 #[.val (.int p1), .val (.int p2), .unset, .unset, .unset, .unset, .unset, .unset, .unset, .unset, .unset, .unset, .unset] [(.int (0 : Int32)), (.ref a1), (.ref a1)]))
  refine own_go (fun _ k => X1.ldc2J hx hown (mvT hZ (hw _ (List.mem_of_getElem? (i := 1) rfl))) rfl (hb hby at_6) k) ?_
  show own_G p e below Q (T1.setTop (mkF m 9 #[.val (.int p1), .val (.int p2), .unset, .unset, .unset, .unset, .unset, .unset, .unset, .unset, .unset, .unset, .unset] [(.long (-2147483648 : Int64)), (.int (0 : Int32)), (.ref a1), (.ref a1)]))
  refine own_stJ X1 hx hZ e1 N0 O1 g1 F1 (by decide) (by decide) rfl (by decide) (hb hby at_9) ?_
  intro T2 h2 l2 X2 e2 N2 O2 W2 F2
  clear X1 e1 O1 F1
  show own_G p e below Q (T2.setTop (mkF m 10 #[.val (.int p1), .val (.int p2), .unset, .unset, .unset, .unset, .unset, .unset, .unset, .unset, .unset, .unset, .unset] [(.ref a1)]))
  refine own_go (fun _ k => XS.dup X2.here hx rfl (hb hby at_10) rfl rfl k) ?_
  show own_G p e below Q (T2.setTop (mkF m 11 #[.val (.int p1), .val (.int p2), .unset, .unset, .unset, .unset, .unset, .unset, .unset, .unset, .unset, .unset, .unset] [(.ref a1), (.ref a1)]))
  refine own_go (fun _ k => XS.iconst X2.here hx rfl (hb hby at_11) k) ?_
  show own_G p e below Q (T2.setTop (mkF m 12 #[.val (.int p1), .val (.int p2), .unset, .unset, .unset, .unset, .unset, .unset, .unset, .unset, .unset, .unset, .unset] [(.int (1 : Int32)), (.ref a1), (.ref a1)]))
  refine own_go (fun _ k => X2.ldc2J hx hown (mvT hZ (hw _ (List.mem_of_getElem? (i := 2) rfl))) rfl (hb hby at_12) k) ?_
  show own_G p e below Q (T2.setTop (mkF m 15 #[.val (.int p1), .val (.int p2), .unset, .unset, .unset, .unset, .unset, .unset, .unset, .unset, .unset, .unset, .unset] [(.long (65 : Int64)), (.int (1 : Int32)), (.ref a1), (.ref a1)]))
  refine own_stJ X2 hx hZ e2 N2 O2 g1 F2 (by decide) (by decide) rfl (by decide) (hb hby at_15) ?_
  intro T3 h3 l3 X3 e3 N3 O3 W3 F3
  clear X2 e2 N2 O2 F2
  show own_G p e below Q (T3.setTop (mkF m 16 #[.val (.int p1), .val (.int p2), .unset, .unset, .unset, .unset, .unset, .unset, .unset, .unset, .unset, .unset, .unset] [(.ref a1)]))
  refine own_go (fun _ k => XS.dup X3.here hx rfl (hb hby at_16) rfl rfl k) ?_
  show own_G p e below Q (T3.setTop (mkF m 17 #[.val (.int p1), .val (.int p2), .unset, .unset, .unset, .unset, .unset, .unset, .unset, .unset, .unset, .unset, .unset] [(.ref a1), (.ref a1)]))
  refine own_go (fun _ k => XS.iconst X3.here hx rfl (hb hby at_17) k) ?_
  show own_G p e below Q (T3.setTop (mkF m 18 #[.val (.int p1), .val (.int p2), .unset, .unset, .unset, .unset, .unset, .unset, .unset, .unset, .unset, .unset, .unset] [(.int (2 : Int32)), (.ref a1), (.ref a1)]))
  refine own_go (fun _ k => X3.ldc2J hx hown (mvT hZ (hw _ (List.mem_of_getElem? (i := 3) rfl))) rfl (hb hby at_18) k) ?_
  show own_G p e below Q (T3.setTop (mkF m 21 #[.val (.int p1), .val (.int p2), .unset, .unset, .unset, .unset, .unset, .unset, .unset, .unset, .unset, .unset, .unset] [(.long (91 : Int64)), (.int (2 : Int32)), (.ref a1), (.ref a1)]))
  refine own_stJ X3 hx hZ e3 N3 O3 g1 F3 (by decide) (by decide) rfl (by decide) (hb hby at_21) ?_
  intro T4 h4 l4 X4 e4 N4 O4 W4 F4
  clear X3 e3 N3 O3 F3
  show own_G p e below Q (T4.setTop (mkF m 22 #[.val (.int p1), .val (.int p2), .unset, .unset, .unset, .unset, .unset, .unset, .unset, .unset, .unset, .unset, .unset] [(.ref a1)]))
  refine own_go (fun _ k => XS.dup X4.here hx rfl (hb hby at_22) rfl rfl k) ?_
  show own_G p e below Q (T4.setTop (mkF m 23 #[.val (.int p1), .val (.int p2), .unset, .unset, .unset, .unset, .unset, .unset, .unset, .unset, .unset, .unset, .unset] [(.ref a1), (.ref a1)]))
  refine own_go (fun _ k => XS.iconst X4.here hx rfl (hb hby at_23) k) ?_
  show own_G p e below Q (T4.setTop (mkF m 24 #[.val (.int p1), .val (.int p2), .unset, .unset, .unset, .unset, .unset, .unset, .unset, .unset, .unset, .unset, .unset] [(.int (3 : Int32)), (.ref a1), (.ref a1)]))
  refine own_go (fun _ k => X4.ldc2J hx hown (mvT hZ (hw _ (List.mem_of_getElem? (i := 4) rfl))) rfl (hb hby at_24) k) ?_
  show own_G p e below Q (T4.setTop (mkF m 27 #[.val (.int p1), .val (.int p2), .unset, .unset, .unset, .unset, .unset, .unset, .unset, .unset, .unset, .unset, .unset] [(.long (95 : Int64)), (.int (3 : Int32)), (.ref a1), (.ref a1)]))
  refine own_stJ X4 hx hZ e4 N4 O4 g1 F4 (by decide) (by decide) rfl (by decide) (hb hby at_27) ?_
  intro T5 h5 l5 X5 e5 N5 O5 W5 F5
  clear X4 e4 N4 O4 F4
  show own_G p e below Q (T5.setTop (mkF m 28 #[.val (.int p1), .val (.int p2), .unset, .unset, .unset, .unset, .unset, .unset, .unset, .unset, .unset, .unset, .unset] [(.ref a1)]))
  refine own_go (fun _ k => XS.dup X5.here hx rfl (hb hby at_28) rfl rfl k) ?_
  show own_G p e below Q (T5.setTop (mkF m 29 #[.val (.int p1), .val (.int p2), .unset, .unset, .unset, .unset, .unset, .unset, .unset, .unset, .unset, .unset, .unset] [(.ref a1), (.ref a1)]))
  refine own_go (fun _ k => XS.iconst X5.here hx rfl (hb hby at_29) k) ?_
  show own_G p e below Q (T5.setTop (mkF m 30 #[.val (.int p1), .val (.int p2), .unset, .unset, .unset, .unset, .unset, .unset, .unset, .unset, .unset, .unset, .unset] [(.int (4 : Int32)), (.ref a1), (.ref a1)]))
  refine own_go (fun _ k => X5.ldc2J hx hown (mvT hZ (hw _ (List.mem_of_getElem? (i := 5) rfl))) rfl (hb hby at_30) k) ?_
  show own_G p e below Q (T5.setTop (mkF m 33 #[.val (.int p1), .val (.int p2), .unset, .unset, .unset, .unset, .unset, .unset, .unset, .unset, .unset, .unset, .unset] [(.long (96 : Int64)), (.int (4 : Int32)), (.ref a1), (.ref a1)]))
  refine own_stJ X5 hx hZ e5 N5 O5 g1 F5 (by decide) (by decide) rfl (by decide) (hb hby at_33) ?_
  intro T6 h6 l6 X6 e6 N6 O6 W6 F6
  clear X5 e5 N5 O5 F5
  show own_G p e below Q (T6.setTop (mkF m 34 #[.val (.int p1), .val (.int p2), .unset, .unset, .unset, .unset, .unset, .unset, .unset, .unset, .unset, .unset, .unset] [(.ref a1)]))
  refine own_go (fun _ k => XS.dup X6.here hx rfl (hb hby at_34) rfl rfl k) ?_
  show own_G p e below Q (T6.setTop (mkF m 35 #[.val (.int p1), .val (.int p2), .unset, .unset, .unset, .unset, .unset, .unset, .unset, .unset, .unset, .unset, .unset] [(.ref a1), (.ref a1)]))
  refine own_go (fun _ k => XS.iconst X6.here hx rfl (hb hby at_35) k) ?_
  show own_G p e below Q (T6.setTop (mkF m 36 #[.val (.int p1), .val (.int p2), .unset, .unset, .unset, .unset, .unset, .unset, .unset, .unset, .unset, .unset, .unset] [(.int (5 : Int32)), (.ref a1), (.ref a1)]))
  refine own_go (fun _ k => X6.ldc2J hx hown (mvT hZ (hw _ (List.mem_of_getElem? (i := 6) rfl))) rfl (hb hby at_36) k) ?_
  show own_G p e below Q (T6.setTop (mkF m 39 #[.val (.int p1), .val (.int p2), .unset, .unset, .unset, .unset, .unset, .unset, .unset, .unset, .unset, .unset, .unset] [(.long (97 : Int64)), (.int (5 : Int32)), (.ref a1), (.ref a1)]))
  refine own_stJ X6 hx hZ e6 N6 O6 g1 F6 (by decide) (by decide) rfl (by decide) (hb hby at_39) ?_
  intro T7 h7 l7 X7 e7 N7 O7 W7 F7
  clear X6 e6 N6 O6 F6
  show own_G p e below Q (T7.setTop (mkF m 40 #[.val (.int p1), .val (.int p2), .unset, .unset, .unset, .unset, .unset, .unset, .unset, .unset, .unset, .unset, .unset] [(.ref a1)]))
  refine own_go (fun _ k => XS.dup X7.here hx rfl (hb hby at_40) rfl rfl k) ?_
  show own_G p e below Q (T7.setTop (mkF m 41 #[.val (.int p1), .val (.int p2), .unset, .unset, .unset, .unset, .unset, .unset, .unset, .unset, .unset, .unset, .unset] [(.ref a1), (.ref a1)]))
  refine own_go (fun _ k => XS.bipush X7.here hx rfl (hb hby at_41) k) ?_
  show own_G p e below Q (T7.setTop (mkF m 43 #[.val (.int p1), .val (.int p2), .unset, .unset, .unset, .unset, .unset, .unset, .unset, .unset, .unset, .unset, .unset] [(.int (6 : Int32)), (.ref a1), (.ref a1)]))
  refine own_go (fun _ k => X7.ldc2J hx hown (mvT hZ (hw _ (List.mem_of_getElem? (i := 7) rfl))) rfl (hb hby at_43) k) ?_
  show own_G p e below Q (T7.setTop (mkF m 46 #[.val (.int p1), .val (.int p2), .unset, .unset, .unset, .unset, .unset, .unset, .unset, .unset, .unset, .unset, .unset] [(.long (123 : Int64)), (.int (6 : Int32)), (.ref a1), (.ref a1)]))
  refine own_stJ X7 hx hZ e7 N7 O7 g1 F7 (by decide) (by decide) rfl (by decide) (hb hby at_46) ?_
  intro T8 h8 l8 X8 e8 N8 O8 W8 F8
  clear X7 e7 N7 O7 F7
  show own_G p e below Q (T8.setTop (mkF m 47 #[.val (.int p1), .val (.int p2), .unset, .unset, .unset, .unset, .unset, .unset, .unset, .unset, .unset, .unset, .unset] [(.ref a1)]))
  refine own_go (fun _ k => XS.dup X8.here hx rfl (hb hby at_47) rfl rfl k) ?_
  show own_G p e below Q (T8.setTop (mkF m 48 #[.val (.int p1), .val (.int p2), .unset, .unset, .unset, .unset, .unset, .unset, .unset, .unset, .unset, .unset, .unset] [(.ref a1), (.ref a1)]))
  refine own_go (fun _ k => XS.bipush X8.here hx rfl (hb hby at_48) k) ?_
  show own_G p e below Q (T8.setTop (mkF m 50 #[.val (.int p1), .val (.int p2), .unset, .unset, .unset, .unset, .unset, .unset, .unset, .unset, .unset, .unset, .unset] [(.int (7 : Int32)), (.ref a1), (.ref a1)]))
  refine own_go (fun _ k => X8.ldc2J hx hown (mvT hZ (hw _ (List.mem_of_getElem? (i := 8) rfl))) rfl (hb hby at_50) k) ?_
  show own_G p e below Q (T8.setTop (mkF m 53 #[.val (.int p1), .val (.int p2), .unset, .unset, .unset, .unset, .unset, .unset, .unset, .unset, .unset, .unset, .unset] [(.long (192 : Int64)), (.int (7 : Int32)), (.ref a1), (.ref a1)]))
  refine own_stJ X8 hx hZ e8 N8 O8 g1 F8 (by decide) (by decide) rfl (by decide) (hb hby at_53) ?_
  intro T9 h9 l9 X9 e9 N9 O9 W9 F9
  clear X8 e8 N8 O8 F8
  show own_G p e below Q (T9.setTop (mkF m 54 #[.val (.int p1), .val (.int p2), .unset, .unset, .unset, .unset, .unset, .unset, .unset, .unset, .unset, .unset, .unset] [(.ref a1)]))
  refine own_go (fun _ k => XS.dup X9.here hx rfl (hb hby at_54) rfl rfl k) ?_
  show own_G p e below Q (T9.setTop (mkF m 55 #[.val (.int p1), .val (.int p2), .unset, .unset, .unset, .unset, .unset, .unset, .unset, .unset, .unset, .unset, .unset] [(.ref a1), (.ref a1)]))
  refine own_go (fun _ k => XS.bipush X9.here hx rfl (hb hby at_55) k) ?_
  show own_G p e below Q (T9.setTop (mkF m 57 #[.val (.int p1), .val (.int p2), .unset, .unset, .unset, .unset, .unset, .unset, .unset, .unset, .unset, .unset, .unset] [(.int (8 : Int32)), (.ref a1), (.ref a1)]))
  refine own_go (fun _ k => X9.ldc2J hx hown (mvT hZ (hw _ (List.mem_of_getElem? (i := 9) rfl))) rfl (hb hby at_57) k) ?_
  show own_G p e below Q (T9.setTop (mkF m 60 #[.val (.int p1), .val (.int p2), .unset, .unset, .unset, .unset, .unset, .unset, .unset, .unset, .unset, .unset, .unset] [(.long (215 : Int64)), (.int (8 : Int32)), (.ref a1), (.ref a1)]))
  refine own_stJ X9 hx hZ e9 N9 O9 g1 F9 (by decide) (by decide) rfl (by decide) (hb hby at_60) ?_
  intro T10 h10 l10 X10 e10 N10 O10 W10 F10
  clear X9 e9 N9 O9 F9
  show own_G p e below Q (T10.setTop (mkF m 61 #[.val (.int p1), .val (.int p2), .unset, .unset, .unset, .unset, .unset, .unset, .unset, .unset, .unset, .unset, .unset] [(.ref a1)]))
  refine own_go (fun _ k => XS.dup X10.here hx rfl (hb hby at_61) rfl rfl k) ?_
  show own_G p e below Q (T10.setTop (mkF m 62 #[.val (.int p1), .val (.int p2), .unset, .unset, .unset, .unset, .unset, .unset, .unset, .unset, .unset, .unset, .unset] [(.ref a1), (.ref a1)]))
  refine own_go (fun _ k => XS.bipush X10.here hx rfl (hb hby at_62) k) ?_
  show own_G p e below Q (T10.setTop (mkF m 64 #[.val (.int p1), .val (.int p2), .unset, .unset, .unset, .unset, .unset, .unset, .unset, .unset, .unset, .unset, .unset] [(.int (9 : Int32)), (.ref a1), (.ref a1)]))
  refine own_go (fun _ k => X10.ldc2J hx hown (mvT hZ (hw _ (List.mem_of_getElem? (i := 10) rfl))) rfl (hb hby at_64) k) ?_
  show own_G p e below Q (T10.setTop (mkF m 67 #[.val (.int p1), .val (.int p2), .unset, .unset, .unset, .unset, .unset, .unset, .unset, .unset, .unset, .unset, .unset] [(.long (216 : Int64)), (.int (9 : Int32)), (.ref a1), (.ref a1)]))
  refine own_stJ X10 hx hZ e10 N10 O10 g1 F10 (by decide) (by decide) rfl (by decide) (hb hby at_67) ?_
  intro T11 h11 l11 X11 e11 N11 O11 W11 F11
  clear X10 e10 N10 O10 F10
  show own_G p e below Q (T11.setTop (mkF m 68 #[.val (.int p1), .val (.int p2), .unset, .unset, .unset, .unset, .unset, .unset, .unset, .unset, .unset, .unset, .unset] [(.ref a1)]))
  refine own_go (fun _ k => XS.dup X11.here hx rfl (hb hby at_68) rfl rfl k) ?_
  show own_G p e below Q (T11.setTop (mkF m 69 #[.val (.int p1), .val (.int p2), .unset, .unset, .unset, .unset, .unset, .unset, .unset, .unset, .unset, .unset, .unset] [(.ref a1), (.ref a1)]))
  refine own_go (fun _ k => XS.bipush X11.here hx rfl (hb hby at_69) k) ?_
  show own_G p e below Q (T11.setTop (mkF m 71 #[.val (.int p1), .val (.int p2), .unset, .unset, .unset, .unset, .unset, .unset, .unset, .unset, .unset, .unset, .unset] [(.int (10 : Int32)), (.ref a1), (.ref a1)]))
  refine own_go (fun _ k => X11.ldc2J hx hown (mvT hZ (hw _ (List.mem_of_getElem? (i := 11) rfl))) rfl (hb hby at_71) k) ?_
  show own_G p e below Q (T11.setTop (mkF m 74 #[.val (.int p1), .val (.int p2), .unset, .unset, .unset, .unset, .unset, .unset, .unset, .unset, .unset, .unset, .unset] [(.long (247 : Int64)), (.int (10 : Int32)), (.ref a1), (.ref a1)]))
  refine own_stJ X11 hx hZ e11 N11 O11 g1 F11 (by decide) (by decide) rfl (by decide) (hb hby at_74) ?_
  intro T12 h12 l12 X12 e12 N12 O12 W12 F12
  clear X11 e11 N11 O11 F11
  show own_G p e below Q (T12.setTop (mkF m 75 #[.val (.int p1), .val (.int p2), .unset, .unset, .unset, .unset, .unset, .unset, .unset, .unset, .unset, .unset, .unset] [(.ref a1)]))
  refine own_go (fun _ k => XS.dup X12.here hx rfl (hb hby at_75) rfl rfl k) ?_
  show own_G p e below Q (T12.setTop (mkF m 76 #[.val (.int p1), .val (.int p2), .unset, .unset, .unset, .unset, .unset, .unset, .unset, .unset, .unset, .unset, .unset] [(.ref a1), (.ref a1)]))
  refine own_go (fun _ k => XS.bipush X12.here hx rfl (hb hby at_76) k) ?_
  show own_G p e below Q (T12.setTop (mkF m 78 #[.val (.int p1), .val (.int p2), .unset, .unset, .unset, .unset, .unset, .unset, .unset, .unset, .unset, .unset, .unset] [(.int (11 : Int32)), (.ref a1), (.ref a1)]))
  refine own_go (fun _ k => X12.ldc2J hx hown (mvT hZ (hw _ (List.mem_of_getElem? (i := 12) rfl))) rfl (hb hby at_78) k) ?_
  show own_G p e below Q (T12.setTop (mkF m 81 #[.val (.int p1), .val (.int p2), .unset, .unset, .unset, .unset, .unset, .unset, .unset, .unset, .unset, .unset, .unset] [(.long (248 : Int64)), (.int (11 : Int32)), (.ref a1), (.ref a1)]))
  refine own_stJ X12 hx hZ e12 N12 O12 g1 F12 (by decide) (by decide) rfl (by decide) (hb hby at_81) ?_
  intro T13 h13 l13 X13 e13 N13 O13 W13 F13
  clear X12 e12 N12 O12 F12
  show own_G p e below Q (T13.setTop (mkF m 82 #[.val (.int p1), .val (.int p2), .unset, .unset, .unset, .unset, .unset, .unset, .unset, .unset, .unset, .unset, .unset] [(.ref a1)]))
  refine own_go (fun _ k => XS.dup X13.here hx rfl (hb hby at_82) rfl rfl k) ?_
  show own_G p e below Q (T13.setTop (mkF m 83 #[.val (.int p1), .val (.int p2), .unset, .unset, .unset, .unset, .unset, .unset, .unset, .unset, .unset, .unset, .unset] [(.ref a1), (.ref a1)]))
  refine own_go (fun _ k => XS.bipush X13.here hx rfl (hb hby at_83) k) ?_
  show own_G p e below Q (T13.setTop (mkF m 85 #[.val (.int p1), .val (.int p2), .unset, .unset, .unset, .unset, .unset, .unset, .unset, .unset, .unset, .unset, .unset] [(.int (12 : Int32)), (.ref a1), (.ref a1)]))
  refine own_go (fun _ k => X13.ldc2J hx hown (mvT hZ (hw _ (List.mem_of_getElem? (i := 13) rfl))) rfl (hb hby at_85) k) ?_
  show own_G p e below Q (T13.setTop (mkF m 88 #[.val (.int p1), .val (.int p2), .unset, .unset, .unset, .unset, .unset, .unset, .unset, .unset, .unset, .unset, .unset] [(.long (768 : Int64)), (.int (12 : Int32)), (.ref a1), (.ref a1)]))
  refine own_stJ X13 hx hZ e13 N13 O13 g1 F13 (by decide) (by decide) rfl (by decide) (hb hby at_88) ?_
  intro T14 h14 l14 X14 e14 N14 O14 W14 F14
  clear X13 e13 N13 O13 F13
  show own_G p e below Q (T14.setTop (mkF m 89 #[.val (.int p1), .val (.int p2), .unset, .unset, .unset, .unset, .unset, .unset, .unset, .unset, .unset, .unset, .unset] [(.ref a1)]))
  refine own_go (fun _ k => XS.dup X14.here hx rfl (hb hby at_89) rfl rfl k) ?_
  show own_G p e below Q (T14.setTop (mkF m 90 #[.val (.int p1), .val (.int p2), .unset, .unset, .unset, .unset, .unset, .unset, .unset, .unset, .unset, .unset, .unset] [(.ref a1), (.ref a1)]))
  refine own_go (fun _ k => XS.bipush X14.here hx rfl (hb hby at_90) k) ?_
  show own_G p e below Q (T14.setTop (mkF m 92 #[.val (.int p1), .val (.int p2), .unset, .unset, .unset, .unset, .unset, .unset, .unset, .unset, .unset, .unset, .unset] [(.int (13 : Int32)), (.ref a1), (.ref a1)]))
  refine own_go (fun _ k => X14.ldc2J hx hown (mvT hZ (hw _ (List.mem_of_getElem? (i := 14) rfl))) rfl (hb hby at_92) k) ?_
  show own_G p e below Q (T14.setTop (mkF m 95 #[.val (.int p1), .val (.int p2), .unset, .unset, .unset, .unset, .unset, .unset, .unset, .unset, .unset, .unset, .unset] [(.long (880 : Int64)), (.int (13 : Int32)), (.ref a1), (.ref a1)]))
  refine own_stJ X14 hx hZ e14 N14 O14 g1 F14 (by decide) (by decide) rfl (by decide) (hb hby at_95) ?_
  intro T15 h15 l15 X15 e15 N15 O15 W15 F15
  clear X14 e14 N14 O14 F14
  show own_G p e below Q (T15.setTop (mkF m 96 #[.val (.int p1), .val (.int p2), .unset, .unset, .unset, .unset, .unset, .unset, .unset, .unset, .unset, .unset, .unset] [(.ref a1)]))
  refine own_go (fun _ k => XS.dup X15.here hx rfl (hb hby at_96) rfl rfl k) ?_
  show own_G p e below Q (T15.setTop (mkF m 97 #[.val (.int p1), .val (.int p2), .unset, .unset, .unset, .unset, .unset, .unset, .unset, .unset, .unset, .unset, .unset] [(.ref a1), (.ref a1)]))
  refine own_go (fun _ k => XS.bipush X15.here hx rfl (hb hby at_97) k) ?_
  show own_G p e below Q (T15.setTop (mkF m 99 #[.val (.int p1), .val (.int p2), .unset, .unset, .unset, .unset, .unset, .unset, .unset, .unset, .unset, .unset, .unset] [(.int (14 : Int32)), (.ref a1), (.ref a1)]))
  refine own_go (fun _ k => X15.ldc2J hx hown (mvT hZ (hw _ (List.mem_of_getElem? (i := 15) rfl))) rfl (hb hby at_99) k) ?_
  show own_G p e below Q (T15.setTop (mkF m 102 #[.val (.int p1), .val (.int p2), .unset, .unset, .unset, .unset, .unset, .unset, .unset, .unset, .unset, .unset, .unset] [(.long (894 : Int64)), (.int (14 : Int32)), (.ref a1), (.ref a1)]))
  refine own_stJ X15 hx hZ e15 N15 O15 g1 F15 (by decide) (by decide) rfl (by decide) (hb hby at_102) ?_
  intro T16 h16 l16 X16 e16 N16 O16 W16 F16
  clear X15 e15 N15 O15 F15
  show own_G p e below Q (T16.setTop (mkF m 103 #[.val (.int p1), .val (.int p2), .unset, .unset, .unset, .unset, .unset, .unset, .unset, .unset, .unset, .unset, .unset] [(.ref a1)]))
  refine own_go (fun _ k => XS.dup X16.here hx rfl (hb hby at_103) rfl rfl k) ?_
  show own_G p e below Q (T16.setTop (mkF m 104 #[.val (.int p1), .val (.int p2), .unset, .unset, .unset, .unset, .unset, .unset, .unset, .unset, .unset, .unset, .unset] [(.ref a1), (.ref a1)]))
  refine own_go (fun _ k => XS.bipush X16.here hx rfl (hb hby at_104) k) ?_
  show own_G p e below Q (T16.setTop (mkF m 106 #[.val (.int p1), .val (.int p2), .unset, .unset, .unset, .unset, .unset, .unset, .unset, .unset, .unset, .unset, .unset] [(.int (15 : Int32)), (.ref a1), (.ref a1)]))
  refine own_go (fun _ k => X16.ldc2J hx hown (mvT hZ (hw _ (List.mem_of_getElem? (i := 16) rfl))) rfl (hb hby at_106) k) ?_
  show own_G p e below Q (T16.setTop (mkF m 109 #[.val (.int p1), .val (.int p2), .unset, .unset, .unset, .unset, .unset, .unset, .unset, .unset, .unset, .unset, .unset] [(.long (895 : Int64)), (.int (15 : Int32)), (.ref a1), (.ref a1)]))
  refine own_stJ X16 hx hZ e16 N16 O16 g1 F16 (by decide) (by decide) rfl (by decide) (hb hby at_109) ?_
  intro T17 h17 l17 X17 e17 N17 O17 W17 F17
  clear X16 e16 N16 O16 F16
  show own_G p e below Q (T17.setTop (mkF m 110 #[.val (.int p1), .val (.int p2), .unset, .unset, .unset, .unset, .unset, .unset, .unset, .unset, .unset, .unset, .unset] [(.ref a1)]))
  refine own_go (fun _ k => XS.dup X17.here hx rfl (hb hby at_110) rfl rfl k) ?_
  show own_G p e below Q (T17.setTop (mkF m 111 #[.val (.int p1), .val (.int p2), .unset, .unset, .unset, .unset, .unset, .unset, .unset, .unset, .unset, .unset, .unset] [(.ref a1), (.ref a1)]))
  refine own_go (fun _ k => XS.bipush X17.here hx rfl (hb hby at_111) k) ?_
  show own_G p e below Q (T17.setTop (mkF m 113 #[.val (.int p1), .val (.int p2), .unset, .unset, .unset, .unset, .unset, .unset, .unset, .unset, .unset, .unset, .unset] [(.int (16 : Int32)), (.ref a1), (.ref a1)]))
  refine own_go (fun _ k => X17.ldc2J hx hown (mvT hZ (hw _ (List.mem_of_getElem? (i := 17) rfl))) rfl (hb hby at_113) k) ?_
  show own_G p e below Q (T17.setTop (mkF m 116 #[.val (.int p1), .val (.int p2), .unset, .unset, .unset, .unset, .unset, .unset, .unset, .unset, .unset, .unset, .unset] [(.long (8192 : Int64)), (.int (16 : Int32)), (.ref a1), (.ref a1)]))
  refine own_stJ X17 hx hZ e17 N17 O17 g1 F17 (by decide) (by decide) rfl (by decide) (hb hby at_116) ?_
  intro T18 h18 l18 X18 e18 N18 O18 W18 F18
  clear X17 e17 N17 O17 F17
  show own_G p e below Q (T18.setTop (mkF m 117 #[.val (.int p1), .val (.int p2), .unset, .unset, .unset, .unset, .unset, .unset, .unset, .unset, .unset, .unset, .unset] [(.ref a1)]))
  refine own_go (fun _ k => XS.dup X18.here hx rfl (hb hby at_117) rfl rfl k) ?_
  show own_G p e below Q (T18.setTop (mkF m 118 #[.val (.int p1), .val (.int p2), .unset, .unset, .unset, .unset, .unset, .unset, .unset, .unset, .unset, .unset, .unset] [(.ref a1), (.ref a1)]))
  refine own_go (fun _ k => XS.bipush X18.here hx rfl (hb hby at_118) k) ?_
  show own_G p e below Q (T18.setTop (mkF m 120 #[.val (.int p1), .val (.int p2), .unset, .unset, .unset, .unset, .unset, .unset, .unset, .unset, .unset, .unset, .unset] [(.int (17 : Int32)), (.ref a1), (.ref a1)]))
  refine own_go (fun _ k => X18.ldc2J hx hown (mvT hZ (hw _ (List.mem_of_getElem? (i := 18) rfl))) rfl (hb hby at_120) k) ?_
  show own_G p e below Q (T18.setTop (mkF m 123 #[.val (.int p1), .val (.int p2), .unset, .unset, .unset, .unset, .unset, .unset, .unset, .unset, .unset, .unset, .unset] [(.long (8204 : Int64)), (.int (17 : Int32)), (.ref a1), (.ref a1)]))
  refine own_stJ X18 hx hZ e18 N18 O18 g1 F18 (by decide) (by decide) rfl (by decide) (hb hby at_123) ?_
  intro T19 h19 l19 X19 e19 N19 O19 W19 F19
  clear X18 e18 N18 O18 F18
  show own_G p e below Q (T19.setTop (mkF m 124 #[.val (.int p1), .val (.int p2), .unset, .unset, .unset, .unset, .unset, .unset, .unset, .unset, .unset, .unset, .unset] [(.ref a1)]))
  refine own_go (fun _ k => XS.dup X19.here hx rfl (hb hby at_124) rfl rfl k) ?_
  show own_G p e below Q (T19.setTop (mkF m 125 #[.val (.int p1), .val (.int p2), .unset, .unset, .unset, .unset, .unset, .unset, .unset, .unset, .unset, .unset, .unset] [(.ref a1), (.ref a1)]))
  refine own_go (fun _ k => XS.bipush X19.here hx rfl (hb hby at_125) k) ?_
  show own_G p e below Q (T19.setTop (mkF m 127 #[.val (.int p1), .val (.int p2), .unset, .unset, .unset, .unset, .unset, .unset, .unset, .unset, .unset, .unset, .unset] [(.int (18 : Int32)), (.ref a1), (.ref a1)]))
  refine own_go (fun _ k => X19.ldc2J hx hown (mvT hZ (hw _ (List.mem_of_getElem? (i := 19) rfl))) rfl (hb hby at_127) k) ?_
  show own_G p e below Q (T19.setTop (mkF m 130 #[.val (.int p1), .val (.int p2), .unset, .unset, .unset, .unset, .unset, .unset, .unset, .unset, .unset, .unset, .unset] [(.long (8206 : Int64)), (.int (18 : Int32)), (.ref a1), (.ref a1)]))
  refine own_stJ X19 hx hZ e19 N19 O19 g1 F19 (by decide) (by decide) rfl (by decide) (hb hby at_130) ?_
  intro T20 h20 l20 X20 e20 N20 O20 W20 F20
  clear X19 e19 N19 O19 F19
  show own_G p e below Q (T20.setTop (mkF m 131 #[.val (.int p1), .val (.int p2), .unset, .unset, .unset, .unset, .unset, .unset, .unset, .unset, .unset, .unset, .unset] [(.ref a1)]))
  refine own_go (fun _ k => XS.dup X20.here hx rfl (hb hby at_131) rfl rfl k) ?_
  show own_G p e below Q (T20.setTop (mkF m 132 #[.val (.int p1), .val (.int p2), .unset, .unset, .unset, .unset, .unset, .unset, .unset, .unset, .unset, .unset, .unset] [(.ref a1), (.ref a1)]))
  refine own_go (fun _ k => XS.bipush X20.here hx rfl (hb hby at_132) k) ?_
  show own_G p e below Q (T20.setTop (mkF m 134 #[.val (.int p1), .val (.int p2), .unset, .unset, .unset, .unset, .unset, .unset, .unset, .unset, .unset, .unset, .unset] [(.int (19 : Int32)), (.ref a1), (.ref a1)]))
  refine own_go (fun _ k => X20.ldc2J hx hown (mvT hZ (hw _ (List.mem_of_getElem? (i := 20) rfl))) rfl (hb hby at_134) k) ?_
  show own_G p e below Q (T20.setTop (mkF m 137 #[.val (.int p1), .val (.int p2), .unset, .unset, .unset, .unset, .unset, .unset, .unset, .unset, .unset, .unset, .unset] [(.long (8304 : Int64)), (.int (19 : Int32)), (.ref a1), (.ref a1)]))
  refine own_stJ X20 hx hZ e20 N20 O20 g1 F20 (by decide) (by decide) rfl (by decide) (hb hby at_137) ?_
  intro T21 h21 l21 X21 e21 N21 O21 W21 F21
  clear X20 e20 N20 O20 F20
  show own_G p e below Q (T21.setTop (mkF m 138 #[.val (.int p1), .val (.int p2), .unset, .unset, .unset, .unset, .unset, .unset, .unset, .unset, .unset, .unset, .unset] [(.ref a1)]))
  refine own_go (fun _ k => XS.dup X21.here hx rfl (hb hby at_138) rfl rfl k) ?_
  show own_G p e below Q (T21.setTop (mkF m 139 #[.val (.int p1), .val (.int p2), .unset, .unset, .unset, .unset, .unset, .unset, .unset, .unset, .unset, .unset, .unset] [(.ref a1), (.ref a1)]))
  refine own_go (fun _ k => XS.bipush X21.here hx rfl (hb hby at_139) k) ?_
  show own_G p e below Q (T21.setTop (mkF m 141 #[.val (.int p1), .val (.int p2), .unset, .unset, .unset, .unset, .unset, .unset, .unset, .unset, .unset, .unset, .unset] [(.int (20 : Int32)), (.ref a1), (.ref a1)]))
  refine own_go (fun _ k => X21.ldc2J hx hown (mvT hZ (hw _ (List.mem_of_getElem? (i := 21) rfl))) rfl (hb hby at_141) k) ?_
  show own_G p e below Q (T21.setTop (mkF m 144 #[.val (.int p1), .val (.int p2), .unset, .unset, .unset, .unset, .unset, .unset, .unset, .unset, .unset, .unset, .unset] [(.long (8592 : Int64)), (.int (20 : Int32)), (.ref a1), (.ref a1)]))
  refine own_stJ X21 hx hZ e21 N21 O21 g1 F21 (by decide) (by decide) rfl (by decide) (hb hby at_144) ?_
  intro T22 h22 l22 X22 e22 N22 O22 W22 F22
  clear X21 e21 N21 O21 F21
  show own_G p e below Q (T22.setTop (mkF m 145 #[.val (.int p1), .val (.int p2), .unset, .unset, .unset, .unset, .unset, .unset, .unset, .unset, .unset, .unset, .unset] [(.ref a1)]))
  refine own_go (fun _ k => XS.dup X22.here hx rfl (hb hby at_145) rfl rfl k) ?_
  show own_G p e below Q (T22.setTop (mkF m 146 #[.val (.int p1), .val (.int p2), .unset, .unset, .unset, .unset, .unset, .unset, .unset, .unset, .unset, .unset, .unset] [(.ref a1), (.ref a1)]))
  refine own_go (fun _ k => XS.bipush X22.here hx rfl (hb hby at_146) k) ?_
  show own_G p e below Q (T22.setTop (mkF m 148 #[.val (.int p1), .val (.int p2), .unset, .unset, .unset, .unset, .unset, .unset, .unset, .unset, .unset, .unset, .unset] [(.int (21 : Int32)), (.ref a1), (.ref a1)]))
  refine own_go (fun _ k => X22.ldc2J hx hown (mvT hZ (hw _ (List.mem_of_getElem? (i := 22) rfl))) rfl (hb hby at_148) k) ?_
  show own_G p e below Q (T22.setTop (mkF m 151 #[.val (.int p1), .val (.int p2), .unset, .unset, .unset, .unset, .unset, .unset, .unset, .unset, .unset, .unset, .unset] [(.long (11264 : Int64)), (.int (21 : Int32)), (.ref a1), (.ref a1)]))
  refine own_stJ X22 hx hZ e22 N22 O22 g1 F22 (by decide) (by decide) rfl (by decide) (hb hby at_151) ?_
  intro T23 h23 l23 X23 e23 N23 O23 W23 F23
  clear X22 e22 N22 O22 F22
  show own_G p e below Q (T23.setTop (mkF m 152 #[.val (.int p1), .val (.int p2), .unset, .unset, .unset, .unset, .unset, .unset, .unset, .unset, .unset, .unset, .unset] [(.ref a1)]))
  refine own_go (fun _ k => XS.dup X23.here hx rfl (hb hby at_152) rfl rfl k) ?_
  show own_G p e below Q (T23.setTop (mkF m 153 #[.val (.int p1), .val (.int p2), .unset, .unset, .unset, .unset, .unset, .unset, .unset, .unset, .unset, .unset, .unset] [(.ref a1), (.ref a1)]))
  refine own_go (fun _ k => XS.bipush X23.here hx rfl (hb hby at_153) k) ?_
  show own_G p e below Q (T23.setTop (mkF m 155 #[.val (.int p1), .val (.int p2), .unset, .unset, .unset, .unset, .unset, .unset, .unset, .unset, .unset, .unset, .unset] [(.int (22 : Int32)), (.ref a1), (.ref a1)]))
  refine own_go (fun _ k => X23.ldc2J hx hown (mvT hZ (hw _ (List.mem_of_getElem? (i := 23) rfl))) rfl (hb hby at_155) k) ?_
  show own_G p e below Q (T23.setTop (mkF m 158 #[.val (.int p1), .val (.int p2), .unset, .unset, .unset, .unset, .unset, .unset, .unset, .unset, .unset, .unset, .unset] [(.long (12272 : Int64)), (.int (22 : Int32)), (.ref a1), (.ref a1)]))
  refine own_stJ X23 hx hZ e23 N23 O23 g1 F23 (by decide) (by decide) rfl (by decide) (hb hby at_158) ?_
  intro T24 h24 l24 X24 e24 N24 O24 W24 F24
  clear X23 e23 N23 O23 F23
  show own_G p e below Q (T24.setTop (mkF m 159 #[.val (.int p1), .val (.int p2), .unset, .unset, .unset, .unset, .unset, .unset, .unset, .unset, .unset, .unset, .unset] [(.ref a1)]))
  refine own_go (fun _ k => XS.dup X24.here hx rfl (hb hby at_159) rfl rfl k) ?_
  show own_G p e below Q (T24.setTop (mkF m 160 #[.val (.int p1), .val (.int p2), .unset, .unset, .unset, .unset, .unset, .unset, .unset, .unset, .unset, .unset, .unset] [(.ref a1), (.ref a1)]))
  refine own_go (fun _ k => XS.bipush X24.here hx rfl (hb hby at_160) k) ?_
  show own_G p e below Q (T24.setTop (mkF m 162 #[.val (.int p1), .val (.int p2), .unset, .unset, .unset, .unset, .unset, .unset, .unset, .unset, .unset, .unset, .unset] [(.int (23 : Int32)), (.ref a1), (.ref a1)]))
  refine own_go (fun _ k => X24.ldc2J hx hown (mvT hZ (hw _ (List.mem_of_getElem? (i := 24) rfl))) rfl (hb hby at_162) k) ?_
  show own_G p e below Q (T24.setTop (mkF m 165 #[.val (.int p1), .val (.int p2), .unset, .unset, .unset, .unset, .unset, .unset, .unset, .unset, .unset, .unset, .unset] [(.long (12289 : Int64)), (.int (23 : Int32)), (.ref a1), (.ref a1)]))
  refine own_stJ X24 hx hZ e24 N24 O24 g1 F24 (by decide) (by decide) rfl (by decide) (hb hby at_165) ?_
  intro T25 h25 l25 X25 e25 N25 O25 W25 F25
  clear X24 e24 N24 O24 F24
  show own_G p e below Q (T25.setTop (mkF m 166 #[.val (.int p1), .val (.int p2), .unset, .unset, .unset, .unset, .unset, .unset, .unset, .unset, .unset, .unset, .unset] [(.ref a1)]))
  refine own_go (fun _ k => XS.dup X25.here hx rfl (hb hby at_166) rfl rfl k) ?_
  show own_G p e below Q (T25.setTop (mkF m 167 #[.val (.int p1), .val (.int p2), .unset, .unset, .unset, .unset, .unset, .unset, .unset, .unset, .unset, .unset, .unset] [(.ref a1), (.ref a1)]))
  refine own_go (fun _ k => XS.bipush X25.here hx rfl (hb hby at_167) k) ?_
  show own_G p e below Q (T25.setTop (mkF m 169 #[.val (.int p1), .val (.int p2), .unset, .unset, .unset, .unset, .unset, .unset, .unset, .unset, .unset, .unset, .unset] [(.int (24 : Int32)), (.ref a1), (.ref a1)]))
  refine own_go (fun _ k => X25.ldc2J hx hown (mvT hZ (hw _ (List.mem_of_getElem? (i := 25) rfl))) rfl (hb hby at_169) k) ?_
  show own_G p e below Q (T25.setTop (mkF m 172 #[.val (.int p1), .val (.int p2), .unset, .unset, .unset, .unset, .unset, .unset, .unset, .unset, .unset, .unset, .unset] [(.long (55296 : Int64)), (.int (24 : Int32)), (.ref a1), (.ref a1)]))
  refine own_stJ X25 hx hZ e25 N25 O25 g1 F25 (by decide) (by decide) rfl (by decide) (hb hby at_172) ?_
  intro T26 h26 l26 X26 e26 N26 O26 W26 F26
  clear X25 e25 N25 O25 F25
  show own_G p e below Q (T26.setTop (mkF m 173 #[.val (.int p1), .val (.int p2), .unset, .unset, .unset, .unset, .unset, .unset, .unset, .unset, .unset, .unset, .unset] [(.ref a1)]))
  refine own_go (fun _ k => XS.dup X26.here hx rfl (hb hby at_173) rfl rfl k) ?_
  show own_G p e below Q (T26.setTop (mkF m 174 #[.val (.int p1), .val (.int p2), .unset, .unset, .unset, .unset, .unset, .unset, .unset, .unset, .unset, .unset, .unset] [(.ref a1), (.ref a1)]))
  refine own_go (fun _ k => XS.bipush X26.here hx rfl (hb hby at_174) k) ?_
  show own_G p e below Q (T26.setTop (mkF m 176 #[.val (.int p1), .val (.int p2), .unset, .unset, .unset, .unset, .unset, .unset, .unset, .unset, .unset, .unset, .unset] [(.int (25 : Int32)), (.ref a1), (.ref a1)]))
  refine own_go (fun _ k => X26.ldc2J hx hown (mvT hZ (hw _ (List.mem_of_getElem? (i := 26) rfl))) rfl (hb hby at_176) k) ?_
  show own_G p e below Q (T26.setTop (mkF m 179 #[.val (.int p1), .val (.int p2), .unset, .unset, .unset, .unset, .unset, .unset, .unset, .unset, .unset, .unset, .unset] [(.long (63744 : Int64)), (.int (25 : Int32)), (.ref a1), (.ref a1)]))
  refine own_stJ X26 hx hZ e26 N26 O26 g1 F26 (by decide) (by decide) rfl (by decide) (hb hby at_179) ?_
  intro T27 h27 l27 X27 e27 N27 O27 W27 F27
  clear X26 e26 N26 O26 F26
  show own_G p e below Q (T27.setTop (mkF m 180 #[.val (.int p1), .val (.int p2), .unset, .unset, .unset, .unset, .unset, .unset, .unset, .unset, .unset, .unset, .unset] [(.ref a1)]))
  refine own_go (fun _ k => XS.dup X27.here hx rfl (hb hby at_180) rfl rfl k) ?_
  show own_G p e below Q (T27.setTop (mkF m 181 #[.val (.int p1), .val (.int p2), .unset, .unset, .unset, .unset, .unset, .unset, .unset, .unset, .unset, .unset, .unset] [(.ref a1), (.ref a1)]))
  refine own_go (fun _ k => XS.bipush X27.here hx rfl (hb hby at_181) k) ?_
  show own_G p e below Q (T27.setTop (mkF m 183 #[.val (.int p1), .val (.int p2), .unset, .unset, .unset, .unset, .unset, .unset, .unset, .unset, .unset, .unset, .unset] [(.int (26 : Int32)), (.ref a1), (.ref a1)]))
  refine own_go (fun _ k => X27.ldc2J hx hown (mvT hZ (hw _ (List.mem_of_getElem? (i := 27) rfl))) rfl (hb hby at_183) k) ?_
  show own_G p e below Q (T27.setTop (mkF m 186 #[.val (.int p1), .val (.int p2), .unset, .unset, .unset, .unset, .unset, .unset, .unset, .unset, .unset, .unset, .unset] [(.long (64976 : Int64)), (.int (26 : Int32)), (.ref a1), (.ref a1)]))
  refine own_stJ X27 hx hZ e27 N27 O27 g1 F27 (by decide) (by decide) rfl (by decide) (hb hby at_186) ?_
  intro T28 h28 l28 X28 e28 N28 O28 W28 F28
  clear X27 e27 N27 O27 F27
  show own_G p e below Q (T28.setTop (mkF m 187 #[.val (.int p1), .val (.int p2), .unset, .unset, .unset, .unset, .unset, .unset, .unset, .unset, .unset, .unset, .unset] [(.ref a1)]))
  refine own_go (fun _ k => XS.dup X28.here hx rfl (hb hby at_187) rfl rfl k) ?_
  show own_G p e below Q (T28.setTop (mkF m 188 #[.val (.int p1), .val (.int p2), .unset, .unset, .unset, .unset, .unset, .unset, .unset, .unset, .unset, .unset, .unset] [(.ref a1), (.ref a1)]))
  refine own_go (fun _ k => XS.bipush X28.here hx rfl (hb hby at_188) k) ?_
  show own_G p e below Q (T28.setTop (mkF m 190 #[.val (.int p1), .val (.int p2), .unset, .unset, .unset, .unset, .unset, .unset, .unset, .unset, .unset, .unset, .unset] [(.int (27 : Int32)), (.ref a1), (.ref a1)]))
  refine own_go (fun _ k => X28.ldc2J hx hown (mvT hZ (hw _ (List.mem_of_getElem? (i := 28) rfl))) rfl (hb hby at_190) k) ?_
  show own_G p e below Q (T28.setTop (mkF m 193 #[.val (.int p1), .val (.int p2), .unset, .unset, .unset, .unset, .unset, .unset, .unset, .unset, .unset, .unset, .unset] [(.long (65008 : Int64)), (.int (27 : Int32)), (.ref a1), (.ref a1)]))
  refine own_stJ X28 hx hZ e28 N28 O28 g1 F28 (by decide) (by decide) rfl (by decide) (hb hby at_193) ?_
  intro T29 h29 l29 X29 e29 N29 O29 W29 F29
  clear X28 e28 N28 O28 F28
  show own_G p e below Q (T29.setTop (mkF m 194 #[.val (.int p1), .val (.int p2), .unset, .unset, .unset, .unset, .unset, .unset, .unset, .unset, .unset, .unset, .unset] [(.ref a1)]))
  refine own_go (fun _ k => XS.dup X29.here hx rfl (hb hby at_194) rfl rfl k) ?_
  show own_G p e below Q (T29.setTop (mkF m 195 #[.val (.int p1), .val (.int p2), .unset, .unset, .unset, .unset, .unset, .unset, .unset, .unset, .unset, .unset, .unset] [(.ref a1), (.ref a1)]))
  refine own_go (fun _ k => XS.bipush X29.here hx rfl (hb hby at_195) k) ?_
  show own_G p e below Q (T29.setTop (mkF m 197 #[.val (.int p1), .val (.int p2), .unset, .unset, .unset, .unset, .unset, .unset, .unset, .unset, .unset, .unset, .unset] [(.int (28 : Int32)), (.ref a1), (.ref a1)]))
  refine own_go (fun _ k => X29.ldc2J hx hown (mvT hZ (hw _ (List.mem_of_getElem? (i := 29) rfl))) rfl (hb hby at_197) k) ?_
  show own_G p e below Q (T29.setTop (mkF m 200 #[.val (.int p1), .val (.int p2), .unset, .unset, .unset, .unset, .unset, .unset, .unset, .unset, .unset, .unset, .unset] [(.long (65534 : Int64)), (.int (28 : Int32)), (.ref a1), (.ref a1)]))
  refine own_stJ X29 hx hZ e29 N29 O29 g1 F29 (by decide) (by decide) rfl (by decide) (hb hby at_200) ?_
  intro T30 h30 l30 X30 e30 N30 O30 W30 F30
  clear X29 e29 N29 O29 F29
  show own_G p e below Q (T30.setTop (mkF m 201 #[.val (.int p1), .val (.int p2), .unset, .unset, .unset, .unset, .unset, .unset, .unset, .unset, .unset, .unset, .unset] [(.ref a1)]))
  refine own_go (fun _ k => XS.dup X30.here hx rfl (hb hby at_201) rfl rfl k) ?_
  show own_G p e below Q (T30.setTop (mkF m 202 #[.val (.int p1), .val (.int p2), .unset, .unset, .unset, .unset, .unset, .unset, .unset, .unset, .unset, .unset, .unset] [(.ref a1), (.ref a1)]))
  refine own_go (fun _ k => XS.bipush X30.here hx rfl (hb hby at_202) k) ?_
  show own_G p e below Q (T30.setTop (mkF m 204 #[.val (.int p1), .val (.int p2), .unset, .unset, .unset, .unset, .unset, .unset, .unset, .unset, .unset, .unset, .unset] [(.int (29 : Int32)), (.ref a1), (.ref a1)]))
  refine own_go (fun _ k => X30.ldc2J hx hown (mvT hZ (hw _ (List.mem_of_getElem? (i := 30) rfl))) rfl (hb hby at_204) k) ?_
  show own_G p e below Q (T30.setTop (mkF m 207 #[.val (.int p1), .val (.int p2), .unset, .unset, .unset, .unset, .unset, .unset, .unset, .unset, .unset, .unset, .unset] [(.long (65536 : Int64)), (.int (29 : Int32)), (.ref a1), (.ref a1)]))
  refine own_stJ X30 hx hZ e30 N30 O30 g1 F30 (by decide) (by decide) rfl (by decide) (hb hby at_207) ?_
  intro T31 h31 l31 X31 e31 N31 O31 W31 F31
  clear X30 e30 N30 O30 F30
  show own_G p e below Q (T31.setTop (mkF m 208 #[.val (.int p1), .val (.int p2), .unset, .unset, .unset, .unset, .unset, .unset, .unset, .unset, .unset, .unset, .unset] [(.ref a1)]))
  refine own_go (fun _ k => XS.dup X31.here hx rfl (hb hby at_208) rfl rfl k) ?_
  show own_G p e below Q (T31.setTop (mkF m 209 #[.val (.int p1), .val (.int p2), .unset, .unset, .unset, .unset, .unset, .unset, .unset, .unset, .unset, .unset, .unset] [(.ref a1), (.ref a1)]))
  refine own_go (fun _ k => XS.bipush X31.here hx rfl (hb hby at_209) k) ?_
  show own_G p e below Q (T31.setTop (mkF m 211 #[.val (.int p1), .val (.int p2), .unset, .unset, .unset, .unset, .unset, .unset, .unset, .unset, .unset, .unset, .unset] [(.int (30 : Int32)), (.ref a1), (.ref a1)]))
  refine own_go (fun _ k => X31.ldc2J hx hown (mvT hZ (hw _ (List.mem_of_getElem? (i := 31) rfl))) rfl (hb hby at_211) k) ?_
  show own_G p e below Q (T31.setTop (mkF m 214 #[.val (.int p1), .val (.int p2), .unset, .unset, .unset, .unset, .unset, .unset, .unset, .unset, .unset, .unset, .unset] [(.long (983040 : Int64)), (.int (30 : Int32)), (.ref a1), (.ref a1)]))
  refine own_stJ X31 hx hZ e31 N31 O31 g1 F31 (by decide) (by decide) rfl (by decide) (hb hby at_214) ?_
  intro T32 h32 l32 X32 e32 N32 O32 W32 F32
  clear X31 e31 N31 O31 F31
  show own_G p e below Q (T32.setTop (mkF m 215 #[.val (.int p1), .val (.int p2), .unset, .unset, .unset, .unset, .unset, .unset, .unset, .unset, .unset, .unset, .unset] [(.ref a1)]))
  refine own_go (fun _ k => XS.dup X32.here hx rfl (hb hby at_215) rfl rfl k) ?_
  show own_G p e below Q (T32.setTop (mkF m 216 #[.val (.int p1), .val (.int p2), .unset, .unset, .unset, .unset, .unset, .unset, .unset, .unset, .unset, .unset, .unset] [(.ref a1), (.ref a1)]))
  refine own_go (fun _ k => XS.bipush X32.here hx rfl (hb hby at_216) k) ?_
  show own_G p e below Q (T32.setTop (mkF m 218 #[.val (.int p1), .val (.int p2), .unset, .unset, .unset, .unset, .unset, .unset, .unset, .unset, .unset, .unset, .unset] [(.int (31 : Int32)), (.ref a1), (.ref a1)]))
  refine own_go (fun _ k => X32.ldc2J hx hown (mvT hZ (hw _ (List.mem_of_getElem? (i := 32) rfl))) rfl (hb hby at_218) k) ?_
  show own_G p e below Q (T32.setTop (mkF m 221 #[.val (.int p1), .val (.int p2), .unset, .unset, .unset, .unset, .unset, .unset, .unset, .unset, .unset, .unset, .unset] [(.long (2147483648 : Int64)), (.int (31 : Int32)), (.ref a1), (.ref a1)]))
  refine own_stJ X32 hx hZ e32 N32 O32 g1 F32 (by decide) (by decide) rfl (by decide) (hb hby at_221) ?_
  intro T33 h33 l33 X33 e33 N33 O33 W33 F33
  clear X32 e32 N32 O32 F32
  show own_G p e below Q (T33.setTop (mkF m 222 #[.val (.int p1), .val (.int p2), .unset, .unset, .unset, .unset, .unset, .unset, .unset, .unset, .unset, .unset, .unset] [(.ref a1)]))
  refine own_go (fun _ k => XS.astoreN X33.here hx rfl (hb hby at_222) rfl rfl (l' := #[.val (.int p1), .val (.int p2), .val (.ref a1), .unset, .unset, .unset, .unset, .unset, .unset, .unset, .unset, .unset, .unset]) rfl k) ?_
  show own_G p e below Q (T33.setTop (mkF m 223 #[.val (.int p1), .val (.int p2), .val (.ref a1), .unset, .unset, .unset, .unset, .unset, .unset, .unset, .unset, .unset, .unset] []))
  refine own_go (fun _ k => XS.iloadN X33.here hx rfl (hb hby at_223) rfl  k) ?_
  show own_G p e below Q (T33.setTop (mkF m 224 #[.val (.int p1), .val (.int p2), .val (.ref a1), .unset, .unset, .unset, .unset, .unset, .unset, .unset, .unset, .unset, .unset] [(.int p1)]))
  refine own_go (fun _ k => X33.ldcI hx hown (mvT hZ (hw _ (List.mem_of_getElem? (i := 33) rfl))) rfl (hb hby at_224) k) ?_
  show own_G p e below Q (T33.setTop (mkF m 226 #[.val (.int p1), .val (.int p2), .val (.ref a1), .unset, .unset, .unset, .unset, .unset, .unset, .unset, .unset, .unset, .unset] [(.int (2147483647 : Int32)), (.int p1)]))
  refine own_go (fun _ k => XS.iand X33.here hx rfl (hb hby at_226) rfl k) ?_
  show own_G p e below Q (T33.setTop (mkF m 227 #[.val (.int p1), .val (.int p2), .val (.ref a1), .unset, .unset, .unset, .unset, .unset, .unset, .unset, .unset, .unset, .unset] [(.int (p1 &&& (2147483647 : Int32)))]))
  refine own_go (fun _ k => XS.bipush X33.here hx rfl (hb hby at_227) k) ?_
  show own_G p e below Q (T33.setTop (mkF m 229 #[.val (.int p1), .val (.int p2), .val (.ref a1), .unset, .unset, .unset, .unset, .unset, .unset, .unset, .unset, .unset, .unset] [(.int (31 : Int32)), (.int (p1 &&& (2147483647 : Int32)))]))
  refine own_go (fun _ k => iremM X33 hx rfl (hb hby at_229) rfl (by decide) k) ?_
  show own_G p e below Q (T33.setTop (mkF m 230 #[.val (.int p1), .val (.int p2), .val (.ref a1), .unset, .unset, .unset, .unset, .unset, .unset, .unset, .unset, .unset, .unset] [(.int ((p1 &&& (2147483647 : Int32)) % (31 : Int32)))]))
  rw [hr]
  show own_G p e below Q (T33.setTop (mkF m 230 #[.val (.int p1), .val (.int p2), .val (.ref a1), .unset, .unset, .unset, .unset, .unset, .unset, .unset, .unset, .unset, .unset] [(.int (Int32.ofNat i))]))
  refine own_go (fun _ k => XS.istoreN X33.here hx rfl (hb hby at_230) rfl (l' := #[.val (.int p1), .val (.int p2), .val (.ref a1), .val (.int (Int32.ofNat i)), .unset, .unset, .unset, .unset, .unset, .unset, .unset, .unset, .unset]) rfl k) ?_
  show own_G p e below Q (T33.setTop (mkF m 231 #[.val (.int p1), .val (.int p2), .val (.ref a1), .val (.int (Int32.ofNat i)), .unset, .unset, .unset, .unset, .unset, .unset, .unset, .unset, .unset] []))
  refine own_go (fun _ k => XS.aloadN X33.here hx rfl (hb hby at_231) rfl rfl  k) ?_
  show own_G p e below Q (T33.setTop (mkF m 232 #[.val (.int p1), .val (.int p2), .val (.ref a1), .val (.int (Int32.ofNat i)), .unset, .unset, .unset, .unset, .unset, .unset, .unset, .unset, .unset] [(.ref a1)]))
  refine own_go (fun _ k => XS.iloadN X33.here hx rfl (hb hby at_232) rfl  k) ?_
  show own_G p e below Q (T33.setTop (mkF m 233 #[.val (.int p1), .val (.int p2), .val (.ref a1), .val (.int (Int32.ofNat i)), .unset, .unset, .unset, .unset, .unset, .unset, .unset, .unset, .unset] [(.int (Int32.ofNat i)), (.ref a1)]))
  obtain ⟨lo, hlo⟩ : ∃ z, z = own_s i := ⟨_, rfl⟩
  obtain ⟨nx, hnx⟩ : ∃ z, z = own_s (i + 1) := ⟨_, rfl⟩
  obtain ⟨z0, z1, z2, z3⟩ := own_three i hi p2 lo nx hlo hnx
  have b1 := own_plain i hi _ z1.1 z1.2
  have b2 := own_plain i hi _ z2.1 z2.2
  have b3 := own_plain i hi _ z3.1 z3.2
  clear z1 z2 z3
  refine own_ldJ X33 hx hZ e33 F33 (Nat.lt_succ_of_lt hi) (by decide) rfl (hb hby at_233) ?_
  show own_G p e below Q (T33.setTop (mkF m 234 #[.val (.int p1), .val (.int p2), .val (.ref a1), .val (.int (Int32.ofNat i)), .unset, .unset, .unset, .unset, .unset, .unset, .unset, .unset, .unset] [(.long (own_s i))]))
  rw [← hlo]
  show own_G p e below Q (T33.setTop (mkF m 234 #[.val (.int p1), .val (.int p2), .val (.ref a1), .val (.int (Int32.ofNat i)), .unset, .unset, .unset, .unset, .unset, .unset, .unset, .unset, .unset] [(.long lo)]))
  refine own_go (fun _ k => XS.lstore X33.here hx rfl (hb hby at_234) rfl (l' := #[.val (.int p1), .val (.int p2), .val (.ref a1), .val (.int (Int32.ofNat i)), .val (.long lo), .second, .unset, .unset, .unset, .unset, .unset, .unset, .unset]) rfl k) ?_
  show own_G p e below Q (T33.setTop (mkF m 236 #[.val (.int p1), .val (.int p2), .val (.ref a1), .val (.int (Int32.ofNat i)), .val (.long lo), .second, .unset, .unset, .unset, .unset, .unset, .unset, .unset] []))
  refine own_go (fun _ k => XS.aloadN X33.here hx rfl (hb hby at_236) rfl rfl  k) ?_
  show own_G p e below Q (T33.setTop (mkF m 237 #[.val (.int p1), .val (.int p2), .val (.ref a1), .val (.int (Int32.ofNat i)), .val (.long lo), .second, .unset, .unset, .unset, .unset, .unset, .unset, .unset] [(.ref a1)]))
  refine own_go (fun _ k => XS.iloadN X33.here hx rfl (hb hby at_237) rfl  k) ?_
  show own_G p e below Q (T33.setTop (mkF m 238 #[.val (.int p1), .val (.int p2), .val (.ref a1), .val (.int (Int32.ofNat i)), .val (.long lo), .second, .unset, .unset, .unset, .unset, .unset, .unset, .unset] [(.int (Int32.ofNat i)), (.ref a1)]))
  refine own_go (fun _ k => XS.iconst X33.here hx rfl (hb hby at_238) k) ?_
  show own_G p e below Q (T33.setTop (mkF m 239 #[.val (.int p1), .val (.int p2), .val (.ref a1), .val (.int (Int32.ofNat i)), .val (.long lo), .second, .unset, .unset, .unset, .unset, .unset, .unset, .unset] [(.int (1 : Int32)), (.int (Int32.ofNat i)), (.ref a1)]))
  refine own_go (fun _ k => XS.iadd X33.here hx rfl (hb hby at_239) rfl k) ?_
  show own_G p e below Q (T33.setTop (mkF m 240 #[.val (.int p1), .val (.int p2), .val (.ref a1), .val (.int (Int32.ofNat i)), .val (.long lo), .second, .unset, .unset, .unset, .unset, .unset, .unset, .unset] [(.int ((Int32.ofNat i) + (1 : Int32))), (.ref a1)]))
  rw [own_succ i]
  show own_G p e below Q (T33.setTop (mkF m 240 #[.val (.int p1), .val (.int p2), .val (.ref a1), .val (.int (Int32.ofNat i)), .val (.long lo), .second, .unset, .unset, .unset, .unset, .unset, .unset, .unset] [(.int (Int32.ofNat (i + 1))), (.ref a1)]))
  refine own_ldJ X33 hx hZ e33 F33 (Nat.succ_lt_succ hi) (by decide) rfl (hb hby at_240) ?_
  show own_G p e below Q (T33.setTop (mkF m 241 #[.val (.int p1), .val (.int p2), .val (.ref a1), .val (.int (Int32.ofNat i)), .val (.long lo), .second, .unset, .unset, .unset, .unset, .unset, .unset, .unset] [(.long (own_s (i + 1)))]))
  rw [← hnx]
  show own_G p e below Q (T33.setTop (mkF m 241 #[.val (.int p1), .val (.int p2), .val (.ref a1), .val (.int (Int32.ofNat i)), .val (.long lo), .second, .unset, .unset, .unset, .unset, .unset, .unset, .unset] [(.long nx)]))
  refine own_go (fun _ k => XS.lstore X33.here hx rfl (hb hby at_241) rfl (l' := #[.val (.int p1), .val (.int p2), .val (.ref a1), .val (.int (Int32.ofNat i)), .val (.long lo), .second, .val (.long nx), .second, .unset, .unset, .unset, .unset, .unset]) rfl k) ?_
  show own_G p e below Q (T33.setTop (mkF m 243 #[.val (.int p1), .val (.int p2), .val (.ref a1), .val (.int (Int32.ofNat i)), .val (.long lo), .second, .val (.long nx), .second, .unset, .unset, .unset, .unset, .unset] []))
  refine own_go (fun _ k => XS.lload X33.here hx rfl (hb hby at_243) rfl  k) ?_
  show own_G p e below Q (T33.setTop (mkF m 245 #[.val (.int p1), .val (.int p2), .val (.ref a1), .val (.int (Int32.ofNat i)), .val (.long lo), .second, .val (.long nx), .second, .unset, .unset, .unset, .unset, .unset] [(.long nx)]))
  refine own_go (fun _ k => XS.lconst X33.here hx rfl (hb hby at_245) k) ?_
  show own_G p e below Q (T33.setTop (mkF m 246 #[.val (.int p1), .val (.int p2), .val (.ref a1), .val (.int (Int32.ofNat i)), .val (.long lo), .second, .val (.long nx), .second, .unset, .unset, .unset, .unset, .unset] [(.long (1 : Int64)), (.long nx)]))
  refine own_go (fun _ k => XS.lsub X33.here hx rfl (hb hby at_246) rfl k) ?_
  show own_G p e below Q (T33.setTop (mkF m 247 #[.val (.int p1), .val (.int p2), .val (.ref a1), .val (.int (Int32.ofNat i)), .val (.long lo), .second, .val (.long nx), .second, .unset, .unset, .unset, .unset, .unset] [(.long (nx - (1 : Int64)))]))
  refine own_go (fun _ k => XS.lstore X33.here hx rfl (hb hby at_247) rfl (l' := #[.val (.int p1), .val (.int p2), .val (.ref a1), .val (.int (Int32.ofNat i)), .val (.long lo), .second, .val (.long nx), .second, .val (.long (nx - (1 : Int64))), .second, .unset, .unset, .unset]) rfl k) ?_
  show own_G p e below Q (T33.setTop (mkF m 249 #[.val (.int p1), .val (.int p2), .val (.ref a1), .val (.int (Int32.ofNat i)), .val (.long lo), .second, .val (.long nx), .second, .val (.long (nx - (1 : Int64))), .second, .unset, .unset, .unset] []))
  refine own_go (fun _ k => XS.iloadN X33.here hx rfl (hb hby at_249) rfl  k) ?_
  show own_G p e below Q (T33.setTop (mkF m 250 #[.val (.int p1), .val (.int p2), .val (.ref a1), .val (.int (Int32.ofNat i)), .val (.long lo), .second, .val (.long nx), .second, .val (.long (nx - (1 : Int64))), .second, .unset, .unset, .unset] [(.int p2)]))
  refine own_go (fun _ k => XS.i2l X33.here hx rfl (hb hby at_250) rfl k) ?_
  show own_G p e below Q (T33.setTop (mkF m 251 #[.val (.int p1), .val (.int p2), .val (.ref a1), .val (.int (Int32.ofNat i)), .val (.long lo), .second, .val (.long nx), .second, .val (.long (nx - (1 : Int64))), .second, .unset, .unset, .unset] [(.long (p2.toInt64))]))
  refine own_go (fun _ k => X33.ldc2J hx hown (mvT hZ (hw _ (List.mem_of_getElem? (i := 34) rfl))) rfl (hb hby at_251) k) ?_
  show own_G p e below Q (T33.setTop (mkF m 254 #[.val (.int p1), .val (.int p2), .val (.ref a1), .val (.int (Int32.ofNat i)), .val (.long lo), .second, .val (.long nx), .second, .val (.long (nx - (1 : Int64))), .second, .unset, .unset, .unset] [(.long (4294967295 : Int64)), (.long (p2.toInt64))]))
  refine own_go (fun _ k => XS.land X33.here hx rfl (hb hby at_254) rfl k) ?_
  show own_G p e below Q (T33.setTop (mkF m 255 #[.val (.int p1), .val (.int p2), .val (.ref a1), .val (.int (Int32.ofNat i)), .val (.long lo), .second, .val (.long nx), .second, .val (.long (nx - (1 : Int64))), .second, .unset, .unset, .unset] [(.long ((p2.toInt64) &&& (4294967295 : Int64)))]))
  refine own_go (fun _ k => XS.lload X33.here hx rfl (hb hby at_255) rfl  k) ?_
  show own_G p e below Q (T33.setTop (mkF m 257 #[.val (.int p1), .val (.int p2), .val (.ref a1), .val (.int (Int32.ofNat i)), .val (.long lo), .second, .val (.long nx), .second, .val (.long (nx - (1 : Int64))), .second, .unset, .unset, .unset] [(.long nx), (.long ((p2.toInt64) &&& (4294967295 : Int64)))]))
  refine own_go (fun _ k => XS.lload X33.here hx rfl (hb hby at_257) rfl  k) ?_
  show own_G p e below Q (T33.setTop (mkF m 259 #[.val (.int p1), .val (.int p2), .val (.ref a1), .val (.int (Int32.ofNat i)), .val (.long lo), .second, .val (.long nx), .second, .val (.long (nx - (1 : Int64))), .second, .unset, .unset, .unset] [(.long lo), (.long nx), (.long ((p2.toInt64) &&& (4294967295 : Int64)))]))
  refine own_go (fun _ k => XS.lsub X33.here hx rfl (hb hby at_259) rfl k) ?_
  show own_G p e below Q (T33.setTop (mkF m 260 #[.val (.int p1), .val (.int p2), .val (.ref a1), .val (.int (Int32.ofNat i)), .val (.long lo), .second, .val (.long nx), .second, .val (.long (nx - (1 : Int64))), .second, .unset, .unset, .unset] [(.long (nx - lo)), (.long ((p2.toInt64) &&& (4294967295 : Int64)))]))
  refine own_go (fun _ k => XS.lrem X33.here hx rfl (hb hby at_260) rfl z0 k) ?_
  show own_G p e below Q (T33.setTop (mkF m 261 #[.val (.int p1), .val (.int p2), .val (.ref a1), .val (.int (Int32.ofNat i)), .val (.long lo), .second, .val (.long nx), .second, .val (.long (nx - (1 : Int64))), .second, .unset, .unset, .unset] [(.long (((p2.toInt64) &&& (4294967295 : Int64)) - (((p2.toInt64) &&& (4294967295 : Int64)) / (nx - lo)) * (nx - lo)))]))
  refine own_go (fun _ k => XS.lstore X33.here hx rfl (hb hby at_261) rfl (l' := #[.val (.int p1), .val (.int p2), .val (.ref a1), .val (.int (Int32.ofNat i)), .val (.long lo), .second, .val (.long nx), .second, .val (.long (nx - (1 : Int64))), .second, .val (.long (((p2.toInt64) &&& (4294967295 : Int64)) - (((p2.toInt64) &&& (4294967295 : Int64)) / (nx - lo)) * (nx - lo))), .second, .unset]) rfl k) ?_
  show own_G p e below Q (T33.setTop (mkF m 263 #[.val (.int p1), .val (.int p2), .val (.ref a1), .val (.int (Int32.ofNat i)), .val (.long lo), .second, .val (.long nx), .second, .val (.long (nx - (1 : Int64))), .second, .val (.long (((p2.toInt64) &&& (4294967295 : Int64)) - (((p2.toInt64) &&& (4294967295 : Int64)) / (nx - lo)) * (nx - lo))), .second, .unset] []))
  refine own_go (fun _ k => XS.iloadN X33.here hx rfl (hb hby at_263) rfl  k) ?_
  show own_G p e below Q (T33.setTop (mkF m 264 #[.val (.int p1), .val (.int p2), .val (.ref a1), .val (.int (Int32.ofNat i)), .val (.long lo), .second, .val (.long nx), .second, .val (.long (nx - (1 : Int64))), .second, .val (.long (((p2.toInt64) &&& (4294967295 : Int64)) - (((p2.toInt64) &&& (4294967295 : Int64)) / (nx - lo)) * (nx - lo))), .second, .unset] [(.int (Int32.ofNat i))]))
  refine own_go (fun _ k => XS.iconst X33.here hx rfl (hb hby at_264) k) ?_
  show own_G p e below Q (T33.setTop (mkF m 265 #[.val (.int p1), .val (.int p2), .val (.ref a1), .val (.int (Int32.ofNat i)), .val (.long lo), .second, .val (.long nx), .second, .val (.long (nx - (1 : Int64))), .second, .val (.long (((p2.toInt64) &&& (4294967295 : Int64)) - (((p2.toInt64) &&& (4294967295 : Int64)) / (nx - lo)) * (nx - lo))), .second, .unset] [(.int (1 : Int32)), (.int (Int32.ofNat i))]))
  refine own_go (fun _ k => XS.iand X33.here hx rfl (hb hby at_265) rfl k) ?_
  show own_G p e below Q (T33.setTop (mkF m 266 #[.val (.int p1), .val (.int p2), .val (.ref a1), .val (.int (Int32.ofNat i)), .val (.long lo), .second, .val (.long nx), .second, .val (.long (nx - (1 : Int64))), .second, .val (.long (((p2.toInt64) &&& (4294967295 : Int64)) - (((p2.toInt64) &&& (4294967295 : Int64)) / (nx - lo)) * (nx - lo))), .second, .unset] [(.int ((Int32.ofNat i) &&& (1 : Int32)))]))
  refine own_go (fun _ k => XS.iconst X33.here hx rfl (hb hby at_266) k) ?_
  show own_G p e below Q (T33.setTop (mkF m 267 #[.val (.int p1), .val (.int p2), .val (.ref a1), .val (.int (Int32.ofNat i)), .val (.long lo), .second, .val (.long nx), .second, .val (.long (nx - (1 : Int64))), .second, .val (.long (((p2.toInt64) &&& (4294967295 : Int64)) - (((p2.toInt64) &&& (4294967295 : Int64)) / (nx - lo)) * (nx - lo))), .second, .unset] [(.int (1 : Int32)), (.int ((Int32.ofNat i) &&& (1 : Int32)))]))
  by_cases hp : ((Int32.ofNat i) &&& (1 : Int32)) = (1 : Int32)
  · refine own_go (fun _ k => XS.icmpNo X33.here hx rfl (hb hby at_267) rfl (teq hp).2 k) ?_
    show own_G p e below Q (T33.setTop (mkF m 270 #[.val (.int p1), .val (.int p2), .val (.ref a1), .val (.int (Int32.ofNat i)), .val (.long lo), .second, .val (.long nx), .second, .val (.long (nx - (1 : Int64))), .second, .val (.long (((p2.toInt64) &&& (4294967295 : Int64)) - (((p2.toInt64) &&& (4294967295 : Int64)) / (nx - lo)) * (nx - lo))), .second, .unset] []))
    refine own_go (fun _ k => XS.iconst X33.here hx rfl (hb hby at_270) k) ?_
    show own_G p e below Q (T33.setTop (mkF m 271 #[.val (.int p1), .val (.int p2), .val (.ref a1), .val (.int (Int32.ofNat i)), .val (.long lo), .second, .val (.long nx), .second, .val (.long (nx - (1 : Int64))), .second, .val (.long (((p2.toInt64) &&& (4294967295 : Int64)) - (((p2.toInt64) &&& (4294967295 : Int64)) / (nx - lo)) * (nx - lo))), .second, .unset] [(.int (1 : Int32))]))
    refine own_go (fun _ k => XS.goto X33.here hx rfl (pc0 := 271) (pc' := 275) rfl (hb hby at_271) (by decide) (by decide) k) ?_
    show own_G p e below Q (T33.setTop (mkF m 275 #[.val (.int p1), .val (.int p2), .val (.ref a1), .val (.int (Int32.ofNat i)), .val (.long lo), .second, .val (.long nx), .second, .val (.long (nx - (1 : Int64))), .second, .val (.long (((p2.toInt64) &&& (4294967295 : Int64)) - (((p2.toInt64) &&& (4294967295 : Int64)) / (nx - lo)) * (nx - lo))), .second, .unset] [(.int (1 : Int32))]))
    refine own_go (fun _ k => XS.istore X33.here hx rfl (hb hby at_275) rfl (l' := #[.val (.int p1), .val (.int p2), .val (.ref a1), .val (.int (Int32.ofNat i)), .val (.long lo), .second, .val (.long nx), .second, .val (.long (nx - (1 : Int64))), .second, .val (.long (((p2.toInt64) &&& (4294967295 : Int64)) - (((p2.toInt64) &&& (4294967295 : Int64)) / (nx - lo)) * (nx - lo))), .second, .val (.int (1 : Int32))]) rfl k) ?_
    show own_G p e below Q (T33.setTop (mkF m 277 #[.val (.int p1), .val (.int p2), .val (.ref a1), .val (.int (Int32.ofNat i)), .val (.long lo), .second, .val (.long nx), .second, .val (.long (nx - (1 : Int64))), .second, .val (.long (((p2.toInt64) &&& (4294967295 : Int64)) - (((p2.toInt64) &&& (4294967295 : Int64)) / (nx - lo)) * (nx - lo))), .second, .val (.int (1 : Int32))] []))
    refine own_go (fun _ k => XS.lload X33.here hx rfl (hb hby at_277) rfl  k) ?_
    show own_G p e below Q (T33.setTop (mkF m 279 #[.val (.int p1), .val (.int p2), .val (.ref a1), .val (.int (Int32.ofNat i)), .val (.long lo), .second, .val (.long nx), .second, .val (.long (nx - (1 : Int64))), .second, .val (.long (((p2.toInt64) &&& (4294967295 : Int64)) - (((p2.toInt64) &&& (4294967295 : Int64)) / (nx - lo)) * (nx - lo))), .second, .val (.int (1 : Int32))] [(.long lo)]))
    refine own_go (fun _ k => XS.l2i X33.here hx rfl (hb hby at_279) rfl k) ?_
    show own_G p e below Q (T33.setTop (mkF m 280 #[.val (.int p1), .val (.int p2), .val (.ref a1), .val (.int (Int32.ofNat i)), .val (.long lo), .second, .val (.long nx), .second, .val (.long (nx - (1 : Int64))), .second, .val (.long (((p2.toInt64) &&& (4294967295 : Int64)) - (((p2.toInt64) &&& (4294967295 : Int64)) / (nx - lo)) * (nx - lo))), .second, .val (.int (1 : Int32))] [(.int (lo.toInt32))]))
    refine own_callSP X33 hx hZ hown (hw _ (List.mem_of_getElem? (i := 35) rfl)) (hw _ (List.mem_of_getElem? (i := 36) rfl)) (hw _ (List.mem_of_getElem? (i := 37) rfl)) (hw _ (List.mem_of_getElem? (i := 38) rfl)) (by decide) (argsL := [(.int (lo.toInt32))]) (rest := []) e33 (own_ns l Z a0 hw _ _) rfl (by rw [hml]; rfl) pd_n rfl (hb hby at_280) (W := 0) (Nat.le_of_eq rfl) (by decide) (by decide) (by decide) (by decide) ?_
    intro T34 X34 e34
    show own_G p e below Q (T34.setTop (mkF m 283 #[.val (.int p1), .val (.int p2), .val (.ref a1), .val (.int (Int32.ofNat i)), .val (.long lo), .second, .val (.long nx), .second, .val (.long (nx - (1 : Int64))), .second, .val (.long (((p2.toInt64) &&& (4294967295 : Int64)) - (((p2.toInt64) &&& (4294967295 : Int64)) / (nx - lo)) * (nx - lo))), .second, .val (.int (1 : Int32))] [(.int (if own_in own_rs ((lo.toInt32)).toInt = true then (1 : Int32) else 0))]))
    refine own_go (fun _ k => XS.iload X34.here hx rfl (hb hby at_283) rfl  k) ?_
    show own_G p e below Q (T34.setTop (mkF m 285 #[.val (.int p1), .val (.int p2), .val (.ref a1), .val (.int (Int32.ofNat i)), .val (.long lo), .second, .val (.long nx), .second, .val (.long (nx - (1 : Int64))), .second, .val (.long (((p2.toInt64) &&& (4294967295 : Int64)) - (((p2.toInt64) &&& (4294967295 : Int64)) / (nx - lo)) * (nx - lo))), .second, .val (.int (1 : Int32))] [(.int (1 : Int32)), (.int (if own_in own_rs ((lo.toInt32)).toInt = true then (1 : Int32) else 0))]))
    refine own_go (fun _ k => XS.icmpNo X34.here hx rfl (hb hby at_285) rfl (teq (b1.trans (if_pos hp))).2 k) ?_
    show own_G p e below Q (T34.setTop (mkF m 288 #[.val (.int p1), .val (.int p2), .val (.ref a1), .val (.int (Int32.ofNat i)), .val (.long lo), .second, .val (.long nx), .second, .val (.long (nx - (1 : Int64))), .second, .val (.long (((p2.toInt64) &&& (4294967295 : Int64)) - (((p2.toInt64) &&& (4294967295 : Int64)) / (nx - lo)) * (nx - lo))), .second, .val (.int (1 : Int32))] []))
    refine own_go (fun _ k => XS.lload X34.here hx rfl (hb hby at_288) rfl  k) ?_
    show own_G p e below Q (T34.setTop (mkF m 290 #[.val (.int p1), .val (.int p2), .val (.ref a1), .val (.int (Int32.ofNat i)), .val (.long lo), .second, .val (.long nx), .second, .val (.long (nx - (1 : Int64))), .second, .val (.long (((p2.toInt64) &&& (4294967295 : Int64)) - (((p2.toInt64) &&& (4294967295 : Int64)) / (nx - lo)) * (nx - lo))), .second, .val (.int (1 : Int32))] [(.long (nx - (1 : Int64)))]))
    refine own_go (fun _ k => XS.l2i X34.here hx rfl (hb hby at_290) rfl k) ?_
    show own_G p e below Q (T34.setTop (mkF m 291 #[.val (.int p1), .val (.int p2), .val (.ref a1), .val (.int (Int32.ofNat i)), .val (.long lo), .second, .val (.long nx), .second, .val (.long (nx - (1 : Int64))), .second, .val (.long (((p2.toInt64) &&& (4294967295 : Int64)) - (((p2.toInt64) &&& (4294967295 : Int64)) / (nx - lo)) * (nx - lo))), .second, .val (.int (1 : Int32))] [(.int ((nx - (1 : Int64)).toInt32))]))
    refine own_callSP X34 hx hZ hown (hw _ (List.mem_of_getElem? (i := 35) rfl)) (hw _ (List.mem_of_getElem? (i := 36) rfl)) (hw _ (List.mem_of_getElem? (i := 37) rfl)) (hw _ (List.mem_of_getElem? (i := 38) rfl)) (by decide) (argsL := [(.int ((nx - (1 : Int64)).toInt32))]) (rest := []) e34 (own_ns l Z a0 hw _ _) rfl (by rw [hml]; rfl) pd_n rfl (hb hby at_291) (W := 0) (Nat.le_of_eq rfl) (by decide) (by decide) (by decide) (by decide) ?_
    intro T35 X35 e35
    show own_G p e below Q (T35.setTop (mkF m 294 #[.val (.int p1), .val (.int p2), .val (.ref a1), .val (.int (Int32.ofNat i)), .val (.long lo), .second, .val (.long nx), .second, .val (.long (nx - (1 : Int64))), .second, .val (.long (((p2.toInt64) &&& (4294967295 : Int64)) - (((p2.toInt64) &&& (4294967295 : Int64)) / (nx - lo)) * (nx - lo))), .second, .val (.int (1 : Int32))] [(.int (if own_in own_rs (((nx - (1 : Int64)).toInt32)).toInt = true then (1 : Int32) else 0))]))
    refine own_go (fun _ k => XS.iload X35.here hx rfl (hb hby at_294) rfl  k) ?_
    show own_G p e below Q (T35.setTop (mkF m 296 #[.val (.int p1), .val (.int p2), .val (.ref a1), .val (.int (Int32.ofNat i)), .val (.long lo), .second, .val (.long nx), .second, .val (.long (nx - (1 : Int64))), .second, .val (.long (((p2.toInt64) &&& (4294967295 : Int64)) - (((p2.toInt64) &&& (4294967295 : Int64)) / (nx - lo)) * (nx - lo))), .second, .val (.int (1 : Int32))] [(.int (1 : Int32)), (.int (if own_in own_rs (((nx - (1 : Int64)).toInt32)).toInt = true then (1 : Int32) else 0))]))
    refine own_go (fun _ k => XS.icmpNo X35.here hx rfl (hb hby at_296) rfl (teq (b2.trans (if_pos hp))).2 k) ?_
    show own_G p e below Q (T35.setTop (mkF m 299 #[.val (.int p1), .val (.int p2), .val (.ref a1), .val (.int (Int32.ofNat i)), .val (.long lo), .second, .val (.long nx), .second, .val (.long (nx - (1 : Int64))), .second, .val (.long (((p2.toInt64) &&& (4294967295 : Int64)) - (((p2.toInt64) &&& (4294967295 : Int64)) / (nx - lo)) * (nx - lo))), .second, .val (.int (1 : Int32))] []))
    refine own_go (fun _ k => XS.lload X35.here hx rfl (hb hby at_299) rfl  k) ?_
    show own_G p e below Q (T35.setTop (mkF m 301 #[.val (.int p1), .val (.int p2), .val (.ref a1), .val (.int (Int32.ofNat i)), .val (.long lo), .second, .val (.long nx), .second, .val (.long (nx - (1 : Int64))), .second, .val (.long (((p2.toInt64) &&& (4294967295 : Int64)) - (((p2.toInt64) &&& (4294967295 : Int64)) / (nx - lo)) * (nx - lo))), .second, .val (.int (1 : Int32))] [(.long lo)]))
    refine own_go (fun _ k => XS.lload X35.here hx rfl (hb hby at_301) rfl  k) ?_
    show own_G p e below Q (T35.setTop (mkF m 303 #[.val (.int p1), .val (.int p2), .val (.ref a1), .val (.int (Int32.ofNat i)), .val (.long lo), .second, .val (.long nx), .second, .val (.long (nx - (1 : Int64))), .second, .val (.long (((p2.toInt64) &&& (4294967295 : Int64)) - (((p2.toInt64) &&& (4294967295 : Int64)) / (nx - lo)) * (nx - lo))), .second, .val (.int (1 : Int32))] [(.long (((p2.toInt64) &&& (4294967295 : Int64)) - (((p2.toInt64) &&& (4294967295 : Int64)) / (nx - lo)) * (nx - lo))), (.long lo)]))
    refine own_go (fun _ k => XS.ladd X35.here hx rfl (hb hby at_303) rfl k) ?_
    show own_G p e below Q (T35.setTop (mkF m 304 #[.val (.int p1), .val (.int p2), .val (.ref a1), .val (.int (Int32.ofNat i)), .val (.long lo), .second, .val (.long nx), .second, .val (.long (nx - (1 : Int64))), .second, .val (.long (((p2.toInt64) &&& (4294967295 : Int64)) - (((p2.toInt64) &&& (4294967295 : Int64)) / (nx - lo)) * (nx - lo))), .second, .val (.int (1 : Int32))] [(.long (lo + (((p2.toInt64) &&& (4294967295 : Int64)) - (((p2.toInt64) &&& (4294967295 : Int64)) / (nx - lo)) * (nx - lo))))]))
    refine own_go (fun _ k => XS.l2i X35.here hx rfl (hb hby at_304) rfl k) ?_
    show own_G p e below Q (T35.setTop (mkF m 305 #[.val (.int p1), .val (.int p2), .val (.ref a1), .val (.int (Int32.ofNat i)), .val (.long lo), .second, .val (.long nx), .second, .val (.long (nx - (1 : Int64))), .second, .val (.long (((p2.toInt64) &&& (4294967295 : Int64)) - (((p2.toInt64) &&& (4294967295 : Int64)) / (nx - lo)) * (nx - lo))), .second, .val (.int (1 : Int32))] [(.int ((lo + (((p2.toInt64) &&& (4294967295 : Int64)) - (((p2.toInt64) &&& (4294967295 : Int64)) / (nx - lo)) * (nx - lo))).toInt32))]))
    refine own_callSP X35 hx hZ hown (hw _ (List.mem_of_getElem? (i := 35) rfl)) (hw _ (List.mem_of_getElem? (i := 36) rfl)) (hw _ (List.mem_of_getElem? (i := 37) rfl)) (hw _ (List.mem_of_getElem? (i := 38) rfl)) (by decide) (argsL := [(.int ((lo + (((p2.toInt64) &&& (4294967295 : Int64)) - (((p2.toInt64) &&& (4294967295 : Int64)) / (nx - lo)) * (nx - lo))).toInt32))]) (rest := []) e35 (own_ns l Z a0 hw _ _) rfl (by rw [hml]; rfl) pd_n rfl (hb hby at_305) (W := 0) (Nat.le_of_eq rfl) (by decide) (by decide) (by decide) (by decide) ?_
    intro T36 X36 e36
    show own_G p e below Q (T36.setTop (mkF m 308 #[.val (.int p1), .val (.int p2), .val (.ref a1), .val (.int (Int32.ofNat i)), .val (.long lo), .second, .val (.long nx), .second, .val (.long (nx - (1 : Int64))), .second, .val (.long (((p2.toInt64) &&& (4294967295 : Int64)) - (((p2.toInt64) &&& (4294967295 : Int64)) / (nx - lo)) * (nx - lo))), .second, .val (.int (1 : Int32))] [(.int (if own_in own_rs (((lo + (((p2.toInt64) &&& (4294967295 : Int64)) - (((p2.toInt64) &&& (4294967295 : Int64)) / (nx - lo)) * (nx - lo))).toInt32)).toInt = true then (1 : Int32) else 0))]))
    refine own_go (fun _ k => XS.iload X36.here hx rfl (hb hby at_308) rfl  k) ?_
    show own_G p e below Q (T36.setTop (mkF m 310 #[.val (.int p1), .val (.int p2), .val (.ref a1), .val (.int (Int32.ofNat i)), .val (.long lo), .second, .val (.long nx), .second, .val (.long (nx - (1 : Int64))), .second, .val (.long (((p2.toInt64) &&& (4294967295 : Int64)) - (((p2.toInt64) &&& (4294967295 : Int64)) / (nx - lo)) * (nx - lo))), .second, .val (.int (1 : Int32))] [(.int (1 : Int32)), (.int (if own_in own_rs (((lo + (((p2.toInt64) &&& (4294967295 : Int64)) - (((p2.toInt64) &&& (4294967295 : Int64)) / (nx - lo)) * (nx - lo))).toInt32)).toInt = true then (1 : Int32) else 0))]))
    refine own_go (fun _ k => XS.icmpNo X36.here hx rfl (hb hby at_310) rfl (teq (b3.trans (if_pos hp))).2 k) ?_
    show own_G p e below Q (T36.setTop (mkF m 313 #[.val (.int p1), .val (.int p2), .val (.ref a1), .val (.int (Int32.ofNat i)), .val (.long lo), .second, .val (.long nx), .second, .val (.long (nx - (1 : Int64))), .second, .val (.long (((p2.toInt64) &&& (4294967295 : Int64)) - (((p2.toInt64) &&& (4294967295 : Int64)) / (nx - lo)) * (nx - lo))), .second, .val (.int (1 : Int32))] []))
    refine own_go (fun _ k => XS.iconst X36.here hx rfl (hb hby at_313) k) ?_
    show own_G p e below Q (T36.setTop (mkF m 314 #[.val (.int p1), .val (.int p2), .val (.ref a1), .val (.int (Int32.ofNat i)), .val (.long lo), .second, .val (.long nx), .second, .val (.long (nx - (1 : Int64))), .second, .val (.long (((p2.toInt64) &&& (4294967295 : Int64)) - (((p2.toInt64) &&& (4294967295 : Int64)) / (nx - lo)) * (nx - lo))), .second, .val (.int (1 : Int32))] [(.int (1 : Int32))]))
    refine own_go (fun _ k => XS.goto X36.here hx rfl (pc0 := 314) (pc' := 318) rfl (hb hby at_314) (by decide) (by decide) k) ?_
    show own_G p e below Q (T36.setTop (mkF m 318 #[.val (.int p1), .val (.int p2), .val (.ref a1), .val (.int (Int32.ofNat i)), .val (.long lo), .second, .val (.long nx), .second, .val (.long (nx - (1 : Int64))), .second, .val (.long (((p2.toInt64) &&& (4294967295 : Int64)) - (((p2.toInt64) &&& (4294967295 : Int64)) / (nx - lo)) * (nx - lo))), .second, .val (.int (1 : Int32))] [(.int (1 : Int32))]))
    exact own_retN X36 hx hlk (Or.inl rfl) hret (hb hby at_318) rfl (fun U hU hF => hR _ _ _ _ _ ⟨rfl, N33⟩ (by decide) (by decide) hF)
  · refine own_go (fun _ k => XS.icmpYes X33.here hx rfl (pc0 := 267) (pc' := 274) rfl (hb hby at_267) rfl (feq hp).2 (by decide) (by decide) k) ?_
    show own_G p e below Q (T33.setTop (mkF m 274 #[.val (.int p1), .val (.int p2), .val (.ref a1), .val (.int (Int32.ofNat i)), .val (.long lo), .second, .val (.long nx), .second, .val (.long (nx - (1 : Int64))), .second, .val (.long (((p2.toInt64) &&& (4294967295 : Int64)) - (((p2.toInt64) &&& (4294967295 : Int64)) / (nx - lo)) * (nx - lo))), .second, .unset] []))
    refine own_go (fun _ k => XS.iconst X33.here hx rfl (hb hby at_274) k) ?_
    show own_G p e below Q (T33.setTop (mkF m 275 #[.val (.int p1), .val (.int p2), .val (.ref a1), .val (.int (Int32.ofNat i)), .val (.long lo), .second, .val (.long nx), .second, .val (.long (nx - (1 : Int64))), .second, .val (.long (((p2.toInt64) &&& (4294967295 : Int64)) - (((p2.toInt64) &&& (4294967295 : Int64)) / (nx - lo)) * (nx - lo))), .second, .unset] [(.int (0 : Int32))]))
    refine own_go (fun _ k => XS.istore X33.here hx rfl (hb hby at_275) rfl (l' := #[.val (.int p1), .val (.int p2), .val (.ref a1), .val (.int (Int32.ofNat i)), .val (.long lo), .second, .val (.long nx), .second, .val (.long (nx - (1 : Int64))), .second, .val (.long (((p2.toInt64) &&& (4294967295 : Int64)) - (((p2.toInt64) &&& (4294967295 : Int64)) / (nx - lo)) * (nx - lo))), .second, .val (.int (0 : Int32))]) rfl k) ?_
    show own_G p e below Q (T33.setTop (mkF m 277 #[.val (.int p1), .val (.int p2), .val (.ref a1), .val (.int (Int32.ofNat i)), .val (.long lo), .second, .val (.long nx), .second, .val (.long (nx - (1 : Int64))), .second, .val (.long (((p2.toInt64) &&& (4294967295 : Int64)) - (((p2.toInt64) &&& (4294967295 : Int64)) / (nx - lo)) * (nx - lo))), .second, .val (.int (0 : Int32))] []))
    refine own_go (fun _ k => XS.lload X33.here hx rfl (hb hby at_277) rfl  k) ?_
    show own_G p e below Q (T33.setTop (mkF m 279 #[.val (.int p1), .val (.int p2), .val (.ref a1), .val (.int (Int32.ofNat i)), .val (.long lo), .second, .val (.long nx), .second, .val (.long (nx - (1 : Int64))), .second, .val (.long (((p2.toInt64) &&& (4294967295 : Int64)) - (((p2.toInt64) &&& (4294967295 : Int64)) / (nx - lo)) * (nx - lo))), .second, .val (.int (0 : Int32))] [(.long lo)]))
    refine own_go (fun _ k => XS.l2i X33.here hx rfl (hb hby at_279) rfl k) ?_
    show own_G p e below Q (T33.setTop (mkF m 280 #[.val (.int p1), .val (.int p2), .val (.ref a1), .val (.int (Int32.ofNat i)), .val (.long lo), .second, .val (.long nx), .second, .val (.long (nx - (1 : Int64))), .second, .val (.long (((p2.toInt64) &&& (4294967295 : Int64)) - (((p2.toInt64) &&& (4294967295 : Int64)) / (nx - lo)) * (nx - lo))), .second, .val (.int (0 : Int32))] [(.int (lo.toInt32))]))
    refine own_callSP X33 hx hZ hown (hw _ (List.mem_of_getElem? (i := 35) rfl)) (hw _ (List.mem_of_getElem? (i := 36) rfl)) (hw _ (List.mem_of_getElem? (i := 37) rfl)) (hw _ (List.mem_of_getElem? (i := 38) rfl)) (by decide) (argsL := [(.int (lo.toInt32))]) (rest := []) e33 (own_ns l Z a0 hw _ _) rfl (by rw [hml]; rfl) pd_n rfl (hb hby at_280) (W := 0) (Nat.le_of_eq rfl) (by decide) (by decide) (by decide) (by decide) ?_
    intro T37 X37 e37
    show own_G p e below Q (T37.setTop (mkF m 283 #[.val (.int p1), .val (.int p2), .val (.ref a1), .val (.int (Int32.ofNat i)), .val (.long lo), .second, .val (.long nx), .second, .val (.long (nx - (1 : Int64))), .second, .val (.long (((p2.toInt64) &&& (4294967295 : Int64)) - (((p2.toInt64) &&& (4294967295 : Int64)) / (nx - lo)) * (nx - lo))), .second, .val (.int (0 : Int32))] [(.int (if own_in own_rs ((lo.toInt32)).toInt = true then (1 : Int32) else 0))]))
    refine own_go (fun _ k => XS.iload X37.here hx rfl (hb hby at_283) rfl  k) ?_
    show own_G p e below Q (T37.setTop (mkF m 285 #[.val (.int p1), .val (.int p2), .val (.ref a1), .val (.int (Int32.ofNat i)), .val (.long lo), .second, .val (.long nx), .second, .val (.long (nx - (1 : Int64))), .second, .val (.long (((p2.toInt64) &&& (4294967295 : Int64)) - (((p2.toInt64) &&& (4294967295 : Int64)) / (nx - lo)) * (nx - lo))), .second, .val (.int (0 : Int32))] [(.int (0 : Int32)), (.int (if own_in own_rs ((lo.toInt32)).toInt = true then (1 : Int32) else 0))]))
    refine own_go (fun _ k => XS.icmpNo X37.here hx rfl (hb hby at_285) rfl (teq (b1.trans (if_neg hp))).2 k) ?_
    show own_G p e below Q (T37.setTop (mkF m 288 #[.val (.int p1), .val (.int p2), .val (.ref a1), .val (.int (Int32.ofNat i)), .val (.long lo), .second, .val (.long nx), .second, .val (.long (nx - (1 : Int64))), .second, .val (.long (((p2.toInt64) &&& (4294967295 : Int64)) - (((p2.toInt64) &&& (4294967295 : Int64)) / (nx - lo)) * (nx - lo))), .second, .val (.int (0 : Int32))] []))
    refine own_go (fun _ k => XS.lload X37.here hx rfl (hb hby at_288) rfl  k) ?_
    show own_G p e below Q (T37.setTop (mkF m 290 #[.val (.int p1), .val (.int p2), .val (.ref a1), .val (.int (Int32.ofNat i)), .val (.long lo), .second, .val (.long nx), .second, .val (.long (nx - (1 : Int64))), .second, .val (.long (((p2.toInt64) &&& (4294967295 : Int64)) - (((p2.toInt64) &&& (4294967295 : Int64)) / (nx - lo)) * (nx - lo))), .second, .val (.int (0 : Int32))] [(.long (nx - (1 : Int64)))]))
    refine own_go (fun _ k => XS.l2i X37.here hx rfl (hb hby at_290) rfl k) ?_
    show own_G p e below Q (T37.setTop (mkF m 291 #[.val (.int p1), .val (.int p2), .val (.ref a1), .val (.int (Int32.ofNat i)), .val (.long lo), .second, .val (.long nx), .second, .val (.long (nx - (1 : Int64))), .second, .val (.long (((p2.toInt64) &&& (4294967295 : Int64)) - (((p2.toInt64) &&& (4294967295 : Int64)) / (nx - lo)) * (nx - lo))), .second, .val (.int (0 : Int32))] [(.int ((nx - (1 : Int64)).toInt32))]))
    refine own_callSP X37 hx hZ hown (hw _ (List.mem_of_getElem? (i := 35) rfl)) (hw _ (List.mem_of_getElem? (i := 36) rfl)) (hw _ (List.mem_of_getElem? (i := 37) rfl)) (hw _ (List.mem_of_getElem? (i := 38) rfl)) (by decide) (argsL := [(.int ((nx - (1 : Int64)).toInt32))]) (rest := []) e37 (own_ns l Z a0 hw _ _) rfl (by rw [hml]; rfl) pd_n rfl (hb hby at_291) (W := 0) (Nat.le_of_eq rfl) (by decide) (by decide) (by decide) (by decide) ?_
    intro T38 X38 e38
    show own_G p e below Q (T38.setTop (mkF m 294 #[.val (.int p1), .val (.int p2), .val (.ref a1), .val (.int (Int32.ofNat i)), .val (.long lo), .second, .val (.long nx), .second, .val (.long (nx - (1 : Int64))), .second, .val (.long (((p2.toInt64) &&& (4294967295 : Int64)) - (((p2.toInt64) &&& (4294967295 : Int64)) / (nx - lo)) * (nx - lo))), .second, .val (.int (0 : Int32))] [(.int (if own_in own_rs (((nx - (1 : Int64)).toInt32)).toInt = true then (1 : Int32) else 0))]))
    refine own_go (fun _ k => XS.iload X38.here hx rfl (hb hby at_294) rfl  k) ?_
    show own_G p e below Q (T38.setTop (mkF m 296 #[.val (.int p1), .val (.int p2), .val (.ref a1), .val (.int (Int32.ofNat i)), .val (.long lo), .second, .val (.long nx), .second, .val (.long (nx - (1 : Int64))), .second, .val (.long (((p2.toInt64) &&& (4294967295 : Int64)) - (((p2.toInt64) &&& (4294967295 : Int64)) / (nx - lo)) * (nx - lo))), .second, .val (.int (0 : Int32))] [(.int (0 : Int32)), (.int (if own_in own_rs (((nx - (1 : Int64)).toInt32)).toInt = true then (1 : Int32) else 0))]))
    refine own_go (fun _ k => XS.icmpNo X38.here hx rfl (hb hby at_296) rfl (teq (b2.trans (if_neg hp))).2 k) ?_
    show own_G p e below Q (T38.setTop (mkF m 299 #[.val (.int p1), .val (.int p2), .val (.ref a1), .val (.int (Int32.ofNat i)), .val (.long lo), .second, .val (.long nx), .second, .val (.long (nx - (1 : Int64))), .second, .val (.long (((p2.toInt64) &&& (4294967295 : Int64)) - (((p2.toInt64) &&& (4294967295 : Int64)) / (nx - lo)) * (nx - lo))), .second, .val (.int (0 : Int32))] []))
    refine own_go (fun _ k => XS.lload X38.here hx rfl (hb hby at_299) rfl  k) ?_
    show own_G p e below Q (T38.setTop (mkF m 301 #[.val (.int p1), .val (.int p2), .val (.ref a1), .val (.int (Int32.ofNat i)), .val (.long lo), .second, .val (.long nx), .second, .val (.long (nx - (1 : Int64))), .second, .val (.long (((p2.toInt64) &&& (4294967295 : Int64)) - (((p2.toInt64) &&& (4294967295 : Int64)) / (nx - lo)) * (nx - lo))), .second, .val (.int (0 : Int32))] [(.long lo)]))
    refine own_go (fun _ k => XS.lload X38.here hx rfl (hb hby at_301) rfl  k) ?_
    show own_G p e below Q (T38.setTop (mkF m 303 #[.val (.int p1), .val (.int p2), .val (.ref a1), .val (.int (Int32.ofNat i)), .val (.long lo), .second, .val (.long nx), .second, .val (.long (nx - (1 : Int64))), .second, .val (.long (((p2.toInt64) &&& (4294967295 : Int64)) - (((p2.toInt64) &&& (4294967295 : Int64)) / (nx - lo)) * (nx - lo))), .second, .val (.int (0 : Int32))] [(.long (((p2.toInt64) &&& (4294967295 : Int64)) - (((p2.toInt64) &&& (4294967295 : Int64)) / (nx - lo)) * (nx - lo))), (.long lo)]))
    refine own_go (fun _ k => XS.ladd X38.here hx rfl (hb hby at_303) rfl k) ?_
    show own_G p e below Q (T38.setTop (mkF m 304 #[.val (.int p1), .val (.int p2), .val (.ref a1), .val (.int (Int32.ofNat i)), .val (.long lo), .second, .val (.long nx), .second, .val (.long (nx - (1 : Int64))), .second, .val (.long (((p2.toInt64) &&& (4294967295 : Int64)) - (((p2.toInt64) &&& (4294967295 : Int64)) / (nx - lo)) * (nx - lo))), .second, .val (.int (0 : Int32))] [(.long (lo + (((p2.toInt64) &&& (4294967295 : Int64)) - (((p2.toInt64) &&& (4294967295 : Int64)) / (nx - lo)) * (nx - lo))))]))
    refine own_go (fun _ k => XS.l2i X38.here hx rfl (hb hby at_304) rfl k) ?_
    show own_G p e below Q (T38.setTop (mkF m 305 #[.val (.int p1), .val (.int p2), .val (.ref a1), .val (.int (Int32.ofNat i)), .val (.long lo), .second, .val (.long nx), .second, .val (.long (nx - (1 : Int64))), .second, .val (.long (((p2.toInt64) &&& (4294967295 : Int64)) - (((p2.toInt64) &&& (4294967295 : Int64)) / (nx - lo)) * (nx - lo))), .second, .val (.int (0 : Int32))] [(.int ((lo + (((p2.toInt64) &&& (4294967295 : Int64)) - (((p2.toInt64) &&& (4294967295 : Int64)) / (nx - lo)) * (nx - lo))).toInt32))]))
    refine own_callSP X38 hx hZ hown (hw _ (List.mem_of_getElem? (i := 35) rfl)) (hw _ (List.mem_of_getElem? (i := 36) rfl)) (hw _ (List.mem_of_getElem? (i := 37) rfl)) (hw _ (List.mem_of_getElem? (i := 38) rfl)) (by decide) (argsL := [(.int ((lo + (((p2.toInt64) &&& (4294967295 : Int64)) - (((p2.toInt64) &&& (4294967295 : Int64)) / (nx - lo)) * (nx - lo))).toInt32))]) (rest := []) e38 (own_ns l Z a0 hw _ _) rfl (by rw [hml]; rfl) pd_n rfl (hb hby at_305) (W := 0) (Nat.le_of_eq rfl) (by decide) (by decide) (by decide) (by decide) ?_
    intro T39 X39 e39
    show own_G p e below Q (T39.setTop (mkF m 308 #[.val (.int p1), .val (.int p2), .val (.ref a1), .val (.int (Int32.ofNat i)), .val (.long lo), .second, .val (.long nx), .second, .val (.long (nx - (1 : Int64))), .second, .val (.long (((p2.toInt64) &&& (4294967295 : Int64)) - (((p2.toInt64) &&& (4294967295 : Int64)) / (nx - lo)) * (nx - lo))), .second, .val (.int (0 : Int32))] [(.int (if own_in own_rs (((lo + (((p2.toInt64) &&& (4294967295 : Int64)) - (((p2.toInt64) &&& (4294967295 : Int64)) / (nx - lo)) * (nx - lo))).toInt32)).toInt = true then (1 : Int32) else 0))]))
    refine own_go (fun _ k => XS.iload X39.here hx rfl (hb hby at_308) rfl  k) ?_
    show own_G p e below Q (T39.setTop (mkF m 310 #[.val (.int p1), .val (.int p2), .val (.ref a1), .val (.int (Int32.ofNat i)), .val (.long lo), .second, .val (.long nx), .second, .val (.long (nx - (1 : Int64))), .second, .val (.long (((p2.toInt64) &&& (4294967295 : Int64)) - (((p2.toInt64) &&& (4294967295 : Int64)) / (nx - lo)) * (nx - lo))), .second, .val (.int (0 : Int32))] [(.int (0 : Int32)), (.int (if own_in own_rs (((lo + (((p2.toInt64) &&& (4294967295 : Int64)) - (((p2.toInt64) &&& (4294967295 : Int64)) / (nx - lo)) * (nx - lo))).toInt32)).toInt = true then (1 : Int32) else 0))]))
    refine own_go (fun _ k => XS.icmpNo X39.here hx rfl (hb hby at_310) rfl (teq (b3.trans (if_neg hp))).2 k) ?_
    show own_G p e below Q (T39.setTop (mkF m 313 #[.val (.int p1), .val (.int p2), .val (.ref a1), .val (.int (Int32.ofNat i)), .val (.long lo), .second, .val (.long nx), .second, .val (.long (nx - (1 : Int64))), .second, .val (.long (((p2.toInt64) &&& (4294967295 : Int64)) - (((p2.toInt64) &&& (4294967295 : Int64)) / (nx - lo)) * (nx - lo))), .second, .val (.int (0 : Int32))] []))
    refine own_go (fun _ k => XS.iconst X39.here hx rfl (hb hby at_313) k) ?_
    show own_G p e below Q (T39.setTop (mkF m 314 #[.val (.int p1), .val (.int p2), .val (.ref a1), .val (.int (Int32.ofNat i)), .val (.long lo), .second, .val (.long nx), .second, .val (.long (nx - (1 : Int64))), .second, .val (.long (((p2.toInt64) &&& (4294967295 : Int64)) - (((p2.toInt64) &&& (4294967295 : Int64)) / (nx - lo)) * (nx - lo))), .second, .val (.int (0 : Int32))] [(.int (1 : Int32))]))
    refine own_go (fun _ k => XS.goto X39.here hx rfl (pc0 := 314) (pc' := 318) rfl (hb hby at_314) (by decide) (by decide) k) ?_
    show own_G p e below Q (T39.setTop (mkF m 318 #[.val (.int p1), .val (.int p2), .val (.ref a1), .val (.int (Int32.ofNat i)), .val (.long lo), .second, .val (.long nx), .second, .val (.long (nx - (1 : Int64))), .second, .val (.long (((p2.toInt64) &&& (4294967295 : Int64)) - (((p2.toInt64) &&& (4294967295 : Int64)) / (nx - lo)) * (nx - lo))), .second, .val (.int (0 : Int32))] [(.int (1 : Int32))]))
    exact own_retN X39 hx hlk (Or.inl rfl) hret (hb hby at_318) rfl (fun U hU hF => hR _ _ _ _ _ ⟨rfl, N33⟩ (by decide) (by decide) hF)
theorem comes_1 {Post : Tables → Env → Array Value → State → Outcome → State → Prop} (hpost : ∀ tb e args s v u, (limb_1_1.after args s (.returned v) u = true ∧ limb_1_2.after args s (.returned v) u = true ∧ True) → FrameEnd s (.returned v) u (Jvm.fieldLocs frame_1_writes args s ++ Jvm.arrayLocs frame_1_arrays args s ++ Jvm.staticLocs frame_1_statics s) 16 128 → Post tb e args s (.returned v) u) :
    ArmFor flags0 classFile x code maxLocals ret World_1 tables_1 room_1 Calls_1 rest_1 Pre_1 Post := by
  intro l hfl _ _ p e ha hc hk s m args below hf hA hF happ hP
  obtain ⟨hcalls, hrest, hpre⟩ := hP
  obtain ⟨-, -, -, hnamed, -, -, -, hat⟩ := (Spec.applies_iff hf).mp happ
  obtain ⟨hg, hn⟩ := and_e (Cond.before_iff.mp (show (Jvm.Cond.and given_1 narrow_1).before args s = true from hpre))
  obtain ⟨hcount, hg0⟩ := and_e hg
  obtain ⟨w0, w1, rfl⟩ : ∃ w0 w1 : Value, args = #[w0, w1] := by
    have hs : args.size = 2 := by simpa [Cond.value, given_1] using hcount
    obtain ⟨L⟩ := args
    match L, hs with
    | [w0, w1], _ => exact ⟨w0, w1, rfl⟩
  have hw := fun d (hd : d ∈ tables_1) => atoms_spec (ws := Jvm.Cond.code x code maxLocals ret :: tables_1) hat d (List.mem_cons_of_mem _ hd)
  obtain ⟨hq0, hg1⟩ := and_e hg0
  obtain ⟨i0, e0⟩ := is_v hq0
  obtain rfl : w0 = (.int i0) := Option.some.inj e0
  obtain ⟨i1, e1⟩ := is_v hg1
  obtain rfl : w1 = (.int i1) := Option.some.inj e1
  obtain ⟨n, o, h1, h2, h3, _, L, rfl, ⟨rfl, N⟩, hq⟩ := rm0 l s _ hw i0 i1 p e ha hc hk s m _ below hf ((Spec.applies_iff_loose hf).mp happ).1 ⟨rfl, State.Warmed39.refl s, rfl⟩ trivial
  refine ⟨n, _, h1, h2, h3, hpost _ _ _ _ _ _ ⟨Cond.after_iff.mpr rfl, Cond.after_iff.mpr (eq_i res_at (Term.int_eval (1)) rfl), trivial⟩ ⟨hq.1, hq.2.1, (hq.2.2.sift fun y hy => Or.inr (N y hy)).mono (by decide) (by decide)⟩⟩
theorem main_1_1 : Claimed_1_1 := comes_1 fun _ _ _ _ _ _ h hF => ⟨h.1, hF⟩
theorem main_1_2 : Claimed_1_2 := comes_1 fun _ _ _ _ _ _ h hF => ⟨h.2.1, hF⟩
end Jvm.Pilot.@@N@@
namespace Jvm.Pilot.@@N@@
open Jvm Jvm.ClassFile Sem Op Lib Jvm.Free Jvm.Stand Jvm.Pilot.@@N@@.Jvm.D
/-! MADE BY PROGRAM (witnessworld.py) out of the Statement's table words and the real class files: 11 classes; the members and pool entries that the words name. The judged class is class 1, her method 1. -/
namespace start1
open Jvm.ClassFile
def u (s : String) : CpInfo := .utf8 (stringToUtf16 s)
/-- a pool by its gaps: so many unusable entries, then the entry; so many at the end -/
def gap : Nat → List CpInfo → List CpInfo
  | 0, r => r
  | n + 1, r => .unusable :: gap n r
def poolList (es : List (Nat × CpInfo)) (last : Nat) : List CpInfo := es.foldr (fun e r => gap e.1 (e.2 :: r)) (gap last [])
def pool (es : List (Nat × CpInfo)) (last : Nat) : Array CpInfo := ⟨poolList es last⟩
def fileOf (pool : Array CpInfo) (this : Nat) (attrs : Array Attribute := #[]) (ms : Array MethodInfo := #[]) (fl : Nat := 33) (sup : Nat := 0) (ifs : Array Nat := #[]) (fds : Array FieldInfo := #[]) : ClassFile where
  minorVersion := 0
  majorVersion := 65
  constantPool := pool
  accessFlags := fl
  thisClass := this
  superClass := sup
  interfaces := ifs
  fields := fds
  methods := ms
  attributes := attrs
def plain (name : String) (sup : Option ClassId) : Class where
  name := name
  kind := .ordinary
  loader := none
  accessFlags := 33
  super := sup
  interfaces := #[]
  cf := none
  fields := #[]
  methods := #[]
  instanceTypes := #[]
  staticTypes := #[]
  resolved := #[]
  callSites := []
  init := .initialized
  statics := none
  mirror := none

def pool0 : Array CpInfo := pool [(5, u "<init>"), (0, u "()V"), (1, .class_ 10), (1, u "java/lang/Object")] 113

def k0m0 : Method := { name := "<init>", desc := "()V", sig := { parameters := [], returnType := none }, accessFlags := 1, code := none }
/-- java/lang/Object -/
def k0 : Class := { plain "java/lang/Object" none with
  accessFlags := 33
  interfaces := #[]
  cf := some (fileOf pool0 8 #[] #[{ accessFlags := 1, nameIndex := 5, descriptorIndex := 6, attributes := #[] }] 33 0 #[] #[])
  fields := #[]
  methods := #[k0m0]
  instanceTypes := #[]
  staticTypes := #[]
  resolved := Array.replicate 124 none
  statics := none }

def pool1 : Array CpInfo := pool [(2, .class_ 4), (1, u "java/lang/Object"), (0, u "<init>"), (0, u "()V"), (0, .long 18446744071562067968), (1, .long 65), (1, .long 91), (1, .long 95), (1, .long 96), (1, .long 97), (1, .long 123), (1, .long 192), (1, .long 215), (1, .long 216), (1, .long 247), (1, .long 248), (1, .long 768), (1, .long 880), (1, .long 894), (1, .long 895), (1, .long 8192), (1, .long 8204), (1, .long 8206), (1, .long 8304), (1, .long 8592), (1, .long 11264), (1, .long 12272), (1, .long 12289), (1, .long 55296), (1, .long 63744), (1, .long 64976), (1, .long 65008), (1, .long 65534), (1, .long 65536), (1, .long 983040), (1, .long 2147483648), (1, .integer 2147483647), (0, .long 4294967295), (1, .methodref 75 76), (0, .class_ 77), (0, .nameAndType 78 79), (0, u "com/example/cardinality/cardinality/XmlNames"), (0, u "isNameStart"), (0, u "(I)Z"), (0, .class_ 81), (0, u "com/example/cardinality/cardinality/XmlNamesIsNameStartPinLaw"), (2, u "law"), (0, u "(II)Z")] 5

def k1m0 : Method := { name := "<init>", desc := "()V", sig := { parameters := [], returnType := none }, accessFlags := 1, code := none }
def k1c1 : Code := { maxStack := 6, maxLocals := 13, code := code, exceptionTable := #[], attributes := #[] }
def k1m1 : Method := { name := "law", desc := "(II)Z", sig := { parameters := [.int, .int], returnType := some .boolean }, accessFlags := 9, code := some k1c1 }
/-- com/example/cardinality/cardinality/XmlNamesIsNameStartPinLaw -/
def k1 : Class := { plain "com/example/cardinality/cardinality/XmlNamesIsNameStartPinLaw" (some 0) with
  accessFlags := 49
  interfaces := #[]
  cf := some (fileOf pool1 80 #[] #[{ accessFlags := 1, nameIndex := 5, descriptorIndex := 6, attributes := #[] }, { accessFlags := 9, nameIndex := 84, descriptorIndex := 85, attributes := #[] }] 49 2 #[] #[])
  fields := #[]
  methods := #[k1m0, k1m1]
  instanceTypes := #[]
  staticTypes := #[]
  resolved := Array.replicate 91 none
  statics := none }

def pool2 : Array CpInfo := pool [(2, .class_ 4), (1, u "java/lang/Object"), (0, u "<init>"), (0, u "()V"), (17, .class_ 26), (1, u "com/example/cardinality/cardinality/XmlNames"), (0, u "isNameStart"), (0, u "(I)Z"), (26, .class_ 57), (1, u "com/example/cardinality/cardinality/XmlNames$PrefixMapping"), (31, .integer 55295), (0, .integer 63744), (0, .integer 64975), (0, .integer 65008), (0, .integer 65533), (0, .integer 65536), (0, .integer 983039)] 18

def k2m0 : Method := { name := "<init>", desc := "()V", sig := { parameters := [], returnType := none }, accessFlags := 2, code := none }
def k2c1 : Code := { maxStack := 2, maxLocals := 1, code := prog_201_method_8_code, exceptionTable := #[], attributes := #[] }
def k2m1 : Method := { name := "isNameStart", desc := "(I)Z", sig := { parameters := [.int], returnType := some .boolean }, accessFlags := 8, code := some k2c1 }
/-- com/example/cardinality/cardinality/XmlNames -/
def k2 : Class := { plain "com/example/cardinality/cardinality/XmlNames" (some 0) with
  accessFlags := 48
  interfaces := #[]
  cf := some (fileOf pool2 24 #[.nestMembers #[55]] #[{ accessFlags := 2, nameIndex := 5, descriptorIndex := 6, attributes := #[] }, { accessFlags := 8, nameIndex := 27, descriptorIndex := 28, attributes := #[] }] 48 2 #[] #[])
  fields := #[]
  methods := #[k2m0, k2m1]
  instanceTypes := #[]
  staticTypes := #[]
  resolved := Array.replicate 114 none
  statics := none }

def pool3 : Array CpInfo := pool [(1, u "java/lang/Cloneable"), (0, .class_ 1), (0, u "java/lang/Object"), (0, .class_ 3)] 3

/-- java/lang/Cloneable -/
def k3 : Class := { plain "java/lang/Cloneable" (some 0) with
  accessFlags := 1537
  interfaces := #[]
  cf := some (fileOf pool3 2 #[] #[] 1537 4 #[] #[])
  fields := #[]
  methods := #[]
  instanceTypes := #[]
  staticTypes := #[]
  resolved := Array.replicate 8 none
  statics := none }

def pool4 : Array CpInfo := pool [(1, u "java/io/Serializable"), (0, .class_ 1), (0, u "java/lang/Object"), (0, .class_ 3)] 3

/-- java/io/Serializable -/
def k4 : Class := { plain "java/io/Serializable" (some 0) with
  accessFlags := 1537
  interfaces := #[]
  cf := some (fileOf pool4 2 #[] #[] 1537 4 #[] #[])
  fields := #[]
  methods := #[]
  instanceTypes := #[]
  staticTypes := #[]
  resolved := Array.replicate 8 none
  statics := none }

/-- the primitive byte -/
def k5 : Class := { plain "byte" none with kind := .primitive 'B', accessFlags := 0x411 }
/-- [B -/
def k6 : Class := { plain "[B" (some 0) with kind := .array 5 .byte, interfaces := #[3, 4], accessFlags := 1041 }

/-- the primitive int -/
def k7 : Class := { plain "int" none with kind := .primitive 'I', accessFlags := 0x411 }
/-- [I -/
def k8 : Class := { plain "[I" (some 0) with kind := .array 7 .int, interfaces := #[3, 4], accessFlags := 1041 }

/-- the primitive long -/
def k9 : Class := { plain "long" none with kind := .primitive 'J', accessFlags := 0x411 }
/-- [J -/
def k10 : Class := { plain "[J" (some 0) with kind := .array 9 .long, interfaces := #[3, 4], accessFlags := 1041 }

def heap : Heap := #[]
def classes : Array Class := #[k0, k1, k2, k3, k4, k5, k6, k7, k8, k9, k10]
def interned : List (Array UInt16 × Addr) := []
def slotsUsed : Nat := 0
def theMethod : MethodId := ⟨1, 1⟩
def args0 : Array Value := #[.int 5, .int 6]
def aboutOver (below : List Frame) : State where
  vm := { classes := classes, interned := interned.toArray }
  heap := heap
  slotsUsed := slotsUsed
  threads := #[{ frames := .invoking theMethod args0 :: below }]
def below0 : List Frame := [.native { method := ⟨0, 0⟩, args := #[] }]
def about1 : State := aboutOver below0
def p0 : Program := .bare "" "" ""
def e0 : Env := launch0.env 0 0 0
theorem w_frames : about1.frames = Frame.invoking theMethod args0 :: below0 := rfl
set_option maxRecDepth 65536 in
theorem w_args : argsFit about1.vm theMethod args0 = true := by decide +kernel
set_option maxRecDepth 65536 in
theorem w_heap : heapFits about1 = true := by decide +kernel
set_option maxRecDepth 65536 in
theorem w_runnable : about1.curStatus? = some .runnable := by decide +kernel
set_option maxRecDepth 65536 in
theorem w_alone : about1.alone = true := by decide +kernel
set_option maxRecDepth 65536 in
theorem w_named : about1.methodNamed? x = some theMethod := by decide +kernel
set_option maxRecDepth 65536 in
theorem w_hears : about1.hears theMethod below0 = true := by decide +kernel
set_option maxRecDepth 65536 in
theorem w_ripe : about1.ripe theMethod args0 below0 = true := by decide +kernel
theorem w_running : about1.status = .running := rfl
set_option maxRecDepth 65536 in
theorem w_room : about1.hasRoom e0.platform room_1 = true :=
  launch0.hasRoom_least _ room_1 (by decide +kernel) (by decide +kernel) (by decide +kernel) (by decide +kernel) (by decide +kernel) (by decide +kernel)
theorem allAtoms_all (ts : List Jvm.Cond) (a : Array Jvm.Value) (st : Jvm.State) : (allAtoms ts).before a st = ts.all (fun c => c.before a st) := by
  induction ts with
  | nil => rfl
  | cons c t ih =>
    show (Jvm.Cond.and c (allAtoms t)).before a st = _
    rw [Jvm.Cond.before_and, ih, List.all_cons]
def words1 : List Jvm.Cond := Jvm.Cond.code x code maxLocals ret :: tables_1
/-- a 'code' word, met by the world's own term for the bytes: nothing is compared byte by byte -/
theorem code_word {y : MethodName} {bytes : ByteArray} {mx : Nat} {rt : Option FieldType} {a : Array Value} {s : State} {m : MethodId} {meth : Method} {c : Code} (h1 : s.methodNamed? y = some m) (h2 : s.vm.method? m = some meth) (h3 : meth.code = some c) (h4 : c.code = bytes)
    (h5 : (c.maxLocals == mx && c.exceptionTable.isEmpty && decide (c.maxStack ≤ mostOperands) && decide (meth.sig.returnType = rt) && !meth.locks && decide (parseMethodDescriptor y.desc = some meth.sig)) = true) : (Jvm.Cond.code y bytes mx rt).before a s = true := by
  simp only [Bool.and_eq_true, beq_iff_eq, Bool.not_eq_true', decide_eq_true_eq] at h5
  obtain ⟨⟨⟨⟨⟨g1, g2⟩, g3⟩, g4⟩, g5⟩, g6⟩ := h5
  simp [Cond.before, Cond.holds, Cond.value, h1, h2, h3, h4, g1, g2, g3, g4, g5, g6]
def isCode : Jvm.Cond → Bool
  | .code _ _ _ _ => true
  | _ => false
theorem all_split {L : List Jvm.Cond} {P : Jvm.Cond → Bool} (h1 : L.all (fun c => isCode c || P c) = true) (h2 : ∀ c ∈ L.filter isCode, P c = true) : L.all P = true := by
  refine List.all_eq_true.mpr fun c hc => ?_
  have h := List.all_eq_true.mp h1 c hc
  rcases Bool.eq_false_or_eq_true (isCode c) with hi | hi
  · exact h2 c (List.mem_filter.mpr ⟨hc, hi⟩)
  · simpa [hi] using h
set_option maxRecDepth 65536 in
theorem w_c0 : (Jvm.Cond.code x code maxLocals ret).before args0 about1 = true := code_word (m := ⟨1, 1⟩) (meth := k1m1) (c := k1c1) (by decide +kernel) rfl rfl rfl (by decide +kernel)
set_option maxRecDepth 65536 in
theorem w_c1 : (Jvm.Cond.code ({ cls := "com/example/cardinality/cardinality/XmlNames", name := "isNameStart", desc := "(I)Z" } : Jvm.MethodName) prog_201_method_8_code (1 : Nat) (Option.some Jvm.ClassFile.FieldType.boolean)).before args0 about1 = true := code_word (m := ⟨2, 1⟩) (meth := k2m1) (c := k2c1) (by decide +kernel) rfl rfl rfl (by decide +kernel)
def codes1 : List Jvm.Cond := [Jvm.Cond.code x code maxLocals ret, Jvm.Cond.code ({ cls := "com/example/cardinality/cardinality/XmlNames", name := "isNameStart", desc := "(I)Z" } : Jvm.MethodName) prog_201_method_8_code (1 : Nat) (Option.some Jvm.ClassFile.FieldType.boolean)]
set_option maxRecDepth 65536 in
theorem codes_eq : words1.filter isCode = codes1 := rfl
theorem w_codes : ∀ c ∈ words1.filter isCode, c.before args0 about1 = true := by
  rw [codes_eq]
  intro c hc
  simp only [codes1, List.mem_cons, List.not_mem_nil, or_false] at hc
  rcases hc with rfl | rfl
  · exact w_c0
  · exact w_c1
set_option maxRecDepth 65536 in
theorem w_t1 : (words1.take 24).all (fun c => isCode c || c.before args0 about1) = true := by decide +kernel
set_option maxRecDepth 65536 in
theorem w_t2 : (words1.drop 24).all (fun c => isCode c || c.before args0 about1) = true := by decide +kernel
theorem w_tables : (allAtoms (Jvm.Cond.code x code maxLocals ret :: tables_1)).before args0 about1 = true := by
  rw [allAtoms_all]
  show words1.all (fun c => c.before args0 about1) = true
  refine all_split ?_ w_codes
  rw [← List.take_append_drop 24 words1, List.all_append, w_t1, w_t2]
  rfl
set_option maxRecDepth 65536 in
theorem w_case : (Jvm.Cond.and given_1 narrow_1).before args0 about1 = true := by decide +kernel
theorem w_applies : (headSpec (Jvm.Cond.code x code maxLocals ret :: tables_1) room_1).applies x e0.platform about1 = true :=
  (Spec.applies_iff w_frames).mpr ⟨w_running, w_runnable, w_alone, w_named, w_hears, w_ripe, w_room, w_tables⟩
theorem atStart : AtStart classFile x code maxLocals ret World_1 tables_1 room_1 Calls_1 rest_1 Pre_1 launch0 p0 e0 about1 theMethod args0 below0 :=
  ⟨lists_1, trivial, launch0.admits_env _ _ _, launch0.least_env, fairChoices_fair.cas, fairChoices_fair.clock, w_frames, w_args, w_heap, w_applies, trivial, trivial, w_case⟩
end start1
theorem witness_1 : WitnessClaimed_1 := ⟨start1.p0, start1.e0, start1.about1, start1.theMethod, start1.args0, start1.below0, start1.atStart⟩
end Jvm.Pilot.@@N@@
