import JvmDerived
import JvmDerived.Pilot.@@N@@Statement
import JvmDerived.Pilot.@@N@@Code
set_option linter.unusedVariables false
set_option linter.unusedSimpArgs false
namespace Jvm.Pilot.@@N@@
open Jvm Jvm.ClassFile Sem Op Lib Jvm.Free Jvm.Stand Jvm.LawKit Jvm.RoadKit Bundle Jvm.Pilot.@@N@@.Jvm.D
section Own
variable {p : Program} {l : Launch} {e : Env} {R : Room} {s : State} {m : MethodId} {args : Array Value} {below : List Frame} {meth : Method} {c : Code} {T : State} {locs : List Loc} {cells slots : Nat} {Z : State} {a0 : Array Value} {h : Heap} {Q : Outcome → State → Prop}
/-- the run from A comes to an end that Q takes -/
def own_G (p : Program) (e : Env) (below : List Frame) (Q : Outcome → State → Prop) (A : State) : Prop :=
  ∃ s₂ o, Steps p.tables e below A s₂ ∧ s₂.status = .running ∧ Ended s₂ below o ∧ Q o s₂
theorem own_go {A B : State} (k : ∀ t, Steps p.tables e below B t → Steps p.tables e below A t) (hB : own_G p e below Q B) : own_G p e below Q A := by
  obtain ⟨s₂, o, h1, h2⟩ := hB
  exact ⟨s₂, o, k _ h1, h2⟩
theorem own_ret (X : Stand p l e R s m args below meth c T locs cells slots) (hlk : meth.locks = false) {v : Option Value} (hv : meth.sig.returnType = none → v = none) {A : State}
    (hst : ∀ fs, (∀ (f : JFrame) (acts : List Action), f.method = m → f.locked = none → f.entered = [] → (doReturn e (T.setTop f) acts v).1 = T.setFrames fs) → Steps p.tables e below A (T.setFrames fs))
    (hQ : ∀ U : State, U.heap = T.heap → FrameEnd s (.returned v) U locs cells slots → Q (.returned v) U) : own_G p e below Q A := by
  obtain ⟨fs, hr, hrun, hended, hW, hsame⟩ := X.leave (v := v) hv hlk
  exact ⟨_, _, hst fs hr, hrun, hended, hQ _ rfl ⟨⟨_, rfl⟩, hW, hsame⟩⟩
/-- ireturn of a boolean, byte, char or short -/
theorem own_retN (X : Stand p l e R s m args below meth c T locs cells slots) (hx : p.tables.exec = Jvm.exec) (hlk : meth.locks = false) {t : FieldType} (ht : t = .boolean ∨ t = .byte ∨ t = .char ∨ t = .short) {pc : Nat} {Ls : Array Slot} {z : Int32} {rest : List Value}
    (hret : meth.sig.returnType = some t) (hd : decode c.code pc = .ok (.ireturn, 1)) {w : Int32} (hw : nar t z = w)
    (hQ : ∀ U : State, U.heap = T.heap → FrameEnd s (.returned (some (.int w))) U locs cells slots → Q (.returned (some (.int w))) U) : own_G p e below Q (T.setTop (mkF m pc Ls (.int z :: rest))) := by
  subst hw
  exact own_ret X hlk (fun h => by rw [hret] at h; cases h) (fun fs hr => retN X hx hret ht hd hr) hQ
/-- ireturn of an int -/
theorem own_retI (X : Stand p l e R s m args below meth c T locs cells slots) (hx : p.tables.exec = Jvm.exec) (hlk : meth.locks = false) {pc : Nat} {Ls : Array Slot} {z : Int32} {rest : List Value}
    (hret : meth.sig.returnType = some .int) (hd : decode c.code pc = .ok (.ireturn, 1))
    (hQ : ∀ U : State, U.heap = T.heap → FrameEnd s (.returned (some (.int z))) U locs cells slots → Q (.returned (some (.int z))) U) : own_G p e below Q (T.setTop (mkF m pc Ls (.int z :: rest))) :=
  own_ret X hlk (fun h => by rw [hret] at h; cases h) (fun fs hr => retOut X hx hret rfl (Or.inl ⟨rfl, Or.inl rfl, _, rfl⟩) hd hr) hQ
/-- areturn -/
theorem own_retR (X : Stand p l e R s m args below meth c T locs cells slots) (hx : p.tables.exec = Jvm.exec) (hlk : meth.locks = false) {t : FieldType} (ht : t.isReference = true) {pc : Nat} {Ls : Array Slot} {w : Value} (hr : w.isRef = true) (hn : narrow t w = w) {rest : List Value}
    (hret : meth.sig.returnType = some t) (hd : decode c.code pc = .ok (.areturn, 1))
    (hQ : ∀ U : State, U.heap = T.heap → FrameEnd s (.returned (some w)) U locs cells slots → Q (.returned (some w)) U) : own_G p e below Q (T.setTop (mkF m pc Ls (w :: rest))) :=
  own_ret X hlk (fun h => by rw [hret] at h; cases h) (fun fs hr' => retOut X hx hret hn (Or.inr (Or.inr (Or.inr (Or.inr ⟨rfl, ht, hr⟩)))) hd hr') hQ
/-- return of nothing -/
theorem own_retV (X : Stand p l e R s m args below meth c T locs cells slots) (hx : p.tables.exec = Jvm.exec) (hlk : meth.locks = false) {pc : Nat} {Ls : Array Slot}
    (hret : meth.sig.returnType = none) (hd : decode c.code pc = .ok (.return_, 1))
    (hQ : ∀ U : State, U.heap = T.heap → FrameEnd s (.returned none) U locs cells slots → Q (.returned none) U) : own_G p e below Q (T.setTop (mkF m pc Ls [])) :=
  own_ret X hlk (fun _ => rfl) (fun fs hr => X.returnOut hx hret hd hr) hQ
/-- a body's contract: called with as' over the heap h0 it returns, and QC says what -/
def own_C (l : Launch) (Z : State) (y : MethodName) (bytes : ByteArray) (maxL : Nat) (ret : Option FieldType) (ws : List Jvm.Cond) (rm : Room) (as' : Array Value) (h0 : Heap) (QC : Option Value → Heap → List Loc → Prop) : Prop :=
  MetFree l y (head1 (Jvm.Cond.code y bytes maxL ret :: ws) rm) (fun a U => a = as' ∧ Z.Warmed39 U.vm ∧ U.heap = h0) (fun _ _ _ _ _ => True) (fun _ U o U' => ∃ v L, o = .returned v ∧ QC v U'.heap L ∧ FrameEnd U o U' L rm.cells rm.slots)
theorem own_body {l : Launch} {Z : State} {y : MethodName} {bytes : ByteArray} {maxL : Nat} {ret : Option FieldType} {ws : List Jvm.Cond} {rm : Room} {as' : Array Value} {h0 : Heap} {QC : Option Value → Heap → List Loc → Prop}
    (hpn : plainName y.cls = true) {Ls : Array Slot} (hef : ∀ m, entryFrame m as' maxL = mkF m 0 Ls [])
    (H : ∀ (p : Program) (e : Env) (s : State) (m : MethodId) (below : List Frame) (meth : Method) (c : Code) (T : State) (Q : Outcome → State → Prop), p.tables.exec = Jvm.exec → c.code = bytes → c.maxLocals = maxL → s.vm.findClass y.cls = some m.cls → meth.name = y.name → meth.sig.returnType = ret → meth.locks = false → Z.Warmed39 s.vm → T.heap = h0 →
      Stand p l e rm s m as' below meth c T [] 0 0 →
      (∀ (v : Option Value) (L : List Loc) (k n : Nat) (U : State), QC v U.heap L → k ≤ rm.cells → n ≤ rm.slots → FrameEnd s (.returned v) U L k n → Q (.returned v) U) → own_G p e below Q (T.setTop (mkF m 0 Ls []))) :
    own_C l Z y bytes maxL ret ws rm as' h0 QC := by
  refine MetFree.of_bodySF (plainFor_of_name hpn) hisR ?_
  intro p e s m args below meth c s₁ Bd hml0 hP hK
  obtain ⟨ha, hZ, hh⟩ := hP
  subst ha
  have X0 : Stand p l e rm s m args below meth c s₁ [] 0 0 := Stand.of_body Bd
  have e0 : s₁.heap = h0 := by rw [← hh, Bd.state]; rfl
  obtain ⟨s₂, o, h1, h2, h3, h4⟩ := H p e s m below meth c s₁ (fun o U' => ∃ v L, o = .returned v ∧ QC v U'.heap L ∧ FrameEnd s o U' L rm.cells rm.slots) Bd.exec Bd.bytes hml0 (findClass_of_methodNamed Bd.named) (name_of_methodNamed Bd.named Bd.method).1 Bd.returns Bd.notSynchronized hZ e0 X0
    (fun v L k n U hq hk hn hF => ⟨v, L, rfl, hq, hF.1, hF.2.1, hF.2.2.mono hk hn⟩)
  exact ⟨s₂, o, castTop (hef m) h1, h2, h3, h4⟩
theorem own_callS (X : Stand p l e R s m args below meth c T locs cells slots) (hx : p.tables.exec = Jvm.exec) (hZ : Z.Warmed39 s.vm) {own : String} {index : Nat} {y : MethodName} {bytes : ByteArray} {maxL : Nat} {ret : Option FieldType} (hown : s.vm.findClass own = some m.cls)
    (w1 : (Jvm.Cond.methodLink own index y).before a0 Z = true) (w2 : (Jvm.Cond.static y).before a0 Z = true) (w3 : (Jvm.Cond.initialized y.cls).before a0 Z = true) (w4 : (Jvm.Cond.code y bytes maxL ret).before a0 Z = true)
    (hy : y.cls ≠ "java/lang/invoke/MethodHandle" ∧ y.cls ≠ "java/lang/invoke/VarHandle")
    {rm : Room} {argsL rest : List Value} {QC : Option Value → Heap → List Loc → Prop} (eT : T.heap = h) (hC : own_C l Z y bytes maxL ret [] rm argsL.toArray h QC)
    {pc : Nat} {Ls : Array Slot} {st : List Value} (hst : st = argsL.reverse ++ rest) (hml : Ls.size = c.maxLocals) {ps : List FieldType} {r : Option FieldType} (hpd : parseMethodDescriptor y.desc = some ⟨ps, r⟩) (hlen : argsL.length = ps.length)
    (hd : decode c.code pc = .ok (.invokestatic index, 3)) {W : Nat} (hW : (rest.map fun v => v.category).sum ≤ W) (hf : rm.frames + 1 ≤ R.frames) (hl : W + (maxL + 11) + rm.locals ≤ R.locals) (hcc : cells + rm.cells ≤ R.cells) (hss : slots + rm.slots ≤ R.slots)
    (K : ∀ (v : Option Value) (T' : State) (L : List Loc), Stand p l e R s m args below meth c T' (locs ++ L) (cells + rm.cells) (slots + rm.slots) → QC v T'.heap L → own_G p e below Q (T'.setTop (mkF m (pc + 3) Ls (v.toList ++ rest)))) :
    own_G p e below Q (T.setTop (mkF m pc Ls st)) := by
  subst hst
  obtain ⟨v, vm1, ⟨T', L', k', n'⟩, -, X', ⟨L, hQ, l1, y1, z1⟩, st'⟩ := Jvm.LawKit.callS X hx (y := y) hown (mvT hZ w1) (mvT hZ w2) (mvT hZ w3) (mvT hZ w4) hy (backOf (W := W) hC hZ w4 w3 hf hl) (g := mkF m pc Ls (argsL.reverse ++ rest)) rfl hml (argsL := argsL) (rest := rest) (lenOf hpd hlen) rfl
    (by show 2 * 0 + _ ≤ _; rw [Nat.mul_zero, Nat.zero_add]; exact hW) hd (fun vm hv => ⟨rfl, eT, hcc, hss⟩)
  dsimp only [Pt.U, Pt.locs, Pt.cells, Pt.slots] at X' l1 y1 z1 st' hQ
  subst l1 y1 z1
  exact own_go st' (K v T' L X' hQ)
theorem own_callV (X : Stand p l e R s m args below meth c T locs cells slots) (hx : p.tables.exec = Jvm.exec) (hZ : Z.Warmed39 s.vm) {own C : String} {index : Nat} {y : MethodName} {bytes : ByteArray} {maxL : Nat} {ret : Option FieldType} (hown : s.vm.findClass own = some m.cls)
    (w1 : (Jvm.Cond.methodLink own index y).before a0 Z = true) (w2 : (Jvm.Cond.declares y).before a0 Z = true) (w3 : (Jvm.Cond.selects C y y).before a0 Z = true) (w4 : (Jvm.Cond.instanceMethod y).before a0 Z = true) (w5 : (Jvm.Cond.code y bytes maxL ret).before a0 Z = true) (w6 : (Jvm.Cond.initialized y.cls).before a0 Z = true)
    (hy : y.cls ≠ "java/lang/invoke/MethodHandle" ∧ y.cls ≠ "java/lang/invoke/VarHandle")
    {rm : Room} {argsL rest : List Value} {QC : Option Value → Heap → List Loc → Prop} (eT : T.heap = h) {b : Addr} (E : Exa Z h b C) (hC : own_C l Z y bytes maxL ret [] rm (.ref b :: argsL).toArray h QC)
    {pc : Nat} {Ls : Array Slot} {st : List Value} (hst : st = argsL.reverse ++ .ref b :: rest) (hml : Ls.size = c.maxLocals) {ps : List FieldType} {r : Option FieldType} (hpd : parseMethodDescriptor y.desc = some ⟨ps, r⟩) (hlen : argsL.length = ps.length)
    (hd : decode c.code pc = .ok (.invokevirtual index, 3)) {W : Nat} (hW : (rest.map fun v => v.category).sum ≤ W) (hf : rm.frames + 1 ≤ R.frames) (hl : W + (maxL + 11) + rm.locals ≤ R.locals) (hcc : cells + rm.cells ≤ R.cells) (hss : slots + rm.slots ≤ R.slots)
    (K : ∀ (v : Option Value) (T' : State) (L : List Loc), Stand p l e R s m args below meth c T' (locs ++ L) (cells + rm.cells) (slots + rm.slots) → QC v T'.heap L → own_G p e below Q (T'.setTop (mkF m (pc + 3) Ls (v.toList ++ rest)))) :
    own_G p e below Q (T.setTop (mkF m pc Ls st)) := by
  subst hst
  obtain ⟨cq, kq, qa, qb, qc⟩ := isOf hZ eT E
  obtain ⟨v, vm1, ⟨T', L', k', n'⟩, -, X', ⟨L, hQ, l1, y1, z1⟩, st'⟩ := X.virtualBack hx (y := y) (z := y) hown (mvT hZ w1) (mvT hZ w2) (notFace_of_selects (args := #[]) (mvT hZ w3)) (mvT hZ w3) (mvT hZ w4) hy (backOf (W := W) hC hZ w5 w6 hf hl) qa qc (g := mkF m pc Ls (argsL.reverse ++ .ref b :: rest)) rfl hml (Steps.refl _) (argsL := argsL) (rest := rest) (lenOf hpd hlen) rfl
    (by show 2 * 0 + _ ≤ _; rw [Nat.mul_zero, Nat.zero_add]; exact hW) hd (fun vm hv => ⟨rfl, eT, hcc, hss⟩)
  dsimp only [Pt.U, Pt.locs, Pt.cells, Pt.slots] at X' l1 y1 z1 st' hQ
  subst l1 y1 z1
  exact own_go (fun t k => st'.trans k) (K v T' L X' hQ)
theorem own_getS (X : Stand p l e R s m args below meth c T locs cells slots) (hx : p.tables.exec = Jvm.exec) (hZ : Z.Warmed39 s.vm) {own O n d : String} {index : Nat} (hown : s.vm.findClass own = some m.cls) (w : (Jvm.Cond.fieldLink own index O n d).before a0 Z = true) (eT : T.heap = h) {v : Value} (F : Sta Z h O n d v)
    {pc : Nat} {Ls : Array Slot} {st : List Value} (hd : decode c.code pc = .ok (.getstatic index, 3))
    (K : ∀ T' : State, Stand p l e R s m args below meth c T' locs cells slots → T'.heap = h → own_G p e below Q (T'.setTop (mkF m (pc + 3) Ls (v :: st)))) : own_G p e below Q (T.setTop (mkF m pc Ls st)) := by
  obtain ⟨T', X', e', st'⟩ := getS2 X hx hZ hown (host := "") (Or.inl w) Via.refl eT F (g := mkF m pc Ls st) rfl hd
  exact own_go st' (K T' X' e')
theorem own_getF (X : Stand p l e R s m args below meth c T locs cells slots) (hx : p.tables.exec = Jvm.exec) (hZ : Z.Warmed39 s.vm) {own O n d : String} {index : Nat} (hown : s.vm.findClass own = some m.cls) (w : (Jvm.Cond.fieldLink own index O n d).before a0 Z = true) (eT : T.heap = h) {a : Addr} {v : Value} (F : Fld Z h a O n d v)
    {pc : Nat} {Ls : Array Slot} {st : List Value} (hd : decode c.code pc = .ok (.getfield index, 3))
    (K : ∀ T' : State, Stand p l e R s m args below meth c T' locs cells slots → T'.heap = h → own_G p e below Q (T'.setTop (mkF m (pc + 3) Ls (v :: st)))) : own_G p e below Q (T.setTop (mkF m pc Ls (.ref a :: st))) := by
  obtain ⟨T', X', e', st'⟩ := getF X hx hZ hown (host := "") (Or.inl w) Via.refl eT F (g := mkF m pc Ls (.ref a :: st)) rfl rfl hd
  exact own_go st' (K T' X' e')
/-- a body that changes nothing returns v -/
def own_P (v : Value) (h0 : Heap) (v' : Option Value) (h : Heap) (L : List Loc) : Prop := v' = some v ∧ h = h0 ∧ L = []
/-- a static call of a body that changes nothing -/
theorem own_callSP (X : Stand p l e R s m args below meth c T locs cells slots) (hx : p.tables.exec = Jvm.exec) (hZ : Z.Warmed39 s.vm) {own : String} {index : Nat} {y : MethodName} {bytes : ByteArray} {maxL : Nat} {ret : Option FieldType} (hown : s.vm.findClass own = some m.cls)
    (w1 : (Jvm.Cond.methodLink own index y).before a0 Z = true) (w2 : (Jvm.Cond.static y).before a0 Z = true) (w3 : (Jvm.Cond.initialized y.cls).before a0 Z = true) (w4 : (Jvm.Cond.code y bytes maxL ret).before a0 Z = true)
    (hy : y.cls ≠ "java/lang/invoke/MethodHandle" ∧ y.cls ≠ "java/lang/invoke/VarHandle")
    {fr lo : Nat} {argsL rest : List Value} {v : Value} (eT : T.heap = h) (hC : own_C l Z y bytes maxL ret [] ({ frames := fr, cells := 0, slots := 0, locals := lo } : Room) argsL.toArray h (own_P v h))
    {pc : Nat} {Ls : Array Slot} {st : List Value} (hst : st = argsL.reverse ++ rest) (hml : Ls.size = c.maxLocals) {ps : List FieldType} {r : Option FieldType} (hpd : parseMethodDescriptor y.desc = some ⟨ps, r⟩) (hlen : argsL.length = ps.length)
    (hd : decode c.code pc = .ok (.invokestatic index, 3)) {W : Nat} (hW : (rest.map fun v => v.category).sum ≤ W) (hf : fr + 1 ≤ R.frames) (hl : W + (maxL + 11) + lo ≤ R.locals) (hcc : cells ≤ R.cells) (hss : slots ≤ R.slots)
    (K : ∀ T' : State, Stand p l e R s m args below meth c T' locs cells slots → T'.heap = h → own_G p e below Q (T'.setTop (mkF m (pc + 3) Ls (v :: rest)))) :
    own_G p e below Q (T.setTop (mkF m pc Ls st)) :=
  own_callS X hx hZ hown w1 w2 w3 w4 hy eT hC hst hml hpd hlen hd hW hf hl hcc hss fun v' T' L X' hq => by
    obtain ⟨rfl, e', rfl⟩ := hq
    rw [List.append_nil] at X'
    exact K T' X' e'
/-- a virtual call of a body that changes nothing -/
theorem own_callVP (X : Stand p l e R s m args below meth c T locs cells slots) (hx : p.tables.exec = Jvm.exec) (hZ : Z.Warmed39 s.vm) {own C : String} {index : Nat} {y : MethodName} {bytes : ByteArray} {maxL : Nat} {ret : Option FieldType} (hown : s.vm.findClass own = some m.cls)
    (w1 : (Jvm.Cond.methodLink own index y).before a0 Z = true) (w2 : (Jvm.Cond.declares y).before a0 Z = true) (w3 : (Jvm.Cond.selects C y y).before a0 Z = true) (w4 : (Jvm.Cond.instanceMethod y).before a0 Z = true) (w5 : (Jvm.Cond.code y bytes maxL ret).before a0 Z = true) (w6 : (Jvm.Cond.initialized y.cls).before a0 Z = true)
    (hy : y.cls ≠ "java/lang/invoke/MethodHandle" ∧ y.cls ≠ "java/lang/invoke/VarHandle")
    {fr lo : Nat} {argsL rest : List Value} {v : Value} (eT : T.heap = h) {b : Addr} (E : Exa Z h b C) (hC : own_C l Z y bytes maxL ret [] ({ frames := fr, cells := 0, slots := 0, locals := lo } : Room) (.ref b :: argsL).toArray h (own_P v h))
    {pc : Nat} {Ls : Array Slot} {st : List Value} (hst : st = argsL.reverse ++ .ref b :: rest) (hml : Ls.size = c.maxLocals) {ps : List FieldType} {r : Option FieldType} (hpd : parseMethodDescriptor y.desc = some ⟨ps, r⟩) (hlen : argsL.length = ps.length)
    (hd : decode c.code pc = .ok (.invokevirtual index, 3)) {W : Nat} (hW : (rest.map fun v => v.category).sum ≤ W) (hf : fr + 1 ≤ R.frames) (hl : W + (maxL + 11) + lo ≤ R.locals) (hcc : cells ≤ R.cells) (hss : slots ≤ R.slots)
    (K : ∀ T' : State, Stand p l e R s m args below meth c T' locs cells slots → T'.heap = h → own_G p e below Q (T'.setTop (mkF m (pc + 3) Ls (v :: rest)))) :
    own_G p e below Q (T.setTop (mkF m pc Ls st)) :=
  own_callV X hx hZ hown w1 w2 w3 w4 w5 w6 hy eT E hC hst hml hpd hlen hd hW hf hl hcc hss fun v' T' L X' hq => by
    obtain ⟨rfl, e', rfl⟩ := hq
    rw [List.append_nil] at X'
    exact K T' X' e'
/-- a static of exactly the class C, out of a case's words -/
theorem own_sta {t : Term} {C n d : String} (ht : t = .static C n d) {K : String} (hq : (Jvm.Cond.exactly t K).value a0 Z none Z [] = some true) (wi : (Jvm.Cond.initialized C).before a0 Z = true) (wl : (Jvm.Cond.laysStatic C n d).before a0 Z = true) :
    ∃ a : Addr, t.eval a0 Z none [] Z = some (.ref a) ∧ Sta Z Z.heap C n d (.ref a) ∧ Exa Z Z.heap a K := by
  subst ht
  obtain ⟨a, ev⟩ := exa_v hq
  exact ⟨a, ev, Sta.start ev (Or.inr ⟨wi, wl⟩), Exa.start ev hq⟩
theorem own_fld {t : Term} {a : Addr} {C n d : String} {k : Int32} (ev : t.eval a0 Z none [] Z = some (.ref a)) (hq : (Jvm.Cond.eq (.field t C n d) (.int k)).value a0 Z none Z [] = some true) : Fld Z Z.heap a C n d (.int k) := by
  obtain ⟨x, y, h1, h2, -, -⟩ := cmp_v (Or.inl hq)
  have h2' : y = .int k := (Option.some.inj ((Term.int_eval k).symm.trans h2)).symm
  subst h2'
  have hxy : x = .int k := by
    cases x <;> simp [Jvm.Cond.value, h1, h2] at hq ⊢
    exact hq
  subst hxy
  rw [fld_at ev] at h1
  exact Fld.start h1
theorem own_mod (k : Int32) (n : Nat) (hn : 0 < n) (hn2 : n < 2147483648) (y : Int32) (hy : y.toInt = (n : Int)) : ∃ i : Nat, i < n ∧ (k &&& (2147483647 : Int32)) % y = Int32.ofNat i := by
  have hm := c_mask k (2147483647 : Int32) 31 (by decide) (by decide)
  have h0 : 0 ≤ (k &&& (2147483647 : Int32)).toInt := by rw [hm]; omega
  have hr := (c_irem (k &&& (2147483647 : Int32)) y n hy).1 h0
  have h1 : 0 ≤ ((k &&& (2147483647 : Int32)) % y).toInt ∧ ((k &&& (2147483647 : Int32)) % y).toInt < n := by rw [hr]; exact ⟨Int.emod_nonneg _ (by omega), Int.emod_lt_of_pos _ (by omega)⟩
  generalize (k &&& (2147483647 : Int32)) % y = z at h1
  refine ⟨z.toInt.toNat, by omega, ?_⟩
  apply Int32.toInt_inj.mp
  rw [Int32.toInt_ofNat_small (by omega)]
  omega
end Own
section OwnA
variable {p : Program} {l : Launch} {e : Env} {R : Room} {s : State} {m : MethodId} {args : Array Value} {below : List Frame} {meth : Method} {c : Code} {T : State} {locs : List Loc} {cells slots : Nat} {Z : State} {a0 : Array Value} {h h' : Heap} {Q : Outcome → State → Prop} {a b : Addr} {k : ClassId} {ty : FieldType} {n i n0 : Nat} {f : Nat → Value} {j : Int32} {pc : Nat} {Ls : Array Slot} {rest : List Value}
/-- the array at a (of the class k, of n places): its first i places hold f 0 .. f (i - 1) -/
def own_F (Z : State) (h : Heap) (a : Addr) (k : ClassId) (ty : FieldType) (n : Nat) (f : Nat → Value) (i : Nat) : Prop :=
  ∃ cl : Cell, Arr Z h a cl ty ∧ cl.cls = k ∧ cl.slots.size = n ∧ ∀ j, j < i → cl.slots[j]? = some (f j)
theorem own_F_ext (E : Ext h h') (F : own_F Z h a k ty n f i) : own_F Z h' a k ty n f i := by
  obtain ⟨cl, A, r⟩ := F
  exact ⟨cl, A.ext E, r⟩
theorem own_F_other {sl : Nat} {v : Value} (W : Wr h h' b sl v) (q : a ≠ b) (F : own_F Z h a k ty n f i) : own_F Z h' a k ty n f i := by
  obtain ⟨cl, A, r⟩ := F
  exact ⟨cl, A.other W q, r⟩
theorem own_F_lt (F : own_F Z h a k ty n f i) : a < h.size := by
  obtain ⟨cl, A, r⟩ := F
  exact A.lt
theorem own_F_set (F : own_F Z h a k ty n f i) (hi : i < n) (W : Wr h h' a i (f i)) : own_F Z h' a k ty n f (i + 1) := by
  obtain ⟨cl, A, q1, q2, q3⟩ := F
  refine ⟨cl.setSlot i (f i), A.same W, q1, by rw [sz_set]; exact q2, fun j hj => ?_⟩
  show (cl.slots.setIfInBounds i (f i))[j]? = _
  rw [Array.getElem?_setIfInBounds]
  by_cases q : i = j
  · subst q; rw [if_pos rfl, if_pos (by omega)]
  · rw [if_neg q]; exact q3 j (by omega)
theorem own_nat (hi : i < 2147483648) : (Int32.ofNat i).toNatClampNeg = i := by
  show (Int32.ofNat i).toInt.toNat = i
  rw [Int32.toInt_ofNat_small (by omega)]
  omega
theorem own_nn (hi : i < 2147483648) : ¬ Int32.ofNat i < 0 := by
  rw [Int32.lt_iff_toInt_lt, Int32.toInt_ofNat_small (by omega)]
  show ¬ (i : Int) < 0
  omega
theorem own_inb {cl : Cell} (q2 : cl.slots.size = n) (hi : i < n) (hn : n < 2147483648) : ¬ (Int32.ofNat i < 0 ∨ cl.slots.size ≤ (Int32.ofNat i).toNatClampNeg) := by
  rw [own_nat (by omega), q2]
  intro q
  rcases q with q | q
  · exact own_nn (by omega) q
  · omega
theorem own_stJ (X : Stand p l e R s m args below meth c T locs cells slots) (hx : p.tables.exec = Jvm.exec) (hZ : Z.Warmed39 s.vm) (eT : T.heap = h) (N : Fr n0 locs) (O : Old Z n0 h) (ha : n0 ≤ a) (F : own_F Z h a k .long n f i) (hi : i < n) (hn : n < 2147483648) {x : Int64} (hf : f i = .long x) (hj : j = Int32.ofNat i) (hd : decode c.code pc = .ok (.lastore, 1))
    (K : ∀ (T' : State) (h' : Heap) (locs' : List Loc), Stand p l e R s m args below meth c T' locs' cells slots → T'.heap = h' → Fr n0 locs' → Old Z n0 h' → Wr h h' a i (f i) → own_F Z h' a k .long n f (i + 1) → own_G p e below Q (T'.setTop (mkF m (pc + 1) Ls rest))) :
    own_G p e below Q (T.setTop (mkF m pc Ls (.long x :: .int j :: .ref a :: rest))) := by
  subst hj
  obtain ⟨cl, A, q1, q2, q3⟩ := id F
  obtain ⟨T', h', X', e', W, st⟩ := stJ X hx hZ eT A (own_inb q2 hi hn) (g := mkF m pc Ls (.long x :: .int (Int32.ofNat i) :: .ref a :: rest)) rfl rfl hd
  rw [own_nat (by omega)] at W
  rw [← hf] at W
  exact own_go st (K T' h' _ X' e' (Fr.snoc X' N ha) (O.wr W ha) W (own_F_set F hi W))
theorem own_stI (X : Stand p l e R s m args below meth c T locs cells slots) (hx : p.tables.exec = Jvm.exec) (hZ : Z.Warmed39 s.vm) (eT : T.heap = h) (N : Fr n0 locs) (O : Old Z n0 h) (ha : n0 ≤ a) (F : own_F Z h a k .int n f i) (hi : i < n) (hn : n < 2147483648) {x : Int32} (hf : f i = .int x) (hj : j = Int32.ofNat i) (hd : decode c.code pc = .ok (.iastore, 1))
    (K : ∀ (T' : State) (h' : Heap) (locs' : List Loc), Stand p l e R s m args below meth c T' locs' cells slots → T'.heap = h' → Fr n0 locs' → Old Z n0 h' → Wr h h' a i (f i) → own_F Z h' a k .int n f (i + 1) → own_G p e below Q (T'.setTop (mkF m (pc + 1) Ls rest))) :
    own_G p e below Q (T.setTop (mkF m pc Ls (.int x :: .int j :: .ref a :: rest))) := by
  subst hj
  obtain ⟨cl, A, q1, q2, q3⟩ := id F
  obtain ⟨T', h', X', e', W, st⟩ := stI X hx hZ eT A (own_inb q2 hi hn) (g := mkF m pc Ls (.int x :: .int (Int32.ofNat i) :: .ref a :: rest)) rfl rfl hd
  rw [own_nat (by omega)] at W
  rw [← hf] at W
  exact own_go st (K T' h' _ X' e' (Fr.snoc X' N ha) (O.wr W ha) W (own_F_set F hi W))
theorem own_stZ (X : Stand p l e R s m args below meth c T locs cells slots) (hx : p.tables.exec = Jvm.exec) (hZ : Z.Warmed39 s.vm) (eT : T.heap = h) (N : Fr n0 locs) (O : Old Z n0 h) (ha : n0 ≤ a) (F : own_F Z h a k .boolean n f i) (hi : i < n) (hn : n < 2147483648) {x : Int32} (hf : f i = .int (nar .boolean x)) (hj : j = Int32.ofNat i) (hd : decode c.code pc = .ok (.bastore, 1))
    (K : ∀ (T' : State) (h' : Heap) (locs' : List Loc), Stand p l e R s m args below meth c T' locs' cells slots → T'.heap = h' → Fr n0 locs' → Old Z n0 h' → Wr h h' a i (f i) → own_F Z h' a k .boolean n f (i + 1) → own_G p e below Q (T'.setTop (mkF m (pc + 1) Ls rest))) :
    own_G p e below Q (T.setTop (mkF m pc Ls (.int x :: .int j :: .ref a :: rest))) := by
  subst hj
  obtain ⟨cl, A, q1, q2, q3⟩ := id F
  obtain ⟨T', h', X', e', W, st⟩ := stZ X hx hZ eT A (own_inb q2 hi hn) (g := mkF m pc Ls (.int x :: .int (Int32.ofNat i) :: .ref a :: rest)) rfl rfl hd
  rw [own_nat (by omega)] at W
  rw [← hf] at W
  exact own_go st (K T' h' _ X' e' (Fr.snoc X' N ha) (O.wr W ha) W (own_F_set F hi W))
theorem own_stB (X : Stand p l e R s m args below meth c T locs cells slots) (hx : p.tables.exec = Jvm.exec) (hZ : Z.Warmed39 s.vm) (eT : T.heap = h) (N : Fr n0 locs) (O : Old Z n0 h) (ha : n0 ≤ a) (F : own_F Z h a k .byte n f i) (hi : i < n) (hn : n < 2147483648) {x : Int32} (hf : f i = .int (nar .byte x)) (hj : j = Int32.ofNat i) (hd : decode c.code pc = .ok (.bastore, 1))
    (K : ∀ (T' : State) (h' : Heap) (locs' : List Loc), Stand p l e R s m args below meth c T' locs' cells slots → T'.heap = h' → Fr n0 locs' → Old Z n0 h' → Wr h h' a i (f i) → own_F Z h' a k .byte n f (i + 1) → own_G p e below Q (T'.setTop (mkF m (pc + 1) Ls rest))) :
    own_G p e below Q (T.setTop (mkF m pc Ls (.int x :: .int j :: .ref a :: rest))) := by
  subst hj
  obtain ⟨cl, A, q1, q2, q3⟩ := id F
  obtain ⟨T', h', X', e', W, st⟩ := stB X hx hZ eT A (own_inb q2 hi hn) (g := mkF m pc Ls (.int x :: .int (Int32.ofNat i) :: .ref a :: rest)) rfl rfl hd
  rw [own_nat (by omega)] at W
  rw [← hf] at W
  exact own_go st (K T' h' _ X' e' (Fr.snoc X' N ha) (O.wr W ha) W (own_F_set F hi W))
theorem own_stR (X : Stand p l e R s m args below meth c T locs cells slots) (hx : p.tables.exec = Jvm.exec) (hZ : Z.Warmed39 s.vm) (eT : T.heap = h) (N : Fr n0 locs) (O : Old Z n0 h) (ha : n0 ≤ a) (F : own_F Z h a k ty n f i) (hi : i < n) (hn : n < 2147483648) (hty : ty.isReference = true) {C : String} (V : Ovr Z k C) {y : Addr} (I : Ins Z h y C true) (hf : f i = .ref y) (hj : j = Int32.ofNat i) (hd : decode c.code pc = .ok (.aastore, 1))
    (K : ∀ (T' : State) (h' : Heap) (locs' : List Loc), Stand p l e R s m args below meth c T' locs' cells slots → T'.heap = h' → Fr n0 locs' → Old Z n0 h' → Wr h h' a i (f i) → own_F Z h' a k ty n f (i + 1) → own_G p e below Q (T'.setTop (mkF m (pc + 1) Ls rest))) :
    own_G p e below Q (T.setTop (mkF m pc Ls (.ref y :: .int j :: .ref a :: rest))) := by
  subst hj
  obtain ⟨cl, A, q1, q2, q3⟩ := id F
  obtain ⟨T', h', X', e', W, st⟩ := stR X hx hZ eT A (own_inb q2 hi hn) hty (Sto.ofV A q1 V I) (g := mkF m pc Ls (.ref y :: .int (Int32.ofNat i) :: .ref a :: rest)) rfl rfl hd
  rw [own_nat (by omega)] at W
  rw [← hf] at W
  exact own_go st (K T' h' _ X' e' (Fr.snoc X' N ha) (O.wr W ha) W (own_F_set F hi W))
theorem own_ldI (X : Stand p l e R s m args below meth c T locs cells slots) (hx : p.tables.exec = Jvm.exec) (hZ : Z.Warmed39 s.vm) (eT : T.heap = h) (F : own_F Z h a k .int n f n) (hi : i < n) (hn : n < 2147483648) (hj : j = Int32.ofNat i) (hd : decode c.code pc = .ok (.iaload, 1))
    (K : own_G p e below Q (T.setTop (mkF m (pc + 1) Ls (f i :: rest)))) : own_G p e below Q (T.setTop (mkF m pc Ls (.int j :: .ref a :: rest))) := by
  subst hj
  obtain ⟨cl, A, q1, q2, q3⟩ := id F
  exact own_go (fun t kk => X.iaload hx (by rw [eT]; exact A.1) (State.isArrayOf_alike hZ.alike A.2.1) A.2.2 (own_inb q2 hi hn) (by rw [own_nat (by omega)]; exact q3 i hi) (g := mkF m pc Ls (.int (Int32.ofNat i) :: .ref a :: rest)) rfl rfl hd t kk) K
theorem own_ldJ (X : Stand p l e R s m args below meth c T locs cells slots) (hx : p.tables.exec = Jvm.exec) (hZ : Z.Warmed39 s.vm) (eT : T.heap = h) (F : own_F Z h a k .long n f n) (hi : i < n) (hn : n < 2147483648) (hj : j = Int32.ofNat i) (hd : decode c.code pc = .ok (.laload, 1))
    (K : own_G p e below Q (T.setTop (mkF m (pc + 1) Ls (f i :: rest)))) : own_G p e below Q (T.setTop (mkF m pc Ls (.int j :: .ref a :: rest))) := by
  subst hj
  obtain ⟨cl, A, q1, q2, q3⟩ := id F
  exact own_go (fun t kk => X.laload hx (by rw [eT]; exact A.1) (State.isArrayOf_alike hZ.alike A.2.1) A.2.2 (own_inb q2 hi hn) (by rw [own_nat (by omega)]; exact q3 i hi) (g := mkF m pc Ls (.int (Int32.ofNat i) :: .ref a :: rest)) rfl rfl hd t kk) K
theorem own_ldZ (X : Stand p l e R s m args below meth c T locs cells slots) (hx : p.tables.exec = Jvm.exec) (hZ : Z.Warmed39 s.vm) (eT : T.heap = h) (F : own_F Z h a k .boolean n f n) (hi : i < n) (hn : n < 2147483648) (hj : j = Int32.ofNat i) (hd : decode c.code pc = .ok (.baload, 1))
    (K : own_G p e below Q (T.setTop (mkF m (pc + 1) Ls (f i :: rest)))) : own_G p e below Q (T.setTop (mkF m pc Ls (.int j :: .ref a :: rest))) := by
  subst hj
  obtain ⟨cl, A, q1, q2, q3⟩ := id F
  exact own_go (fun t kk => X.baloadBooleans hx (by rw [eT]; exact A.1) (State.isArrayOf_alike hZ.alike A.2.1) A.2.2 (own_inb q2 hi hn) (by rw [own_nat (by omega)]; exact q3 i hi) (g := mkF m pc Ls (.int (Int32.ofNat i) :: .ref a :: rest)) rfl rfl hd t kk) K
theorem own_ldB (X : Stand p l e R s m args below meth c T locs cells slots) (hx : p.tables.exec = Jvm.exec) (hZ : Z.Warmed39 s.vm) (eT : T.heap = h) (F : own_F Z h a k .byte n f n) (hi : i < n) (hn : n < 2147483648) (hj : j = Int32.ofNat i) (hd : decode c.code pc = .ok (.baload, 1))
    (K : own_G p e below Q (T.setTop (mkF m (pc + 1) Ls (f i :: rest)))) : own_G p e below Q (T.setTop (mkF m pc Ls (.int j :: .ref a :: rest))) := by
  subst hj
  obtain ⟨cl, A, q1, q2, q3⟩ := id F
  exact own_go (fun t kk => X.baloadBytes hx (by rw [eT]; exact A.1) (State.isArrayOf_alike hZ.alike A.2.1) A.2.2 (own_inb q2 hi hn) (by rw [own_nat (by omega)]; exact q3 i hi) (g := mkF m pc Ls (.int (Int32.ofNat i) :: .ref a :: rest)) rfl rfl hd t kk) K
theorem own_ldR (X : Stand p l e R s m args below meth c T locs cells slots) (hx : p.tables.exec = Jvm.exec) (hZ : Z.Warmed39 s.vm) (eT : T.heap = h) (F : own_F Z h a k ty n f n) (hty : ty.isReference = true) (hi : i < n) (hn : n < 2147483648) (hj : j = Int32.ofNat i) (hd : decode c.code pc = .ok (.aaload, 1))
    (K : own_G p e below Q (T.setTop (mkF m (pc + 1) Ls (f i :: rest)))) : own_G p e below Q (T.setTop (mkF m pc Ls (.int j :: .ref a :: rest))) := by
  subst hj
  obtain ⟨cl, A, q1, q2, q3⟩ := id F
  exact own_go (fun t kk => X.aaload hx (by rw [eT]; exact A.1) (State.isArrayOf_alike hZ.alike A.2.1) hty A.2.2 (own_inb q2 hi hn) (by rw [own_nat (by omega)]; exact q3 i hi) (g := mkF m pc Ls (.int (Int32.ofNat i) :: .ref a :: rest)) rfl rfl hd t kk) K
theorem own_len (X : Stand p l e R s m args below meth c T locs cells slots) (hx : p.tables.exec = Jvm.exec) (hZ : Z.Warmed39 s.vm) (eT : T.heap = h) (F : own_F Z h a k ty n f i) (hd : decode c.code pc = .ok (.arraylength, 1))
    (K : own_G p e below Q (T.setTop (mkF m (pc + 1) Ls (.int (Int32.ofNat n) :: rest)))) : own_G p e below Q (T.setTop (mkF m pc Ls (.ref a :: rest))) := by
  obtain ⟨cl, A, q1, q2, q3⟩ := id F
  subst q2
  exact own_go (fun t kk => X.arraylength hx (by rw [eT]; exact A.1) (State.isArrayOf_alike hZ.alike A.2.1) (g := mkF m pc Ls (.ref a :: rest)) rfl rfl hd t kk) K
theorem own_newP (X : Stand p l e R s m args below meth c T locs cells slots) (hx : p.tables.exec = Jvm.exec) (hZ : Z.Warmed39 s.vm) {aty : ArrayType} (hty : newarray.typeOf aty = ty) (w : (Jvm.Cond.arrayClass ty).before a0 Z = true) (eT : T.heap = h) (O : Old Z n0 h) (hj : j = Int32.ofNat n) (hn : n * 8 ≤ 536870912) (hc : cells + 1 ≤ R.cells) (hl : slots + n ≤ R.slots) (hd : decode c.code pc = .ok (.newarray aty, 2))
    (K : ∀ (T' : State) (h' : Heap) (a : Addr) (k : ClassId), Stand p l e R s m args below meth c T' locs (cells + 1) (slots + n) → T'.heap = h' → Ext h h' → a = h.size → n0 ≤ a → Old Z n0 h' → (∀ f, own_F Z h' a k ty n f 0) → own_G p e below Q (T'.setTop (mkF m (pc + 2) Ls (.ref a :: rest)))) :
    own_G p e below Q (T.setTop (mkF m pc Ls (.int j :: rest))) := by
  subst hj hty
  obtain ⟨T', h', cA, X', e', E, A, st⟩ := newP X hx hZ w eT (g := mkF m pc Ls (.int (Int32.ofNat n) :: rest)) rfl hd rfl (own_nn (by omega)) (cap := n) (by rw [own_nat (by omega)]; exact Nat.le_refl _) hn hc hl
  refine own_go st (K T' h' h.size cA X' e' E rfl (by rw [← O.1]; exact O.2.1) (O.ext E) fun f => ⟨_, A, rfl, ?_, fun j hj => absurd hj (Nat.not_lt_zero j)⟩)
  rw [sz_new, own_nat (by omega)]
theorem own_newR (X : Stand p l e R s m args below meth c T locs cells slots) (hx : p.tables.exec = Jvm.exec) (hZ : Z.Warmed39 s.vm) {own C : String} {index : Nat} (hown : s.vm.findClass own = some m.cls) (w1 : (Jvm.Cond.classLink own index C).before a0 Z = true) (w2 : (Jvm.Cond.arrayOver (.object C)).before a0 Z = true) (eT : T.heap = h) (O : Old Z n0 h) (hj : j = Int32.ofNat n) (hn : n * 8 ≤ 536870912) (hc : cells + 1 ≤ R.cells) (hl : slots + n ≤ R.slots) (hd : decode c.code pc = .ok (.anewarray index, 3))
    (K : ∀ (T' : State) (h' : Heap) (a : Addr) (k : ClassId), Stand p l e R s m args below meth c T' locs (cells + 1) (slots + n) → T'.heap = h' → Ext h h' → a = h.size → n0 ≤ a → Old Z n0 h' → Ovr Z k C → (∀ f, own_F Z h' a k (.object C) n f 0) → own_G p e below Q (T'.setTop (mkF m (pc + 3) Ls (.ref a :: rest)))) :
    own_G p e below Q (T.setTop (mkF m pc Ls (.int j :: rest))) := by
  subst hj
  obtain ⟨T', h', cA, X', e', E, A, V, st⟩ := newR X hx hZ hown w1 w2 eT (g := mkF m pc Ls (.int (Int32.ofNat n) :: rest)) rfl hd rfl (own_nn (by omega)) (cap := n) (by rw [own_nat (by omega)]; exact Nat.le_refl _) hn hc hl
  refine own_go st (K T' h' h.size cA X' e' E rfl (by rw [← O.1]; exact O.2.1) (O.ext E) V fun f => ⟨_, A, rfl, ?_, fun j hj => absurd hj (Nat.not_lt_zero j)⟩)
  rw [sz_new, own_nat (by omega)]
end OwnA
section OwnB
variable {p : Program} {l : Launch} {e : Env} {R : Room} {s : State} {m : MethodId} {args : Array Value} {below : List Frame} {meth : Method} {c : Code} {T : State} {locs : List Loc} {cells slots : Nat} {Z : State} {a0 : Array Value} {h h' : Heap} {Q : Outcome → State → Prop} {a b : Addr} {n i n0 : Nat} {f : Nat → Int32} {j : Int32} {pc : Nat} {Ls : Array Slot} {rest : List Value} {ws : List Addr}
/-- a byte array at a: n places, place j holds f j -/
def own_B (Z : State) (h : Heap) (a : Addr) (n : Nat) (f : Nat → Int32) : Prop := (∃ k, own_F Z h a k .byte n (fun j => .int (f j)) n) ∧ Exa Z h a "[B"
/-- a byte array at a of n places -/
def own_BI (Z : State) (h : Heap) (a : Addr) (n : Nat) : Prop := ∃ cl : Cell, Arr Z h a cl .byte ∧ cl.slots.size = n ∧ ∀ j, j < n → ∃ x : Int32, cl.slots[j]? = some (.int x)
theorem own_B_i (F : own_B Z h a n f) : own_BI Z h a n := by
  obtain ⟨⟨k, cl, A, q1, q2, q3⟩, E⟩ := F
  exact ⟨cl, A, q2, fun j hj => ⟨_, q3 j hj⟩⟩
theorem own_B_keep (K : Keep h h' ws) (q : a ∉ ws) (F : own_B Z h a n f) : own_B Z h' a n f := by
  obtain ⟨⟨k, cl, A, r⟩, E⟩ := F
  exact ⟨⟨k, cl, ⟨K.2.1 a cl A.1 q, A.2⟩, r⟩, E.keep K⟩
theorem own_B_lt (F : own_B Z h a n f) : a < h.size := F.2.lt
theorem own_B_other {sl : Nat} {v : Value} (W : Wr h h' b sl v) (q : a ≠ b) (F : own_B Z h a n f) : own_B Z h' a n f := by
  obtain ⟨⟨k, F⟩, E⟩ := F
  exact ⟨⟨k, own_F_other W q F⟩, E.wr W⟩
theorem own_newB (X : Stand p l e R s m args below meth c T locs cells slots) (hx : p.tables.exec = Jvm.exec) (hZ : Z.Warmed39 s.vm) (w : (Jvm.Cond.arrayClass .byte).before a0 Z = true) (eT : T.heap = h) (O : Old Z n0 h) (hj : j = Int32.ofNat n) (hn : n ≤ 3) (hc : cells + 1 ≤ R.cells) (hl : slots + 3 ≤ R.slots) (hd : decode c.code pc = .ok (.newarray .byte, 2))
    (K : ∀ (T' : State) (h' : Heap) (a : Addr) (k : ClassId), Stand p l e R s m args below meth c T' locs (cells + 1) (slots + 3) → T'.heap = h' → Ext h h' → h.size ≤ a → n0 ≤ a → Old Z n0 h' → (∀ f, own_F Z h' a k .byte n f 0) → Exa Z h' a "[B" → own_G p e below Q (T'.setTop (mkF m (pc + 2) Ls (.ref a :: rest)))) :
    own_G p e below Q (T.setTop (mkF m pc Ls (.int j :: rest))) := by
  subst hj
  obtain ⟨T', h', cA, X', e', E, A, B, st⟩ := newPE X hx hZ (aty := .byte) w eT (g := mkF m pc Ls (.int (Int32.ofNat n) :: rest)) rfl hd rfl (own_nn (by omega)) (cap := 3) (by rw [own_nat (by omega)]; exact hn) (by decide) hc hl (ad := "[B") (by decide)
  refine own_go st (K T' h' h.size cA X' e' E (Nat.le_refl _) (by rw [← O.1]; exact O.2.1) (O.ext E) (fun f => ⟨_, A, rfl, ?_, fun j hj => absurd hj (Nat.not_lt_zero j)⟩) B)
  rw [sz_new, own_nat (by omega)]
theorem own_clone (X : Stand p l e R s m args below meth c T locs cells slots) (hx : p.tables.exec = Jvm.exec) (hZ : Z.Warmed39 s.vm) {own : String} {index : Nat} (hown : s.vm.findClass own = some m.cls)
    (w1 : (Jvm.Cond.methodLink own index ⟨"[B", "clone", "()Ljava/lang/Object;"⟩).before a0 Z = true) (w2 : (Jvm.Cond.sameMethod "[B" "java/lang/Object" "clone" "()Ljava/lang/Object;").before a0 Z = true) (w3 : (Jvm.Cond.native ⟨"java/lang/Object", "clone", "()Ljava/lang/Object;"⟩).before a0 Z = true)
    (w4 : (Jvm.Cond.instanceMethod ⟨"java/lang/Object", "clone", "()Ljava/lang/Object;"⟩).before a0 Z = true) (w5 : (Jvm.Cond.selects "[B" ⟨"[B", "clone", "()Ljava/lang/Object;"⟩ ⟨"java/lang/Object", "clone", "()Ljava/lang/Object;"⟩).before a0 Z = true) (w6 : (Jvm.Cond.castable "[B" "java/lang/Cloneable").before a0 Z = true)
    (eT : T.heap = h) (B : own_B Z h a n f) (hfit : ∀ j, fits .byte (.int (f j)) = true) (hn : n ≤ 3) (hml : Ls.size = c.maxLocals) (hd : decode c.code pc = .ok (.invokevirtual index, 3)) (hf : 1 ≤ R.frames) {W : Nat} (hW : (rest.map fun v => v.category).sum ≤ W) (hl : W + 14 ≤ R.locals) (hc : cells + 1 ≤ R.cells) (hsl : slots + 3 ≤ R.slots)
    (K : ∀ (T' : State) (h' : Heap) (b : Addr), Stand p l e R s m args below meth c T' locs (cells + 1) (slots + 3) → T'.heap = h' → Ext h h' → h.size ≤ b → own_B Z h' b n f → own_G p e below Q (T'.setTop (mkF m (pc + 3) Ls (.ref b :: rest)))) :
    own_G p e below Q (T.setTop (mkF m pc Ls (.ref a :: rest))) := by
  obtain ⟨⟨k, cl, A, q1, q2, q3⟩, E⟩ := B
  have FC : FitC Z cl := fitC_of A fun i hi v hv => by
    rw [q3 i (by omega)] at hv
    cases hv
    exact hfit i
  obtain ⟨T', h', X', e', ex, A', E', st⟩ := cloneA X hx hZ hown w1 w2 w3 w4 w5 w6 eT A E FC (g := mkF m pc Ls (.ref a :: rest)) rfl hml rfl hd hf (W := W) (by show 2 * 0 + _ ≤ _; rw [Nat.mul_zero, Nat.zero_add]; exact hW) hl (cap := 3) (by omega) hc hsl
  exact own_go st (K T' h' h.size X' e' ex (Nat.le_refl _) ⟨⟨k, cloneOf cl, A', q1, q2, q3⟩, E'⟩)
theorem own_cast (X : Stand p l e R s m args below meth c T locs cells slots) (hx : p.tables.exec = Jvm.exec) (hZ : Z.Warmed39 s.vm) {own K : String} {index : Nat} (hown : s.vm.findClass own = some m.cls) (w : (Jvm.Cond.classLink own index K).before a0 Z = true) (eT : T.heap = h) (E : Exa Z h a K) (hd : decode c.code pc = .ok (.checkcast index, 3))
    (Kk : ∀ T' : State, Stand p l e R s m args below meth c T' locs cells slots → T'.heap = h → own_G p e below Q (T'.setTop (mkF m (pc + 3) Ls (.ref a :: rest)))) : own_G p e below Q (T.setTop (mkF m pc Ls (.ref a :: rest))) := by
  obtain ⟨T', X', e', st⟩ := castY X hx hZ hown w eT (Ins.self E) (g := mkF m pc Ls (.ref a :: rest)) rfl rfl hd
  exact own_go st (Kk T' X' e')
theorem own_ldBI (X : Stand p l e R s m args below meth c T locs cells slots) (hx : p.tables.exec = Jvm.exec) (hZ : Z.Warmed39 s.vm) (eT : T.heap = h) (F : own_BI Z h a n) (hi : i < n) (hn : n < 2147483648) (hj : j = Int32.ofNat i) (hd : decode c.code pc = .ok (.baload, 1))
    (K : ∀ x : Int32, own_G p e below Q (T.setTop (mkF m (pc + 1) Ls (.int x :: rest)))) : own_G p e below Q (T.setTop (mkF m pc Ls (.int j :: .ref a :: rest))) := by
  subst hj
  obtain ⟨cl, A, q2, q3⟩ := F
  obtain ⟨x, hx'⟩ := q3 i hi
  exact own_go (fun t kk => X.baloadBytes hx (by rw [eT]; exact A.1) (State.isArrayOf_alike hZ.alike A.2.1) A.2.2 (own_inb q2 hi hn) (by rw [own_nat (by omega)]; exact hx') (g := mkF m pc Ls (.int (Int32.ofNat i) :: .ref a :: rest)) rfl rfl hd t kk) (K x)
theorem own_stBI (X : Stand p l e R s m args below meth c T locs cells slots) (hx : p.tables.exec = Jvm.exec) (hZ : Z.Warmed39 s.vm) (eT : T.heap = h) (N : Fr n0 locs) (ha : n0 ≤ a) (F : own_BI Z h a n) (hi : i < n) (hn : n < 2147483648) {x : Int32} (hj : j = Int32.ofNat i) (hd : decode c.code pc = .ok (.bastore, 1))
    (K : ∀ (T' : State) (h' : Heap) (locs' : List Loc) (v : Value), Stand p l e R s m args below meth c T' locs' cells slots → T'.heap = h' → Fr n0 locs' → Wr h h' a i v → own_BI Z h' a n → own_G p e below Q (T'.setTop (mkF m (pc + 1) Ls rest))) :
    own_G p e below Q (T.setTop (mkF m pc Ls (.int x :: .int j :: .ref a :: rest))) := by
  subst hj
  obtain ⟨cl, A, q2, q3⟩ := F
  obtain ⟨T', h', X', e', W, st⟩ := stB X hx hZ eT A (own_inb q2 hi hn) (g := mkF m pc Ls (.int x :: .int (Int32.ofNat i) :: .ref a :: rest)) rfl rfl hd
  rw [own_nat (by omega)] at W
  refine own_go st (K T' h' _ _ X' e' (Fr.snoc X' N ha) W ⟨_, A.same W, by rw [sz_set]; exact q2, fun j hj => ?_⟩)
  show ∃ x, (cl.slots.setIfInBounds i _)[j]? = _
  rw [Array.getElem?_setIfInBounds]
  by_cases q : i = j
  · subst q; rw [if_pos rfl, if_pos (by omega)]; exact ⟨_, rfl⟩
  · rw [if_neg q]; exact q3 j hj
theorem own_lenI (X : Stand p l e R s m args below meth c T locs cells slots) (hx : p.tables.exec = Jvm.exec) (hZ : Z.Warmed39 s.vm) (eT : T.heap = h) (F : own_BI Z h a n) (hd : decode c.code pc = .ok (.arraylength, 1))
    (K : own_G p e below Q (T.setTop (mkF m (pc + 1) Ls (.int (Int32.ofNat n) :: rest)))) : own_G p e below Q (T.setTop (mkF m pc Ls (.ref a :: rest))) := by
  obtain ⟨cl, A, q2, q3⟩ := F
  subst q2
  exact own_go (fun t kk => X.arraylength hx (by rw [eT]; exact A.1) (State.isArrayOf_alike hZ.alike A.2.1) (g := mkF m pc Ls (.ref a :: rest)) rfl rfl hd t kk) K
theorem own_callI (X : Stand p l e R s m args below meth c T locs cells slots) (hx : p.tables.exec = Jvm.exec) (hZ : Z.Warmed39 s.vm) {own : String} {index : Nat} {y : MethodName} {bytes : ByteArray} {maxL : Nat} (hy1 : y.name = "<init>") (hown : s.vm.findClass own = some m.cls)
    (w1 : (Jvm.Cond.methodLink own index y).before a0 Z = true) (w2 : (Jvm.Cond.instanceMethod y).before a0 Z = true) (w3 : (Jvm.Cond.code y bytes maxL none).before a0 Z = true) (w4 : (Jvm.Cond.initialized y.cls).before a0 Z = true)
    (hy : y.cls ≠ "java/lang/invoke/MethodHandle" ∧ y.cls ≠ "java/lang/invoke/VarHandle")
    {rm : Room} {argsL rest : List Value} {QC : Option Value → Heap → List Loc → Prop} (eT : T.heap = h) {b : Addr} (hC : own_C l Z y bytes maxL none [] rm (.ref b :: argsL).toArray h QC)
    {st : List Value} (hst : st = argsL.reverse ++ .ref b :: rest) (hml : Ls.size = c.maxLocals) {ps : List FieldType} {r : Option FieldType} (hpd : parseMethodDescriptor y.desc = some ⟨ps, r⟩) (hlen : argsL.length = ps.length)
    (hd : decode c.code pc = .ok (.invokespecial index, 3)) {W : Nat} (hW : (rest.map fun v => v.category).sum ≤ W) (hf : rm.frames + 1 ≤ R.frames) (hl : W + (maxL + 11) + rm.locals ≤ R.locals) (hcc : cells + rm.cells ≤ R.cells) (hss : slots + rm.slots ≤ R.slots)
    (K : ∀ (v : Option Value) (T' : State) (L : List Loc), Stand p l e R s m args below meth c T' (locs ++ L) (cells + rm.cells) (slots + rm.slots) → QC v T'.heap L → own_G p e below Q (T'.setTop (mkF m (pc + 3) Ls (v.toList ++ rest)))) :
    own_G p e below Q (T.setTop (mkF m pc Ls st)) := by
  subst hst
  obtain ⟨v, vm1, ⟨T', L', k', n'⟩, -, X', ⟨L, hQ, l1, y1, z1⟩, st'⟩ := X.specialBack hx (y := y) hy1 hown (mvT hZ w1) (mvT hZ w2) (mvT hZ w3) hy (backOf (W := W) hC hZ w3 w4 hf hl) (g := mkF m pc Ls (argsL.reverse ++ .ref b :: rest)) rfl hml (Steps.refl _) (argsL := argsL) (rest := rest) (lenOf hpd hlen) rfl
    (by show 2 * 0 + _ ≤ _; rw [Nat.mul_zero, Nat.zero_add]; exact hW) hd (fun vm hv => ⟨rfl, eT, hcc, hss⟩)
  dsimp only [Pt.U, Pt.locs, Pt.cells, Pt.slots] at X' l1 y1 z1 st' hQ
  subst l1 y1 z1
  exact own_go (fun t k => st'.trans k) (K v T' L X' hQ)
def own_f (b0 b1 b2 : Int32) (j : Nat) : Int32 := ([b0, b1, b2].getD j 0).toInt8.toInt32
theorem own_nb (x : Int32) : nar .byte x.toInt8.toInt32 = x.toInt8.toInt32 := by simp [nar]
theorem own_ffit (b0 b1 b2 : Int32) (j : Nat) : fits .byte (.int (own_f b0 b1 b2 j)) = true := by
  unfold own_f
  exact fits_nar_byte _
theorem own_four (x : Int32) : ∃ n : Nat, n < 4 ∧ x &&& (3 : Int32) = Int32.ofNat n := by
  have hm := c_mask x (3 : Int32) 2 (by decide) (by decide)
  have h1 : 0 ≤ (x &&& (3 : Int32)).toInt ∧ (x &&& (3 : Int32)).toInt < 4 := by rw [hm]; omega
  generalize x &&& (3 : Int32) = z at h1
  refine ⟨z.toInt.toNat, by omega, ?_⟩
  apply Int32.toInt_inj.mp
  rw [Int32.toInt_ofNat_small (by omega)]
  omega
end OwnB
theorem dm_0 : decode method_3_code 0 = .ok (.iload_n 0, 1) := by decide +kernel
theorem dm_1 : decode method_3_code 1 = .ok (.ifCond .ne 7, 3) := by decide +kernel
theorem dm_4 : decode method_3_code 4 = .ok (.iconst 0, 1) := by decide +kernel
theorem dm_5 : decode method_3_code 5 = .ok (.newarray .byte, 2) := by decide +kernel
theorem dm_7 : decode method_3_code 7 = .ok (.areturn, 1) := by decide +kernel
theorem dm_8 : decode method_3_code 8 = .ok (.iload_n 0, 1) := by decide +kernel
theorem dm_9 : decode method_3_code 9 = .ok (.iconst 1, 1) := by decide +kernel
theorem dm_10 : decode method_3_code 10 = .ok (.if_icmp .ne 12, 3) := by decide +kernel
theorem dm_13 : decode method_3_code 13 = .ok (.iconst 1, 1) := by decide +kernel
theorem dm_14 : decode method_3_code 14 = .ok (.newarray .byte, 2) := by decide +kernel
theorem dm_16 : decode method_3_code 16 = .ok (.dup, 1) := by decide +kernel
theorem dm_17 : decode method_3_code 17 = .ok (.iconst 0, 1) := by decide +kernel
theorem dm_18 : decode method_3_code 18 = .ok (.iload_n 1, 1) := by decide +kernel
theorem dm_19 : decode method_3_code 19 = .ok (.i2b, 1) := by decide +kernel
theorem dm_20 : decode method_3_code 20 = .ok (.bastore, 1) := by decide +kernel
theorem dm_21 : decode method_3_code 21 = .ok (.areturn, 1) := by decide +kernel
theorem dm_22 : decode method_3_code 22 = .ok (.iload_n 0, 1) := by decide +kernel
theorem dm_23 : decode method_3_code 23 = .ok (.iconst 2, 1) := by decide +kernel
theorem dm_24 : decode method_3_code 24 = .ok (.if_icmp .ne 17, 3) := by decide +kernel
theorem dm_27 : decode method_3_code 27 = .ok (.iconst 2, 1) := by decide +kernel
theorem dm_28 : decode method_3_code 28 = .ok (.newarray .byte, 2) := by decide +kernel
theorem dm_30 : decode method_3_code 30 = .ok (.dup, 1) := by decide +kernel
theorem dm_31 : decode method_3_code 31 = .ok (.iconst 0, 1) := by decide +kernel
theorem dm_32 : decode method_3_code 32 = .ok (.iload_n 1, 1) := by decide +kernel
theorem dm_33 : decode method_3_code 33 = .ok (.i2b, 1) := by decide +kernel
theorem dm_34 : decode method_3_code 34 = .ok (.bastore, 1) := by decide +kernel
theorem dm_35 : decode method_3_code 35 = .ok (.dup, 1) := by decide +kernel
theorem dm_36 : decode method_3_code 36 = .ok (.iconst 1, 1) := by decide +kernel
theorem dm_37 : decode method_3_code 37 = .ok (.iload_n 2, 1) := by decide +kernel
theorem dm_38 : decode method_3_code 38 = .ok (.i2b, 1) := by decide +kernel
theorem dm_39 : decode method_3_code 39 = .ok (.bastore, 1) := by decide +kernel
theorem dm_40 : decode method_3_code 40 = .ok (.areturn, 1) := by decide +kernel
theorem dm_41 : decode method_3_code 41 = .ok (.iconst 3, 1) := by decide +kernel
theorem dm_42 : decode method_3_code 42 = .ok (.newarray .byte, 2) := by decide +kernel
theorem dm_44 : decode method_3_code 44 = .ok (.dup, 1) := by decide +kernel
theorem dm_45 : decode method_3_code 45 = .ok (.iconst 0, 1) := by decide +kernel
theorem dm_46 : decode method_3_code 46 = .ok (.iload_n 1, 1) := by decide +kernel
theorem dm_47 : decode method_3_code 47 = .ok (.i2b, 1) := by decide +kernel
theorem dm_48 : decode method_3_code 48 = .ok (.bastore, 1) := by decide +kernel
theorem dm_49 : decode method_3_code 49 = .ok (.dup, 1) := by decide +kernel
theorem dm_50 : decode method_3_code 50 = .ok (.iconst 1, 1) := by decide +kernel
theorem dm_51 : decode method_3_code 51 = .ok (.iload_n 2, 1) := by decide +kernel
theorem dm_52 : decode method_3_code 52 = .ok (.i2b, 1) := by decide +kernel
theorem dm_53 : decode method_3_code 53 = .ok (.bastore, 1) := by decide +kernel
theorem dm_54 : decode method_3_code 54 = .ok (.dup, 1) := by decide +kernel
theorem dm_55 : decode method_3_code 55 = .ok (.iconst 2, 1) := by decide +kernel
theorem dm_56 : decode method_3_code 56 = .ok (.iload_n 3, 1) := by decide +kernel
theorem dm_57 : decode method_3_code 57 = .ok (.i2b, 1) := by decide +kernel
theorem dm_58 : decode method_3_code 58 = .ok (.bastore, 1) := by decide +kernel
theorem dm_59 : decode method_3_code 59 = .ok (.areturn, 1) := by decide +kernel
theorem di_0 : decode prog_69_method_1_code 0 = .ok (.aload_n 0, 1) := by decide +kernel
theorem di_1 : decode prog_69_method_1_code 1 = .ok (.invokespecial 1, 3) := by decide +kernel
theorem di_4 : decode prog_69_method_1_code 4 = .ok (.aload_n 0, 1) := by decide +kernel
theorem di_5 : decode prog_69_method_1_code 5 = .ok (.aload_n 1, 1) := by decide +kernel
theorem di_6 : decode prog_69_method_1_code 6 = .ok (.ifnonnull 7, 3) := by decide +kernel
theorem di_9 : decode prog_69_method_1_code 9 = .ok (.aconst_null, 1) := by decide +kernel
theorem di_10 : decode prog_69_method_1_code 10 = .ok (.goto 10, 3) := by decide +kernel
theorem di_13 : decode prog_69_method_1_code 13 = .ok (.aload_n 1, 1) := by decide +kernel
theorem di_14 : decode prog_69_method_1_code 14 = .ok (.invokevirtual 7, 3) := by decide +kernel
theorem di_17 : decode prog_69_method_1_code 17 = .ok (.checkcast 8, 3) := by decide +kernel
theorem di_20 : decode prog_69_method_1_code 20 = .ok (.putfield 13, 3) := by decide +kernel
theorem di_23 : decode prog_69_method_1_code 23 = .ok (.aload_n 0, 1) := by decide +kernel
theorem di_24 : decode prog_69_method_1_code 24 = .ok (.aload_n 2, 1) := by decide +kernel
theorem di_25 : decode prog_69_method_1_code 25 = .ok (.ifnonnull 7, 3) := by decide +kernel
theorem di_28 : decode prog_69_method_1_code 28 = .ok (.aconst_null, 1) := by decide +kernel
theorem di_29 : decode prog_69_method_1_code 29 = .ok (.goto 7, 3) := by decide +kernel
theorem di_32 : decode prog_69_method_1_code 32 = .ok (.aload_n 2, 1) := by decide +kernel
theorem di_33 : decode prog_69_method_1_code 33 = .ok (.invokestatic 18, 3) := by decide +kernel
theorem di_36 : decode prog_69_method_1_code 36 = .ok (.putfield 24, 3) := by decide +kernel
theorem di_39 : decode prog_69_method_1_code 39 = .ok (.return_, 1) := by decide +kernel
theorem df_0 : decode method_4_code 0 = .ok (.aload_n 0, 1) := by decide +kernel
theorem df_1 : decode method_4_code 1 = .ok (.arraylength, 1) := by decide +kernel
theorem df_2 : decode method_4_code 2 = .ok (.ifCond .le 12, 3) := by decide +kernel
theorem df_5 : decode method_4_code 5 = .ok (.aload_n 0, 1) := by decide +kernel
theorem df_6 : decode method_4_code 6 = .ok (.iconst 0, 1) := by decide +kernel
theorem df_7 : decode method_4_code 7 = .ok (.aload_n 0, 1) := by decide +kernel
theorem df_8 : decode method_4_code 8 = .ok (.iconst 0, 1) := by decide +kernel
theorem df_9 : decode method_4_code 9 = .ok (.baload, 1) := by decide +kernel
theorem df_10 : decode method_4_code 10 = .ok (.iconst (-1), 1) := by decide +kernel
theorem df_11 : decode method_4_code 11 = .ok (.ixor, 1) := by decide +kernel
theorem df_12 : decode method_4_code 12 = .ok (.i2b, 1) := by decide +kernel
theorem df_13 : decode method_4_code 13 = .ok (.bastore, 1) := by decide +kernel
theorem df_14 : decode method_4_code 14 = .ok (.aload_n 0, 1) := by decide +kernel
theorem df_15 : decode method_4_code 15 = .ok (.arraylength, 1) := by decide +kernel
theorem df_16 : decode method_4_code 16 = .ok (.iconst 1, 1) := by decide +kernel
theorem df_17 : decode method_4_code 17 = .ok (.if_icmp .le 12, 3) := by decide +kernel
theorem df_20 : decode method_4_code 20 = .ok (.aload_n 0, 1) := by decide +kernel
theorem df_21 : decode method_4_code 21 = .ok (.iconst 1, 1) := by decide +kernel
theorem df_22 : decode method_4_code 22 = .ok (.aload_n 0, 1) := by decide +kernel
theorem df_23 : decode method_4_code 23 = .ok (.iconst 1, 1) := by decide +kernel
theorem df_24 : decode method_4_code 24 = .ok (.baload, 1) := by decide +kernel
theorem df_25 : decode method_4_code 25 = .ok (.iconst (-1), 1) := by decide +kernel
theorem df_26 : decode method_4_code 26 = .ok (.ixor, 1) := by decide +kernel
theorem df_27 : decode method_4_code 27 = .ok (.i2b, 1) := by decide +kernel
theorem df_28 : decode method_4_code 28 = .ok (.bastore, 1) := by decide +kernel
theorem df_29 : decode method_4_code 29 = .ok (.aload_n 0, 1) := by decide +kernel
theorem df_30 : decode method_4_code 30 = .ok (.arraylength, 1) := by decide +kernel
theorem df_31 : decode method_4_code 31 = .ok (.iconst 2, 1) := by decide +kernel
theorem df_32 : decode method_4_code 32 = .ok (.if_icmp .le 12, 3) := by decide +kernel
theorem df_35 : decode method_4_code 35 = .ok (.aload_n 0, 1) := by decide +kernel
theorem df_36 : decode method_4_code 36 = .ok (.iconst 2, 1) := by decide +kernel
theorem df_37 : decode method_4_code 37 = .ok (.aload_n 0, 1) := by decide +kernel
theorem df_38 : decode method_4_code 38 = .ok (.iconst 2, 1) := by decide +kernel
theorem df_39 : decode method_4_code 39 = .ok (.baload, 1) := by decide +kernel
theorem df_40 : decode method_4_code 40 = .ok (.iconst (-1), 1) := by decide +kernel
theorem df_41 : decode method_4_code 41 = .ok (.ixor, 1) := by decide +kernel
theorem df_42 : decode method_4_code 42 = .ok (.i2b, 1) := by decide +kernel
theorem df_43 : decode method_4_code 43 = .ok (.bastore, 1) := by decide +kernel
theorem df_44 : decode method_4_code 44 = .ok (.return_, 1) := by decide +kernel
theorem dv_0 : decode prog_69_method_2_code 0 = .ok (.aload_n 0, 1) := by decide +kernel
theorem dv_1 : decode prog_69_method_2_code 1 = .ok (.getfield 13, 3) := by decide +kernel
theorem dv_4 : decode prog_69_method_2_code 4 = .ok (.ifnonnull 7, 3) := by decide +kernel
theorem dv_7 : decode prog_69_method_2_code 7 = .ok (.aconst_null, 1) := by decide +kernel
theorem dv_8 : decode prog_69_method_2_code 8 = .ok (.goto 13, 3) := by decide +kernel
theorem dv_11 : decode prog_69_method_2_code 11 = .ok (.aload_n 0, 1) := by decide +kernel
theorem dv_12 : decode prog_69_method_2_code 12 = .ok (.getfield 13, 3) := by decide +kernel
theorem dv_15 : decode prog_69_method_2_code 15 = .ok (.invokevirtual 7, 3) := by decide +kernel
theorem dv_18 : decode prog_69_method_2_code 18 = .ok (.checkcast 8, 3) := by decide +kernel
theorem dv_21 : decode prog_69_method_2_code 21 = .ok (.areturn, 1) := by decide +kernel
theorem dsm_0 : decode method_5_code 0 = .ok (.aload_n 0, 1) := by decide +kernel
theorem dsm_1 : decode method_5_code 1 = .ok (.arraylength, 1) := by decide +kernel
theorem dsm_2 : decode method_5_code 2 = .ok (.iload_n 1, 1) := by decide +kernel
theorem dsm_3 : decode method_5_code 3 = .ok (.if_icmp .ne 47, 3) := by decide +kernel
theorem dsm_6 : decode method_5_code 6 = .ok (.iload_n 1, 1) := by decide +kernel
theorem dsm_7 : decode method_5_code 7 = .ok (.iconst 1, 1) := by decide +kernel
theorem dsm_8 : decode method_5_code 8 = .ok (.if_icmp .lt 11, 3) := by decide +kernel
theorem dsm_11 : decode method_5_code 11 = .ok (.aload_n 0, 1) := by decide +kernel
theorem dsm_12 : decode method_5_code 12 = .ok (.iconst 0, 1) := by decide +kernel
theorem dsm_13 : decode method_5_code 13 = .ok (.baload, 1) := by decide +kernel
theorem dsm_14 : decode method_5_code 14 = .ok (.iload_n 2, 1) := by decide +kernel
theorem dsm_15 : decode method_5_code 15 = .ok (.i2b, 1) := by decide +kernel
theorem dsm_16 : decode method_5_code 16 = .ok (.if_icmp .ne 34, 3) := by decide +kernel
theorem dsm_19 : decode method_5_code 19 = .ok (.iload_n 1, 1) := by decide +kernel
theorem dsm_20 : decode method_5_code 20 = .ok (.iconst 2, 1) := by decide +kernel
theorem dsm_21 : decode method_5_code 21 = .ok (.if_icmp .lt 11, 3) := by decide +kernel
theorem dsm_24 : decode method_5_code 24 = .ok (.aload_n 0, 1) := by decide +kernel
theorem dsm_25 : decode method_5_code 25 = .ok (.iconst 1, 1) := by decide +kernel
theorem dsm_26 : decode method_5_code 26 = .ok (.baload, 1) := by decide +kernel
theorem dsm_27 : decode method_5_code 27 = .ok (.iload_n 3, 1) := by decide +kernel
theorem dsm_28 : decode method_5_code 28 = .ok (.i2b, 1) := by decide +kernel
theorem dsm_29 : decode method_5_code 29 = .ok (.if_icmp .ne 21, 3) := by decide +kernel
theorem dsm_32 : decode method_5_code 32 = .ok (.iload_n 1, 1) := by decide +kernel
theorem dsm_33 : decode method_5_code 33 = .ok (.iconst 3, 1) := by decide +kernel
theorem dsm_34 : decode method_5_code 34 = .ok (.if_icmp .lt 12, 3) := by decide +kernel
theorem dsm_37 : decode method_5_code 37 = .ok (.aload_n 0, 1) := by decide +kernel
theorem dsm_38 : decode method_5_code 38 = .ok (.iconst 2, 1) := by decide +kernel
theorem dsm_39 : decode method_5_code 39 = .ok (.baload, 1) := by decide +kernel
theorem dsm_40 : decode method_5_code 40 = .ok (.iload 4, 2) := by decide +kernel
theorem dsm_42 : decode method_5_code 42 = .ok (.i2b, 1) := by decide +kernel
theorem dsm_43 : decode method_5_code 43 = .ok (.if_icmp .ne 7, 3) := by decide +kernel
theorem dsm_46 : decode method_5_code 46 = .ok (.iconst 1, 1) := by decide +kernel
theorem dsm_47 : decode method_5_code 47 = .ok (.goto 4, 3) := by decide +kernel
theorem dsm_50 : decode method_5_code 50 = .ok (.iconst 0, 1) := by decide +kernel
theorem dsm_51 : decode method_5_code 51 = .ok (.ireturn, 1) := by decide +kernel
theorem pn_l : plainName "com/example/broker_access_control/brokeraccesscontrol/wire/AclListingVersionPinLaw" = true := by first | (simp [plainName, overriddenIn]; done) | decide +kernel
theorem pn_c : plainName "com/example/broker_access_control/brokeraccesscontrol/wire/AclListing" = true := by first | (simp [plainName, overriddenIn]; done) | decide +kernel
theorem pd_m : parseMethodDescriptor "(IIII)[B" = some ⟨[.int, .int, .int, .int], some (.array .byte)⟩ := by decide +kernel
theorem pd_i : parseMethodDescriptor "([BLjava/util/List;)V" = some ⟨[.array .byte, .object "java/util/List"], none⟩ := by decide +kernel
theorem pd_f : parseMethodDescriptor "([B)V" = some ⟨[.array .byte], none⟩ := by decide +kernel
theorem pd_v : parseMethodDescriptor "()[B" = some ⟨[], some (.array .byte)⟩ := by decide +kernel
theorem pd_s : parseMethodDescriptor "([BIIII)Z" = some ⟨[.array .byte, .int, .int, .int, .int], some .boolean⟩ := by decide +kernel
theorem ef_m (m : MethodId) (x0 x1 x2 x3 : Int32) : entryFrame m #[(.int x0), (.int x1), (.int x2), (.int x3)] 4 = mkF m 0 #[.val (.int x0), .val (.int x1), .val (.int x2), .val (.int x3)] [] := by first | (simp [entryFrame, mkF, argsToLocals, Value.category, maxLocals]; done) | rfl
theorem ef_i (m : MethodId) (x0 x1 : Addr) : entryFrame m #[(.ref x0), (.ref x1), .null] 3 = mkF m 0 #[.val (.ref x0), .val (.ref x1), .val .null] [] := by first | (simp [entryFrame, mkF, argsToLocals, Value.category, maxLocals]; done) | rfl
theorem ef_in (m : MethodId) (x0 : Addr) : entryFrame m #[(.ref x0), .null, .null] 3 = mkF m 0 #[.val (.ref x0), .val .null, .val .null] [] := by first | (simp [entryFrame, mkF, argsToLocals, Value.category, maxLocals]; done) | rfl
theorem ef_a (m : MethodId) (x0 : Addr) : entryFrame m #[(.ref x0)] 1 = mkF m 0 #[.val (.ref x0)] [] := by first | (simp [entryFrame, mkF, argsToLocals, Value.category, maxLocals]; done) | rfl
theorem ef_s (m : MethodId) (x0 : Addr) (x1 x2 x3 x4 : Int32) : entryFrame m #[(.ref x0), (.int x1), (.int x2), (.int x3), (.int x4)] 5 = mkF m 0 #[.val (.ref x0), .val (.int x1), .val (.int x2), .val (.int x3), .val (.int x4)] [] := by first | (simp [entryFrame, mkF, argsToLocals, Value.category, maxLocals]; done) | rfl
theorem ef_0 (m : MethodId) (x0 x1 x2 x3 : Int32) : entryFrame m #[(.int x0), (.int x1), (.int x2), (.int x3)] maxLocals = mkF m 0 #[.val (.int x0), .val (.int x1), .val (.int x2), .val (.int x3), .unset, .unset, .unset, .unset, .unset, .unset] [] := by first | (simp [entryFrame, mkF, argsToLocals, Value.category, maxLocals]; done) | rfl
set_option maxRecDepth 65536 in
set_option maxHeartbeats 40000000 in
theorem own_make (l : Launch) (Z : State) (a0 : Array Value) (hw : ∀ d ∈ tables_1, d.before a0 Z = true) (h0 : Heap) (n0 : Nat) (O0 : Old Z n0 h0) (n : Nat) (hn : n < 4) (b0 b1 b2 : Int32) :
    own_C l Z (⟨"com/example/broker_access_control/brokeraccesscontrol/wire/AclListingVersionPinLaw", "make", "(IIII)[B"⟩ : MethodName) method_3_code 4 (some (.array .byte)) [] ({ frames := 0, cells := 1, slots := 3, locals := 0 } : Room) #[.int (Int32.ofNat n), .int b0, .int b1, .int b2] h0 (fun v h L => ∃ a, v = some (.ref a) ∧ h0.size ≤ a ∧ Keep h0 h [] ∧ own_B Z h a n (own_f b0 b1 b2) ∧ Fr n0 L) := by
  refine own_body pn_l (fun m => ef_m m _ _ _ _) ?_
  intro p e s m below meth c T Q hx hby hml hown hnm hret hlk hZ e0 X0 hR
  have N0 := Fr.nil n0
  obtain hi' : n = 0 ∨ n = 1 ∨ n = 2 ∨ n = 3 := by omega
  clear hn
  rcases hi' with rfl | rfl | rfl | rfl
  · show own_G p e below Q (T.setTop (mkF m 0 #[.val (.int (Int32.ofNat 0)), .val (.int b0), .val (.int b1), .val (.int b2)] []))
    refine own_go (fun _ k => XS.iloadN X0.here hx rfl (hb hby dm_0) rfl  k) ?_
    show own_G p e below Q (T.setTop (mkF m 1 #[.val (.int (Int32.ofNat 0)), .val (.int b0), .val (.int b1), .val (.int b2)] [(.int (Int32.ofNat 0))]))
    refine own_go (fun _ k => XS.ifNo X0.here hx rfl (hb hby dm_1) rfl ((if0 _ _).trans (teq (by decide : (Int32.ofNat 0) = (0 : Int32))).2) k) ?_
    show own_G p e below Q (T.setTop (mkF m 4 #[.val (.int (Int32.ofNat 0)), .val (.int b0), .val (.int b1), .val (.int b2)] []))
    refine own_go (fun _ k => XS.iconst X0.here hx rfl (hb hby dm_4) k) ?_
    show own_G p e below Q (T.setTop (mkF m 5 #[.val (.int (Int32.ofNat 0)), .val (.int b0), .val (.int b1), .val (.int b2)] [(.int (0 : Int32))]))
    refine own_newB X0 hx hZ (hw _ (List.mem_of_getElem? (i := 4) rfl)) e0 O0 (n := 0) (by decide) (by decide) (by decide) (by decide) (hb hby dm_5) ?_
    intro T1 h1 a1 k1 X1 e1 E1 g1 ga1 O1 F1 B1
    have K1 := (Keep.refl h0 []).ext E1
    replace F1 := F1 (fun j => .int ((own_f b0 b1 b2) j))
    show own_G p e below Q (T1.setTop (mkF m 7 #[.val (.int (Int32.ofNat 0)), .val (.int b0), .val (.int b1), .val (.int b2)] [(.ref a1)]))
    exact own_retR X1 hx hlk rfl rfl rfl hret (hb hby dm_7) (fun U hU hF => hR _ _ _ _ _ ⟨a1, rfl, g1, hU ▸ e1.symm ▸ K1, hU ▸ e1.symm ▸ ⟨⟨_, F1⟩, B1⟩, N0⟩ (by decide) (by decide) hF)
  · show own_G p e below Q (T.setTop (mkF m 0 #[.val (.int (Int32.ofNat 1)), .val (.int b0), .val (.int b1), .val (.int b2)] []))
    refine own_go (fun _ k => XS.iloadN X0.here hx rfl (hb hby dm_0) rfl  k) ?_
    show own_G p e below Q (T.setTop (mkF m 1 #[.val (.int (Int32.ofNat 1)), .val (.int b0), .val (.int b1), .val (.int b2)] [(.int (Int32.ofNat 1))]))
    refine own_go (fun _ k => XS.ifYes X0.here hx rfl (pc0 := 1) (pc' := 8) rfl (hb hby dm_1) rfl ((if0 _ _).trans (feq (by decide : ¬ ((Int32.ofNat 1) = (0 : Int32)))).2) (by decide) (by decide) k) ?_
    show own_G p e below Q (T.setTop (mkF m 8 #[.val (.int (Int32.ofNat 1)), .val (.int b0), .val (.int b1), .val (.int b2)] []))
    refine own_go (fun _ k => XS.iloadN X0.here hx rfl (hb hby dm_8) rfl  k) ?_
    show own_G p e below Q (T.setTop (mkF m 9 #[.val (.int (Int32.ofNat 1)), .val (.int b0), .val (.int b1), .val (.int b2)] [(.int (Int32.ofNat 1))]))
    refine own_go (fun _ k => XS.iconst X0.here hx rfl (hb hby dm_9) k) ?_
    show own_G p e below Q (T.setTop (mkF m 10 #[.val (.int (Int32.ofNat 1)), .val (.int b0), .val (.int b1), .val (.int b2)] [(.int (1 : Int32)), (.int (Int32.ofNat 1))]))
    refine own_go (fun _ k => XS.icmpNo X0.here hx rfl (hb hby dm_10) rfl (teq (by decide : (Int32.ofNat 1) = (1 : Int32))).2 k) ?_
    show own_G p e below Q (T.setTop (mkF m 13 #[.val (.int (Int32.ofNat 1)), .val (.int b0), .val (.int b1), .val (.int b2)] []))
    refine own_go (fun _ k => XS.iconst X0.here hx rfl (hb hby dm_13) k) ?_
    show own_G p e below Q (T.setTop (mkF m 14 #[.val (.int (Int32.ofNat 1)), .val (.int b0), .val (.int b1), .val (.int b2)] [(.int (1 : Int32))]))
    refine own_newB X0 hx hZ (hw _ (List.mem_of_getElem? (i := 4) rfl)) e0 O0 (n := 1) (by decide) (by decide) (by decide) (by decide) (hb hby dm_14) ?_
    intro T2 h2 a2 k2 X2 e2 E2 g2 ga2 O2 F2 B2
    have K2 := (Keep.refl h0 []).ext E2
    replace F2 := F2 (fun j => .int ((own_f b0 b1 b2) j))
    show own_G p e below Q (T2.setTop (mkF m 16 #[.val (.int (Int32.ofNat 1)), .val (.int b0), .val (.int b1), .val (.int b2)] [(.ref a2)]))
    refine own_go (fun _ k => XS.dup X2.here hx rfl (hb hby dm_16) rfl rfl k) ?_
    show own_G p e below Q (T2.setTop (mkF m 17 #[.val (.int (Int32.ofNat 1)), .val (.int b0), .val (.int b1), .val (.int b2)] [(.ref a2), (.ref a2)]))
    refine own_go (fun _ k => XS.iconst X2.here hx rfl (hb hby dm_17) k) ?_
    show own_G p e below Q (T2.setTop (mkF m 18 #[.val (.int (Int32.ofNat 1)), .val (.int b0), .val (.int b1), .val (.int b2)] [(.int (0 : Int32)), (.ref a2), (.ref a2)]))
    refine own_go (fun _ k => XS.iloadN X2.here hx rfl (hb hby dm_18) rfl  k) ?_
    show own_G p e below Q (T2.setTop (mkF m 19 #[.val (.int (Int32.ofNat 1)), .val (.int b0), .val (.int b1), .val (.int b2)] [(.int b0), (.int (0 : Int32)), (.ref a2), (.ref a2)]))
    refine own_go (fun _ k => XS.i2b X2.here hx rfl (hb hby dm_19) rfl k) ?_
    show own_G p e below Q (T2.setTop (mkF m 20 #[.val (.int (Int32.ofNat 1)), .val (.int b0), .val (.int b1), .val (.int b2)] [(.int (b0.toInt8.toInt32)), (.int (0 : Int32)), (.ref a2), (.ref a2)]))
    refine own_stB X2 hx hZ e2 N0 O2 ga2 F2 (by decide) (by decide) (congrArg Value.int (own_nb b0).symm) (by decide) (hb hby dm_20) ?_
    intro T3 h3 l3 X3 e3 N3 O3 W3 F3
    clear X2 e2 O2 F2
    show own_G p e below Q (T3.setTop (mkF m 21 #[.val (.int (Int32.ofNat 1)), .val (.int b0), .val (.int b1), .val (.int b2)] [(.ref a2)]))
    have K3 := K2.wr W3 (Or.inr g2)
    have B3 := Exa.wr W3 B2
    exact own_retR X3 hx hlk rfl rfl rfl hret (hb hby dm_21) (fun U hU hF => hR _ _ _ _ _ ⟨a2, rfl, g2, hU ▸ e3.symm ▸ K3, hU ▸ e3.symm ▸ ⟨⟨_, F3⟩, B3⟩, N3⟩ (by decide) (by decide) hF)
  · show own_G p e below Q (T.setTop (mkF m 0 #[.val (.int (Int32.ofNat 2)), .val (.int b0), .val (.int b1), .val (.int b2)] []))
    refine own_go (fun _ k => XS.iloadN X0.here hx rfl (hb hby dm_0) rfl  k) ?_
    show own_G p e below Q (T.setTop (mkF m 1 #[.val (.int (Int32.ofNat 2)), .val (.int b0), .val (.int b1), .val (.int b2)] [(.int (Int32.ofNat 2))]))
    refine own_go (fun _ k => XS.ifYes X0.here hx rfl (pc0 := 1) (pc' := 8) rfl (hb hby dm_1) rfl ((if0 _ _).trans (feq (by decide : ¬ ((Int32.ofNat 2) = (0 : Int32)))).2) (by decide) (by decide) k) ?_
    show own_G p e below Q (T.setTop (mkF m 8 #[.val (.int (Int32.ofNat 2)), .val (.int b0), .val (.int b1), .val (.int b2)] []))
    refine own_go (fun _ k => XS.iloadN X0.here hx rfl (hb hby dm_8) rfl  k) ?_
    show own_G p e below Q (T.setTop (mkF m 9 #[.val (.int (Int32.ofNat 2)), .val (.int b0), .val (.int b1), .val (.int b2)] [(.int (Int32.ofNat 2))]))
    refine own_go (fun _ k => XS.iconst X0.here hx rfl (hb hby dm_9) k) ?_
    show own_G p e below Q (T.setTop (mkF m 10 #[.val (.int (Int32.ofNat 2)), .val (.int b0), .val (.int b1), .val (.int b2)] [(.int (1 : Int32)), (.int (Int32.ofNat 2))]))
    refine own_go (fun _ k => XS.icmpYes X0.here hx rfl (pc0 := 10) (pc' := 22) rfl (hb hby dm_10) rfl (feq (by decide : ¬ ((Int32.ofNat 2) = (1 : Int32)))).2 (by decide) (by decide) k) ?_
    show own_G p e below Q (T.setTop (mkF m 22 #[.val (.int (Int32.ofNat 2)), .val (.int b0), .val (.int b1), .val (.int b2)] []))
    refine own_go (fun _ k => XS.iloadN X0.here hx rfl (hb hby dm_22) rfl  k) ?_
    show own_G p e below Q (T.setTop (mkF m 23 #[.val (.int (Int32.ofNat 2)), .val (.int b0), .val (.int b1), .val (.int b2)] [(.int (Int32.ofNat 2))]))
    refine own_go (fun _ k => XS.iconst X0.here hx rfl (hb hby dm_23) k) ?_
    show own_G p e below Q (T.setTop (mkF m 24 #[.val (.int (Int32.ofNat 2)), .val (.int b0), .val (.int b1), .val (.int b2)] [(.int (2 : Int32)), (.int (Int32.ofNat 2))]))
    refine own_go (fun _ k => XS.icmpNo X0.here hx rfl (hb hby dm_24) rfl (teq (by decide : (Int32.ofNat 2) = (2 : Int32))).2 k) ?_
    show own_G p e below Q (T.setTop (mkF m 27 #[.val (.int (Int32.ofNat 2)), .val (.int b0), .val (.int b1), .val (.int b2)] []))
    refine own_go (fun _ k => XS.iconst X0.here hx rfl (hb hby dm_27) k) ?_
    show own_G p e below Q (T.setTop (mkF m 28 #[.val (.int (Int32.ofNat 2)), .val (.int b0), .val (.int b1), .val (.int b2)] [(.int (2 : Int32))]))
    refine own_newB X0 hx hZ (hw _ (List.mem_of_getElem? (i := 4) rfl)) e0 O0 (n := 2) (by decide) (by decide) (by decide) (by decide) (hb hby dm_28) ?_
    intro T4 h4 a4 k4 X4 e4 E4 g4 ga4 O4 F4 B4
    have K4 := (Keep.refl h0 []).ext E4
    replace F4 := F4 (fun j => .int ((own_f b0 b1 b2) j))
    show own_G p e below Q (T4.setTop (mkF m 30 #[.val (.int (Int32.ofNat 2)), .val (.int b0), .val (.int b1), .val (.int b2)] [(.ref a4)]))
    refine own_go (fun _ k => XS.dup X4.here hx rfl (hb hby dm_30) rfl rfl k) ?_
    show own_G p e below Q (T4.setTop (mkF m 31 #[.val (.int (Int32.ofNat 2)), .val (.int b0), .val (.int b1), .val (.int b2)] [(.ref a4), (.ref a4)]))
    refine own_go (fun _ k => XS.iconst X4.here hx rfl (hb hby dm_31) k) ?_
    show own_G p e below Q (T4.setTop (mkF m 32 #[.val (.int (Int32.ofNat 2)), .val (.int b0), .val (.int b1), .val (.int b2)] [(.int (0 : Int32)), (.ref a4), (.ref a4)]))
    refine own_go (fun _ k => XS.iloadN X4.here hx rfl (hb hby dm_32) rfl  k) ?_
    show own_G p e below Q (T4.setTop (mkF m 33 #[.val (.int (Int32.ofNat 2)), .val (.int b0), .val (.int b1), .val (.int b2)] [(.int b0), (.int (0 : Int32)), (.ref a4), (.ref a4)]))
    refine own_go (fun _ k => XS.i2b X4.here hx rfl (hb hby dm_33) rfl k) ?_
    show own_G p e below Q (T4.setTop (mkF m 34 #[.val (.int (Int32.ofNat 2)), .val (.int b0), .val (.int b1), .val (.int b2)] [(.int (b0.toInt8.toInt32)), (.int (0 : Int32)), (.ref a4), (.ref a4)]))
    refine own_stB X4 hx hZ e4 N0 O4 ga4 F4 (by decide) (by decide) (congrArg Value.int (own_nb b0).symm) (by decide) (hb hby dm_34) ?_
    intro T5 h5 l5 X5 e5 N5 O5 W5 F5
    clear X4 e4 O4 F4
    show own_G p e below Q (T5.setTop (mkF m 35 #[.val (.int (Int32.ofNat 2)), .val (.int b0), .val (.int b1), .val (.int b2)] [(.ref a4)]))
    have K5 := K4.wr W5 (Or.inr g4)
    have B5 := Exa.wr W5 B4
    refine own_go (fun _ k => XS.dup X5.here hx rfl (hb hby dm_35) rfl rfl k) ?_
    show own_G p e below Q (T5.setTop (mkF m 36 #[.val (.int (Int32.ofNat 2)), .val (.int b0), .val (.int b1), .val (.int b2)] [(.ref a4), (.ref a4)]))
    refine own_go (fun _ k => XS.iconst X5.here hx rfl (hb hby dm_36) k) ?_
    show own_G p e below Q (T5.setTop (mkF m 37 #[.val (.int (Int32.ofNat 2)), .val (.int b0), .val (.int b1), .val (.int b2)] [(.int (1 : Int32)), (.ref a4), (.ref a4)]))
    refine own_go (fun _ k => XS.iloadN X5.here hx rfl (hb hby dm_37) rfl  k) ?_
    show own_G p e below Q (T5.setTop (mkF m 38 #[.val (.int (Int32.ofNat 2)), .val (.int b0), .val (.int b1), .val (.int b2)] [(.int b1), (.int (1 : Int32)), (.ref a4), (.ref a4)]))
    refine own_go (fun _ k => XS.i2b X5.here hx rfl (hb hby dm_38) rfl k) ?_
    show own_G p e below Q (T5.setTop (mkF m 39 #[.val (.int (Int32.ofNat 2)), .val (.int b0), .val (.int b1), .val (.int b2)] [(.int (b1.toInt8.toInt32)), (.int (1 : Int32)), (.ref a4), (.ref a4)]))
    refine own_stB X5 hx hZ e5 N5 O5 ga4 F5 (by decide) (by decide) (congrArg Value.int (own_nb b1).symm) (by decide) (hb hby dm_39) ?_
    intro T6 h6 l6 X6 e6 N6 O6 W6 F6
    clear X5 e5 N5 O5 F5
    show own_G p e below Q (T6.setTop (mkF m 40 #[.val (.int (Int32.ofNat 2)), .val (.int b0), .val (.int b1), .val (.int b2)] [(.ref a4)]))
    have K6 := K5.wr W6 (Or.inr g4)
    have B6 := Exa.wr W6 B5
    exact own_retR X6 hx hlk rfl rfl rfl hret (hb hby dm_40) (fun U hU hF => hR _ _ _ _ _ ⟨a4, rfl, g4, hU ▸ e6.symm ▸ K6, hU ▸ e6.symm ▸ ⟨⟨_, F6⟩, B6⟩, N6⟩ (by decide) (by decide) hF)
  · show own_G p e below Q (T.setTop (mkF m 0 #[.val (.int (Int32.ofNat 3)), .val (.int b0), .val (.int b1), .val (.int b2)] []))
    refine own_go (fun _ k => XS.iloadN X0.here hx rfl (hb hby dm_0) rfl  k) ?_
    show own_G p e below Q (T.setTop (mkF m 1 #[.val (.int (Int32.ofNat 3)), .val (.int b0), .val (.int b1), .val (.int b2)] [(.int (Int32.ofNat 3))]))
    refine own_go (fun _ k => XS.ifYes X0.here hx rfl (pc0 := 1) (pc' := 8) rfl (hb hby dm_1) rfl ((if0 _ _).trans (feq (by decide : ¬ ((Int32.ofNat 3) = (0 : Int32)))).2) (by decide) (by decide) k) ?_
    show own_G p e below Q (T.setTop (mkF m 8 #[.val (.int (Int32.ofNat 3)), .val (.int b0), .val (.int b1), .val (.int b2)] []))
    refine own_go (fun _ k => XS.iloadN X0.here hx rfl (hb hby dm_8) rfl  k) ?_
    show own_G p e below Q (T.setTop (mkF m 9 #[.val (.int (Int32.ofNat 3)), .val (.int b0), .val (.int b1), .val (.int b2)] [(.int (Int32.ofNat 3))]))
    refine own_go (fun _ k => XS.iconst X0.here hx rfl (hb hby dm_9) k) ?_
    show own_G p e below Q (T.setTop (mkF m 10 #[.val (.int (Int32.ofNat 3)), .val (.int b0), .val (.int b1), .val (.int b2)] [(.int (1 : Int32)), (.int (Int32.ofNat 3))]))
    refine own_go (fun _ k => XS.icmpYes X0.here hx rfl (pc0 := 10) (pc' := 22) rfl (hb hby dm_10) rfl (feq (by decide : ¬ ((Int32.ofNat 3) = (1 : Int32)))).2 (by decide) (by decide) k) ?_
    show own_G p e below Q (T.setTop (mkF m 22 #[.val (.int (Int32.ofNat 3)), .val (.int b0), .val (.int b1), .val (.int b2)] []))
    refine own_go (fun _ k => XS.iloadN X0.here hx rfl (hb hby dm_22) rfl  k) ?_
    show own_G p e below Q (T.setTop (mkF m 23 #[.val (.int (Int32.ofNat 3)), .val (.int b0), .val (.int b1), .val (.int b2)] [(.int (Int32.ofNat 3))]))
    refine own_go (fun _ k => XS.iconst X0.here hx rfl (hb hby dm_23) k) ?_
    show own_G p e below Q (T.setTop (mkF m 24 #[.val (.int (Int32.ofNat 3)), .val (.int b0), .val (.int b1), .val (.int b2)] [(.int (2 : Int32)), (.int (Int32.ofNat 3))]))
    refine own_go (fun _ k => XS.icmpYes X0.here hx rfl (pc0 := 24) (pc' := 41) rfl (hb hby dm_24) rfl (feq (by decide : ¬ ((Int32.ofNat 3) = (2 : Int32)))).2 (by decide) (by decide) k) ?_
    show own_G p e below Q (T.setTop (mkF m 41 #[.val (.int (Int32.ofNat 3)), .val (.int b0), .val (.int b1), .val (.int b2)] []))
    refine own_go (fun _ k => XS.iconst X0.here hx rfl (hb hby dm_41) k) ?_
    show own_G p e below Q (T.setTop (mkF m 42 #[.val (.int (Int32.ofNat 3)), .val (.int b0), .val (.int b1), .val (.int b2)] [(.int (3 : Int32))]))
    refine own_newB X0 hx hZ (hw _ (List.mem_of_getElem? (i := 4) rfl)) e0 O0 (n := 3) (by decide) (by decide) (by decide) (by decide) (hb hby dm_42) ?_
    intro T7 h7 a7 k7 X7 e7 E7 g7 ga7 O7 F7 B7
    have K7 := (Keep.refl h0 []).ext E7
    replace F7 := F7 (fun j => .int ((own_f b0 b1 b2) j))
    show own_G p e below Q (T7.setTop (mkF m 44 #[.val (.int (Int32.ofNat 3)), .val (.int b0), .val (.int b1), .val (.int b2)] [(.ref a7)]))
    refine own_go (fun _ k => XS.dup X7.here hx rfl (hb hby dm_44) rfl rfl k) ?_
    show own_G p e below Q (T7.setTop (mkF m 45 #[.val (.int (Int32.ofNat 3)), .val (.int b0), .val (.int b1), .val (.int b2)] [(.ref a7), (.ref a7)]))
    refine own_go (fun _ k => XS.iconst X7.here hx rfl (hb hby dm_45) k) ?_
    show own_G p e below Q (T7.setTop (mkF m 46 #[.val (.int (Int32.ofNat 3)), .val (.int b0), .val (.int b1), .val (.int b2)] [(.int (0 : Int32)), (.ref a7), (.ref a7)]))
    refine own_go (fun _ k => XS.iloadN X7.here hx rfl (hb hby dm_46) rfl  k) ?_
    show own_G p e below Q (T7.setTop (mkF m 47 #[.val (.int (Int32.ofNat 3)), .val (.int b0), .val (.int b1), .val (.int b2)] [(.int b0), (.int (0 : Int32)), (.ref a7), (.ref a7)]))
    refine own_go (fun _ k => XS.i2b X7.here hx rfl (hb hby dm_47) rfl k) ?_
    show own_G p e below Q (T7.setTop (mkF m 48 #[.val (.int (Int32.ofNat 3)), .val (.int b0), .val (.int b1), .val (.int b2)] [(.int (b0.toInt8.toInt32)), (.int (0 : Int32)), (.ref a7), (.ref a7)]))
    refine own_stB X7 hx hZ e7 N0 O7 ga7 F7 (by decide) (by decide) (congrArg Value.int (own_nb b0).symm) (by decide) (hb hby dm_48) ?_
    intro T8 h8 l8 X8 e8 N8 O8 W8 F8
    clear X7 e7 O7 F7
    show own_G p e below Q (T8.setTop (mkF m 49 #[.val (.int (Int32.ofNat 3)), .val (.int b0), .val (.int b1), .val (.int b2)] [(.ref a7)]))
    have K8 := K7.wr W8 (Or.inr g7)
    have B8 := Exa.wr W8 B7
    refine own_go (fun _ k => XS.dup X8.here hx rfl (hb hby dm_49) rfl rfl k) ?_
    show own_G p e below Q (T8.setTop (mkF m 50 #[.val (.int (Int32.ofNat 3)), .val (.int b0), .val (.int b1), .val (.int b2)] [(.ref a7), (.ref a7)]))
    refine own_go (fun _ k => XS.iconst X8.here hx rfl (hb hby dm_50) k) ?_
    show own_G p e below Q (T8.setTop (mkF m 51 #[.val (.int (Int32.ofNat 3)), .val (.int b0), .val (.int b1), .val (.int b2)] [(.int (1 : Int32)), (.ref a7), (.ref a7)]))
    refine own_go (fun _ k => XS.iloadN X8.here hx rfl (hb hby dm_51) rfl  k) ?_
    show own_G p e below Q (T8.setTop (mkF m 52 #[.val (.int (Int32.ofNat 3)), .val (.int b0), .val (.int b1), .val (.int b2)] [(.int b1), (.int (1 : Int32)), (.ref a7), (.ref a7)]))
    refine own_go (fun _ k => XS.i2b X8.here hx rfl (hb hby dm_52) rfl k) ?_
    show own_G p e below Q (T8.setTop (mkF m 53 #[.val (.int (Int32.ofNat 3)), .val (.int b0), .val (.int b1), .val (.int b2)] [(.int (b1.toInt8.toInt32)), (.int (1 : Int32)), (.ref a7), (.ref a7)]))
    refine own_stB X8 hx hZ e8 N8 O8 ga7 F8 (by decide) (by decide) (congrArg Value.int (own_nb b1).symm) (by decide) (hb hby dm_53) ?_
    intro T9 h9 l9 X9 e9 N9 O9 W9 F9
    clear X8 e8 N8 O8 F8
    show own_G p e below Q (T9.setTop (mkF m 54 #[.val (.int (Int32.ofNat 3)), .val (.int b0), .val (.int b1), .val (.int b2)] [(.ref a7)]))
    have K9 := K8.wr W9 (Or.inr g7)
    have B9 := Exa.wr W9 B8
    refine own_go (fun _ k => XS.dup X9.here hx rfl (hb hby dm_54) rfl rfl k) ?_
    show own_G p e below Q (T9.setTop (mkF m 55 #[.val (.int (Int32.ofNat 3)), .val (.int b0), .val (.int b1), .val (.int b2)] [(.ref a7), (.ref a7)]))
    refine own_go (fun _ k => XS.iconst X9.here hx rfl (hb hby dm_55) k) ?_
    show own_G p e below Q (T9.setTop (mkF m 56 #[.val (.int (Int32.ofNat 3)), .val (.int b0), .val (.int b1), .val (.int b2)] [(.int (2 : Int32)), (.ref a7), (.ref a7)]))
    refine own_go (fun _ k => XS.iloadN X9.here hx rfl (hb hby dm_56) rfl  k) ?_
    show own_G p e below Q (T9.setTop (mkF m 57 #[.val (.int (Int32.ofNat 3)), .val (.int b0), .val (.int b1), .val (.int b2)] [(.int b2), (.int (2 : Int32)), (.ref a7), (.ref a7)]))
    refine own_go (fun _ k => XS.i2b X9.here hx rfl (hb hby dm_57) rfl k) ?_
    show own_G p e below Q (T9.setTop (mkF m 58 #[.val (.int (Int32.ofNat 3)), .val (.int b0), .val (.int b1), .val (.int b2)] [(.int (b2.toInt8.toInt32)), (.int (2 : Int32)), (.ref a7), (.ref a7)]))
    refine own_stB X9 hx hZ e9 N9 O9 ga7 F9 (by decide) (by decide) (congrArg Value.int (own_nb b2).symm) (by decide) (hb hby dm_58) ?_
    intro T10 h10 l10 X10 e10 N10 O10 W10 F10
    clear X9 e9 N9 O9 F9
    show own_G p e below Q (T10.setTop (mkF m 59 #[.val (.int (Int32.ofNat 3)), .val (.int b0), .val (.int b1), .val (.int b2)] [(.ref a7)]))
    have K10 := K9.wr W10 (Or.inr g7)
    have B10 := Exa.wr W10 B9
    exact own_retR X10 hx hlk rfl rfl rfl hret (hb hby dm_59) (fun U hU hF => hR _ _ _ _ _ ⟨a7, rfl, g7, hU ▸ e10.symm ▸ K10, hU ▸ e10.symm ▸ ⟨⟨_, F10⟩, B10⟩, N10⟩ (by decide) (by decide) hF)
set_option maxRecDepth 65536 in
set_option maxHeartbeats 40000000 in
theorem own_same (l : Launch) (Z : State) (a0 : Array Value) (hw : ∀ d ∈ tables_1, d.before a0 Z = true) (h0 : Heap) (a : Addr) (n : Nat) (hn : n < 4) (b0 b1 b2 : Int32) (B : own_B Z h0 a n (own_f b0 b1 b2)) :
    own_C l Z (⟨"com/example/broker_access_control/brokeraccesscontrol/wire/AclListingVersionPinLaw", "same", "([BIIII)Z"⟩ : MethodName) method_5_code 5 (some .boolean) [] ({ frames := 0, cells := 0, slots := 0, locals := 0 } : Room) #[.ref a, .int (Int32.ofNat n), .int b0, .int b1, .int b2] h0 (own_P (.int 1) h0) := by
  refine own_body pn_l (fun m => ef_s m _ _ _ _ _) ?_
  intro p e s m below meth c T Q hx hby hml hown hnm hret hlk hZ e0 X0 hR
  obtain ⟨⟨k, F⟩, -⟩ := B
  obtain hi' : n = 0 ∨ n = 1 ∨ n = 2 ∨ n = 3 := by omega
  clear hn
  rcases hi' with rfl | rfl | rfl | rfl
  · show own_G p e below Q (T.setTop (mkF m 0 #[.val (.ref a), .val (.int (Int32.ofNat 0)), .val (.int b0), .val (.int b1), .val (.int b2)] []))
    refine own_go (fun _ k => XS.aloadN X0.here hx rfl (hb hby dsm_0) rfl rfl  k) ?_
    show own_G p e below Q (T.setTop (mkF m 1 #[.val (.ref a), .val (.int (Int32.ofNat 0)), .val (.int b0), .val (.int b1), .val (.int b2)] [(.ref a)]))
    refine own_len X0 hx hZ e0 F (hb hby dsm_1) ?_
    show own_G p e below Q (T.setTop (mkF m 2 #[.val (.ref a), .val (.int (Int32.ofNat 0)), .val (.int b0), .val (.int b1), .val (.int b2)] [(.int (Int32.ofNat 0))]))
    refine own_go (fun _ k => XS.iloadN X0.here hx rfl (hb hby dsm_2) rfl  k) ?_
    show own_G p e below Q (T.setTop (mkF m 3 #[.val (.ref a), .val (.int (Int32.ofNat 0)), .val (.int b0), .val (.int b1), .val (.int b2)] [(.int (Int32.ofNat 0)), (.int (Int32.ofNat 0))]))
    refine own_go (fun _ k => XS.icmpNo X0.here hx rfl (hb hby dsm_3) rfl (teq rfl).2 k) ?_
    show own_G p e below Q (T.setTop (mkF m 6 #[.val (.ref a), .val (.int (Int32.ofNat 0)), .val (.int b0), .val (.int b1), .val (.int b2)] []))
    refine own_go (fun _ k => XS.iloadN X0.here hx rfl (hb hby dsm_6) rfl  k) ?_
    show own_G p e below Q (T.setTop (mkF m 7 #[.val (.ref a), .val (.int (Int32.ofNat 0)), .val (.int b0), .val (.int b1), .val (.int b2)] [(.int (Int32.ofNat 0))]))
    refine own_go (fun _ k => XS.iconst X0.here hx rfl (hb hby dsm_7) k) ?_
    show own_G p e below Q (T.setTop (mkF m 8 #[.val (.ref a), .val (.int (Int32.ofNat 0)), .val (.int b0), .val (.int b1), .val (.int b2)] [(.int (1 : Int32)), (.int (Int32.ofNat 0))]))
    refine own_go (fun _ k => XS.icmpYes X0.here hx rfl (pc0 := 8) (pc' := 19) rfl (hb hby dsm_8) rfl (tlt (by decide : (Int32.ofNat 0) < (1 : Int32))).1 (by decide) (by decide) k) ?_
    show own_G p e below Q (T.setTop (mkF m 19 #[.val (.ref a), .val (.int (Int32.ofNat 0)), .val (.int b0), .val (.int b1), .val (.int b2)] []))
    refine own_go (fun _ k => XS.iloadN X0.here hx rfl (hb hby dsm_19) rfl  k) ?_
    show own_G p e below Q (T.setTop (mkF m 20 #[.val (.ref a), .val (.int (Int32.ofNat 0)), .val (.int b0), .val (.int b1), .val (.int b2)] [(.int (Int32.ofNat 0))]))
    refine own_go (fun _ k => XS.iconst X0.here hx rfl (hb hby dsm_20) k) ?_
    show own_G p e below Q (T.setTop (mkF m 21 #[.val (.ref a), .val (.int (Int32.ofNat 0)), .val (.int b0), .val (.int b1), .val (.int b2)] [(.int (2 : Int32)), (.int (Int32.ofNat 0))]))
    refine own_go (fun _ k => XS.icmpYes X0.here hx rfl (pc0 := 21) (pc' := 32) rfl (hb hby dsm_21) rfl (tlt (by decide : (Int32.ofNat 0) < (2 : Int32))).1 (by decide) (by decide) k) ?_
    show own_G p e below Q (T.setTop (mkF m 32 #[.val (.ref a), .val (.int (Int32.ofNat 0)), .val (.int b0), .val (.int b1), .val (.int b2)] []))
    refine own_go (fun _ k => XS.iloadN X0.here hx rfl (hb hby dsm_32) rfl  k) ?_
    show own_G p e below Q (T.setTop (mkF m 33 #[.val (.ref a), .val (.int (Int32.ofNat 0)), .val (.int b0), .val (.int b1), .val (.int b2)] [(.int (Int32.ofNat 0))]))
    refine own_go (fun _ k => XS.iconst X0.here hx rfl (hb hby dsm_33) k) ?_
    show own_G p e below Q (T.setTop (mkF m 34 #[.val (.ref a), .val (.int (Int32.ofNat 0)), .val (.int b0), .val (.int b1), .val (.int b2)] [(.int (3 : Int32)), (.int (Int32.ofNat 0))]))
    refine own_go (fun _ k => XS.icmpYes X0.here hx rfl (pc0 := 34) (pc' := 46) rfl (hb hby dsm_34) rfl (tlt (by decide : (Int32.ofNat 0) < (3 : Int32))).1 (by decide) (by decide) k) ?_
    show own_G p e below Q (T.setTop (mkF m 46 #[.val (.ref a), .val (.int (Int32.ofNat 0)), .val (.int b0), .val (.int b1), .val (.int b2)] []))
    refine own_go (fun _ k => XS.iconst X0.here hx rfl (hb hby dsm_46) k) ?_
    show own_G p e below Q (T.setTop (mkF m 47 #[.val (.ref a), .val (.int (Int32.ofNat 0)), .val (.int b0), .val (.int b1), .val (.int b2)] [(.int (1 : Int32))]))
    refine own_go (fun _ k => XS.goto X0.here hx rfl (pc0 := 47) (pc' := 51) rfl (hb hby dsm_47) (by decide) (by decide) k) ?_
    show own_G p e below Q (T.setTop (mkF m 51 #[.val (.ref a), .val (.int (Int32.ofNat 0)), .val (.int b0), .val (.int b1), .val (.int b2)] [(.int (1 : Int32))]))
    exact own_retN X0 hx hlk (Or.inl rfl) hret (hb hby dsm_51) rfl (fun U hU hF => hR _ _ _ _ _ ⟨rfl, hU.trans e0, rfl⟩ (by decide) (by decide) hF)
  · show own_G p e below Q (T.setTop (mkF m 0 #[.val (.ref a), .val (.int (Int32.ofNat 1)), .val (.int b0), .val (.int b1), .val (.int b2)] []))
    refine own_go (fun _ k => XS.aloadN X0.here hx rfl (hb hby dsm_0) rfl rfl  k) ?_
    show own_G p e below Q (T.setTop (mkF m 1 #[.val (.ref a), .val (.int (Int32.ofNat 1)), .val (.int b0), .val (.int b1), .val (.int b2)] [(.ref a)]))
    refine own_len X0 hx hZ e0 F (hb hby dsm_1) ?_
    show own_G p e below Q (T.setTop (mkF m 2 #[.val (.ref a), .val (.int (Int32.ofNat 1)), .val (.int b0), .val (.int b1), .val (.int b2)] [(.int (Int32.ofNat 1))]))
    refine own_go (fun _ k => XS.iloadN X0.here hx rfl (hb hby dsm_2) rfl  k) ?_
    show own_G p e below Q (T.setTop (mkF m 3 #[.val (.ref a), .val (.int (Int32.ofNat 1)), .val (.int b0), .val (.int b1), .val (.int b2)] [(.int (Int32.ofNat 1)), (.int (Int32.ofNat 1))]))
    refine own_go (fun _ k => XS.icmpNo X0.here hx rfl (hb hby dsm_3) rfl (teq rfl).2 k) ?_
    show own_G p e below Q (T.setTop (mkF m 6 #[.val (.ref a), .val (.int (Int32.ofNat 1)), .val (.int b0), .val (.int b1), .val (.int b2)] []))
    refine own_go (fun _ k => XS.iloadN X0.here hx rfl (hb hby dsm_6) rfl  k) ?_
    show own_G p e below Q (T.setTop (mkF m 7 #[.val (.ref a), .val (.int (Int32.ofNat 1)), .val (.int b0), .val (.int b1), .val (.int b2)] [(.int (Int32.ofNat 1))]))
    refine own_go (fun _ k => XS.iconst X0.here hx rfl (hb hby dsm_7) k) ?_
    show own_G p e below Q (T.setTop (mkF m 8 #[.val (.ref a), .val (.int (Int32.ofNat 1)), .val (.int b0), .val (.int b1), .val (.int b2)] [(.int (1 : Int32)), (.int (Int32.ofNat 1))]))
    refine own_go (fun _ k => XS.icmpNo X0.here hx rfl (hb hby dsm_8) rfl (flt (by decide : ¬ ((Int32.ofNat 1) < (1 : Int32)))).1 k) ?_
    show own_G p e below Q (T.setTop (mkF m 11 #[.val (.ref a), .val (.int (Int32.ofNat 1)), .val (.int b0), .val (.int b1), .val (.int b2)] []))
    refine own_go (fun _ k => XS.aloadN X0.here hx rfl (hb hby dsm_11) rfl rfl  k) ?_
    show own_G p e below Q (T.setTop (mkF m 12 #[.val (.ref a), .val (.int (Int32.ofNat 1)), .val (.int b0), .val (.int b1), .val (.int b2)] [(.ref a)]))
    refine own_go (fun _ k => XS.iconst X0.here hx rfl (hb hby dsm_12) k) ?_
    show own_G p e below Q (T.setTop (mkF m 13 #[.val (.ref a), .val (.int (Int32.ofNat 1)), .val (.int b0), .val (.int b1), .val (.int b2)] [(.int (0 : Int32)), (.ref a)]))
    refine own_ldB X0 hx hZ e0 F (i := 0) (by decide) (by decide) (by decide) (hb hby dsm_13) ?_
    show own_G p e below Q (T.setTop (mkF m 14 #[.val (.ref a), .val (.int (Int32.ofNat 1)), .val (.int b0), .val (.int b1), .val (.int b2)] [(.int (b0.toInt8.toInt32))]))
    refine own_go (fun _ k => XS.iloadN X0.here hx rfl (hb hby dsm_14) rfl  k) ?_
    show own_G p e below Q (T.setTop (mkF m 15 #[.val (.ref a), .val (.int (Int32.ofNat 1)), .val (.int b0), .val (.int b1), .val (.int b2)] [(.int b0), (.int (b0.toInt8.toInt32))]))
    refine own_go (fun _ k => XS.i2b X0.here hx rfl (hb hby dsm_15) rfl k) ?_
    show own_G p e below Q (T.setTop (mkF m 16 #[.val (.ref a), .val (.int (Int32.ofNat 1)), .val (.int b0), .val (.int b1), .val (.int b2)] [(.int (b0.toInt8.toInt32)), (.int (b0.toInt8.toInt32))]))
    refine own_go (fun _ k => XS.icmpNo X0.here hx rfl (hb hby dsm_16) rfl (teq rfl).2 k) ?_
    show own_G p e below Q (T.setTop (mkF m 19 #[.val (.ref a), .val (.int (Int32.ofNat 1)), .val (.int b0), .val (.int b1), .val (.int b2)] []))
    refine own_go (fun _ k => XS.iloadN X0.here hx rfl (hb hby dsm_19) rfl  k) ?_
    show own_G p e below Q (T.setTop (mkF m 20 #[.val (.ref a), .val (.int (Int32.ofNat 1)), .val (.int b0), .val (.int b1), .val (.int b2)] [(.int (Int32.ofNat 1))]))
    refine own_go (fun _ k => XS.iconst X0.here hx rfl (hb hby dsm_20) k) ?_
    show own_G p e below Q (T.setTop (mkF m 21 #[.val (.ref a), .val (.int (Int32.ofNat 1)), .val (.int b0), .val (.int b1), .val (.int b2)] [(.int (2 : Int32)), (.int (Int32.ofNat 1))]))
    refine own_go (fun _ k => XS.icmpYes X0.here hx rfl (pc0 := 21) (pc' := 32) rfl (hb hby dsm_21) rfl (tlt (by decide : (Int32.ofNat 1) < (2 : Int32))).1 (by decide) (by decide) k) ?_
    show own_G p e below Q (T.setTop (mkF m 32 #[.val (.ref a), .val (.int (Int32.ofNat 1)), .val (.int b0), .val (.int b1), .val (.int b2)] []))
    refine own_go (fun _ k => XS.iloadN X0.here hx rfl (hb hby dsm_32) rfl  k) ?_
    show own_G p e below Q (T.setTop (mkF m 33 #[.val (.ref a), .val (.int (Int32.ofNat 1)), .val (.int b0), .val (.int b1), .val (.int b2)] [(.int (Int32.ofNat 1))]))
    refine own_go (fun _ k => XS.iconst X0.here hx rfl (hb hby dsm_33) k) ?_
    show own_G p e below Q (T.setTop (mkF m 34 #[.val (.ref a), .val (.int (Int32.ofNat 1)), .val (.int b0), .val (.int b1), .val (.int b2)] [(.int (3 : Int32)), (.int (Int32.ofNat 1))]))
    refine own_go (fun _ k => XS.icmpYes X0.here hx rfl (pc0 := 34) (pc' := 46) rfl (hb hby dsm_34) rfl (tlt (by decide : (Int32.ofNat 1) < (3 : Int32))).1 (by decide) (by decide) k) ?_
    show own_G p e below Q (T.setTop (mkF m 46 #[.val (.ref a), .val (.int (Int32.ofNat 1)), .val (.int b0), .val (.int b1), .val (.int b2)] []))
    refine own_go (fun _ k => XS.iconst X0.here hx rfl (hb hby dsm_46) k) ?_
    show own_G p e below Q (T.setTop (mkF m 47 #[.val (.ref a), .val (.int (Int32.ofNat 1)), .val (.int b0), .val (.int b1), .val (.int b2)] [(.int (1 : Int32))]))
    refine own_go (fun _ k => XS.goto X0.here hx rfl (pc0 := 47) (pc' := 51) rfl (hb hby dsm_47) (by decide) (by decide) k) ?_
    show own_G p e below Q (T.setTop (mkF m 51 #[.val (.ref a), .val (.int (Int32.ofNat 1)), .val (.int b0), .val (.int b1), .val (.int b2)] [(.int (1 : Int32))]))
    exact own_retN X0 hx hlk (Or.inl rfl) hret (hb hby dsm_51) rfl (fun U hU hF => hR _ _ _ _ _ ⟨rfl, hU.trans e0, rfl⟩ (by decide) (by decide) hF)
  · show own_G p e below Q (T.setTop (mkF m 0 #[.val (.ref a), .val (.int (Int32.ofNat 2)), .val (.int b0), .val (.int b1), .val (.int b2)] []))
    refine own_go (fun _ k => XS.aloadN X0.here hx rfl (hb hby dsm_0) rfl rfl  k) ?_
    show own_G p e below Q (T.setTop (mkF m 1 #[.val (.ref a), .val (.int (Int32.ofNat 2)), .val (.int b0), .val (.int b1), .val (.int b2)] [(.ref a)]))
    refine own_len X0 hx hZ e0 F (hb hby dsm_1) ?_
    show own_G p e below Q (T.setTop (mkF m 2 #[.val (.ref a), .val (.int (Int32.ofNat 2)), .val (.int b0), .val (.int b1), .val (.int b2)] [(.int (Int32.ofNat 2))]))
    refine own_go (fun _ k => XS.iloadN X0.here hx rfl (hb hby dsm_2) rfl  k) ?_
    show own_G p e below Q (T.setTop (mkF m 3 #[.val (.ref a), .val (.int (Int32.ofNat 2)), .val (.int b0), .val (.int b1), .val (.int b2)] [(.int (Int32.ofNat 2)), (.int (Int32.ofNat 2))]))
    refine own_go (fun _ k => XS.icmpNo X0.here hx rfl (hb hby dsm_3) rfl (teq rfl).2 k) ?_
    show own_G p e below Q (T.setTop (mkF m 6 #[.val (.ref a), .val (.int (Int32.ofNat 2)), .val (.int b0), .val (.int b1), .val (.int b2)] []))
    refine own_go (fun _ k => XS.iloadN X0.here hx rfl (hb hby dsm_6) rfl  k) ?_
    show own_G p e below Q (T.setTop (mkF m 7 #[.val (.ref a), .val (.int (Int32.ofNat 2)), .val (.int b0), .val (.int b1), .val (.int b2)] [(.int (Int32.ofNat 2))]))
    refine own_go (fun _ k => XS.iconst X0.here hx rfl (hb hby dsm_7) k) ?_
    show own_G p e below Q (T.setTop (mkF m 8 #[.val (.ref a), .val (.int (Int32.ofNat 2)), .val (.int b0), .val (.int b1), .val (.int b2)] [(.int (1 : Int32)), (.int (Int32.ofNat 2))]))
    refine own_go (fun _ k => XS.icmpNo X0.here hx rfl (hb hby dsm_8) rfl (flt (by decide : ¬ ((Int32.ofNat 2) < (1 : Int32)))).1 k) ?_
    show own_G p e below Q (T.setTop (mkF m 11 #[.val (.ref a), .val (.int (Int32.ofNat 2)), .val (.int b0), .val (.int b1), .val (.int b2)] []))
    refine own_go (fun _ k => XS.aloadN X0.here hx rfl (hb hby dsm_11) rfl rfl  k) ?_
    show own_G p e below Q (T.setTop (mkF m 12 #[.val (.ref a), .val (.int (Int32.ofNat 2)), .val (.int b0), .val (.int b1), .val (.int b2)] [(.ref a)]))
    refine own_go (fun _ k => XS.iconst X0.here hx rfl (hb hby dsm_12) k) ?_
    show own_G p e below Q (T.setTop (mkF m 13 #[.val (.ref a), .val (.int (Int32.ofNat 2)), .val (.int b0), .val (.int b1), .val (.int b2)] [(.int (0 : Int32)), (.ref a)]))
    refine own_ldB X0 hx hZ e0 F (i := 0) (by decide) (by decide) (by decide) (hb hby dsm_13) ?_
    show own_G p e below Q (T.setTop (mkF m 14 #[.val (.ref a), .val (.int (Int32.ofNat 2)), .val (.int b0), .val (.int b1), .val (.int b2)] [(.int (b0.toInt8.toInt32))]))
    refine own_go (fun _ k => XS.iloadN X0.here hx rfl (hb hby dsm_14) rfl  k) ?_
    show own_G p e below Q (T.setTop (mkF m 15 #[.val (.ref a), .val (.int (Int32.ofNat 2)), .val (.int b0), .val (.int b1), .val (.int b2)] [(.int b0), (.int (b0.toInt8.toInt32))]))
    refine own_go (fun _ k => XS.i2b X0.here hx rfl (hb hby dsm_15) rfl k) ?_
    show own_G p e below Q (T.setTop (mkF m 16 #[.val (.ref a), .val (.int (Int32.ofNat 2)), .val (.int b0), .val (.int b1), .val (.int b2)] [(.int (b0.toInt8.toInt32)), (.int (b0.toInt8.toInt32))]))
    refine own_go (fun _ k => XS.icmpNo X0.here hx rfl (hb hby dsm_16) rfl (teq rfl).2 k) ?_
    show own_G p e below Q (T.setTop (mkF m 19 #[.val (.ref a), .val (.int (Int32.ofNat 2)), .val (.int b0), .val (.int b1), .val (.int b2)] []))
    refine own_go (fun _ k => XS.iloadN X0.here hx rfl (hb hby dsm_19) rfl  k) ?_
    show own_G p e below Q (T.setTop (mkF m 20 #[.val (.ref a), .val (.int (Int32.ofNat 2)), .val (.int b0), .val (.int b1), .val (.int b2)] [(.int (Int32.ofNat 2))]))
    refine own_go (fun _ k => XS.iconst X0.here hx rfl (hb hby dsm_20) k) ?_
    show own_G p e below Q (T.setTop (mkF m 21 #[.val (.ref a), .val (.int (Int32.ofNat 2)), .val (.int b0), .val (.int b1), .val (.int b2)] [(.int (2 : Int32)), (.int (Int32.ofNat 2))]))
    refine own_go (fun _ k => XS.icmpNo X0.here hx rfl (hb hby dsm_21) rfl (flt (by decide : ¬ ((Int32.ofNat 2) < (2 : Int32)))).1 k) ?_
    show own_G p e below Q (T.setTop (mkF m 24 #[.val (.ref a), .val (.int (Int32.ofNat 2)), .val (.int b0), .val (.int b1), .val (.int b2)] []))
    refine own_go (fun _ k => XS.aloadN X0.here hx rfl (hb hby dsm_24) rfl rfl  k) ?_
    show own_G p e below Q (T.setTop (mkF m 25 #[.val (.ref a), .val (.int (Int32.ofNat 2)), .val (.int b0), .val (.int b1), .val (.int b2)] [(.ref a)]))
    refine own_go (fun _ k => XS.iconst X0.here hx rfl (hb hby dsm_25) k) ?_
    show own_G p e below Q (T.setTop (mkF m 26 #[.val (.ref a), .val (.int (Int32.ofNat 2)), .val (.int b0), .val (.int b1), .val (.int b2)] [(.int (1 : Int32)), (.ref a)]))
    refine own_ldB X0 hx hZ e0 F (i := 1) (by decide) (by decide) (by decide) (hb hby dsm_26) ?_
    show own_G p e below Q (T.setTop (mkF m 27 #[.val (.ref a), .val (.int (Int32.ofNat 2)), .val (.int b0), .val (.int b1), .val (.int b2)] [(.int (b1.toInt8.toInt32))]))
    refine own_go (fun _ k => XS.iloadN X0.here hx rfl (hb hby dsm_27) rfl  k) ?_
    show own_G p e below Q (T.setTop (mkF m 28 #[.val (.ref a), .val (.int (Int32.ofNat 2)), .val (.int b0), .val (.int b1), .val (.int b2)] [(.int b1), (.int (b1.toInt8.toInt32))]))
    refine own_go (fun _ k => XS.i2b X0.here hx rfl (hb hby dsm_28) rfl k) ?_
    show own_G p e below Q (T.setTop (mkF m 29 #[.val (.ref a), .val (.int (Int32.ofNat 2)), .val (.int b0), .val (.int b1), .val (.int b2)] [(.int (b1.toInt8.toInt32)), (.int (b1.toInt8.toInt32))]))
    refine own_go (fun _ k => XS.icmpNo X0.here hx rfl (hb hby dsm_29) rfl (teq rfl).2 k) ?_
    show own_G p e below Q (T.setTop (mkF m 32 #[.val (.ref a), .val (.int (Int32.ofNat 2)), .val (.int b0), .val (.int b1), .val (.int b2)] []))
    refine own_go (fun _ k => XS.iloadN X0.here hx rfl (hb hby dsm_32) rfl  k) ?_
    show own_G p e below Q (T.setTop (mkF m 33 #[.val (.ref a), .val (.int (Int32.ofNat 2)), .val (.int b0), .val (.int b1), .val (.int b2)] [(.int (Int32.ofNat 2))]))
    refine own_go (fun _ k => XS.iconst X0.here hx rfl (hb hby dsm_33) k) ?_
    show own_G p e below Q (T.setTop (mkF m 34 #[.val (.ref a), .val (.int (Int32.ofNat 2)), .val (.int b0), .val (.int b1), .val (.int b2)] [(.int (3 : Int32)), (.int (Int32.ofNat 2))]))
    refine own_go (fun _ k => XS.icmpYes X0.here hx rfl (pc0 := 34) (pc' := 46) rfl (hb hby dsm_34) rfl (tlt (by decide : (Int32.ofNat 2) < (3 : Int32))).1 (by decide) (by decide) k) ?_
    show own_G p e below Q (T.setTop (mkF m 46 #[.val (.ref a), .val (.int (Int32.ofNat 2)), .val (.int b0), .val (.int b1), .val (.int b2)] []))
    refine own_go (fun _ k => XS.iconst X0.here hx rfl (hb hby dsm_46) k) ?_
    show own_G p e below Q (T.setTop (mkF m 47 #[.val (.ref a), .val (.int (Int32.ofNat 2)), .val (.int b0), .val (.int b1), .val (.int b2)] [(.int (1 : Int32))]))
    refine own_go (fun _ k => XS.goto X0.here hx rfl (pc0 := 47) (pc' := 51) rfl (hb hby dsm_47) (by decide) (by decide) k) ?_
    show own_G p e below Q (T.setTop (mkF m 51 #[.val (.ref a), .val (.int (Int32.ofNat 2)), .val (.int b0), .val (.int b1), .val (.int b2)] [(.int (1 : Int32))]))
    exact own_retN X0 hx hlk (Or.inl rfl) hret (hb hby dsm_51) rfl (fun U hU hF => hR _ _ _ _ _ ⟨rfl, hU.trans e0, rfl⟩ (by decide) (by decide) hF)
  · show own_G p e below Q (T.setTop (mkF m 0 #[.val (.ref a), .val (.int (Int32.ofNat 3)), .val (.int b0), .val (.int b1), .val (.int b2)] []))
    refine own_go (fun _ k => XS.aloadN X0.here hx rfl (hb hby dsm_0) rfl rfl  k) ?_
    show own_G p e below Q (T.setTop (mkF m 1 #[.val (.ref a), .val (.int (Int32.ofNat 3)), .val (.int b0), .val (.int b1), .val (.int b2)] [(.ref a)]))
    refine own_len X0 hx hZ e0 F (hb hby dsm_1) ?_
    show own_G p e below Q (T.setTop (mkF m 2 #[.val (.ref a), .val (.int (Int32.ofNat 3)), .val (.int b0), .val (.int b1), .val (.int b2)] [(.int (Int32.ofNat 3))]))
    refine own_go (fun _ k => XS.iloadN X0.here hx rfl (hb hby dsm_2) rfl  k) ?_
    show own_G p e below Q (T.setTop (mkF m 3 #[.val (.ref a), .val (.int (Int32.ofNat 3)), .val (.int b0), .val (.int b1), .val (.int b2)] [(.int (Int32.ofNat 3)), (.int (Int32.ofNat 3))]))
    refine own_go (fun _ k => XS.icmpNo X0.here hx rfl (hb hby dsm_3) rfl (teq rfl).2 k) ?_
    show own_G p e below Q (T.setTop (mkF m 6 #[.val (.ref a), .val (.int (Int32.ofNat 3)), .val (.int b0), .val (.int b1), .val (.int b2)] []))
    refine own_go (fun _ k => XS.iloadN X0.here hx rfl (hb hby dsm_6) rfl  k) ?_
    show own_G p e below Q (T.setTop (mkF m 7 #[.val (.ref a), .val (.int (Int32.ofNat 3)), .val (.int b0), .val (.int b1), .val (.int b2)] [(.int (Int32.ofNat 3))]))
    refine own_go (fun _ k => XS.iconst X0.here hx rfl (hb hby dsm_7) k) ?_
    show own_G p e below Q (T.setTop (mkF m 8 #[.val (.ref a), .val (.int (Int32.ofNat 3)), .val (.int b0), .val (.int b1), .val (.int b2)] [(.int (1 : Int32)), (.int (Int32.ofNat 3))]))
    refine own_go (fun _ k => XS.icmpNo X0.here hx rfl (hb hby dsm_8) rfl (flt (by decide : ¬ ((Int32.ofNat 3) < (1 : Int32)))).1 k) ?_
    show own_G p e below Q (T.setTop (mkF m 11 #[.val (.ref a), .val (.int (Int32.ofNat 3)), .val (.int b0), .val (.int b1), .val (.int b2)] []))
    refine own_go (fun _ k => XS.aloadN X0.here hx rfl (hb hby dsm_11) rfl rfl  k) ?_
    show own_G p e below Q (T.setTop (mkF m 12 #[.val (.ref a), .val (.int (Int32.ofNat 3)), .val (.int b0), .val (.int b1), .val (.int b2)] [(.ref a)]))
    refine own_go (fun _ k => XS.iconst X0.here hx rfl (hb hby dsm_12) k) ?_
    show own_G p e below Q (T.setTop (mkF m 13 #[.val (.ref a), .val (.int (Int32.ofNat 3)), .val (.int b0), .val (.int b1), .val (.int b2)] [(.int (0 : Int32)), (.ref a)]))
    refine own_ldB X0 hx hZ e0 F (i := 0) (by decide) (by decide) (by decide) (hb hby dsm_13) ?_
    show own_G p e below Q (T.setTop (mkF m 14 #[.val (.ref a), .val (.int (Int32.ofNat 3)), .val (.int b0), .val (.int b1), .val (.int b2)] [(.int (b0.toInt8.toInt32))]))
    refine own_go (fun _ k => XS.iloadN X0.here hx rfl (hb hby dsm_14) rfl  k) ?_
    show own_G p e below Q (T.setTop (mkF m 15 #[.val (.ref a), .val (.int (Int32.ofNat 3)), .val (.int b0), .val (.int b1), .val (.int b2)] [(.int b0), (.int (b0.toInt8.toInt32))]))
    refine own_go (fun _ k => XS.i2b X0.here hx rfl (hb hby dsm_15) rfl k) ?_
    show own_G p e below Q (T.setTop (mkF m 16 #[.val (.ref a), .val (.int (Int32.ofNat 3)), .val (.int b0), .val (.int b1), .val (.int b2)] [(.int (b0.toInt8.toInt32)), (.int (b0.toInt8.toInt32))]))
    refine own_go (fun _ k => XS.icmpNo X0.here hx rfl (hb hby dsm_16) rfl (teq rfl).2 k) ?_
    show own_G p e below Q (T.setTop (mkF m 19 #[.val (.ref a), .val (.int (Int32.ofNat 3)), .val (.int b0), .val (.int b1), .val (.int b2)] []))
    refine own_go (fun _ k => XS.iloadN X0.here hx rfl (hb hby dsm_19) rfl  k) ?_
    show own_G p e below Q (T.setTop (mkF m 20 #[.val (.ref a), .val (.int (Int32.ofNat 3)), .val (.int b0), .val (.int b1), .val (.int b2)] [(.int (Int32.ofNat 3))]))
    refine own_go (fun _ k => XS.iconst X0.here hx rfl (hb hby dsm_20) k) ?_
    show own_G p e below Q (T.setTop (mkF m 21 #[.val (.ref a), .val (.int (Int32.ofNat 3)), .val (.int b0), .val (.int b1), .val (.int b2)] [(.int (2 : Int32)), (.int (Int32.ofNat 3))]))
    refine own_go (fun _ k => XS.icmpNo X0.here hx rfl (hb hby dsm_21) rfl (flt (by decide : ¬ ((Int32.ofNat 3) < (2 : Int32)))).1 k) ?_
    show own_G p e below Q (T.setTop (mkF m 24 #[.val (.ref a), .val (.int (Int32.ofNat 3)), .val (.int b0), .val (.int b1), .val (.int b2)] []))
    refine own_go (fun _ k => XS.aloadN X0.here hx rfl (hb hby dsm_24) rfl rfl  k) ?_
    show own_G p e below Q (T.setTop (mkF m 25 #[.val (.ref a), .val (.int (Int32.ofNat 3)), .val (.int b0), .val (.int b1), .val (.int b2)] [(.ref a)]))
    refine own_go (fun _ k => XS.iconst X0.here hx rfl (hb hby dsm_25) k) ?_
    show own_G p e below Q (T.setTop (mkF m 26 #[.val (.ref a), .val (.int (Int32.ofNat 3)), .val (.int b0), .val (.int b1), .val (.int b2)] [(.int (1 : Int32)), (.ref a)]))
    refine own_ldB X0 hx hZ e0 F (i := 1) (by decide) (by decide) (by decide) (hb hby dsm_26) ?_
    show own_G p e below Q (T.setTop (mkF m 27 #[.val (.ref a), .val (.int (Int32.ofNat 3)), .val (.int b0), .val (.int b1), .val (.int b2)] [(.int (b1.toInt8.toInt32))]))
    refine own_go (fun _ k => XS.iloadN X0.here hx rfl (hb hby dsm_27) rfl  k) ?_
    show own_G p e below Q (T.setTop (mkF m 28 #[.val (.ref a), .val (.int (Int32.ofNat 3)), .val (.int b0), .val (.int b1), .val (.int b2)] [(.int b1), (.int (b1.toInt8.toInt32))]))
    refine own_go (fun _ k => XS.i2b X0.here hx rfl (hb hby dsm_28) rfl k) ?_
    show own_G p e below Q (T.setTop (mkF m 29 #[.val (.ref a), .val (.int (Int32.ofNat 3)), .val (.int b0), .val (.int b1), .val (.int b2)] [(.int (b1.toInt8.toInt32)), (.int (b1.toInt8.toInt32))]))
    refine own_go (fun _ k => XS.icmpNo X0.here hx rfl (hb hby dsm_29) rfl (teq rfl).2 k) ?_
    show own_G p e below Q (T.setTop (mkF m 32 #[.val (.ref a), .val (.int (Int32.ofNat 3)), .val (.int b0), .val (.int b1), .val (.int b2)] []))
    refine own_go (fun _ k => XS.iloadN X0.here hx rfl (hb hby dsm_32) rfl  k) ?_
    show own_G p e below Q (T.setTop (mkF m 33 #[.val (.ref a), .val (.int (Int32.ofNat 3)), .val (.int b0), .val (.int b1), .val (.int b2)] [(.int (Int32.ofNat 3))]))
    refine own_go (fun _ k => XS.iconst X0.here hx rfl (hb hby dsm_33) k) ?_
    show own_G p e below Q (T.setTop (mkF m 34 #[.val (.ref a), .val (.int (Int32.ofNat 3)), .val (.int b0), .val (.int b1), .val (.int b2)] [(.int (3 : Int32)), (.int (Int32.ofNat 3))]))
    refine own_go (fun _ k => XS.icmpNo X0.here hx rfl (hb hby dsm_34) rfl (flt (by decide : ¬ ((Int32.ofNat 3) < (3 : Int32)))).1 k) ?_
    show own_G p e below Q (T.setTop (mkF m 37 #[.val (.ref a), .val (.int (Int32.ofNat 3)), .val (.int b0), .val (.int b1), .val (.int b2)] []))
    refine own_go (fun _ k => XS.aloadN X0.here hx rfl (hb hby dsm_37) rfl rfl  k) ?_
    show own_G p e below Q (T.setTop (mkF m 38 #[.val (.ref a), .val (.int (Int32.ofNat 3)), .val (.int b0), .val (.int b1), .val (.int b2)] [(.ref a)]))
    refine own_go (fun _ k => XS.iconst X0.here hx rfl (hb hby dsm_38) k) ?_
    show own_G p e below Q (T.setTop (mkF m 39 #[.val (.ref a), .val (.int (Int32.ofNat 3)), .val (.int b0), .val (.int b1), .val (.int b2)] [(.int (2 : Int32)), (.ref a)]))
    refine own_ldB X0 hx hZ e0 F (i := 2) (by decide) (by decide) (by decide) (hb hby dsm_39) ?_
    show own_G p e below Q (T.setTop (mkF m 40 #[.val (.ref a), .val (.int (Int32.ofNat 3)), .val (.int b0), .val (.int b1), .val (.int b2)] [(.int (b2.toInt8.toInt32))]))
    refine own_go (fun _ k => XS.iload X0.here hx rfl (hb hby dsm_40) rfl  k) ?_
    show own_G p e below Q (T.setTop (mkF m 42 #[.val (.ref a), .val (.int (Int32.ofNat 3)), .val (.int b0), .val (.int b1), .val (.int b2)] [(.int b2), (.int (b2.toInt8.toInt32))]))
    refine own_go (fun _ k => XS.i2b X0.here hx rfl (hb hby dsm_42) rfl k) ?_
    show own_G p e below Q (T.setTop (mkF m 43 #[.val (.ref a), .val (.int (Int32.ofNat 3)), .val (.int b0), .val (.int b1), .val (.int b2)] [(.int (b2.toInt8.toInt32)), (.int (b2.toInt8.toInt32))]))
    refine own_go (fun _ k => XS.icmpNo X0.here hx rfl (hb hby dsm_43) rfl (teq rfl).2 k) ?_
    show own_G p e below Q (T.setTop (mkF m 46 #[.val (.ref a), .val (.int (Int32.ofNat 3)), .val (.int b0), .val (.int b1), .val (.int b2)] []))
    refine own_go (fun _ k => XS.iconst X0.here hx rfl (hb hby dsm_46) k) ?_
    show own_G p e below Q (T.setTop (mkF m 47 #[.val (.ref a), .val (.int (Int32.ofNat 3)), .val (.int b0), .val (.int b1), .val (.int b2)] [(.int (1 : Int32))]))
    refine own_go (fun _ k => XS.goto X0.here hx rfl (pc0 := 47) (pc' := 51) rfl (hb hby dsm_47) (by decide) (by decide) k) ?_
    show own_G p e below Q (T.setTop (mkF m 51 #[.val (.ref a), .val (.int (Int32.ofNat 3)), .val (.int b0), .val (.int b1), .val (.int b2)] [(.int (1 : Int32))]))
    exact own_retN X0 hx hlk (Or.inl rfl) hret (hb hby dsm_51) rfl (fun U hU hF => hR _ _ _ _ _ ⟨rfl, hU.trans e0, rfl⟩ (by decide) (by decide) hF)
set_option maxRecDepth 65536 in
set_option maxHeartbeats 40000000 in
theorem own_flip (l : Launch) (Z : State) (a0 : Array Value) (hw : ∀ d ∈ tables_1, d.before a0 Z = true) (h0 : Heap) (n0 : Nat) (a : Addr) (ha : n0 ≤ a) (n : Nat) (hn : n < 4) (B0 : own_BI Z h0 a n) :
    own_C l Z (⟨"com/example/broker_access_control/brokeraccesscontrol/wire/AclListingVersionPinLaw", "flip", "([B)V"⟩ : MethodName) method_4_code 1 none [] ({ frames := 0, cells := 0, slots := 0, locals := 0 } : Room) #[.ref a] h0 (fun v h L => v = none ∧ Keep h0 h [a] ∧ Fr n0 L) := by
  refine own_body pn_l (fun m => ef_a m _) ?_
  intro p e s m below meth c T Q hx hby hml hown hnm hret hlk hZ e0 X0 hR
  have N0 := Fr.nil n0
  have K0 := Keep.refl h0 [a]
  obtain hi' : n = 0 ∨ n = 1 ∨ n = 2 ∨ n = 3 := by omega
  clear hn
  rcases hi' with rfl | rfl | rfl | rfl
  · show own_G p e below Q (T.setTop (mkF m 0 #[.val (.ref a)] []))
    refine own_go (fun _ k => XS.aloadN X0.here hx rfl (hb hby df_0) rfl rfl  k) ?_
    show own_G p e below Q (T.setTop (mkF m 1 #[.val (.ref a)] [(.ref a)]))
    refine own_lenI X0 hx hZ e0 B0 (hb hby df_1) ?_
    show own_G p e below Q (T.setTop (mkF m 2 #[.val (.ref a)] [(.int (Int32.ofNat 0))]))
    refine own_go (fun _ k => XS.ifYes X0.here hx rfl (pc0 := 2) (pc' := 14) rfl (hb hby df_2) rfl ((if0 _ _).trans (flt (by decide : ¬ ((0 : Int32) < (Int32.ofNat 0)))).2.2.2) (by decide) (by decide) k) ?_
    show own_G p e below Q (T.setTop (mkF m 14 #[.val (.ref a)] []))
    refine own_go (fun _ k => XS.aloadN X0.here hx rfl (hb hby df_14) rfl rfl  k) ?_
    show own_G p e below Q (T.setTop (mkF m 15 #[.val (.ref a)] [(.ref a)]))
    refine own_lenI X0 hx hZ e0 B0 (hb hby df_15) ?_
    show own_G p e below Q (T.setTop (mkF m 16 #[.val (.ref a)] [(.int (Int32.ofNat 0))]))
    refine own_go (fun _ k => XS.iconst X0.here hx rfl (hb hby df_16) k) ?_
    show own_G p e below Q (T.setTop (mkF m 17 #[.val (.ref a)] [(.int (1 : Int32)), (.int (Int32.ofNat 0))]))
    refine own_go (fun _ k => XS.icmpYes X0.here hx rfl (pc0 := 17) (pc' := 29) rfl (hb hby df_17) rfl (flt (by decide : ¬ ((1 : Int32) < (Int32.ofNat 0)))).2.2.2 (by decide) (by decide) k) ?_
    show own_G p e below Q (T.setTop (mkF m 29 #[.val (.ref a)] []))
    refine own_go (fun _ k => XS.aloadN X0.here hx rfl (hb hby df_29) rfl rfl  k) ?_
    show own_G p e below Q (T.setTop (mkF m 30 #[.val (.ref a)] [(.ref a)]))
    refine own_lenI X0 hx hZ e0 B0 (hb hby df_30) ?_
    show own_G p e below Q (T.setTop (mkF m 31 #[.val (.ref a)] [(.int (Int32.ofNat 0))]))
    refine own_go (fun _ k => XS.iconst X0.here hx rfl (hb hby df_31) k) ?_
    show own_G p e below Q (T.setTop (mkF m 32 #[.val (.ref a)] [(.int (2 : Int32)), (.int (Int32.ofNat 0))]))
    refine own_go (fun _ k => XS.icmpYes X0.here hx rfl (pc0 := 32) (pc' := 44) rfl (hb hby df_32) rfl (flt (by decide : ¬ ((2 : Int32) < (Int32.ofNat 0)))).2.2.2 (by decide) (by decide) k) ?_
    show own_G p e below Q (T.setTop (mkF m 44 #[.val (.ref a)] []))
    exact own_retV X0 hx hlk hret (hb hby df_44) (fun U hU hF => hR _ _ _ _ _ ⟨rfl, hU ▸ e0.symm ▸ K0, N0⟩ (by decide) (by decide) hF)
  · show own_G p e below Q (T.setTop (mkF m 0 #[.val (.ref a)] []))
    refine own_go (fun _ k => XS.aloadN X0.here hx rfl (hb hby df_0) rfl rfl  k) ?_
    show own_G p e below Q (T.setTop (mkF m 1 #[.val (.ref a)] [(.ref a)]))
    refine own_lenI X0 hx hZ e0 B0 (hb hby df_1) ?_
    show own_G p e below Q (T.setTop (mkF m 2 #[.val (.ref a)] [(.int (Int32.ofNat 1))]))
    refine own_go (fun _ k => XS.ifNo X0.here hx rfl (hb hby df_2) rfl ((if0 _ _).trans (tlt (by decide : (0 : Int32) < (Int32.ofNat 1))).2.2.2) k) ?_
    show own_G p e below Q (T.setTop (mkF m 5 #[.val (.ref a)] []))
    refine own_go (fun _ k => XS.aloadN X0.here hx rfl (hb hby df_5) rfl rfl  k) ?_
    show own_G p e below Q (T.setTop (mkF m 6 #[.val (.ref a)] [(.ref a)]))
    refine own_go (fun _ k => XS.iconst X0.here hx rfl (hb hby df_6) k) ?_
    show own_G p e below Q (T.setTop (mkF m 7 #[.val (.ref a)] [(.int (0 : Int32)), (.ref a)]))
    refine own_go (fun _ k => XS.aloadN X0.here hx rfl (hb hby df_7) rfl rfl  k) ?_
    show own_G p e below Q (T.setTop (mkF m 8 #[.val (.ref a)] [(.ref a), (.int (0 : Int32)), (.ref a)]))
    refine own_go (fun _ k => XS.iconst X0.here hx rfl (hb hby df_8) k) ?_
    show own_G p e below Q (T.setTop (mkF m 9 #[.val (.ref a)] [(.int (0 : Int32)), (.ref a), (.int (0 : Int32)), (.ref a)]))
    refine own_ldBI X0 hx hZ e0 B0 (i := 0) (by decide) (by decide) (by decide) (hb hby df_9) ?_
    intro x11
    show own_G p e below Q (T.setTop (mkF m 10 #[.val (.ref a)] [(.int x11), (.int (0 : Int32)), (.ref a)]))
    refine own_go (fun _ k => XS.iconst X0.here hx rfl (hb hby df_10) k) ?_
    show own_G p e below Q (T.setTop (mkF m 11 #[.val (.ref a)] [(.int (-1 : Int32)), (.int x11), (.int (0 : Int32)), (.ref a)]))
    refine own_go (fun _ k => XS.ixor X0.here hx rfl (hb hby df_11) rfl k) ?_
    show own_G p e below Q (T.setTop (mkF m 12 #[.val (.ref a)] [(.int (x11 ^^^ (-1 : Int32))), (.int (0 : Int32)), (.ref a)]))
    refine own_go (fun _ k => XS.i2b X0.here hx rfl (hb hby df_12) rfl k) ?_
    show own_G p e below Q (T.setTop (mkF m 13 #[.val (.ref a)] [(.int ((x11 ^^^ (-1 : Int32)).toInt8.toInt32)), (.int (0 : Int32)), (.ref a)]))
    refine own_stBI X0 hx hZ e0 N0 ha B0 (i := 0) (by decide) (by decide) (by decide) (hb hby df_13) ?_
    intro T12 h12 l12 v12 X12 e12 N12 W12 B12
    have K12 := K0.wr W12 (Or.inl (List.mem_singleton.mpr rfl))
    show own_G p e below Q (T12.setTop (mkF m 14 #[.val (.ref a)] []))
    refine own_go (fun _ k => XS.aloadN X12.here hx rfl (hb hby df_14) rfl rfl  k) ?_
    show own_G p e below Q (T12.setTop (mkF m 15 #[.val (.ref a)] [(.ref a)]))
    refine own_lenI X12 hx hZ e12 B12 (hb hby df_15) ?_
    show own_G p e below Q (T12.setTop (mkF m 16 #[.val (.ref a)] [(.int (Int32.ofNat 1))]))
    refine own_go (fun _ k => XS.iconst X12.here hx rfl (hb hby df_16) k) ?_
    show own_G p e below Q (T12.setTop (mkF m 17 #[.val (.ref a)] [(.int (1 : Int32)), (.int (Int32.ofNat 1))]))
    refine own_go (fun _ k => XS.icmpYes X12.here hx rfl (pc0 := 17) (pc' := 29) rfl (hb hby df_17) rfl (flt (by decide : ¬ ((1 : Int32) < (Int32.ofNat 1)))).2.2.2 (by decide) (by decide) k) ?_
    show own_G p e below Q (T12.setTop (mkF m 29 #[.val (.ref a)] []))
    refine own_go (fun _ k => XS.aloadN X12.here hx rfl (hb hby df_29) rfl rfl  k) ?_
    show own_G p e below Q (T12.setTop (mkF m 30 #[.val (.ref a)] [(.ref a)]))
    refine own_lenI X12 hx hZ e12 B12 (hb hby df_30) ?_
    show own_G p e below Q (T12.setTop (mkF m 31 #[.val (.ref a)] [(.int (Int32.ofNat 1))]))
    refine own_go (fun _ k => XS.iconst X12.here hx rfl (hb hby df_31) k) ?_
    show own_G p e below Q (T12.setTop (mkF m 32 #[.val (.ref a)] [(.int (2 : Int32)), (.int (Int32.ofNat 1))]))
    refine own_go (fun _ k => XS.icmpYes X12.here hx rfl (pc0 := 32) (pc' := 44) rfl (hb hby df_32) rfl (flt (by decide : ¬ ((2 : Int32) < (Int32.ofNat 1)))).2.2.2 (by decide) (by decide) k) ?_
    show own_G p e below Q (T12.setTop (mkF m 44 #[.val (.ref a)] []))
    exact own_retV X12 hx hlk hret (hb hby df_44) (fun U hU hF => hR _ _ _ _ _ ⟨rfl, hU ▸ e12.symm ▸ K12, N12⟩ (by decide) (by decide) hF)
  · show own_G p e below Q (T.setTop (mkF m 0 #[.val (.ref a)] []))
    refine own_go (fun _ k => XS.aloadN X0.here hx rfl (hb hby df_0) rfl rfl  k) ?_
    show own_G p e below Q (T.setTop (mkF m 1 #[.val (.ref a)] [(.ref a)]))
    refine own_lenI X0 hx hZ e0 B0 (hb hby df_1) ?_
    show own_G p e below Q (T.setTop (mkF m 2 #[.val (.ref a)] [(.int (Int32.ofNat 2))]))
    refine own_go (fun _ k => XS.ifNo X0.here hx rfl (hb hby df_2) rfl ((if0 _ _).trans (tlt (by decide : (0 : Int32) < (Int32.ofNat 2))).2.2.2) k) ?_
    show own_G p e below Q (T.setTop (mkF m 5 #[.val (.ref a)] []))
    refine own_go (fun _ k => XS.aloadN X0.here hx rfl (hb hby df_5) rfl rfl  k) ?_
    show own_G p e below Q (T.setTop (mkF m 6 #[.val (.ref a)] [(.ref a)]))
    refine own_go (fun _ k => XS.iconst X0.here hx rfl (hb hby df_6) k) ?_
    show own_G p e below Q (T.setTop (mkF m 7 #[.val (.ref a)] [(.int (0 : Int32)), (.ref a)]))
    refine own_go (fun _ k => XS.aloadN X0.here hx rfl (hb hby df_7) rfl rfl  k) ?_
    show own_G p e below Q (T.setTop (mkF m 8 #[.val (.ref a)] [(.ref a), (.int (0 : Int32)), (.ref a)]))
    refine own_go (fun _ k => XS.iconst X0.here hx rfl (hb hby df_8) k) ?_
    show own_G p e below Q (T.setTop (mkF m 9 #[.val (.ref a)] [(.int (0 : Int32)), (.ref a), (.int (0 : Int32)), (.ref a)]))
    refine own_ldBI X0 hx hZ e0 B0 (i := 0) (by decide) (by decide) (by decide) (hb hby df_9) ?_
    intro x13
    show own_G p e below Q (T.setTop (mkF m 10 #[.val (.ref a)] [(.int x13), (.int (0 : Int32)), (.ref a)]))
    refine own_go (fun _ k => XS.iconst X0.here hx rfl (hb hby df_10) k) ?_
    show own_G p e below Q (T.setTop (mkF m 11 #[.val (.ref a)] [(.int (-1 : Int32)), (.int x13), (.int (0 : Int32)), (.ref a)]))
    refine own_go (fun _ k => XS.ixor X0.here hx rfl (hb hby df_11) rfl k) ?_
    show own_G p e below Q (T.setTop (mkF m 12 #[.val (.ref a)] [(.int (x13 ^^^ (-1 : Int32))), (.int (0 : Int32)), (.ref a)]))
    refine own_go (fun _ k => XS.i2b X0.here hx rfl (hb hby df_12) rfl k) ?_
    show own_G p e below Q (T.setTop (mkF m 13 #[.val (.ref a)] [(.int ((x13 ^^^ (-1 : Int32)).toInt8.toInt32)), (.int (0 : Int32)), (.ref a)]))
    refine own_stBI X0 hx hZ e0 N0 ha B0 (i := 0) (by decide) (by decide) (by decide) (hb hby df_13) ?_
    intro T14 h14 l14 v14 X14 e14 N14 W14 B14
    have K14 := K0.wr W14 (Or.inl (List.mem_singleton.mpr rfl))
    show own_G p e below Q (T14.setTop (mkF m 14 #[.val (.ref a)] []))
    refine own_go (fun _ k => XS.aloadN X14.here hx rfl (hb hby df_14) rfl rfl  k) ?_
    show own_G p e below Q (T14.setTop (mkF m 15 #[.val (.ref a)] [(.ref a)]))
    refine own_lenI X14 hx hZ e14 B14 (hb hby df_15) ?_
    show own_G p e below Q (T14.setTop (mkF m 16 #[.val (.ref a)] [(.int (Int32.ofNat 2))]))
    refine own_go (fun _ k => XS.iconst X14.here hx rfl (hb hby df_16) k) ?_
    show own_G p e below Q (T14.setTop (mkF m 17 #[.val (.ref a)] [(.int (1 : Int32)), (.int (Int32.ofNat 2))]))
    refine own_go (fun _ k => XS.icmpNo X14.here hx rfl (hb hby df_17) rfl (tlt (by decide : (1 : Int32) < (Int32.ofNat 2))).2.2.2 k) ?_
    show own_G p e below Q (T14.setTop (mkF m 20 #[.val (.ref a)] []))
    refine own_go (fun _ k => XS.aloadN X14.here hx rfl (hb hby df_20) rfl rfl  k) ?_
    show own_G p e below Q (T14.setTop (mkF m 21 #[.val (.ref a)] [(.ref a)]))
    refine own_go (fun _ k => XS.iconst X14.here hx rfl (hb hby df_21) k) ?_
    show own_G p e below Q (T14.setTop (mkF m 22 #[.val (.ref a)] [(.int (1 : Int32)), (.ref a)]))
    refine own_go (fun _ k => XS.aloadN X14.here hx rfl (hb hby df_22) rfl rfl  k) ?_
    show own_G p e below Q (T14.setTop (mkF m 23 #[.val (.ref a)] [(.ref a), (.int (1 : Int32)), (.ref a)]))
    refine own_go (fun _ k => XS.iconst X14.here hx rfl (hb hby df_23) k) ?_
    show own_G p e below Q (T14.setTop (mkF m 24 #[.val (.ref a)] [(.int (1 : Int32)), (.ref a), (.int (1 : Int32)), (.ref a)]))
    refine own_ldBI X14 hx hZ e14 B14 (i := 1) (by decide) (by decide) (by decide) (hb hby df_24) ?_
    intro x15
    show own_G p e below Q (T14.setTop (mkF m 25 #[.val (.ref a)] [(.int x15), (.int (1 : Int32)), (.ref a)]))
    refine own_go (fun _ k => XS.iconst X14.here hx rfl (hb hby df_25) k) ?_
    show own_G p e below Q (T14.setTop (mkF m 26 #[.val (.ref a)] [(.int (-1 : Int32)), (.int x15), (.int (1 : Int32)), (.ref a)]))
    refine own_go (fun _ k => XS.ixor X14.here hx rfl (hb hby df_26) rfl k) ?_
    show own_G p e below Q (T14.setTop (mkF m 27 #[.val (.ref a)] [(.int (x15 ^^^ (-1 : Int32))), (.int (1 : Int32)), (.ref a)]))
    refine own_go (fun _ k => XS.i2b X14.here hx rfl (hb hby df_27) rfl k) ?_
    show own_G p e below Q (T14.setTop (mkF m 28 #[.val (.ref a)] [(.int ((x15 ^^^ (-1 : Int32)).toInt8.toInt32)), (.int (1 : Int32)), (.ref a)]))
    refine own_stBI X14 hx hZ e14 N14 ha B14 (i := 1) (by decide) (by decide) (by decide) (hb hby df_28) ?_
    intro T16 h16 l16 v16 X16 e16 N16 W16 B16
    have K16 := K14.wr W16 (Or.inl (List.mem_singleton.mpr rfl))
    show own_G p e below Q (T16.setTop (mkF m 29 #[.val (.ref a)] []))
    refine own_go (fun _ k => XS.aloadN X16.here hx rfl (hb hby df_29) rfl rfl  k) ?_
    show own_G p e below Q (T16.setTop (mkF m 30 #[.val (.ref a)] [(.ref a)]))
    refine own_lenI X16 hx hZ e16 B16 (hb hby df_30) ?_
    show own_G p e below Q (T16.setTop (mkF m 31 #[.val (.ref a)] [(.int (Int32.ofNat 2))]))
    refine own_go (fun _ k => XS.iconst X16.here hx rfl (hb hby df_31) k) ?_
    show own_G p e below Q (T16.setTop (mkF m 32 #[.val (.ref a)] [(.int (2 : Int32)), (.int (Int32.ofNat 2))]))
    refine own_go (fun _ k => XS.icmpYes X16.here hx rfl (pc0 := 32) (pc' := 44) rfl (hb hby df_32) rfl (flt (by decide : ¬ ((2 : Int32) < (Int32.ofNat 2)))).2.2.2 (by decide) (by decide) k) ?_
    show own_G p e below Q (T16.setTop (mkF m 44 #[.val (.ref a)] []))
    exact own_retV X16 hx hlk hret (hb hby df_44) (fun U hU hF => hR _ _ _ _ _ ⟨rfl, hU ▸ e16.symm ▸ K16, N16⟩ (by decide) (by decide) hF)
  · show own_G p e below Q (T.setTop (mkF m 0 #[.val (.ref a)] []))
    refine own_go (fun _ k => XS.aloadN X0.here hx rfl (hb hby df_0) rfl rfl  k) ?_
    show own_G p e below Q (T.setTop (mkF m 1 #[.val (.ref a)] [(.ref a)]))
    refine own_lenI X0 hx hZ e0 B0 (hb hby df_1) ?_
    show own_G p e below Q (T.setTop (mkF m 2 #[.val (.ref a)] [(.int (Int32.ofNat 3))]))
    refine own_go (fun _ k => XS.ifNo X0.here hx rfl (hb hby df_2) rfl ((if0 _ _).trans (tlt (by decide : (0 : Int32) < (Int32.ofNat 3))).2.2.2) k) ?_
    show own_G p e below Q (T.setTop (mkF m 5 #[.val (.ref a)] []))
    refine own_go (fun _ k => XS.aloadN X0.here hx rfl (hb hby df_5) rfl rfl  k) ?_
    show own_G p e below Q (T.setTop (mkF m 6 #[.val (.ref a)] [(.ref a)]))
    refine own_go (fun _ k => XS.iconst X0.here hx rfl (hb hby df_6) k) ?_
    show own_G p e below Q (T.setTop (mkF m 7 #[.val (.ref a)] [(.int (0 : Int32)), (.ref a)]))
    refine own_go (fun _ k => XS.aloadN X0.here hx rfl (hb hby df_7) rfl rfl  k) ?_
    show own_G p e below Q (T.setTop (mkF m 8 #[.val (.ref a)] [(.ref a), (.int (0 : Int32)), (.ref a)]))
    refine own_go (fun _ k => XS.iconst X0.here hx rfl (hb hby df_8) k) ?_
    show own_G p e below Q (T.setTop (mkF m 9 #[.val (.ref a)] [(.int (0 : Int32)), (.ref a), (.int (0 : Int32)), (.ref a)]))
    refine own_ldBI X0 hx hZ e0 B0 (i := 0) (by decide) (by decide) (by decide) (hb hby df_9) ?_
    intro x17
    show own_G p e below Q (T.setTop (mkF m 10 #[.val (.ref a)] [(.int x17), (.int (0 : Int32)), (.ref a)]))
    refine own_go (fun _ k => XS.iconst X0.here hx rfl (hb hby df_10) k) ?_
    show own_G p e below Q (T.setTop (mkF m 11 #[.val (.ref a)] [(.int (-1 : Int32)), (.int x17), (.int (0 : Int32)), (.ref a)]))
    refine own_go (fun _ k => XS.ixor X0.here hx rfl (hb hby df_11) rfl k) ?_
    show own_G p e below Q (T.setTop (mkF m 12 #[.val (.ref a)] [(.int (x17 ^^^ (-1 : Int32))), (.int (0 : Int32)), (.ref a)]))
    refine own_go (fun _ k => XS.i2b X0.here hx rfl (hb hby df_12) rfl k) ?_
    show own_G p e below Q (T.setTop (mkF m 13 #[.val (.ref a)] [(.int ((x17 ^^^ (-1 : Int32)).toInt8.toInt32)), (.int (0 : Int32)), (.ref a)]))
    refine own_stBI X0 hx hZ e0 N0 ha B0 (i := 0) (by decide) (by decide) (by decide) (hb hby df_13) ?_
    intro T18 h18 l18 v18 X18 e18 N18 W18 B18
    have K18 := K0.wr W18 (Or.inl (List.mem_singleton.mpr rfl))
    show own_G p e below Q (T18.setTop (mkF m 14 #[.val (.ref a)] []))
    refine own_go (fun _ k => XS.aloadN X18.here hx rfl (hb hby df_14) rfl rfl  k) ?_
    show own_G p e below Q (T18.setTop (mkF m 15 #[.val (.ref a)] [(.ref a)]))
    refine own_lenI X18 hx hZ e18 B18 (hb hby df_15) ?_
    show own_G p e below Q (T18.setTop (mkF m 16 #[.val (.ref a)] [(.int (Int32.ofNat 3))]))
    refine own_go (fun _ k => XS.iconst X18.here hx rfl (hb hby df_16) k) ?_
    show own_G p e below Q (T18.setTop (mkF m 17 #[.val (.ref a)] [(.int (1 : Int32)), (.int (Int32.ofNat 3))]))
    refine own_go (fun _ k => XS.icmpNo X18.here hx rfl (hb hby df_17) rfl (tlt (by decide : (1 : Int32) < (Int32.ofNat 3))).2.2.2 k) ?_
    show own_G p e below Q (T18.setTop (mkF m 20 #[.val (.ref a)] []))
    refine own_go (fun _ k => XS.aloadN X18.here hx rfl (hb hby df_20) rfl rfl  k) ?_
    show own_G p e below Q (T18.setTop (mkF m 21 #[.val (.ref a)] [(.ref a)]))
    refine own_go (fun _ k => XS.iconst X18.here hx rfl (hb hby df_21) k) ?_
    show own_G p e below Q (T18.setTop (mkF m 22 #[.val (.ref a)] [(.int (1 : Int32)), (.ref a)]))
    refine own_go (fun _ k => XS.aloadN X18.here hx rfl (hb hby df_22) rfl rfl  k) ?_
    show own_G p e below Q (T18.setTop (mkF m 23 #[.val (.ref a)] [(.ref a), (.int (1 : Int32)), (.ref a)]))
    refine own_go (fun _ k => XS.iconst X18.here hx rfl (hb hby df_23) k) ?_
    show own_G p e below Q (T18.setTop (mkF m 24 #[.val (.ref a)] [(.int (1 : Int32)), (.ref a), (.int (1 : Int32)), (.ref a)]))
    refine own_ldBI X18 hx hZ e18 B18 (i := 1) (by decide) (by decide) (by decide) (hb hby df_24) ?_
    intro x19
    show own_G p e below Q (T18.setTop (mkF m 25 #[.val (.ref a)] [(.int x19), (.int (1 : Int32)), (.ref a)]))
    refine own_go (fun _ k => XS.iconst X18.here hx rfl (hb hby df_25) k) ?_
    show own_G p e below Q (T18.setTop (mkF m 26 #[.val (.ref a)] [(.int (-1 : Int32)), (.int x19), (.int (1 : Int32)), (.ref a)]))
    refine own_go (fun _ k => XS.ixor X18.here hx rfl (hb hby df_26) rfl k) ?_
    show own_G p e below Q (T18.setTop (mkF m 27 #[.val (.ref a)] [(.int (x19 ^^^ (-1 : Int32))), (.int (1 : Int32)), (.ref a)]))
    refine own_go (fun _ k => XS.i2b X18.here hx rfl (hb hby df_27) rfl k) ?_
    show own_G p e below Q (T18.setTop (mkF m 28 #[.val (.ref a)] [(.int ((x19 ^^^ (-1 : Int32)).toInt8.toInt32)), (.int (1 : Int32)), (.ref a)]))
    refine own_stBI X18 hx hZ e18 N18 ha B18 (i := 1) (by decide) (by decide) (by decide) (hb hby df_28) ?_
    intro T20 h20 l20 v20 X20 e20 N20 W20 B20
    have K20 := K18.wr W20 (Or.inl (List.mem_singleton.mpr rfl))
    show own_G p e below Q (T20.setTop (mkF m 29 #[.val (.ref a)] []))
    refine own_go (fun _ k => XS.aloadN X20.here hx rfl (hb hby df_29) rfl rfl  k) ?_
    show own_G p e below Q (T20.setTop (mkF m 30 #[.val (.ref a)] [(.ref a)]))
    refine own_lenI X20 hx hZ e20 B20 (hb hby df_30) ?_
    show own_G p e below Q (T20.setTop (mkF m 31 #[.val (.ref a)] [(.int (Int32.ofNat 3))]))
    refine own_go (fun _ k => XS.iconst X20.here hx rfl (hb hby df_31) k) ?_
    show own_G p e below Q (T20.setTop (mkF m 32 #[.val (.ref a)] [(.int (2 : Int32)), (.int (Int32.ofNat 3))]))
    refine own_go (fun _ k => XS.icmpNo X20.here hx rfl (hb hby df_32) rfl (tlt (by decide : (2 : Int32) < (Int32.ofNat 3))).2.2.2 k) ?_
    show own_G p e below Q (T20.setTop (mkF m 35 #[.val (.ref a)] []))
    refine own_go (fun _ k => XS.aloadN X20.here hx rfl (hb hby df_35) rfl rfl  k) ?_
    show own_G p e below Q (T20.setTop (mkF m 36 #[.val (.ref a)] [(.ref a)]))
    refine own_go (fun _ k => XS.iconst X20.here hx rfl (hb hby df_36) k) ?_
    show own_G p e below Q (T20.setTop (mkF m 37 #[.val (.ref a)] [(.int (2 : Int32)), (.ref a)]))
    refine own_go (fun _ k => XS.aloadN X20.here hx rfl (hb hby df_37) rfl rfl  k) ?_
    show own_G p e below Q (T20.setTop (mkF m 38 #[.val (.ref a)] [(.ref a), (.int (2 : Int32)), (.ref a)]))
    refine own_go (fun _ k => XS.iconst X20.here hx rfl (hb hby df_38) k) ?_
    show own_G p e below Q (T20.setTop (mkF m 39 #[.val (.ref a)] [(.int (2 : Int32)), (.ref a), (.int (2 : Int32)), (.ref a)]))
    refine own_ldBI X20 hx hZ e20 B20 (i := 2) (by decide) (by decide) (by decide) (hb hby df_39) ?_
    intro x21
    show own_G p e below Q (T20.setTop (mkF m 40 #[.val (.ref a)] [(.int x21), (.int (2 : Int32)), (.ref a)]))
    refine own_go (fun _ k => XS.iconst X20.here hx rfl (hb hby df_40) k) ?_
    show own_G p e below Q (T20.setTop (mkF m 41 #[.val (.ref a)] [(.int (-1 : Int32)), (.int x21), (.int (2 : Int32)), (.ref a)]))
    refine own_go (fun _ k => XS.ixor X20.here hx rfl (hb hby df_41) rfl k) ?_
    show own_G p e below Q (T20.setTop (mkF m 42 #[.val (.ref a)] [(.int (x21 ^^^ (-1 : Int32))), (.int (2 : Int32)), (.ref a)]))
    refine own_go (fun _ k => XS.i2b X20.here hx rfl (hb hby df_42) rfl k) ?_
    show own_G p e below Q (T20.setTop (mkF m 43 #[.val (.ref a)] [(.int ((x21 ^^^ (-1 : Int32)).toInt8.toInt32)), (.int (2 : Int32)), (.ref a)]))
    refine own_stBI X20 hx hZ e20 N20 ha B20 (i := 2) (by decide) (by decide) (by decide) (hb hby df_43) ?_
    intro T22 h22 l22 v22 X22 e22 N22 W22 B22
    have K22 := K20.wr W22 (Or.inl (List.mem_singleton.mpr rfl))
    show own_G p e below Q (T22.setTop (mkF m 44 #[.val (.ref a)] []))
    exact own_retV X22 hx hlk hret (hb hby df_44) (fun U hU hF => hR _ _ _ _ _ ⟨rfl, hU ▸ e22.symm ▸ K22, N22⟩ (by decide) (by decide) hF)
set_option maxRecDepth 65536 in
set_option maxHeartbeats 40000000 in
theorem own_ver (l : Launch) (Z : State) (a0 : Array Value) (hw : ∀ d ∈ tables_1, d.before a0 Z = true) (h0 : Heap) (lst va : Addr) (n : Nat) (hn : n < 4) (b0 b1 b2 : Int32) (F : Fld Z h0 lst "com/example/broker_access_control/brokeraccesscontrol/wire/AclListing" "version" "[B" (.ref va)) (B : own_B Z h0 va n (own_f b0 b1 b2)) :
    own_C l Z (⟨"com/example/broker_access_control/brokeraccesscontrol/wire/AclListing", "version", "()[B"⟩ : MethodName) prog_69_method_2_code 1 (some (.array .byte)) [] ({ frames := 1, cells := 1, slots := 3, locals := 14 } : Room) #[.ref lst] h0 (fun v h L => ∃ a, v = some (.ref a) ∧ h0.size ≤ a ∧ Keep h0 h [] ∧ own_B Z h a n (own_f b0 b1 b2) ∧ L = []) := by
  refine own_body pn_c (fun m => ef_a m _) ?_
  intro p e s m below meth c T Q hx hby hml hown hnm hret hlk hZ e0 X0 hR
  show own_G p e below Q (T.setTop (mkF m 0 #[.val (.ref lst)] []))
  refine own_go (fun _ k => XS.aloadN X0.here hx rfl (hb hby dv_0) rfl rfl  k) ?_
  show own_G p e below Q (T.setTop (mkF m 1 #[.val (.ref lst)] [(.ref lst)]))
  refine own_getF X0 hx hZ hown (hw _ (List.mem_of_getElem? (i := 23) rfl)) e0 F (hb hby dv_1) ?_
  intro T23 X23 e23
  show own_G p e below Q (T23.setTop (mkF m 4 #[.val (.ref lst)] [(.ref va)]))
  refine own_go (fun _ k => XS.ifnonnullYes X23.here hx rfl (pc0 := 4) (pc' := 11) rfl (hb hby dv_4) rfl (by decide) (by decide) k) ?_
  show own_G p e below Q (T23.setTop (mkF m 11 #[.val (.ref lst)] []))
  refine own_go (fun _ k => XS.aloadN X23.here hx rfl (hb hby dv_11) rfl rfl  k) ?_
  show own_G p e below Q (T23.setTop (mkF m 12 #[.val (.ref lst)] [(.ref lst)]))
  refine own_getF X23 hx hZ hown (hw _ (List.mem_of_getElem? (i := 23) rfl)) e23 F (hb hby dv_12) ?_
  intro T24 X24 e24
  show own_G p e below Q (T24.setTop (mkF m 15 #[.val (.ref lst)] [(.ref va)]))
  refine own_clone X24 hx hZ hown (hw _ (List.mem_of_getElem? (i := 14) rfl)) (hw _ (List.mem_of_getElem? (i := 15) rfl)) (hw _ (List.mem_of_getElem? (i := 19) rfl)) (hw _ (List.mem_of_getElem? (i := 17) rfl)) (hw _ (List.mem_of_getElem? (i := 18) rfl)) (hw _ (List.mem_of_getElem? (i := 20) rfl)) e24 B (fun _ => own_ffit _ _ _ _) (Nat.le_of_lt_succ hn) (by rw [hml]; rfl) (hb hby dv_15) (by decide) (W := 0) (Nat.le_of_eq rfl) (by decide) (by decide) (by decide) ?_
  intro T25 h25 a25 X25 e25 E25 g25 B25
  show own_G p e below Q (T25.setTop (mkF m 18 #[.val (.ref lst)] [(.ref a25)]))
  refine own_cast X25 hx hZ hown (hw _ (List.mem_of_getElem? (i := 21) rfl)) e25 B25.2 (hb hby dv_18) ?_
  intro T26 X26 e26
  show own_G p e below Q (T26.setTop (mkF m 21 #[.val (.ref lst)] [(.ref a25)]))
  exact own_retR X26 hx hlk rfl rfl rfl hret (hb hby dv_21) (fun U hU hF => hR _ _ _ _ _ ⟨_, rfl, g25, hU ▸ e26.symm ▸ (Keep.refl h0 []).ext E25, hU ▸ e26.symm ▸ B25, rfl⟩ (by decide) (by decide) hF)
set_option maxRecDepth 65536 in
set_option maxHeartbeats 40000000 in
theorem own_verN (l : Launch) (Z : State) (a0 : Array Value) (hw : ∀ d ∈ tables_1, d.before a0 Z = true) (h0 : Heap) (lst : Addr) (F : Fld Z h0 lst "com/example/broker_access_control/brokeraccesscontrol/wire/AclListing" "version" "[B" .null) :
    own_C l Z (⟨"com/example/broker_access_control/brokeraccesscontrol/wire/AclListing", "version", "()[B"⟩ : MethodName) prog_69_method_2_code 1 (some (.array .byte)) [] ({ frames := 0, cells := 0, slots := 0, locals := 0 } : Room) #[.ref lst] h0 (own_P .null h0) := by
  refine own_body pn_c (fun m => ef_a m _) ?_
  intro p e s m below meth c T Q hx hby hml hown hnm hret hlk hZ e0 X0 hR
  show own_G p e below Q (T.setTop (mkF m 0 #[.val (.ref lst)] []))
  refine own_go (fun _ k => XS.aloadN X0.here hx rfl (hb hby dv_0) rfl rfl  k) ?_
  show own_G p e below Q (T.setTop (mkF m 1 #[.val (.ref lst)] [(.ref lst)]))
  refine own_getF X0 hx hZ hown (hw _ (List.mem_of_getElem? (i := 23) rfl)) e0 F (hb hby dv_1) ?_
  intro T27 X27 e27
  show own_G p e below Q (T27.setTop (mkF m 4 #[.val (.ref lst)] [.null]))
  refine own_go (fun _ k => XS.ifnonnullNo X27.here hx rfl (hb hby dv_4) rfl k) ?_
  show own_G p e below Q (T27.setTop (mkF m 7 #[.val (.ref lst)] []))
  refine own_go (fun _ k => XS.aconstNull X27.here hx rfl (hb hby dv_7) k) ?_
  show own_G p e below Q (T27.setTop (mkF m 8 #[.val (.ref lst)] [.null]))
  refine own_go (fun _ k => XS.goto X27.here hx rfl (pc0 := 8) (pc' := 21) rfl (hb hby dv_8) (by decide) (by decide) k) ?_
  show own_G p e below Q (T27.setTop (mkF m 21 #[.val (.ref lst)] [.null]))
  exact own_retR X27 hx hlk rfl rfl rfl hret (hb hby dv_21) (fun U hU hF => hR _ _ _ _ _ ⟨rfl, hU.trans e27, rfl⟩ (by decide) (by decide) hF)
set_option maxRecDepth 65536 in
set_option maxHeartbeats 40000000 in
theorem own_initN (l : Launch) (Z : State) (a0 : Array Value) (hw : ∀ d ∈ tables_1, d.before a0 Z = true) (h0 : Heap) (n0 : Nat) (lst : Addr) (hl : n0 ≤ lst) (E0 : Exa Z h0 lst "com/example/broker_access_control/brokeraccesscontrol/wire/AclListing") (F1 : Fld Z h0 lst "com/example/broker_access_control/brokeraccesscontrol/wire/AclListing" "version" "[B" .null) (F2 : Fld Z h0 lst "com/example/broker_access_control/brokeraccesscontrol/wire/AclListing" "acls" "Ljava/util/List;" .null) :
    own_C l Z (⟨"com/example/broker_access_control/brokeraccesscontrol/wire/AclListing", "<init>", "([BLjava/util/List;)V"⟩ : MethodName) prog_69_method_1_code 3 none [] ({ frames := 1, cells := 0, slots := 0, locals := 16 } : Room) #[(.ref lst), .null, .null] h0 (fun v h L => v = none ∧ Keep h0 h [lst] ∧ Exa Z h lst "com/example/broker_access_control/brokeraccesscontrol/wire/AclListing" ∧ Fld Z h lst "com/example/broker_access_control/brokeraccesscontrol/wire/AclListing" "version" "[B" .null ∧ Fr n0 L) := by
  refine own_body pn_c (fun m => ef_in m _) ?_
  intro p e s m below meth c T Q hx hby hml hown hnm hret hlk hZ e0 X0 hR
  have N0 := Fr.nil n0
  have K0 := Keep.refl h0 [lst]
  show own_G p e below Q (T.setTop (mkF m 0 #[.val (.ref lst), .val .null, .val .null] []))
  refine own_go (fun _ k => XS.aloadN X0.here hx rfl (hb hby di_0) rfl rfl  k) ?_
  show own_G p e below Q (T.setTop (mkF m 1 #[.val (.ref lst), .val .null, .val .null] [(.ref lst)]))
  obtain ⟨T28, X28, e28, st28⟩ := initO X0 hx hZ hown (hw _ (List.mem_of_getElem? (i := 11) rfl)) (hw _ (List.mem_of_getElem? (i := 12) rfl)) (hw _ (List.mem_of_getElem? (i := 13) rfl)) e0 (g := (mkF m 1 #[.val (.ref lst), .val .null, .val .null] [(.ref lst)])) rfl (by rw [hml]; rfl) rfl (hb hby di_1) (by decide) (W := 0) (by show 2 * 0 + _ ≤ _; exact Nat.le_of_eq rfl) (by decide)
  refine own_go st28 ?_
  show own_G p e below Q (T28.setTop (mkF m 4 #[.val (.ref lst), .val .null, .val .null] []))
  refine own_go (fun _ k => XS.aloadN X28.here hx rfl (hb hby di_4) rfl rfl  k) ?_
  show own_G p e below Q (T28.setTop (mkF m 5 #[.val (.ref lst), .val .null, .val .null] [(.ref lst)]))
  refine own_go (fun _ k => XS.aloadN X28.here hx rfl (hb hby di_5) rfl rfl  k) ?_
  show own_G p e below Q (T28.setTop (mkF m 6 #[.val (.ref lst), .val .null, .val .null] [.null, (.ref lst)]))
  refine own_go (fun _ k => XS.ifnonnullNo X28.here hx rfl (hb hby di_6) rfl k) ?_
  show own_G p e below Q (T28.setTop (mkF m 9 #[.val (.ref lst), .val .null, .val .null] [(.ref lst)]))
  refine own_go (fun _ k => XS.aconstNull X28.here hx rfl (hb hby di_9) k) ?_
  show own_G p e below Q (T28.setTop (mkF m 10 #[.val (.ref lst), .val .null, .val .null] [.null, (.ref lst)]))
  refine own_go (fun _ k => XS.goto X28.here hx rfl (pc0 := 10) (pc' := 20) rfl (hb hby di_10) (by decide) (by decide) k) ?_
  show own_G p e below Q (T28.setTop (mkF m 20 #[.val (.ref lst), .val .null, .val .null] [.null, (.ref lst)]))
  obtain ⟨T29, h29, X29, e29, W29, st29⟩ := putF X28 hx hZ hown (host := "") (Or.inl (hw _ (List.mem_of_getElem? (i := 23) rfl))) Via.refl e28 F1 E0 (Or.inr ⟨(hw _ (List.mem_of_getElem? (i := 24) rfl)), rfl, hnm⟩) (hw _ (List.mem_of_getElem? (i := 6) rfl)) (ty := (.array .byte)) (by decide) rfl rfl (g := (mkF m 20 #[.val (.ref lst), .val .null, .val .null] [.null, (.ref lst)])) rfl rfl (hb hby di_20)
  refine own_go st29 ?_
  show own_G p e below Q (T29.setTop (mkF m 23 #[.val (.ref lst), .val .null, .val .null] []))
  have F2d := Fld.other W29 F2 (Or.inr (slot_ne (Or.inr (hw _ (List.mem_of_getElem? (i := 26) rfl))) (Or.inr (hw _ (List.mem_of_getElem? (i := 24) rfl))) (by decide) (t := .object "java/util/List") (t' := .array .byte) (by decide) (by decide)))
  have E0d := Exa.wr W29 E0
  have K0d := K0.wr W29 (Or.inl (List.mem_singleton.mpr rfl))
  have F1d := Fld.same W29 F1
  have N1 := Fr.snoc X29 N0 hl
  refine own_go (fun _ k => XS.aloadN X29.here hx rfl (hb hby di_23) rfl rfl  k) ?_
  show own_G p e below Q (T29.setTop (mkF m 24 #[.val (.ref lst), .val .null, .val .null] [(.ref lst)]))
  refine own_go (fun _ k => XS.aloadN X29.here hx rfl (hb hby di_24) rfl rfl  k) ?_
  show own_G p e below Q (T29.setTop (mkF m 25 #[.val (.ref lst), .val .null, .val .null] [.null, (.ref lst)]))
  refine own_go (fun _ k => XS.ifnonnullNo X29.here hx rfl (hb hby di_25) rfl k) ?_
  show own_G p e below Q (T29.setTop (mkF m 28 #[.val (.ref lst), .val .null, .val .null] [(.ref lst)]))
  refine own_go (fun _ k => XS.aconstNull X29.here hx rfl (hb hby di_28) k) ?_
  show own_G p e below Q (T29.setTop (mkF m 29 #[.val (.ref lst), .val .null, .val .null] [.null, (.ref lst)]))
  refine own_go (fun _ k => XS.goto X29.here hx rfl (pc0 := 29) (pc' := 36) rfl (hb hby di_29) (by decide) (by decide) k) ?_
  show own_G p e below Q (T29.setTop (mkF m 36 #[.val (.ref lst), .val .null, .val .null] [.null, (.ref lst)]))
  obtain ⟨T30, h30, X30, e30, W30, st30⟩ := putF X29 hx hZ hown (host := "") (Or.inl (hw _ (List.mem_of_getElem? (i := 25) rfl))) Via.refl e29 F2d E0d (Or.inr ⟨(hw _ (List.mem_of_getElem? (i := 26) rfl)), rfl, hnm⟩) (hw _ (List.mem_of_getElem? (i := 6) rfl)) (ty := (.object "java/util/List")) (by decide) rfl rfl (g := (mkF m 36 #[.val (.ref lst), .val .null, .val .null] [.null, (.ref lst)])) rfl rfl (hb hby di_36)
  refine own_go st30 ?_
  show own_G p e below Q (T30.setTop (mkF m 39 #[.val (.ref lst), .val .null, .val .null] []))
  have F1e := Fld.other W30 F1d (Or.inr (slot_ne (Or.inr (hw _ (List.mem_of_getElem? (i := 24) rfl))) (Or.inr (hw _ (List.mem_of_getElem? (i := 26) rfl))) (by decide) (t := .array .byte) (t' := .object "java/util/List") (by decide) (by decide)))
  have E0e := Exa.wr W30 E0d
  have K0e := K0d.wr W30 (Or.inl (List.mem_singleton.mpr rfl))
  have N2 := Fr.snoc X30 N1 hl
  subst e30
  exact own_retV X30 hx hlk hret (hb hby di_39) (fun U hU hF => hR _ _ _ _ _ ⟨rfl, hU ▸ K0e, hU ▸ E0e, hU ▸ F1e, N2⟩ (by decide) (by decide) hF)
set_option maxRecDepth 65536 in
set_option maxHeartbeats 40000000 in
theorem own_init (l : Launch) (Z : State) (a0 : Array Value) (hw : ∀ d ∈ tables_1, d.before a0 Z = true) (h0 : Heap) (n0 : Nat) (lst : Addr) (hl : n0 ≤ lst) (E0 : Exa Z h0 lst "com/example/broker_access_control/brokeraccesscontrol/wire/AclListing") (F1 : Fld Z h0 lst "com/example/broker_access_control/brokeraccesscontrol/wire/AclListing" "version" "[B" .null) (F2 : Fld Z h0 lst "com/example/broker_access_control/brokeraccesscontrol/wire/AclListing" "acls" "Ljava/util/List;" .null) (ga : Addr) (n : Nat) (hn : n < 4) (b0 b1 b2 : Int32) (B : own_B Z h0 ga n (own_f b0 b1 b2)) :
    own_C l Z (⟨"com/example/broker_access_control/brokeraccesscontrol/wire/AclListing", "<init>", "([BLjava/util/List;)V"⟩ : MethodName) prog_69_method_1_code 3 none [] ({ frames := 1, cells := 1, slots := 3, locals := 16 } : Room) #[(.ref lst), (.ref ga), .null] h0 (fun v h L => ∃ va, v = none ∧ h0.size ≤ va ∧ Keep h0 h [lst] ∧ Exa Z h lst "com/example/broker_access_control/brokeraccesscontrol/wire/AclListing" ∧ Fld Z h lst "com/example/broker_access_control/brokeraccesscontrol/wire/AclListing" "version" "[B" (.ref va) ∧ own_B Z h va n (own_f b0 b1 b2) ∧ Fr n0 L) := by
  refine own_body pn_c (fun m => ef_i m _ _) ?_
  intro p e s m below meth c T Q hx hby hml hown hnm hret hlk hZ e0 X0 hR
  have N0 := Fr.nil n0
  have K0 := Keep.refl h0 [lst]
  show own_G p e below Q (T.setTop (mkF m 0 #[.val (.ref lst), .val (.ref ga), .val .null] []))
  refine own_go (fun _ k => XS.aloadN X0.here hx rfl (hb hby di_0) rfl rfl  k) ?_
  show own_G p e below Q (T.setTop (mkF m 1 #[.val (.ref lst), .val (.ref ga), .val .null] [(.ref lst)]))
  obtain ⟨T31, X31, e31, st31⟩ := initO X0 hx hZ hown (hw _ (List.mem_of_getElem? (i := 11) rfl)) (hw _ (List.mem_of_getElem? (i := 12) rfl)) (hw _ (List.mem_of_getElem? (i := 13) rfl)) e0 (g := (mkF m 1 #[.val (.ref lst), .val (.ref ga), .val .null] [(.ref lst)])) rfl (by rw [hml]; rfl) rfl (hb hby di_1) (by decide) (W := 0) (by show 2 * 0 + _ ≤ _; exact Nat.le_of_eq rfl) (by decide)
  refine own_go st31 ?_
  show own_G p e below Q (T31.setTop (mkF m 4 #[.val (.ref lst), .val (.ref ga), .val .null] []))
  refine own_go (fun _ k => XS.aloadN X31.here hx rfl (hb hby di_4) rfl rfl  k) ?_
  show own_G p e below Q (T31.setTop (mkF m 5 #[.val (.ref lst), .val (.ref ga), .val .null] [(.ref lst)]))
  refine own_go (fun _ k => XS.aloadN X31.here hx rfl (hb hby di_5) rfl rfl  k) ?_
  show own_G p e below Q (T31.setTop (mkF m 6 #[.val (.ref lst), .val (.ref ga), .val .null] [(.ref ga), (.ref lst)]))
  refine own_go (fun _ k => XS.ifnonnullYes X31.here hx rfl (pc0 := 6) (pc' := 13) rfl (hb hby di_6) rfl (by decide) (by decide) k) ?_
  show own_G p e below Q (T31.setTop (mkF m 13 #[.val (.ref lst), .val (.ref ga), .val .null] [(.ref lst)]))
  refine own_go (fun _ k => XS.aloadN X31.here hx rfl (hb hby di_13) rfl rfl  k) ?_
  show own_G p e below Q (T31.setTop (mkF m 14 #[.val (.ref lst), .val (.ref ga), .val .null] [(.ref ga), (.ref lst)]))
  refine own_clone X31 hx hZ hown (hw _ (List.mem_of_getElem? (i := 14) rfl)) (hw _ (List.mem_of_getElem? (i := 15) rfl)) (hw _ (List.mem_of_getElem? (i := 19) rfl)) (hw _ (List.mem_of_getElem? (i := 17) rfl)) (hw _ (List.mem_of_getElem? (i := 18) rfl)) (hw _ (List.mem_of_getElem? (i := 20) rfl)) e31 B (fun _ => own_ffit _ _ _ _) (Nat.le_of_lt_succ hn) (by rw [hml]; rfl) (hb hby di_14) (by decide) (W := 1) (Nat.le_of_eq rfl) (by decide) (by decide) (by decide) ?_
  intro T32 h32 a32 X32 e32 E32 g32 B32
  show own_G p e below Q (T32.setTop (mkF m 17 #[.val (.ref lst), .val (.ref ga), .val .null] [(.ref a32), (.ref lst)]))
  refine own_cast X32 hx hZ hown (hw _ (List.mem_of_getElem? (i := 21) rfl)) e32 B32.2 (hb hby di_17) ?_
  intro T33 X33 e33
  show own_G p e below Q (T33.setTop (mkF m 20 #[.val (.ref lst), .val (.ref ga), .val .null] [(.ref a32), (.ref lst)]))
  have F1c := Fld.ext E32 F1
  have F2c := Fld.ext E32 F2
  have E0c := Exa.ext E32 E0
  have K0c := K0.ext E32
  have nec : a32 ≠ lst := Nat.ne_of_gt (Nat.lt_of_lt_of_le E0.lt g32)
  obtain ⟨T34, h34, X34, e34, W34, st34⟩ := putF X33 hx hZ hown (host := "") (Or.inl (hw _ (List.mem_of_getElem? (i := 23) rfl))) Via.refl e33 F1c E0c (Or.inr ⟨(hw _ (List.mem_of_getElem? (i := 24) rfl)), rfl, hnm⟩) (hw _ (List.mem_of_getElem? (i := 6) rfl)) (ty := (.array .byte)) (by decide) rfl rfl (g := (mkF m 20 #[.val (.ref lst), .val (.ref ga), .val .null] [(.ref a32), (.ref lst)])) rfl rfl (hb hby di_20)
  refine own_go st34 ?_
  show own_G p e below Q (T34.setTop (mkF m 23 #[.val (.ref lst), .val (.ref ga), .val .null] []))
  have F2d := Fld.other W34 F2c (Or.inr (slot_ne (Or.inr (hw _ (List.mem_of_getElem? (i := 26) rfl))) (Or.inr (hw _ (List.mem_of_getElem? (i := 24) rfl))) (by decide) (t := .object "java/util/List") (t' := .array .byte) (by decide) (by decide)))
  have E0d := Exa.wr W34 E0c
  have K0d := K0c.wr W34 (Or.inl (List.mem_singleton.mpr rfl))
  have F1d := Fld.same W34 F1c
  have N1 := Fr.snoc X34 N0 hl
  have B1d := own_B_other W34 nec B32
  refine own_go (fun _ k => XS.aloadN X34.here hx rfl (hb hby di_23) rfl rfl  k) ?_
  show own_G p e below Q (T34.setTop (mkF m 24 #[.val (.ref lst), .val (.ref ga), .val .null] [(.ref lst)]))
  refine own_go (fun _ k => XS.aloadN X34.here hx rfl (hb hby di_24) rfl rfl  k) ?_
  show own_G p e below Q (T34.setTop (mkF m 25 #[.val (.ref lst), .val (.ref ga), .val .null] [.null, (.ref lst)]))
  refine own_go (fun _ k => XS.ifnonnullNo X34.here hx rfl (hb hby di_25) rfl k) ?_
  show own_G p e below Q (T34.setTop (mkF m 28 #[.val (.ref lst), .val (.ref ga), .val .null] [(.ref lst)]))
  refine own_go (fun _ k => XS.aconstNull X34.here hx rfl (hb hby di_28) k) ?_
  show own_G p e below Q (T34.setTop (mkF m 29 #[.val (.ref lst), .val (.ref ga), .val .null] [.null, (.ref lst)]))
  refine own_go (fun _ k => XS.goto X34.here hx rfl (pc0 := 29) (pc' := 36) rfl (hb hby di_29) (by decide) (by decide) k) ?_
  show own_G p e below Q (T34.setTop (mkF m 36 #[.val (.ref lst), .val (.ref ga), .val .null] [.null, (.ref lst)]))
  obtain ⟨T35, h35, X35, e35, W35, st35⟩ := putF X34 hx hZ hown (host := "") (Or.inl (hw _ (List.mem_of_getElem? (i := 25) rfl))) Via.refl e34 F2d E0d (Or.inr ⟨(hw _ (List.mem_of_getElem? (i := 26) rfl)), rfl, hnm⟩) (hw _ (List.mem_of_getElem? (i := 6) rfl)) (ty := (.object "java/util/List")) (by decide) rfl rfl (g := (mkF m 36 #[.val (.ref lst), .val (.ref ga), .val .null] [.null, (.ref lst)])) rfl rfl (hb hby di_36)
  refine own_go st35 ?_
  show own_G p e below Q (T35.setTop (mkF m 39 #[.val (.ref lst), .val (.ref ga), .val .null] []))
  have F1e := Fld.other W35 F1d (Or.inr (slot_ne (Or.inr (hw _ (List.mem_of_getElem? (i := 24) rfl))) (Or.inr (hw _ (List.mem_of_getElem? (i := 26) rfl))) (by decide) (t := .array .byte) (t' := .object "java/util/List") (by decide) (by decide)))
  have E0e := Exa.wr W35 E0d
  have K0e := K0d.wr W35 (Or.inl (List.mem_singleton.mpr rfl))
  have N2 := Fr.snoc X35 N1 hl
  have B1e := own_B_other W35 nec B1d
  subst e35
  exact own_retV X35 hx hlk hret (hb hby di_39) (fun U hU hF => hR _ _ _ _ _ ⟨_, rfl, g32, hU ▸ K0e, hU ▸ E0e, hU ▸ F1e, hU ▸ B1e, N2⟩ (by decide) (by decide) hF)
set_option maxRecDepth 65536 in
set_option maxHeartbeats 40000000 in
theorem rm0 (l : Launch) (Z : State) (a0 : Array Value) (hw : ∀ d ∈ tables_1, d.before a0 Z = true) (p1 b0 b1 b2 : Int32) :
    own_C l Z x code maxLocals ret tables_1 room_1 #[.int p1, .int b0, .int b1, .int b2] Z.heap (fun v h L => v = some (.int 1) ∧ Fr Z.heap.size L) := by
  refine own_body pn_l (fun m => ef_0 m _ _ _ _) ?_
  intro p e s m below meth c T Q hx hby hml hown hnm hret hlk hZ e0 X0 hR
  have O0 := Old.start Z
  have N0 := Fr.nil Z.heap.size
  obtain ⟨n, hn, hr⟩ := own_four ((p1.toUInt32 >>> ((1 : Int32) &&& 31).toUInt32).toInt32)
  show own_G p e below Q (T.setTop (mkF m 0 #[.val (.int p1), .val (.int b0), .val (.int b1), .val (.int b2), .unset, .unset, .unset, .unset, .unset, .unset] []))
  refine own_go (fun _ k => XS.iloadN X0.here hx rfl (hb hby at_0) rfl  k) ?_
  show own_G p e below Q (T.setTop (mkF m 1 #[.val (.int p1), .val (.int b0), .val (.int b1), .val (.int b2), .unset, .unset, .unset, .unset, .unset, .unset] [(.int p1)]))
  refine own_go (fun _ k => XS.iconst X0.here hx rfl (hb hby at_1) k) ?_
  show own_G p e below Q (T.setTop (mkF m 2 #[.val (.int p1), .val (.int b0), .val (.int b1), .val (.int b2), .unset, .unset, .unset, .unset, .unset, .unset] [(.int (1 : Int32)), (.int p1)]))
  refine own_go (fun _ k => XS.iand X0.here hx rfl (hb hby at_2) rfl k) ?_
  show own_G p e below Q (T.setTop (mkF m 3 #[.val (.int p1), .val (.int b0), .val (.int b1), .val (.int b2), .unset, .unset, .unset, .unset, .unset, .unset] [(.int (p1 &&& (1 : Int32)))]))
  by_cases hs : (p1 &&& (1 : Int32)) = (0 : Int32)
  · refine own_go (fun _ k => XS.ifYes X0.here hx rfl (pc0 := 3) (pc' := 10) rfl (hb hby at_3) rfl ((if0 _ _).trans (teq hs).1) (by decide) (by decide) k) ?_
    show own_G p e below Q (T.setTop (mkF m 10 #[.val (.int p1), .val (.int b0), .val (.int b1), .val (.int b2), .unset, .unset, .unset, .unset, .unset, .unset] []))
    refine own_go (fun _ k => XS.iconst X0.here hx rfl (hb hby at_10) k) ?_
    show own_G p e below Q (T.setTop (mkF m 11 #[.val (.int p1), .val (.int b0), .val (.int b1), .val (.int b2), .unset, .unset, .unset, .unset, .unset, .unset] [(.int (0 : Int32))]))
    refine own_go (fun _ k => XS.istore X0.here hx rfl (hb hby at_11) rfl (l' := #[.val (.int p1), .val (.int b0), .val (.int b1), .val (.int b2), .val (.int (0 : Int32)), .unset, .unset, .unset, .unset, .unset]) rfl k) ?_
    show own_G p e below Q (T.setTop (mkF m 13 #[.val (.int p1), .val (.int b0), .val (.int b1), .val (.int b2), .val (.int (0 : Int32)), .unset, .unset, .unset, .unset, .unset] []))
    refine own_go (fun _ k => XS.iloadN X0.here hx rfl (hb hby at_13) rfl  k) ?_
    show own_G p e below Q (T.setTop (mkF m 14 #[.val (.int p1), .val (.int b0), .val (.int b1), .val (.int b2), .val (.int (0 : Int32)), .unset, .unset, .unset, .unset, .unset] [(.int p1)]))
    refine own_go (fun _ k => XS.iconst X0.here hx rfl (hb hby at_14) k) ?_
    show own_G p e below Q (T.setTop (mkF m 15 #[.val (.int p1), .val (.int b0), .val (.int b1), .val (.int b2), .val (.int (0 : Int32)), .unset, .unset, .unset, .unset, .unset] [(.int (1 : Int32)), (.int p1)]))
    refine own_go (fun _ k => XS.iushr X0.here hx rfl (hb hby at_15) rfl k) ?_
    show own_G p e below Q (T.setTop (mkF m 16 #[.val (.int p1), .val (.int b0), .val (.int b1), .val (.int b2), .val (.int (0 : Int32)), .unset, .unset, .unset, .unset, .unset] [(.int ((p1.toUInt32 >>> ((1 : Int32) &&& 31).toUInt32).toInt32))]))
    refine own_go (fun _ k => XS.iconst X0.here hx rfl (hb hby at_16) k) ?_
    show own_G p e below Q (T.setTop (mkF m 17 #[.val (.int p1), .val (.int b0), .val (.int b1), .val (.int b2), .val (.int (0 : Int32)), .unset, .unset, .unset, .unset, .unset] [(.int (3 : Int32)), (.int ((p1.toUInt32 >>> ((1 : Int32) &&& 31).toUInt32).toInt32))]))
    refine own_go (fun _ k => XS.iand X0.here hx rfl (hb hby at_17) rfl k) ?_
    show own_G p e below Q (T.setTop (mkF m 18 #[.val (.int p1), .val (.int b0), .val (.int b1), .val (.int b2), .val (.int (0 : Int32)), .unset, .unset, .unset, .unset, .unset] [(.int (((p1.toUInt32 >>> ((1 : Int32) &&& 31).toUInt32).toInt32) &&& (3 : Int32)))]))
    rw [hr]
    show own_G p e below Q (T.setTop (mkF m 18 #[.val (.int p1), .val (.int b0), .val (.int b1), .val (.int b2), .val (.int (0 : Int32)), .unset, .unset, .unset, .unset, .unset] [(.int (Int32.ofNat n))]))
    refine own_go (fun _ k => XS.istore X0.here hx rfl (hb hby at_18) rfl (l' := #[.val (.int p1), .val (.int b0), .val (.int b1), .val (.int b2), .val (.int (0 : Int32)), .val (.int (Int32.ofNat n)), .unset, .unset, .unset, .unset]) rfl k) ?_
    show own_G p e below Q (T.setTop (mkF m 20 #[.val (.int p1), .val (.int b0), .val (.int b1), .val (.int b2), .val (.int (0 : Int32)), .val (.int (Int32.ofNat n)), .unset, .unset, .unset, .unset] []))
    refine own_go (fun _ k => XS.iload X0.here hx rfl (hb hby at_20) rfl  k) ?_
    show own_G p e below Q (T.setTop (mkF m 22 #[.val (.int p1), .val (.int b0), .val (.int b1), .val (.int b2), .val (.int (0 : Int32)), .val (.int (Int32.ofNat n)), .unset, .unset, .unset, .unset] [(.int (0 : Int32))]))
    refine own_go (fun _ k => XS.ifYes X0.here hx rfl (pc0 := 22) (pc' := 29) rfl (hb hby at_22) rfl ((if0 _ _).trans (teq (by decide : (0 : Int32) = (0 : Int32))).1) (by decide) (by decide) k) ?_
    show own_G p e below Q (T.setTop (mkF m 29 #[.val (.int p1), .val (.int b0), .val (.int b1), .val (.int b2), .val (.int (0 : Int32)), .val (.int (Int32.ofNat n)), .unset, .unset, .unset, .unset] []))
    refine own_go (fun _ k => XS.iload X0.here hx rfl (hb hby at_29) rfl  k) ?_
    show own_G p e below Q (T.setTop (mkF m 31 #[.val (.int p1), .val (.int b0), .val (.int b1), .val (.int b2), .val (.int (0 : Int32)), .val (.int (Int32.ofNat n)), .unset, .unset, .unset, .unset] [(.int (Int32.ofNat n))]))
    refine own_go (fun _ k => XS.iloadN X0.here hx rfl (hb hby at_31) rfl  k) ?_
    show own_G p e below Q (T.setTop (mkF m 32 #[.val (.int p1), .val (.int b0), .val (.int b1), .val (.int b2), .val (.int (0 : Int32)), .val (.int (Int32.ofNat n)), .unset, .unset, .unset, .unset] [(.int b0), (.int (Int32.ofNat n))]))
    refine own_go (fun _ k => XS.iloadN X0.here hx rfl (hb hby at_32) rfl  k) ?_
    show own_G p e below Q (T.setTop (mkF m 33 #[.val (.int p1), .val (.int b0), .val (.int b1), .val (.int b2), .val (.int (0 : Int32)), .val (.int (Int32.ofNat n)), .unset, .unset, .unset, .unset] [(.int b1), (.int b0), (.int (Int32.ofNat n))]))
    refine own_go (fun _ k => XS.iloadN X0.here hx rfl (hb hby at_33) rfl  k) ?_
    show own_G p e below Q (T.setTop (mkF m 34 #[.val (.int p1), .val (.int b0), .val (.int b1), .val (.int b2), .val (.int (0 : Int32)), .val (.int (Int32.ofNat n)), .unset, .unset, .unset, .unset] [(.int b2), (.int b1), (.int b0), (.int (Int32.ofNat n))]))
    refine own_callS X0 hx hZ hown (hw _ (List.mem_of_getElem? (i := 0) rfl)) (hw _ (List.mem_of_getElem? (i := 1) rfl)) (hw _ (List.mem_of_getElem? (i := 2) rfl)) (hw _ (List.mem_of_getElem? (i := 3) rfl)) (by decide) (argsL := [(.int (Int32.ofNat n)), (.int b0), (.int b1), (.int b2)]) (rest := []) e0 (own_make l Z a0 hw _ _ O0 n hn b0 b1 b2) rfl (by rw [hml]; rfl) pd_m rfl (hb hby at_34) (W := 0) (Nat.le_of_eq rfl) (by decide) (by decide) (by decide) (by decide) ?_
    rintro _ T1 L1 X1 ⟨ga, rfl, g1, K1, B1, N1⟩
    show own_G p e below Q (T1.setTop (mkF m 37 #[.val (.int p1), .val (.int b0), .val (.int b1), .val (.int b2), .val (.int (0 : Int32)), .val (.int (Int32.ofNat n)), .unset, .unset, .unset, .unset] [(.ref ga)]))
    refine own_go (fun _ k => XS.astore X1.here hx rfl (hb hby at_37) rfl rfl (l' := #[.val (.int p1), .val (.int b0), .val (.int b1), .val (.int b2), .val (.int (0 : Int32)), .val (.int (Int32.ofNat n)), .val (.ref ga), .unset, .unset, .unset]) rfl k) ?_
    show own_G p e below Q (T1.setTop (mkF m 39 #[.val (.int p1), .val (.int b0), .val (.int b1), .val (.int b2), .val (.int (0 : Int32)), .val (.int (Int32.ofNat n)), .val (.ref ga), .unset, .unset, .unset] []))
    obtain ⟨T40, h40, X40, e40, E40, A40, D40, -, st40⟩ := newO X1 hx hZ hown (hw _ (List.mem_of_getElem? (i := 5) rfl)) (hw _ (List.mem_of_getElem? (i := 6) rfl)) (hw _ (List.mem_of_getElem? (i := 7) rfl)) (rfl : T1.heap = _) (g := (mkF m 39 #[.val (.int p1), .val (.int b0), .val (.int b1), .val (.int b2), .val (.int (0 : Int32)), .val (.int (Int32.ofNat n)), .val (.ref ga), .unset, .unset, .unset] [])) rfl (hb hby at_39) (by decide) (by decide)
    refine own_go st40 ?_
    obtain ⟨lst, hl⟩ : ∃ z, z = T1.heap.size := ⟨_, rfl⟩
    rw [← hl] at A40 D40 ⊢
    show own_G p e below Q (T40.setTop (mkF m 42 #[.val (.int p1), .val (.int b0), .val (.int b1), .val (.int b2), .val (.int (0 : Int32)), .val (.int (Int32.ofNat n)), .val (.ref ga), .unset, .unset, .unset] [(.ref lst)]))
    have F1 : Fld Z h40 lst "com/example/broker_access_control/brokeraccesscontrol/wire/AclListing" "version" "[B" .null := D40 (Or.inr (hw _ (List.mem_of_getElem? (i := 24) rfl))) (ty := .array .byte) (by decide)
    have F2 : Fld Z h40 lst "com/example/broker_access_control/brokeraccesscontrol/wire/AclListing" "acls" "Ljava/util/List;" .null := D40 (Or.inr (hw _ (List.mem_of_getElem? (i := 26) rfl))) (ty := .object "java/util/List") (by decide)
    have hls : Z.heap.size ≤ lst := by rw [hl]; exact K1.1
    have hgl : ga < lst := by rw [hl]; exact own_B_lt B1
    have B2 := own_B_keep ((Keep.refl _ []).ext E40) nin0 B1
    have s2 := Nat.lt_of_lt_of_le hgl (Nat.le_of_lt A40.lt)
    have l2 := A40.lt
    refine own_go (fun _ k => XS.dup X40.here hx rfl (hb hby at_42) rfl rfl k) ?_
    show own_G p e below Q (T40.setTop (mkF m 43 #[.val (.int p1), .val (.int b0), .val (.int b1), .val (.int b2), .val (.int (0 : Int32)), .val (.int (Int32.ofNat n)), .val (.ref ga), .unset, .unset, .unset] [(.ref lst), (.ref lst)]))
    refine own_go (fun _ k => XS.aload X40.here hx rfl (hb hby at_43) rfl rfl  k) ?_
    show own_G p e below Q (T40.setTop (mkF m 45 #[.val (.int p1), .val (.int b0), .val (.int b1), .val (.int b2), .val (.int (0 : Int32)), .val (.int (Int32.ofNat n)), .val (.ref ga), .unset, .unset, .unset] [(.ref ga), (.ref lst), (.ref lst)]))
    refine own_go (fun _ k => XS.aconstNull X40.here hx rfl (hb hby at_45) k) ?_
    show own_G p e below Q (T40.setTop (mkF m 46 #[.val (.int p1), .val (.int b0), .val (.int b1), .val (.int b2), .val (.int (0 : Int32)), .val (.int (Int32.ofNat n)), .val (.ref ga), .unset, .unset, .unset] [.null, (.ref ga), (.ref lst), (.ref lst)]))
    refine own_callI X40 hx hZ rfl hown (hw _ (List.mem_of_getElem? (i := 8) rfl)) (hw _ (List.mem_of_getElem? (i := 9) rfl)) (hw _ (List.mem_of_getElem? (i := 10) rfl)) (hw _ (List.mem_of_getElem? (i := 7) rfl)) (by decide) (argsL := [(.ref ga), .null]) (rest := [(.ref lst)]) e40 (own_init l Z a0 hw _ Z.heap.size lst hls A40 F1 F2 ga n hn b0 b1 b2 B2) rfl (by rw [hml]; rfl) pd_i rfl (hb hby at_46) (W := 1) (Nat.le_of_eq rfl) (by decide) (by decide) (by decide) (by decide) ?_
    rintro _ T3 L3 X3 ⟨va, rfl, g3, K3, E3, V3, B3, N3⟩
    show own_G p e below Q (T3.setTop (mkF m 49 #[.val (.int p1), .val (.int b0), .val (.int b1), .val (.int b2), .val (.int (0 : Int32)), .val (.int (Int32.ofNat n)), .val (.ref ga), .unset, .unset, .unset] [(.ref lst)]))
    have G3 := own_B_keep K3 (ninS (Nat.ne_of_lt hgl) nin0) B2
    have lv : lst < va := Nat.lt_of_lt_of_le l2 g3
    have gv : ga < va := Nat.lt_trans hgl lv
    refine own_go (fun _ k => XS.astore X3.here hx rfl (hb hby at_49) rfl rfl (l' := #[.val (.int p1), .val (.int b0), .val (.int b1), .val (.int b2), .val (.int (0 : Int32)), .val (.int (Int32.ofNat n)), .val (.ref ga), .val (.ref lst), .unset, .unset]) rfl k) ?_
    show own_G p e below Q (T3.setTop (mkF m 51 #[.val (.int p1), .val (.int b0), .val (.int b1), .val (.int b2), .val (.int (0 : Int32)), .val (.int (Int32.ofNat n)), .val (.ref ga), .val (.ref lst), .unset, .unset] []))
    refine own_go (fun _ k => XS.aload X3.here hx rfl (hb hby at_51) rfl rfl  k) ?_
    show own_G p e below Q (T3.setTop (mkF m 53 #[.val (.int p1), .val (.int b0), .val (.int b1), .val (.int b2), .val (.int (0 : Int32)), .val (.int (Int32.ofNat n)), .val (.ref ga), .val (.ref lst), .unset, .unset] [(.ref ga)]))
    refine own_go (fun _ k => XS.ifnullNo X3.here hx rfl (hb hby at_53) rfl k) ?_
    show own_G p e below Q (T3.setTop (mkF m 56 #[.val (.int p1), .val (.int b0), .val (.int b1), .val (.int b2), .val (.int (0 : Int32)), .val (.int (Int32.ofNat n)), .val (.ref ga), .val (.ref lst), .unset, .unset] []))
    refine own_go (fun _ k => XS.aload X3.here hx rfl (hb hby at_56) rfl rfl  k) ?_
    show own_G p e below Q (T3.setTop (mkF m 58 #[.val (.int p1), .val (.int b0), .val (.int b1), .val (.int b2), .val (.int (0 : Int32)), .val (.int (Int32.ofNat n)), .val (.ref ga), .val (.ref lst), .unset, .unset] [(.ref ga)]))
    refine own_callS X3 hx hZ hown (hw _ (List.mem_of_getElem? (i := 27) rfl)) (hw _ (List.mem_of_getElem? (i := 28) rfl)) (hw _ (List.mem_of_getElem? (i := 2) rfl)) (hw _ (List.mem_of_getElem? (i := 29) rfl)) (by decide) (argsL := [(.ref ga)]) (rest := []) (rfl : T3.heap = _) (own_flip l Z a0 hw _ Z.heap.size ga g1 n hn (own_B_i G3)) rfl (by rw [hml]; rfl) pd_f rfl (hb hby at_58) (W := 0) (Nat.le_of_eq rfl) (by decide) (by decide) (by decide) (by decide) ?_
    rintro _ T4 L4 X4 ⟨rfl, K4, N4⟩
    show own_G p e below Q (T4.setTop (mkF m 61 #[.val (.int p1), .val (.int b0), .val (.int b1), .val (.int b2), .val (.int (0 : Int32)), .val (.int (Int32.ofNat n)), .val (.ref ga), .val (.ref lst), .unset, .unset] []))
    have V4 := V3.keep K4 (ninS (Nat.ne_of_gt hgl) nin0)
    have B4 := own_B_keep K4 (ninS (Nat.ne_of_gt gv) nin0) B3
    have E4 := E3.keep K4
    refine own_go (fun _ k => XS.aload X4.here hx rfl (hb hby at_61) rfl rfl  k) ?_
    show own_G p e below Q (T4.setTop (mkF m 63 #[.val (.int p1), .val (.int b0), .val (.int b1), .val (.int b2), .val (.int (0 : Int32)), .val (.int (Int32.ofNat n)), .val (.ref ga), .val (.ref lst), .unset, .unset] [(.ref lst)]))
    refine own_callV X4 hx hZ hown (hw _ (List.mem_of_getElem? (i := 30) rfl)) (hw _ (List.mem_of_getElem? (i := 31) rfl)) (hw _ (List.mem_of_getElem? (i := 33) rfl)) (hw _ (List.mem_of_getElem? (i := 32) rfl)) (hw _ (List.mem_of_getElem? (i := 34) rfl)) (hw _ (List.mem_of_getElem? (i := 7) rfl)) (by decide) (argsL := []) (rest := []) (rfl : T4.heap = _) E4 (own_ver l Z a0 hw _ lst va n hn b0 b1 b2 V4 B4) rfl (by rw [hml]; rfl) pd_v rfl (hb hby at_63) (W := 0) (Nat.le_of_eq rfl) (by decide) (by decide) (by decide) (by decide) ?_
    rintro _ T5 L5 X5 ⟨fst, rfl, g5, K5, B5, rfl⟩
    show own_G p e below Q (T5.setTop (mkF m 66 #[.val (.int p1), .val (.int b0), .val (.int b1), .val (.int b2), .val (.int (0 : Int32)), .val (.int (Int32.ofNat n)), .val (.ref ga), .val (.ref lst), .unset, .unset] [(.ref fst)]))
    have V5 := V4.keep K5 nin0
    have C5 := own_B_keep K5 nin0 B4
    have E5 := E4.keep K5
    have vf : va < fst := Nat.lt_of_lt_of_le (own_B_lt B4) g5
    have lf : lst < fst := Nat.lt_trans lv vf
    have gf : ga < fst := Nat.lt_trans gv vf
    refine own_go (fun _ k => XS.astore X5.here hx rfl (hb hby at_66) rfl rfl (l' := #[.val (.int p1), .val (.int b0), .val (.int b1), .val (.int b2), .val (.int (0 : Int32)), .val (.int (Int32.ofNat n)), .val (.ref ga), .val (.ref lst), .val (.ref fst), .unset]) rfl k) ?_
    show own_G p e below Q (T5.setTop (mkF m 68 #[.val (.int p1), .val (.int b0), .val (.int b1), .val (.int b2), .val (.int (0 : Int32)), .val (.int (Int32.ofNat n)), .val (.ref ga), .val (.ref lst), .val (.ref fst), .unset] []))
    refine own_go (fun _ k => XS.iload X5.here hx rfl (hb hby at_68) rfl  k) ?_
    show own_G p e below Q (T5.setTop (mkF m 70 #[.val (.int p1), .val (.int b0), .val (.int b1), .val (.int b2), .val (.int (0 : Int32)), .val (.int (Int32.ofNat n)), .val (.ref ga), .val (.ref lst), .val (.ref fst), .unset] [(.int (0 : Int32))]))
    refine own_go (fun _ k => XS.ifYes X5.here hx rfl (pc0 := 70) (pc' := 92) rfl (hb hby at_70) rfl ((if0 _ _).trans (teq (by decide : (0 : Int32) = (0 : Int32))).1) (by decide) (by decide) k) ?_
    show own_G p e below Q (T5.setTop (mkF m 92 #[.val (.int p1), .val (.int b0), .val (.int b1), .val (.int b2), .val (.int (0 : Int32)), .val (.int (Int32.ofNat n)), .val (.ref ga), .val (.ref lst), .val (.ref fst), .unset] []))
    refine own_go (fun _ k => XS.aload X5.here hx rfl (hb hby at_92) rfl rfl  k) ?_
    show own_G p e below Q (T5.setTop (mkF m 94 #[.val (.int p1), .val (.int b0), .val (.int b1), .val (.int b2), .val (.int (0 : Int32)), .val (.int (Int32.ofNat n)), .val (.ref ga), .val (.ref lst), .val (.ref fst), .unset] [(.ref fst)]))
    refine own_go (fun _ k => XS.ifnullNo X5.here hx rfl (hb hby at_94) rfl k) ?_
    show own_G p e below Q (T5.setTop (mkF m 97 #[.val (.int p1), .val (.int b0), .val (.int b1), .val (.int b2), .val (.int (0 : Int32)), .val (.int (Int32.ofNat n)), .val (.ref ga), .val (.ref lst), .val (.ref fst), .unset] []))
    refine own_go (fun _ k => XS.aload X5.here hx rfl (hb hby at_97) rfl rfl  k) ?_
    show own_G p e below Q (T5.setTop (mkF m 99 #[.val (.int p1), .val (.int b0), .val (.int b1), .val (.int b2), .val (.int (0 : Int32)), .val (.int (Int32.ofNat n)), .val (.ref ga), .val (.ref lst), .val (.ref fst), .unset] [(.ref fst)]))
    refine own_go (fun _ k => XS.aload X5.here hx rfl (hb hby at_99) rfl rfl  k) ?_
    show own_G p e below Q (T5.setTop (mkF m 101 #[.val (.int p1), .val (.int b0), .val (.int b1), .val (.int b2), .val (.int (0 : Int32)), .val (.int (Int32.ofNat n)), .val (.ref ga), .val (.ref lst), .val (.ref fst), .unset] [(.ref ga), (.ref fst)]))
    refine own_go (fun _ k => Jvm.RoadKit.acmp (g := (mkF m 101 #[.val (.int p1), .val (.int b0), .val (.int b1), .val (.int b2), .val (.int (0 : Int32)), .val (.int (Int32.ofNat n)), .val (.ref ga), .val (.ref lst), .val (.ref fst), .unset] [(.ref ga), (.ref fst)])) X5 hx rfl rfl rfl (pc0 := 101) (pc' := 104) (same := false) rfl (hb hby at_101) rfl (decide_eq_false fun q => (Nat.ne_of_gt gf) (Value.ref.inj q)) (by decide) (by decide) k) ?_
    show own_G p e below Q (T5.setTop (mkF m 104 #[.val (.int p1), .val (.int b0), .val (.int b1), .val (.int b2), .val (.int (0 : Int32)), .val (.int (Int32.ofNat n)), .val (.ref ga), .val (.ref lst), .val (.ref fst), .unset] []))
    refine own_go (fun _ k => XS.aload X5.here hx rfl (hb hby at_104) rfl rfl  k) ?_
    show own_G p e below Q (T5.setTop (mkF m 106 #[.val (.int p1), .val (.int b0), .val (.int b1), .val (.int b2), .val (.int (0 : Int32)), .val (.int (Int32.ofNat n)), .val (.ref ga), .val (.ref lst), .val (.ref fst), .unset] [(.ref fst)]))
    refine own_go (fun _ k => XS.iload X5.here hx rfl (hb hby at_106) rfl  k) ?_
    show own_G p e below Q (T5.setTop (mkF m 108 #[.val (.int p1), .val (.int b0), .val (.int b1), .val (.int b2), .val (.int (0 : Int32)), .val (.int (Int32.ofNat n)), .val (.ref ga), .val (.ref lst), .val (.ref fst), .unset] [(.int (Int32.ofNat n)), (.ref fst)]))
    refine own_go (fun _ k => XS.iloadN X5.here hx rfl (hb hby at_108) rfl  k) ?_
    show own_G p e below Q (T5.setTop (mkF m 109 #[.val (.int p1), .val (.int b0), .val (.int b1), .val (.int b2), .val (.int (0 : Int32)), .val (.int (Int32.ofNat n)), .val (.ref ga), .val (.ref lst), .val (.ref fst), .unset] [(.int b0), (.int (Int32.ofNat n)), (.ref fst)]))
    refine own_go (fun _ k => XS.iloadN X5.here hx rfl (hb hby at_109) rfl  k) ?_
    show own_G p e below Q (T5.setTop (mkF m 110 #[.val (.int p1), .val (.int b0), .val (.int b1), .val (.int b2), .val (.int (0 : Int32)), .val (.int (Int32.ofNat n)), .val (.ref ga), .val (.ref lst), .val (.ref fst), .unset] [(.int b1), (.int b0), (.int (Int32.ofNat n)), (.ref fst)]))
    refine own_go (fun _ k => XS.iloadN X5.here hx rfl (hb hby at_110) rfl  k) ?_
    show own_G p e below Q (T5.setTop (mkF m 111 #[.val (.int p1), .val (.int b0), .val (.int b1), .val (.int b2), .val (.int (0 : Int32)), .val (.int (Int32.ofNat n)), .val (.ref ga), .val (.ref lst), .val (.ref fst), .unset] [(.int b2), (.int b1), (.int b0), (.int (Int32.ofNat n)), (.ref fst)]))
    refine own_callSP X5 hx hZ hown (hw _ (List.mem_of_getElem? (i := 35) rfl)) (hw _ (List.mem_of_getElem? (i := 36) rfl)) (hw _ (List.mem_of_getElem? (i := 2) rfl)) (hw _ (List.mem_of_getElem? (i := 37) rfl)) (by decide) (argsL := [(.ref fst), (.int (Int32.ofNat n)), (.int b0), (.int b1), (.int b2)]) (rest := []) (rfl : T5.heap = _) (own_same l Z a0 hw _ fst n hn b0 b1 b2 B5) rfl (by rw [hml]; rfl) pd_s rfl (hb hby at_111) (W := 0) (Nat.le_of_eq rfl) (by decide) (by decide) (by decide) (by decide) ?_
    intro T41 X41 e41
    show own_G p e below Q (T41.setTop (mkF m 114 #[.val (.int p1), .val (.int b0), .val (.int b1), .val (.int b2), .val (.int (0 : Int32)), .val (.int (Int32.ofNat n)), .val (.ref ga), .val (.ref lst), .val (.ref fst), .unset] [(.int (1 : Int32))]))
    refine own_go (fun _ k => XS.ifYes X41.here hx rfl (pc0 := 114) (pc' := 119) rfl (hb hby at_114) rfl ((if0 _ _).trans (feq (by decide : ¬ ((1 : Int32) = (0 : Int32)))).2) (by decide) (by decide) k) ?_
    show own_G p e below Q (T41.setTop (mkF m 119 #[.val (.int p1), .val (.int b0), .val (.int b1), .val (.int b2), .val (.int (0 : Int32)), .val (.int (Int32.ofNat n)), .val (.ref ga), .val (.ref lst), .val (.ref fst), .unset] []))
    refine own_go (fun _ k => XS.aload X41.here hx rfl (hb hby at_119) rfl rfl  k) ?_
    show own_G p e below Q (T41.setTop (mkF m 121 #[.val (.int p1), .val (.int b0), .val (.int b1), .val (.int b2), .val (.int (0 : Int32)), .val (.int (Int32.ofNat n)), .val (.ref ga), .val (.ref lst), .val (.ref fst), .unset] [(.ref fst)]))
    have B6 : own_B Z T5.heap fst n (own_f b0 b1 b2) := B5
    refine own_callS X41 hx hZ hown (hw _ (List.mem_of_getElem? (i := 27) rfl)) (hw _ (List.mem_of_getElem? (i := 28) rfl)) (hw _ (List.mem_of_getElem? (i := 2) rfl)) (hw _ (List.mem_of_getElem? (i := 29) rfl)) (by decide) (argsL := [(.ref fst)]) (rest := []) e41 (own_flip l Z a0 hw _ Z.heap.size fst (Nat.le_of_lt (Nat.lt_of_le_of_lt g1 gf)) n hn (own_B_i B6)) rfl (by rw [hml]; rfl) pd_f rfl (hb hby at_121) (W := 0) (Nat.le_of_eq rfl) (by decide) (by decide) (by decide) (by decide) ?_
    rintro _ T7 L7 X7 ⟨rfl, K7, N7⟩
    show own_G p e below Q (T7.setTop (mkF m 124 #[.val (.int p1), .val (.int b0), .val (.int b1), .val (.int b2), .val (.int (0 : Int32)), .val (.int (Int32.ofNat n)), .val (.ref ga), .val (.ref lst), .val (.ref fst), .unset] []))
    have V7 := V5.keep K7 (ninS (Nat.ne_of_lt lf) nin0)
    have B7 := own_B_keep K7 (ninS (Nat.ne_of_lt vf) nin0) C5
    have E7 := E5.keep K7
    refine own_go (fun _ k => XS.aload X7.here hx rfl (hb hby at_124) rfl rfl  k) ?_
    show own_G p e below Q (T7.setTop (mkF m 126 #[.val (.int p1), .val (.int b0), .val (.int b1), .val (.int b2), .val (.int (0 : Int32)), .val (.int (Int32.ofNat n)), .val (.ref ga), .val (.ref lst), .val (.ref fst), .unset] [(.ref lst)]))
    refine own_callV X7 hx hZ hown (hw _ (List.mem_of_getElem? (i := 30) rfl)) (hw _ (List.mem_of_getElem? (i := 31) rfl)) (hw _ (List.mem_of_getElem? (i := 33) rfl)) (hw _ (List.mem_of_getElem? (i := 32) rfl)) (hw _ (List.mem_of_getElem? (i := 34) rfl)) (hw _ (List.mem_of_getElem? (i := 7) rfl)) (by decide) (argsL := []) (rest := []) (rfl : T7.heap = _) E7 (own_ver l Z a0 hw _ lst va n hn b0 b1 b2 V7 B7) rfl (by rw [hml]; rfl) pd_v rfl (hb hby at_126) (W := 0) (Nat.le_of_eq rfl) (by decide) (by decide) (by decide) (by decide) ?_
    rintro _ T8 L8 X8 ⟨snd, rfl, g8, K8, B8, rfl⟩
    show own_G p e below Q (T8.setTop (mkF m 129 #[.val (.int p1), .val (.int b0), .val (.int b1), .val (.int b2), .val (.int (0 : Int32)), .val (.int (Int32.ofNat n)), .val (.ref ga), .val (.ref lst), .val (.ref fst), .unset] [(.ref snd)]))
    have fs : fst < snd := Nat.lt_of_lt_of_le (Nat.lt_of_lt_of_le (own_B_lt B6) K7.1) g8
    have gs : ga < snd := Nat.lt_trans gf fs
    refine own_go (fun _ k => XS.astore X8.here hx rfl (hb hby at_129) rfl rfl (l' := #[.val (.int p1), .val (.int b0), .val (.int b1), .val (.int b2), .val (.int (0 : Int32)), .val (.int (Int32.ofNat n)), .val (.ref ga), .val (.ref lst), .val (.ref fst), .val (.ref snd)]) rfl k) ?_
    show own_G p e below Q (T8.setTop (mkF m 131 #[.val (.int p1), .val (.int b0), .val (.int b1), .val (.int b2), .val (.int (0 : Int32)), .val (.int (Int32.ofNat n)), .val (.ref ga), .val (.ref lst), .val (.ref fst), .val (.ref snd)] []))
    refine own_go (fun _ k => XS.aload X8.here hx rfl (hb hby at_131) rfl rfl  k) ?_
    show own_G p e below Q (T8.setTop (mkF m 133 #[.val (.int p1), .val (.int b0), .val (.int b1), .val (.int b2), .val (.int (0 : Int32)), .val (.int (Int32.ofNat n)), .val (.ref ga), .val (.ref lst), .val (.ref fst), .val (.ref snd)] [(.ref snd)]))
    refine own_go (fun _ k => XS.ifnullNo X8.here hx rfl (hb hby at_133) rfl k) ?_
    show own_G p e below Q (T8.setTop (mkF m 136 #[.val (.int p1), .val (.int b0), .val (.int b1), .val (.int b2), .val (.int (0 : Int32)), .val (.int (Int32.ofNat n)), .val (.ref ga), .val (.ref lst), .val (.ref fst), .val (.ref snd)] []))
    refine own_go (fun _ k => XS.aload X8.here hx rfl (hb hby at_136) rfl rfl  k) ?_
    show own_G p e below Q (T8.setTop (mkF m 138 #[.val (.int p1), .val (.int b0), .val (.int b1), .val (.int b2), .val (.int (0 : Int32)), .val (.int (Int32.ofNat n)), .val (.ref ga), .val (.ref lst), .val (.ref fst), .val (.ref snd)] [(.ref snd)]))
    refine own_go (fun _ k => XS.aload X8.here hx rfl (hb hby at_138) rfl rfl  k) ?_
    show own_G p e below Q (T8.setTop (mkF m 140 #[.val (.int p1), .val (.int b0), .val (.int b1), .val (.int b2), .val (.int (0 : Int32)), .val (.int (Int32.ofNat n)), .val (.ref ga), .val (.ref lst), .val (.ref fst), .val (.ref snd)] [(.ref fst), (.ref snd)]))
    refine own_go (fun _ k => Jvm.RoadKit.acmp (g := (mkF m 140 #[.val (.int p1), .val (.int b0), .val (.int b1), .val (.int b2), .val (.int (0 : Int32)), .val (.int (Int32.ofNat n)), .val (.ref ga), .val (.ref lst), .val (.ref fst), .val (.ref snd)] [(.ref fst), (.ref snd)])) X8 hx rfl rfl rfl (pc0 := 140) (pc' := 143) (same := false) rfl (hb hby at_140) rfl (decide_eq_false fun q => (Nat.ne_of_gt fs) (Value.ref.inj q)) (by decide) (by decide) k) ?_
    show own_G p e below Q (T8.setTop (mkF m 143 #[.val (.int p1), .val (.int b0), .val (.int b1), .val (.int b2), .val (.int (0 : Int32)), .val (.int (Int32.ofNat n)), .val (.ref ga), .val (.ref lst), .val (.ref fst), .val (.ref snd)] []))
    refine own_go (fun _ k => XS.aload X8.here hx rfl (hb hby at_143) rfl rfl  k) ?_
    show own_G p e below Q (T8.setTop (mkF m 145 #[.val (.int p1), .val (.int b0), .val (.int b1), .val (.int b2), .val (.int (0 : Int32)), .val (.int (Int32.ofNat n)), .val (.ref ga), .val (.ref lst), .val (.ref fst), .val (.ref snd)] [(.ref snd)]))
    refine own_go (fun _ k => XS.aload X8.here hx rfl (hb hby at_145) rfl rfl  k) ?_
    show own_G p e below Q (T8.setTop (mkF m 147 #[.val (.int p1), .val (.int b0), .val (.int b1), .val (.int b2), .val (.int (0 : Int32)), .val (.int (Int32.ofNat n)), .val (.ref ga), .val (.ref lst), .val (.ref fst), .val (.ref snd)] [(.ref ga), (.ref snd)]))
    refine own_go (fun _ k => Jvm.RoadKit.acmp (g := (mkF m 147 #[.val (.int p1), .val (.int b0), .val (.int b1), .val (.int b2), .val (.int (0 : Int32)), .val (.int (Int32.ofNat n)), .val (.ref ga), .val (.ref lst), .val (.ref fst), .val (.ref snd)] [(.ref ga), (.ref snd)])) X8 hx rfl rfl rfl (pc0 := 147) (pc' := 150) (same := false) rfl (hb hby at_147) rfl (decide_eq_false fun q => (Nat.ne_of_gt gs) (Value.ref.inj q)) (by decide) (by decide) k) ?_
    show own_G p e below Q (T8.setTop (mkF m 150 #[.val (.int p1), .val (.int b0), .val (.int b1), .val (.int b2), .val (.int (0 : Int32)), .val (.int (Int32.ofNat n)), .val (.ref ga), .val (.ref lst), .val (.ref fst), .val (.ref snd)] []))
    refine own_go (fun _ k => XS.aload X8.here hx rfl (hb hby at_150) rfl rfl  k) ?_
    show own_G p e below Q (T8.setTop (mkF m 152 #[.val (.int p1), .val (.int b0), .val (.int b1), .val (.int b2), .val (.int (0 : Int32)), .val (.int (Int32.ofNat n)), .val (.ref ga), .val (.ref lst), .val (.ref fst), .val (.ref snd)] [(.ref snd)]))
    refine own_go (fun _ k => XS.iload X8.here hx rfl (hb hby at_152) rfl  k) ?_
    show own_G p e below Q (T8.setTop (mkF m 154 #[.val (.int p1), .val (.int b0), .val (.int b1), .val (.int b2), .val (.int (0 : Int32)), .val (.int (Int32.ofNat n)), .val (.ref ga), .val (.ref lst), .val (.ref fst), .val (.ref snd)] [(.int (Int32.ofNat n)), (.ref snd)]))
    refine own_go (fun _ k => XS.iloadN X8.here hx rfl (hb hby at_154) rfl  k) ?_
    show own_G p e below Q (T8.setTop (mkF m 155 #[.val (.int p1), .val (.int b0), .val (.int b1), .val (.int b2), .val (.int (0 : Int32)), .val (.int (Int32.ofNat n)), .val (.ref ga), .val (.ref lst), .val (.ref fst), .val (.ref snd)] [(.int b0), (.int (Int32.ofNat n)), (.ref snd)]))
    refine own_go (fun _ k => XS.iloadN X8.here hx rfl (hb hby at_155) rfl  k) ?_
    show own_G p e below Q (T8.setTop (mkF m 156 #[.val (.int p1), .val (.int b0), .val (.int b1), .val (.int b2), .val (.int (0 : Int32)), .val (.int (Int32.ofNat n)), .val (.ref ga), .val (.ref lst), .val (.ref fst), .val (.ref snd)] [(.int b1), (.int b0), (.int (Int32.ofNat n)), (.ref snd)]))
    refine own_go (fun _ k => XS.iloadN X8.here hx rfl (hb hby at_156) rfl  k) ?_
    show own_G p e below Q (T8.setTop (mkF m 157 #[.val (.int p1), .val (.int b0), .val (.int b1), .val (.int b2), .val (.int (0 : Int32)), .val (.int (Int32.ofNat n)), .val (.ref ga), .val (.ref lst), .val (.ref fst), .val (.ref snd)] [(.int b2), (.int b1), (.int b0), (.int (Int32.ofNat n)), (.ref snd)]))
    refine own_callSP X8 hx hZ hown (hw _ (List.mem_of_getElem? (i := 35) rfl)) (hw _ (List.mem_of_getElem? (i := 36) rfl)) (hw _ (List.mem_of_getElem? (i := 2) rfl)) (hw _ (List.mem_of_getElem? (i := 37) rfl)) (by decide) (argsL := [(.ref snd), (.int (Int32.ofNat n)), (.int b0), (.int b1), (.int b2)]) (rest := []) (rfl : T8.heap = _) (own_same l Z a0 hw _ snd n hn b0 b1 b2 B8) rfl (by rw [hml]; rfl) pd_s rfl (hb hby at_157) (W := 0) (Nat.le_of_eq rfl) (by decide) (by decide) (by decide) (by decide) ?_
    intro T42 X42 e42
    show own_G p e below Q (T42.setTop (mkF m 160 #[.val (.int p1), .val (.int b0), .val (.int b1), .val (.int b2), .val (.int (0 : Int32)), .val (.int (Int32.ofNat n)), .val (.ref ga), .val (.ref lst), .val (.ref fst), .val (.ref snd)] [(.int (1 : Int32))]))
    refine own_go (fun _ k => XS.ifNo X42.here hx rfl (hb hby at_160) rfl ((if0 _ _).trans (feq (by decide : ¬ ((1 : Int32) = (0 : Int32)))).1) k) ?_
    show own_G p e below Q (T42.setTop (mkF m 163 #[.val (.int p1), .val (.int b0), .val (.int b1), .val (.int b2), .val (.int (0 : Int32)), .val (.int (Int32.ofNat n)), .val (.ref ga), .val (.ref lst), .val (.ref fst), .val (.ref snd)] []))
    refine own_go (fun _ k => XS.iconst X42.here hx rfl (hb hby at_163) k) ?_
    show own_G p e below Q (T42.setTop (mkF m 164 #[.val (.int p1), .val (.int b0), .val (.int b1), .val (.int b2), .val (.int (0 : Int32)), .val (.int (Int32.ofNat n)), .val (.ref ga), .val (.ref lst), .val (.ref fst), .val (.ref snd)] [(.int (1 : Int32))]))
    refine own_go (fun _ k => XS.goto X42.here hx rfl (pc0 := 164) (pc' := 168) rfl (hb hby at_164) (by decide) (by decide) k) ?_
    show own_G p e below Q (T42.setTop (mkF m 168 #[.val (.int p1), .val (.int b0), .val (.int b1), .val (.int b2), .val (.int (0 : Int32)), .val (.int (Int32.ofNat n)), .val (.ref ga), .val (.ref lst), .val (.ref fst), .val (.ref snd)] [(.int (1 : Int32))]))
    exact own_retN X42 hx hlk (Or.inl rfl) hret (hb hby at_168) rfl (fun U hU hF => hR _ _ _ _ _ ⟨rfl, Fr.app (Fr.app (Fr.app (Fr.app (Fr.app (Fr.app N0 N1) N3) N4) (Fr.nil _)) N7) (Fr.nil _)⟩ (by decide) (by decide) hF)
  · refine own_go (fun _ k => XS.ifNo X0.here hx rfl (hb hby at_3) rfl ((if0 _ _).trans (feq hs).1) k) ?_
    show own_G p e below Q (T.setTop (mkF m 6 #[.val (.int p1), .val (.int b0), .val (.int b1), .val (.int b2), .unset, .unset, .unset, .unset, .unset, .unset] []))
    refine own_go (fun _ k => XS.iconst X0.here hx rfl (hb hby at_6) k) ?_
    show own_G p e below Q (T.setTop (mkF m 7 #[.val (.int p1), .val (.int b0), .val (.int b1), .val (.int b2), .unset, .unset, .unset, .unset, .unset, .unset] [(.int (1 : Int32))]))
    refine own_go (fun _ k => XS.goto X0.here hx rfl (pc0 := 7) (pc' := 11) rfl (hb hby at_7) (by decide) (by decide) k) ?_
    show own_G p e below Q (T.setTop (mkF m 11 #[.val (.int p1), .val (.int b0), .val (.int b1), .val (.int b2), .unset, .unset, .unset, .unset, .unset, .unset] [(.int (1 : Int32))]))
    refine own_go (fun _ k => XS.istore X0.here hx rfl (hb hby at_11) rfl (l' := #[.val (.int p1), .val (.int b0), .val (.int b1), .val (.int b2), .val (.int (1 : Int32)), .unset, .unset, .unset, .unset, .unset]) rfl k) ?_
    show own_G p e below Q (T.setTop (mkF m 13 #[.val (.int p1), .val (.int b0), .val (.int b1), .val (.int b2), .val (.int (1 : Int32)), .unset, .unset, .unset, .unset, .unset] []))
    refine own_go (fun _ k => XS.iloadN X0.here hx rfl (hb hby at_13) rfl  k) ?_
    show own_G p e below Q (T.setTop (mkF m 14 #[.val (.int p1), .val (.int b0), .val (.int b1), .val (.int b2), .val (.int (1 : Int32)), .unset, .unset, .unset, .unset, .unset] [(.int p1)]))
    refine own_go (fun _ k => XS.iconst X0.here hx rfl (hb hby at_14) k) ?_
    show own_G p e below Q (T.setTop (mkF m 15 #[.val (.int p1), .val (.int b0), .val (.int b1), .val (.int b2), .val (.int (1 : Int32)), .unset, .unset, .unset, .unset, .unset] [(.int (1 : Int32)), (.int p1)]))
    refine own_go (fun _ k => XS.iushr X0.here hx rfl (hb hby at_15) rfl k) ?_
    show own_G p e below Q (T.setTop (mkF m 16 #[.val (.int p1), .val (.int b0), .val (.int b1), .val (.int b2), .val (.int (1 : Int32)), .unset, .unset, .unset, .unset, .unset] [(.int ((p1.toUInt32 >>> ((1 : Int32) &&& 31).toUInt32).toInt32))]))
    refine own_go (fun _ k => XS.iconst X0.here hx rfl (hb hby at_16) k) ?_
    show own_G p e below Q (T.setTop (mkF m 17 #[.val (.int p1), .val (.int b0), .val (.int b1), .val (.int b2), .val (.int (1 : Int32)), .unset, .unset, .unset, .unset, .unset] [(.int (3 : Int32)), (.int ((p1.toUInt32 >>> ((1 : Int32) &&& 31).toUInt32).toInt32))]))
    refine own_go (fun _ k => XS.iand X0.here hx rfl (hb hby at_17) rfl k) ?_
    show own_G p e below Q (T.setTop (mkF m 18 #[.val (.int p1), .val (.int b0), .val (.int b1), .val (.int b2), .val (.int (1 : Int32)), .unset, .unset, .unset, .unset, .unset] [(.int (((p1.toUInt32 >>> ((1 : Int32) &&& 31).toUInt32).toInt32) &&& (3 : Int32)))]))
    rw [hr]
    show own_G p e below Q (T.setTop (mkF m 18 #[.val (.int p1), .val (.int b0), .val (.int b1), .val (.int b2), .val (.int (1 : Int32)), .unset, .unset, .unset, .unset, .unset] [(.int (Int32.ofNat n))]))
    refine own_go (fun _ k => XS.istore X0.here hx rfl (hb hby at_18) rfl (l' := #[.val (.int p1), .val (.int b0), .val (.int b1), .val (.int b2), .val (.int (1 : Int32)), .val (.int (Int32.ofNat n)), .unset, .unset, .unset, .unset]) rfl k) ?_
    show own_G p e below Q (T.setTop (mkF m 20 #[.val (.int p1), .val (.int b0), .val (.int b1), .val (.int b2), .val (.int (1 : Int32)), .val (.int (Int32.ofNat n)), .unset, .unset, .unset, .unset] []))
    refine own_go (fun _ k => XS.iload X0.here hx rfl (hb hby at_20) rfl  k) ?_
    show own_G p e below Q (T.setTop (mkF m 22 #[.val (.int p1), .val (.int b0), .val (.int b1), .val (.int b2), .val (.int (1 : Int32)), .val (.int (Int32.ofNat n)), .unset, .unset, .unset, .unset] [(.int (1 : Int32))]))
    refine own_go (fun _ k => XS.ifNo X0.here hx rfl (hb hby at_22) rfl ((if0 _ _).trans (feq (by decide : ¬ ((1 : Int32) = (0 : Int32)))).1) k) ?_
    show own_G p e below Q (T.setTop (mkF m 25 #[.val (.int p1), .val (.int b0), .val (.int b1), .val (.int b2), .val (.int (1 : Int32)), .val (.int (Int32.ofNat n)), .unset, .unset, .unset, .unset] []))
    refine own_go (fun _ k => XS.aconstNull X0.here hx rfl (hb hby at_25) k) ?_
    show own_G p e below Q (T.setTop (mkF m 26 #[.val (.int p1), .val (.int b0), .val (.int b1), .val (.int b2), .val (.int (1 : Int32)), .val (.int (Int32.ofNat n)), .unset, .unset, .unset, .unset] [.null]))
    refine own_go (fun _ k => XS.goto X0.here hx rfl (pc0 := 26) (pc' := 37) rfl (hb hby at_26) (by decide) (by decide) k) ?_
    show own_G p e below Q (T.setTop (mkF m 37 #[.val (.int p1), .val (.int b0), .val (.int b1), .val (.int b2), .val (.int (1 : Int32)), .val (.int (Int32.ofNat n)), .unset, .unset, .unset, .unset] [.null]))
    refine own_go (fun _ k => XS.astore X0.here hx rfl (hb hby at_37) rfl rfl (l' := #[.val (.int p1), .val (.int b0), .val (.int b1), .val (.int b2), .val (.int (1 : Int32)), .val (.int (Int32.ofNat n)), .val .null, .unset, .unset, .unset]) rfl k) ?_
    show own_G p e below Q (T.setTop (mkF m 39 #[.val (.int p1), .val (.int b0), .val (.int b1), .val (.int b2), .val (.int (1 : Int32)), .val (.int (Int32.ofNat n)), .val .null, .unset, .unset, .unset] []))
    obtain ⟨T36, h36, X36, e36, E36, A36, D36, -, st36⟩ := newO X0 hx hZ hown (hw _ (List.mem_of_getElem? (i := 5) rfl)) (hw _ (List.mem_of_getElem? (i := 6) rfl)) (hw _ (List.mem_of_getElem? (i := 7) rfl)) e0 (g := (mkF m 39 #[.val (.int p1), .val (.int b0), .val (.int b1), .val (.int b2), .val (.int (1 : Int32)), .val (.int (Int32.ofNat n)), .val .null, .unset, .unset, .unset] [])) rfl (hb hby at_39) (by decide) (by decide)
    refine own_go st36 ?_
    have hq36 : Z.heap.size = Z.heap.size := rfl
    obtain ⟨lst, hl⟩ : ∃ z, z = Z.heap.size := ⟨_, rfl⟩
    rw [← hl] at A36 D36 ⊢
    show own_G p e below Q (T36.setTop (mkF m 42 #[.val (.int p1), .val (.int b0), .val (.int b1), .val (.int b2), .val (.int (1 : Int32)), .val (.int (Int32.ofNat n)), .val .null, .unset, .unset, .unset] [(.ref lst)]))
    have F1 : Fld Z h36 lst "com/example/broker_access_control/brokeraccesscontrol/wire/AclListing" "version" "[B" .null := D36 (Or.inr (hw _ (List.mem_of_getElem? (i := 24) rfl))) (ty := .array .byte) (by decide)
    have F2 : Fld Z h36 lst "com/example/broker_access_control/brokeraccesscontrol/wire/AclListing" "acls" "Ljava/util/List;" .null := D36 (Or.inr (hw _ (List.mem_of_getElem? (i := 26) rfl))) (ty := .object "java/util/List") (by decide)
    refine own_go (fun _ k => XS.dup X36.here hx rfl (hb hby at_42) rfl rfl k) ?_
    show own_G p e below Q (T36.setTop (mkF m 43 #[.val (.int p1), .val (.int b0), .val (.int b1), .val (.int b2), .val (.int (1 : Int32)), .val (.int (Int32.ofNat n)), .val .null, .unset, .unset, .unset] [(.ref lst), (.ref lst)]))
    refine own_go (fun _ k => XS.aload X36.here hx rfl (hb hby at_43) rfl rfl  k) ?_
    show own_G p e below Q (T36.setTop (mkF m 45 #[.val (.int p1), .val (.int b0), .val (.int b1), .val (.int b2), .val (.int (1 : Int32)), .val (.int (Int32.ofNat n)), .val .null, .unset, .unset, .unset] [.null, (.ref lst), (.ref lst)]))
    refine own_go (fun _ k => XS.aconstNull X36.here hx rfl (hb hby at_45) k) ?_
    show own_G p e below Q (T36.setTop (mkF m 46 #[.val (.int p1), .val (.int b0), .val (.int b1), .val (.int b2), .val (.int (1 : Int32)), .val (.int (Int32.ofNat n)), .val .null, .unset, .unset, .unset] [.null, .null, (.ref lst), (.ref lst)]))
    refine own_callI X36 hx hZ rfl hown (hw _ (List.mem_of_getElem? (i := 8) rfl)) (hw _ (List.mem_of_getElem? (i := 9) rfl)) (hw _ (List.mem_of_getElem? (i := 10) rfl)) (hw _ (List.mem_of_getElem? (i := 7) rfl)) (by decide) (argsL := [.null, .null]) (rest := [(.ref lst)]) e36 (own_initN l Z a0 hw _ Z.heap.size lst (Nat.le_of_eq hl.symm) A36 F1 F2) rfl (by rw [hml]; rfl) pd_i rfl (hb hby at_46) (W := 1) (Nat.le_of_eq rfl) (by decide) (by decide) (by decide) (by decide) ?_
    rintro _ T37 L37 X37 ⟨rfl, K37, E37, F37, N37⟩
    show own_G p e below Q (T37.setTop (mkF m 49 #[.val (.int p1), .val (.int b0), .val (.int b1), .val (.int b2), .val (.int (1 : Int32)), .val (.int (Int32.ofNat n)), .val .null, .unset, .unset, .unset] [(.ref lst)]))
    refine own_go (fun _ k => XS.astore X37.here hx rfl (hb hby at_49) rfl rfl (l' := #[.val (.int p1), .val (.int b0), .val (.int b1), .val (.int b2), .val (.int (1 : Int32)), .val (.int (Int32.ofNat n)), .val .null, .val (.ref lst), .unset, .unset]) rfl k) ?_
    show own_G p e below Q (T37.setTop (mkF m 51 #[.val (.int p1), .val (.int b0), .val (.int b1), .val (.int b2), .val (.int (1 : Int32)), .val (.int (Int32.ofNat n)), .val .null, .val (.ref lst), .unset, .unset] []))
    refine own_go (fun _ k => XS.aload X37.here hx rfl (hb hby at_51) rfl rfl  k) ?_
    show own_G p e below Q (T37.setTop (mkF m 53 #[.val (.int p1), .val (.int b0), .val (.int b1), .val (.int b2), .val (.int (1 : Int32)), .val (.int (Int32.ofNat n)), .val .null, .val (.ref lst), .unset, .unset] [.null]))
    refine own_go (fun _ k => XS.ifnullYes X37.here hx rfl (pc0 := 53) (pc' := 61) rfl (hb hby at_53) rfl (by decide) (by decide) k) ?_
    show own_G p e below Q (T37.setTop (mkF m 61 #[.val (.int p1), .val (.int b0), .val (.int b1), .val (.int b2), .val (.int (1 : Int32)), .val (.int (Int32.ofNat n)), .val .null, .val (.ref lst), .unset, .unset] []))
    refine own_go (fun _ k => XS.aload X37.here hx rfl (hb hby at_61) rfl rfl  k) ?_
    show own_G p e below Q (T37.setTop (mkF m 63 #[.val (.int p1), .val (.int b0), .val (.int b1), .val (.int b2), .val (.int (1 : Int32)), .val (.int (Int32.ofNat n)), .val .null, .val (.ref lst), .unset, .unset] [(.ref lst)]))
    refine own_callVP X37 hx hZ hown (hw _ (List.mem_of_getElem? (i := 30) rfl)) (hw _ (List.mem_of_getElem? (i := 31) rfl)) (hw _ (List.mem_of_getElem? (i := 33) rfl)) (hw _ (List.mem_of_getElem? (i := 32) rfl)) (hw _ (List.mem_of_getElem? (i := 34) rfl)) (hw _ (List.mem_of_getElem? (i := 7) rfl)) (by decide) (argsL := []) (rest := []) (rfl : T37.heap = _) E37 (own_verN l Z a0 hw _ lst F37) rfl (by rw [hml]; rfl) pd_v rfl (hb hby at_63) (W := 0) (Nat.le_of_eq rfl) (by decide) (by decide) (by decide) (by decide) ?_
    intro T38 X38 e38
    show own_G p e below Q (T38.setTop (mkF m 66 #[.val (.int p1), .val (.int b0), .val (.int b1), .val (.int b2), .val (.int (1 : Int32)), .val (.int (Int32.ofNat n)), .val .null, .val (.ref lst), .unset, .unset] [.null]))
    refine own_go (fun _ k => XS.astore X38.here hx rfl (hb hby at_66) rfl rfl (l' := #[.val (.int p1), .val (.int b0), .val (.int b1), .val (.int b2), .val (.int (1 : Int32)), .val (.int (Int32.ofNat n)), .val .null, .val (.ref lst), .val .null, .unset]) rfl k) ?_
    show own_G p e below Q (T38.setTop (mkF m 68 #[.val (.int p1), .val (.int b0), .val (.int b1), .val (.int b2), .val (.int (1 : Int32)), .val (.int (Int32.ofNat n)), .val .null, .val (.ref lst), .val .null, .unset] []))
    refine own_go (fun _ k => XS.iload X38.here hx rfl (hb hby at_68) rfl  k) ?_
    show own_G p e below Q (T38.setTop (mkF m 70 #[.val (.int p1), .val (.int b0), .val (.int b1), .val (.int b2), .val (.int (1 : Int32)), .val (.int (Int32.ofNat n)), .val .null, .val (.ref lst), .val .null, .unset] [(.int (1 : Int32))]))
    refine own_go (fun _ k => XS.ifNo X38.here hx rfl (hb hby at_70) rfl ((if0 _ _).trans (feq (by decide : ¬ ((1 : Int32) = (0 : Int32)))).1) k) ?_
    show own_G p e below Q (T38.setTop (mkF m 73 #[.val (.int p1), .val (.int b0), .val (.int b1), .val (.int b2), .val (.int (1 : Int32)), .val (.int (Int32.ofNat n)), .val .null, .val (.ref lst), .val .null, .unset] []))
    refine own_go (fun _ k => XS.aload X38.here hx rfl (hb hby at_73) rfl rfl  k) ?_
    show own_G p e below Q (T38.setTop (mkF m 75 #[.val (.int p1), .val (.int b0), .val (.int b1), .val (.int b2), .val (.int (1 : Int32)), .val (.int (Int32.ofNat n)), .val .null, .val (.ref lst), .val .null, .unset] [.null]))
    refine own_go (fun _ k => XS.ifnonnullNo X38.here hx rfl (hb hby at_75) rfl k) ?_
    show own_G p e below Q (T38.setTop (mkF m 78 #[.val (.int p1), .val (.int b0), .val (.int b1), .val (.int b2), .val (.int (1 : Int32)), .val (.int (Int32.ofNat n)), .val .null, .val (.ref lst), .val .null, .unset] []))
    refine own_go (fun _ k => XS.aload X38.here hx rfl (hb hby at_78) rfl rfl  k) ?_
    show own_G p e below Q (T38.setTop (mkF m 80 #[.val (.int p1), .val (.int b0), .val (.int b1), .val (.int b2), .val (.int (1 : Int32)), .val (.int (Int32.ofNat n)), .val .null, .val (.ref lst), .val .null, .unset] [(.ref lst)]))
    refine own_callVP X38 hx hZ hown (hw _ (List.mem_of_getElem? (i := 30) rfl)) (hw _ (List.mem_of_getElem? (i := 31) rfl)) (hw _ (List.mem_of_getElem? (i := 33) rfl)) (hw _ (List.mem_of_getElem? (i := 32) rfl)) (hw _ (List.mem_of_getElem? (i := 34) rfl)) (hw _ (List.mem_of_getElem? (i := 7) rfl)) (by decide) (argsL := []) (rest := []) e38 E37 (own_verN l Z a0 hw _ lst F37) rfl (by rw [hml]; rfl) pd_v rfl (hb hby at_80) (W := 0) (Nat.le_of_eq rfl) (by decide) (by decide) (by decide) (by decide) ?_
    intro T39 X39 e39
    show own_G p e below Q (T39.setTop (mkF m 83 #[.val (.int p1), .val (.int b0), .val (.int b1), .val (.int b2), .val (.int (1 : Int32)), .val (.int (Int32.ofNat n)), .val .null, .val (.ref lst), .val .null, .unset] [.null]))
    refine own_go (fun _ k => XS.ifnonnullNo X39.here hx rfl (hb hby at_83) rfl k) ?_
    show own_G p e below Q (T39.setTop (mkF m 86 #[.val (.int p1), .val (.int b0), .val (.int b1), .val (.int b2), .val (.int (1 : Int32)), .val (.int (Int32.ofNat n)), .val .null, .val (.ref lst), .val .null, .unset] []))
    refine own_go (fun _ k => XS.iconst X39.here hx rfl (hb hby at_86) k) ?_
    show own_G p e below Q (T39.setTop (mkF m 87 #[.val (.int p1), .val (.int b0), .val (.int b1), .val (.int b2), .val (.int (1 : Int32)), .val (.int (Int32.ofNat n)), .val .null, .val (.ref lst), .val .null, .unset] [(.int (1 : Int32))]))
    refine own_go (fun _ k => XS.goto X39.here hx rfl (pc0 := 87) (pc' := 91) rfl (hb hby at_87) (by decide) (by decide) k) ?_
    show own_G p e below Q (T39.setTop (mkF m 91 #[.val (.int p1), .val (.int b0), .val (.int b1), .val (.int b2), .val (.int (1 : Int32)), .val (.int (Int32.ofNat n)), .val .null, .val (.ref lst), .val .null, .unset] [(.int (1 : Int32))]))
    exact own_retN X39 hx hlk (Or.inl rfl) hret (hb hby at_91) rfl (fun U hU hF => hR _ _ _ _ _ ⟨rfl, Fr.app N0 N37⟩ (by decide) (by decide) hF)
theorem comes_1 {Post : Tables → Env → Array Value → State → Outcome → State → Prop} (hpost : ∀ tb e args s v u, (limb_1_1.after args s (.returned v) u = true ∧ limb_1_2.after args s (.returned v) u = true ∧ True) → FrameEnd s (.returned v) u (Jvm.fieldLocs frame_1_writes args s ++ Jvm.arrayLocs frame_1_arrays args s ++ Jvm.staticLocs frame_1_statics s) 24 128 → Post tb e args s (.returned v) u) :
    ArmFor flags0 classFile x code maxLocals ret World_1 tables_1 room_1 Calls_1 rest_1 Pre_1 Post := by
  intro l hfl _ _ p e ha hc hk s m args below hf hA hF happ hP
  obtain ⟨hcalls, hrest, hpre⟩ := hP
  obtain ⟨-, -, -, hnamed, -, -, -, hat⟩ := (Spec.applies_iff hf).mp happ
  obtain ⟨hg, hn⟩ := and_e (Cond.before_iff.mp (show (Jvm.Cond.and given_1 narrow_1).before args s = true from hpre))
  obtain ⟨hcount, hg0⟩ := and_e hg
  obtain ⟨w0, w1, w2, w3, rfl⟩ : ∃ w0 w1 w2 w3 : Value, args = #[w0, w1, w2, w3] := by
    have hs : args.size = 4 := by simpa [Cond.value, given_1] using hcount
    obtain ⟨L⟩ := args
    match L, hs with
    | [w0, w1, w2, w3], _ => exact ⟨w0, w1, w2, w3, rfl⟩
  have hw := fun d (hd : d ∈ tables_1) => atoms_spec (ws := Jvm.Cond.code x code maxLocals ret :: tables_1) hat d (List.mem_cons_of_mem _ hd)
  obtain ⟨hq0, hg1⟩ := and_e hg0
  obtain ⟨i0, e0⟩ := is_v hq0
  obtain rfl : w0 = (.int i0) := Option.some.inj e0
  obtain ⟨hq1, hg2⟩ := and_e hg1
  obtain ⟨i1, e1⟩ := is_v hq1
  obtain rfl : w1 = (.int i1) := Option.some.inj e1
  obtain ⟨hq2, hg3⟩ := and_e hg2
  obtain ⟨i2, e2⟩ := is_v hq2
  obtain rfl : w2 = (.int i2) := Option.some.inj e2
  obtain ⟨i3, e3⟩ := is_v hg3
  obtain rfl : w3 = (.int i3) := Option.some.inj e3
  obtain ⟨n, o, h1, h2, h3, _, L, rfl, ⟨rfl, N⟩, hq⟩ := rm0 l s _ hw i0 i1 i2 i3 p e ha hc hk s m _ below hf ((Spec.applies_iff_loose hf).mp happ).1 ⟨rfl, State.Warmed39.refl s, rfl⟩ trivial
  refine ⟨n, _, h1, h2, h3, hpost _ _ _ _ _ _ ⟨Cond.after_iff.mpr rfl, Cond.after_iff.mpr (eq_i res_at (Term.int_eval (1)) rfl), trivial⟩ ⟨hq.1, hq.2.1, (hq.2.2.sift fun y hy => Or.inr (N y hy)).mono (by decide) (by decide)⟩⟩
theorem main_1_1 : Claimed_1_1 := comes_1 fun _ _ _ _ _ _ h hF => ⟨h.1, hF⟩
theorem main_1_2 : Claimed_1_2 := comes_1 fun _ _ _ _ _ _ h hF => ⟨h.2.1, hF⟩
end Jvm.Pilot.@@N@@
namespace Jvm.Pilot.@@N@@
open Jvm Jvm.ClassFile Sem Op Lib Jvm.Free Jvm.Stand Jvm.Pilot.@@N@@.Jvm.D
/-! MADE BY PROGRAM (witnessworld.py) out of the Statement's table words and the real class files: 9 classes; the members and pool entries that the words name. The judged class is class 1, her method 1. -/
namespace start1
open Jvm.ClassFile
def u (s : String) : CpInfo := .utf8 (stringToUtf16 s)
/-- a pool by its gaps: so many unusable entries, then the entry; so many at the end -/
def gap : Nat → List CpInfo → List CpInfo
  | 0, r => r
  | n + 1, r => .unusable :: gap n r
def poolList (es : List (Nat × CpInfo)) (last : Nat) : List CpInfo := es.foldr (fun e r => gap e.1 (e.2 :: r)) (gap last [])
def pool (es : List (Nat × CpInfo)) (last : Nat) : Array CpInfo := ⟨poolList es last⟩
def fileOf (pool : Array CpInfo) (this : Nat) (attrs : Array Attribute := #[]) (ms : Array MethodInfo := #[]) (fl : Nat := 33) (sup : Nat := 0) (ifs : Array Nat := #[]) (fds : Array FieldInfo := #[]) : ClassFile where
  minorVersion := 0
  majorVersion := 65
  constantPool := pool
  accessFlags := fl
  thisClass := this
  superClass := sup
  interfaces := ifs
  fields := fds
  methods := ms
  attributes := attrs
def plain (name : String) (sup : Option ClassId) : Class where
  name := name
  kind := .ordinary
  loader := none
  accessFlags := 33
  super := sup
  interfaces := #[]
  cf := none
  fields := #[]
  methods := #[]
  instanceTypes := #[]
  staticTypes := #[]
  resolved := #[]
  callSites := []
  init := .initialized
  statics := none
  mirror := none

def pool0 : Array CpInfo := pool [(5, u "<init>"), (0, u "()V"), (1, .class_ 10), (1, u "java/lang/Object"), (85, u "clone"), (0, u "()Ljava/lang/Object;")] 26

def k0c0 : Code := { maxStack := 0, maxLocals := 1, code := object_method_1_code, exceptionTable := #[], attributes := #[] }
def k0m0 : Method := { name := "<init>", desc := "()V", sig := { parameters := [], returnType := none }, accessFlags := 1, code := some k0c0 }
def k0m1 : Method := { name := "clone", desc := "()Ljava/lang/Object;", sig := { parameters := [], returnType := some (.object "java/lang/Object") }, accessFlags := 260, code := none }
/-- java/lang/Object -/
def k0 : Class := { plain "java/lang/Object" none with
  accessFlags := 33
  interfaces := #[]
  cf := some (fileOf pool0 8 #[] #[{ accessFlags := 1, nameIndex := 5, descriptorIndex := 6, attributes := #[] }, { accessFlags := 260, nameIndex := 96, descriptorIndex := 97, attributes := #[] }] 33 0 #[] #[])
  fields := #[]
  methods := #[k0m0, k0m1]
  instanceTypes := #[]
  staticTypes := #[]
  resolved := Array.replicate 124 none
  statics := none }

def pool1 : Array CpInfo := pool [(2, .class_ 4), (1, u "java/lang/Object"), (0, u "<init>"), (0, u "()V"), (0, .methodref 8 9), (0, .class_ 10), (0, .nameAndType 11 12), (0, u "com/example/broker_access_control/brokeraccesscontrol/wire/AclListingVersionPinLaw"), (0, u "make"), (0, u "(IIII)[B"), (0, .class_ 14), (0, u "com/example/broker_access_control/brokeraccesscontrol/wire/AclListing"), (0, .methodref 13 16), (0, .nameAndType 5 17), (0, u "([BLjava/util/List;)V"), (0, .methodref 8 19), (0, .nameAndType 20 21), (0, u "flip"), (0, u "([B)V"), (0, .methodref 13 23), (0, .nameAndType 24 25), (0, u "version"), (0, u "()[B"), (0, .methodref 8 27), (0, .nameAndType 28 29), (0, u "same"), (0, u "([BIIII)Z"), (2, u "law"), (0, u "(IIII)Z")] 5

def k1m0 : Method := { name := "<init>", desc := "()V", sig := { parameters := [], returnType := none }, accessFlags := 1, code := none }
def k1c1 : Code := { maxStack := 5, maxLocals := 10, code := code, exceptionTable := #[], attributes := #[] }
def k1m1 : Method := { name := "law", desc := "(IIII)Z", sig := { parameters := [.int, .int, .int, .int], returnType := some .boolean }, accessFlags := 9, code := some k1c1 }
def k1c2 : Code := { maxStack := 4, maxLocals := 4, code := method_3_code, exceptionTable := #[], attributes := #[] }
def k1m2 : Method := { name := "make", desc := "(IIII)[B", sig := { parameters := [.int, .int, .int, .int], returnType := some (.array .byte) }, accessFlags := 10, code := some k1c2 }
def k1c3 : Code := { maxStack := 4, maxLocals := 1, code := method_4_code, exceptionTable := #[], attributes := #[] }
def k1m3 : Method := { name := "flip", desc := "([B)V", sig := { parameters := [(.array .byte)], returnType := none }, accessFlags := 10, code := some k1c3 }
def k1c4 : Code := { maxStack := 2, maxLocals := 5, code := method_5_code, exceptionTable := #[], attributes := #[] }
def k1m4 : Method := { name := "same", desc := "([BIIII)Z", sig := { parameters := [(.array .byte), .int, .int, .int, .int], returnType := some .boolean }, accessFlags := 10, code := some k1c4 }
/-- com/example/broker_access_control/brokeraccesscontrol/wire/AclListingVersionPinLaw -/
def k1 : Class := { plain "com/example/broker_access_control/brokeraccesscontrol/wire/AclListingVersionPinLaw" (some 0) with
  accessFlags := 49
  interfaces := #[]
  cf := some (fileOf pool1 8 #[] #[{ accessFlags := 1, nameIndex := 5, descriptorIndex := 6, attributes := #[] }, { accessFlags := 9, nameIndex := 32, descriptorIndex := 33, attributes := #[] }, { accessFlags := 10, nameIndex := 11, descriptorIndex := 12, attributes := #[] }, { accessFlags := 10, nameIndex := 20, descriptorIndex := 21, attributes := #[] }, { accessFlags := 10, nameIndex := 28, descriptorIndex := 29, attributes := #[] }] 49 2 #[] #[])
  fields := #[]
  methods := #[k1m0, k1m1, k1m2, k1m3, k1m4]
  instanceTypes := #[]
  staticTypes := #[]
  resolved := Array.replicate 39 none
  statics := none }

def pool2 : Array CpInfo := pool [(1, .methodref 2 3), (0, .class_ 4), (0, .nameAndType 5 6), (0, u "java/lang/Object"), (0, u "<init>"), (0, u "()V"), (0, .methodref 8 9), (0, .class_ 10), (0, .nameAndType 11 12), (0, u "[B"), (0, u "clone"), (0, u "()Ljava/lang/Object;"), (0, .fieldref 14 15), (0, .class_ 16), (0, .nameAndType 17 10), (0, u "com/example/broker_access_control/brokeraccesscontrol/wire/AclListing"), (0, u "version"), (6, .fieldref 14 25), (0, .nameAndType 26 27), (0, u "acls"), (0, u "Ljava/util/List;"), (9, u "([BLjava/util/List;)V"), (4, u "()[B")] 6

def k2c0 : Code := { maxStack := 2, maxLocals := 3, code := prog_69_method_1_code, exceptionTable := #[], attributes := #[] }
def k2m0 : Method := { name := "<init>", desc := "([BLjava/util/List;)V", sig := { parameters := [(.array .byte), (.object "java/util/List")], returnType := none }, accessFlags := 0, code := some k2c0 }
def k2c1 : Code := { maxStack := 1, maxLocals := 1, code := prog_69_method_2_code, exceptionTable := #[], attributes := #[] }
def k2m1 : Method := { name := "version", desc := "()[B", sig := { parameters := [], returnType := some (.array .byte) }, accessFlags := 1, code := some k2c1 }
/-- com/example/broker_access_control/brokeraccesscontrol/wire/AclListing -/
def k2 : Class := { plain "com/example/broker_access_control/brokeraccesscontrol/wire/AclListing" (some 0) with
  accessFlags := 33
  interfaces := #[]
  cf := some (fileOf pool2 14 #[] #[{ accessFlags := 0, nameIndex := 5, descriptorIndex := 37, attributes := #[] }, { accessFlags := 1, nameIndex := 17, descriptorIndex := 42, attributes := #[] }] 33 2 #[] #[{ accessFlags := 18, nameIndex := 17, descriptorIndex := 10, attributes := #[] }, { accessFlags := 18, nameIndex := 26, descriptorIndex := 27, attributes := #[] }])
  fields := #[{ name := "version", type := (.array .byte), accessFlags := 18, slot := 0, constantValue := 0 }, { name := "acls", type := (.object "java/util/List"), accessFlags := 18, slot := 1, constantValue := 0 }]
  methods := #[k2m0, k2m1]
  instanceTypes := #[(.array .byte), (.object "java/util/List")]
  staticTypes := #[]
  resolved := Array.replicate 49 none
  statics := none }

def pool3 : Array CpInfo := pool [(1, .class_ 2), (0, u "java/lang/Cloneable"), (0, .class_ 4), (0, u "java/lang/Object")] 2

/-- java/lang/Cloneable -/
def k3 : Class := { plain "java/lang/Cloneable" (some 0) with
  accessFlags := 1537
  interfaces := #[]
  cf := some (fileOf pool3 1 #[] #[] 1537 3 #[] #[])
  fields := #[]
  methods := #[]
  instanceTypes := #[]
  staticTypes := #[]
  resolved := Array.replicate 7 none
  statics := none }

def pool4 : Array CpInfo := pool [(1, u "java/io/Serializable"), (0, .class_ 1), (0, u "java/lang/Object"), (0, .class_ 3)] 3

/-- java/io/Serializable -/
def k4 : Class := { plain "java/io/Serializable" (some 0) with
  accessFlags := 1537
  interfaces := #[]
  cf := some (fileOf pool4 2 #[] #[] 1537 4 #[] #[])
  fields := #[]
  methods := #[]
  instanceTypes := #[]
  staticTypes := #[]
  resolved := Array.replicate 8 none
  statics := none }

/-- the primitive byte -/
def k5 : Class := { plain "byte" none with kind := .primitive 'B', accessFlags := 0x411 }
/-- [B -/
def k6 : Class := { plain "[B" (some 0) with kind := .array 5 .byte, interfaces := #[3, 4], accessFlags := 1041 }

/-- the primitive int -/
def k7 : Class := { plain "int" none with kind := .primitive 'I', accessFlags := 0x411 }
/-- [I -/
def k8 : Class := { plain "[I" (some 0) with kind := .array 7 .int, interfaces := #[3, 4], accessFlags := 1041 }

def heap : Heap := #[]
def classes : Array Class := #[k0, k1, k2, k3, k4, k5, k6, k7, k8]
def interned : List (Array UInt16 × Addr) := []
def slotsUsed : Nat := 0
def theMethod : MethodId := ⟨1, 1⟩
def args0 : Array Value := #[.int 5, .int 6, .int 7, .int 8]
def aboutOver (below : List Frame) : State where
  vm := { classes := classes, interned := interned.toArray }
  heap := heap
  slotsUsed := slotsUsed
  threads := #[{ frames := .invoking theMethod args0 :: below }]
def below0 : List Frame := [.native { method := ⟨0, 0⟩, args := #[] }]
def about1 : State := aboutOver below0
def p0 : Program := .bare "" "" ""
def e0 : Env := launch0.env 0 0 0
theorem w_frames : about1.frames = Frame.invoking theMethod args0 :: below0 := rfl
set_option maxRecDepth 65536 in
theorem w_args : argsFit about1.vm theMethod args0 = true := by decide +kernel
set_option maxRecDepth 65536 in
theorem w_heap : heapFits about1 = true := by decide +kernel
set_option maxRecDepth 65536 in
theorem w_runnable : about1.curStatus? = some .runnable := by decide +kernel
set_option maxRecDepth 65536 in
theorem w_alone : about1.alone = true := by decide +kernel
set_option maxRecDepth 65536 in
theorem w_named : about1.methodNamed? x = some theMethod := by decide +kernel
set_option maxRecDepth 65536 in
theorem w_hears : about1.hears theMethod below0 = true := by decide +kernel
set_option maxRecDepth 65536 in
theorem w_ripe : about1.ripe theMethod args0 below0 = true := by decide +kernel
theorem w_running : about1.status = .running := rfl
set_option maxRecDepth 65536 in
theorem w_room : about1.hasRoom e0.platform room_1 = true :=
  launch0.hasRoom_least _ room_1 (by decide +kernel) (by decide +kernel) (by decide +kernel) (by decide +kernel) (by decide +kernel) (by decide +kernel)
theorem allAtoms_all (ts : List Jvm.Cond) (a : Array Jvm.Value) (st : Jvm.State) : (allAtoms ts).before a st = ts.all (fun c => c.before a st) := by
  induction ts with
  | nil => rfl
  | cons c t ih =>
    show (Jvm.Cond.and c (allAtoms t)).before a st = _
    rw [Jvm.Cond.before_and, ih, List.all_cons]
def words1 : List Jvm.Cond := Jvm.Cond.code x code maxLocals ret :: tables_1
/-- a 'code' word, met by the world's own term for the bytes: nothing is compared byte by byte -/
theorem code_word {y : MethodName} {bytes : ByteArray} {mx : Nat} {rt : Option FieldType} {a : Array Value} {s : State} {m : MethodId} {meth : Method} {c : Code} (h1 : s.methodNamed? y = some m) (h2 : s.vm.method? m = some meth) (h3 : meth.code = some c) (h4 : c.code = bytes)
    (h5 : (c.maxLocals == mx && c.exceptionTable.isEmpty && decide (c.maxStack ≤ mostOperands) && decide (meth.sig.returnType = rt) && !meth.locks && decide (parseMethodDescriptor y.desc = some meth.sig)) = true) : (Jvm.Cond.code y bytes mx rt).before a s = true := by
  simp only [Bool.and_eq_true, beq_iff_eq, Bool.not_eq_true', decide_eq_true_eq] at h5
  obtain ⟨⟨⟨⟨⟨g1, g2⟩, g3⟩, g4⟩, g5⟩, g6⟩ := h5
  simp [Cond.before, Cond.holds, Cond.value, h1, h2, h3, h4, g1, g2, g3, g4, g5, g6]
def isCode : Jvm.Cond → Bool
  | .code _ _ _ _ => true
  | _ => false
theorem all_split {L : List Jvm.Cond} {P : Jvm.Cond → Bool} (h1 : L.all (fun c => isCode c || P c) = true) (h2 : ∀ c ∈ L.filter isCode, P c = true) : L.all P = true := by
  refine List.all_eq_true.mpr fun c hc => ?_
  have h := List.all_eq_true.mp h1 c hc
  rcases Bool.eq_false_or_eq_true (isCode c) with hi | hi
  · exact h2 c (List.mem_filter.mpr ⟨hc, hi⟩)
  · simpa [hi] using h
set_option maxRecDepth 65536 in
theorem w_c0 : (Jvm.Cond.code x code maxLocals ret).before args0 about1 = true := code_word (m := ⟨1, 1⟩) (meth := k1m1) (c := k1c1) (by decide +kernel) rfl rfl rfl (by decide +kernel)
set_option maxRecDepth 65536 in
theorem w_c1 : (Jvm.Cond.code ({ cls := "com/example/broker_access_control/brokeraccesscontrol/wire/AclListingVersionPinLaw", name := "make", desc := "(IIII)[B" } : Jvm.MethodName) method_3_code (4 : Nat) (Option.some (Jvm.ClassFile.FieldType.array Jvm.ClassFile.FieldType.byte))).before args0 about1 = true := code_word (m := ⟨1, 2⟩) (meth := k1m2) (c := k1c2) (by decide +kernel) rfl rfl rfl (by decide +kernel)
set_option maxRecDepth 65536 in
theorem w_c2 : (Jvm.Cond.code ({ cls := "com/example/broker_access_control/brokeraccesscontrol/wire/AclListing", name := "<init>", desc := "([BLjava/util/List;)V" } : Jvm.MethodName) prog_69_method_1_code (3 : Nat) (Option.none : Option Jvm.ClassFile.FieldType)).before args0 about1 = true := code_word (m := ⟨2, 0⟩) (meth := k2m0) (c := k2c0) (by decide +kernel) rfl rfl rfl (by decide +kernel)
set_option maxRecDepth 65536 in
theorem w_c3 : (Jvm.Cond.code ({ cls := "java/lang/Object", name := "<init>", desc := "()V" } : Jvm.MethodName) object_method_1_code (1 : Nat) (Option.none : Option Jvm.ClassFile.FieldType)).before args0 about1 = true := code_word (m := ⟨0, 0⟩) (meth := k0m0) (c := k0c0) (by decide +kernel) rfl rfl rfl (by decide +kernel)
set_option maxRecDepth 65536 in
theorem w_c4 : (Jvm.Cond.code ({ cls := "com/example/broker_access_control/brokeraccesscontrol/wire/AclListingVersionPinLaw", name := "flip", desc := "([B)V" } : Jvm.MethodName) method_4_code (1 : Nat) (Option.none : Option Jvm.ClassFile.FieldType)).before args0 about1 = true := code_word (m := ⟨1, 3⟩) (meth := k1m3) (c := k1c3) (by decide +kernel) rfl rfl rfl (by decide +kernel)
set_option maxRecDepth 65536 in
theorem w_c5 : (Jvm.Cond.code ({ cls := "com/example/broker_access_control/brokeraccesscontrol/wire/AclListing", name := "version", desc := "()[B" } : Jvm.MethodName) prog_69_method_2_code (1 : Nat) (Option.some (Jvm.ClassFile.FieldType.array Jvm.ClassFile.FieldType.byte))).before args0 about1 = true := code_word (m := ⟨2, 1⟩) (meth := k2m1) (c := k2c1) (by decide +kernel) rfl rfl rfl (by decide +kernel)
set_option maxRecDepth 65536 in
theorem w_c6 : (Jvm.Cond.code ({ cls := "com/example/broker_access_control/brokeraccesscontrol/wire/AclListingVersionPinLaw", name := "same", desc := "([BIIII)Z" } : Jvm.MethodName) method_5_code (5 : Nat) (Option.some Jvm.ClassFile.FieldType.boolean)).before args0 about1 = true := code_word (m := ⟨1, 4⟩) (meth := k1m4) (c := k1c4) (by decide +kernel) rfl rfl rfl (by decide +kernel)
def codes1 : List Jvm.Cond := [Jvm.Cond.code x code maxLocals ret, Jvm.Cond.code ({ cls := "com/example/broker_access_control/brokeraccesscontrol/wire/AclListingVersionPinLaw", name := "make", desc := "(IIII)[B" } : Jvm.MethodName) method_3_code (4 : Nat) (Option.some (Jvm.ClassFile.FieldType.array Jvm.ClassFile.FieldType.byte)), Jvm.Cond.code ({ cls := "com/example/broker_access_control/brokeraccesscontrol/wire/AclListing", name := "<init>", desc := "([BLjava/util/List;)V" } : Jvm.MethodName) prog_69_method_1_code (3 : Nat) (Option.none : Option Jvm.ClassFile.FieldType), Jvm.Cond.code ({ cls := "java/lang/Object", name := "<init>", desc := "()V" } : Jvm.MethodName) object_method_1_code (1 : Nat) (Option.none : Option Jvm.ClassFile.FieldType), Jvm.Cond.code ({ cls := "com/example/broker_access_control/brokeraccesscontrol/wire/AclListingVersionPinLaw", name := "flip", desc := "([B)V" } : Jvm.MethodName) method_4_code (1 : Nat) (Option.none : Option Jvm.ClassFile.FieldType), Jvm.Cond.code ({ cls := "com/example/broker_access_control/brokeraccesscontrol/wire/AclListing", name := "version", desc := "()[B" } : Jvm.MethodName) prog_69_method_2_code (1 : Nat) (Option.some (Jvm.ClassFile.FieldType.array Jvm.ClassFile.FieldType.byte)), Jvm.Cond.code ({ cls := "com/example/broker_access_control/brokeraccesscontrol/wire/AclListingVersionPinLaw", name := "same", desc := "([BIIII)Z" } : Jvm.MethodName) method_5_code (5 : Nat) (Option.some Jvm.ClassFile.FieldType.boolean)]
set_option maxRecDepth 65536 in
theorem codes_eq : words1.filter isCode = codes1 := rfl
theorem w_codes : ∀ c ∈ words1.filter isCode, c.before args0 about1 = true := by
  rw [codes_eq]
  intro c hc
  simp only [codes1, List.mem_cons, List.not_mem_nil, or_false] at hc
  rcases hc with rfl | rfl | rfl | rfl | rfl | rfl | rfl
  · exact w_c0
  · exact w_c1
  · exact w_c2
  · exact w_c3
  · exact w_c4
  · exact w_c5
  · exact w_c6
set_option maxRecDepth 65536 in
theorem w_t1 : (words1.take 24).all (fun c => isCode c || c.before args0 about1) = true := by decide +kernel
set_option maxRecDepth 65536 in
theorem w_t2 : (words1.drop 24).all (fun c => isCode c || c.before args0 about1) = true := by decide +kernel
theorem w_tables : (allAtoms (Jvm.Cond.code x code maxLocals ret :: tables_1)).before args0 about1 = true := by
  rw [allAtoms_all]
  show words1.all (fun c => c.before args0 about1) = true
  refine all_split ?_ w_codes
  rw [← List.take_append_drop 24 words1, List.all_append, w_t1, w_t2]
  rfl
set_option maxRecDepth 65536 in
theorem w_case : (Jvm.Cond.and given_1 narrow_1).before args0 about1 = true := by decide +kernel
theorem w_applies : (headSpec (Jvm.Cond.code x code maxLocals ret :: tables_1) room_1).applies x e0.platform about1 = true :=
  (Spec.applies_iff w_frames).mpr ⟨w_running, w_runnable, w_alone, w_named, w_hears, w_ripe, w_room, w_tables⟩
theorem atStart : AtStart classFile x code maxLocals ret World_1 tables_1 room_1 Calls_1 rest_1 Pre_1 launch0 p0 e0 about1 theMethod args0 below0 :=
  ⟨lists_1, trivial, launch0.admits_env _ _ _, launch0.least_env, fairChoices_fair.cas, fairChoices_fair.clock, w_frames, w_args, w_heap, w_applies, trivial, trivial, w_case⟩
end start1
theorem witness_1 : WitnessClaimed_1 := ⟨start1.p0, start1.e0, start1.about1, start1.theMethod, start1.args0, start1.below0, start1.atStart⟩
end Jvm.Pilot.@@N@@
