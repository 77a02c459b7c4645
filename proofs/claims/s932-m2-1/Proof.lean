import JvmDerived
import JvmDerived.Pilot.@@N@@Statement
import JvmDerived.Pilot.@@N@@Code
set_option linter.unusedVariables false
set_option linter.unusedSimpArgs false
namespace Jvm.Pilot.@@N@@
open Jvm Jvm.ClassFile Sem Op Lib Jvm.Free Jvm.Stand Jvm.LawKit Jvm.RoadKit Bundle Jvm.Pilot.@@N@@.Jvm.D
section Own
variable {p : Program} {l : Launch} {e : Env} {R : Room} {s : State} {m : MethodId} {args : Array Value} {below : List Frame} {meth : Method} {c : Code} {T : State} {locs : List Loc} {cells slots : Nat} {Z : State} {a0 : Array Value} {h : Heap} {Q : Outcome → State → Prop}
/-- the run from A comes to an end that Q takes -/
def own_G (p : Program) (e : Env) (below : List Frame) (Q : Outcome → State → Prop) (A : State) : Prop :=
  ∃ s₂ o, Steps p.tables e below A s₂ ∧ s₂.status = .running ∧ Ended s₂ below o ∧ Q o s₂
theorem own_go {A B : State} (k : ∀ t, Steps p.tables e below B t → Steps p.tables e below A t) (hB : own_G p e below Q B) : own_G p e below Q A := by
  obtain ⟨s₂, o, h1, h2⟩ := hB
  exact ⟨s₂, o, k _ h1, h2⟩
theorem own_ret (X : Stand p l e R s m args below meth c T locs cells slots) (hlk : meth.locks = false) {v : Option Value} (hv : meth.sig.returnType = none → v = none) {A : State}
    (hst : ∀ fs, (∀ (f : JFrame) (acts : List Action), f.method = m → f.locked = none → f.entered = [] → (doReturn e (T.setTop f) acts v).1 = T.setFrames fs) → Steps p.tables e below A (T.setFrames fs))
    (hQ : ∀ U : State, U.heap = T.heap → FrameEnd s (.returned v) U locs cells slots → Q (.returned v) U) : own_G p e below Q A := by
  obtain ⟨fs, hr, hrun, hended, hW, hsame⟩ := X.leave (v := v) hv hlk
  exact ⟨_, _, hst fs hr, hrun, hended, hQ _ rfl ⟨⟨_, rfl⟩, hW, hsame⟩⟩
/-- ireturn of a boolean, byte, char or short -/
theorem own_retN (X : Stand p l e R s m args below meth c T locs cells slots) (hx : p.tables.exec = Jvm.exec) (hlk : meth.locks = false) {t : FieldType} (ht : t = .boolean ∨ t = .byte ∨ t = .char ∨ t = .short) {pc : Nat} {Ls : Array Slot} {z : Int32} {rest : List Value}
    (hret : meth.sig.returnType = some t) (hd : decode c.code pc = .ok (.ireturn, 1)) {w : Int32} (hw : nar t z = w)
    (hQ : ∀ U : State, U.heap = T.heap → FrameEnd s (.returned (some (.int w))) U locs cells slots → Q (.returned (some (.int w))) U) : own_G p e below Q (T.setTop (mkF m pc Ls (.int z :: rest))) := by
  subst hw
  exact own_ret X hlk (fun h => by rw [hret] at h; cases h) (fun fs hr => retN X hx hret ht hd hr) hQ
/-- ireturn of an int -/
theorem own_retI (X : Stand p l e R s m args below meth c T locs cells slots) (hx : p.tables.exec = Jvm.exec) (hlk : meth.locks = false) {pc : Nat} {Ls : Array Slot} {z : Int32} {rest : List Value}
    (hret : meth.sig.returnType = some .int) (hd : decode c.code pc = .ok (.ireturn, 1))
    (hQ : ∀ U : State, U.heap = T.heap → FrameEnd s (.returned (some (.int z))) U locs cells slots → Q (.returned (some (.int z))) U) : own_G p e below Q (T.setTop (mkF m pc Ls (.int z :: rest))) :=
  own_ret X hlk (fun h => by rw [hret] at h; cases h) (fun fs hr => retOut X hx hret rfl (Or.inl ⟨rfl, Or.inl rfl, _, rfl⟩) hd hr) hQ
/-- areturn -/
theorem own_retR (X : Stand p l e R s m args below meth c T locs cells slots) (hx : p.tables.exec = Jvm.exec) (hlk : meth.locks = false) {t : FieldType} (ht : t.isReference = true) {pc : Nat} {Ls : Array Slot} {w : Value} (hr : w.isRef = true) (hn : narrow t w = w) {rest : List Value}
    (hret : meth.sig.returnType = some t) (hd : decode c.code pc = .ok (.areturn, 1))
    (hQ : ∀ U : State, U.heap = T.heap → FrameEnd s (.returned (some w)) U locs cells slots → Q (.returned (some w)) U) : own_G p e below Q (T.setTop (mkF m pc Ls (w :: rest))) :=
  own_ret X hlk (fun h => by rw [hret] at h; cases h) (fun fs hr' => retOut X hx hret hn (Or.inr (Or.inr (Or.inr (Or.inr ⟨rfl, ht, hr⟩)))) hd hr') hQ
/-- return of nothing -/
theorem own_retV (X : Stand p l e R s m args below meth c T locs cells slots) (hx : p.tables.exec = Jvm.exec) (hlk : meth.locks = false) {pc : Nat} {Ls : Array Slot}
    (hret : meth.sig.returnType = none) (hd : decode c.code pc = .ok (.return_, 1))
    (hQ : ∀ U : State, U.heap = T.heap → FrameEnd s (.returned none) U locs cells slots → Q (.returned none) U) : own_G p e below Q (T.setTop (mkF m pc Ls [])) :=
  own_ret X hlk (fun _ => rfl) (fun fs hr => X.returnOut hx hret hd hr) hQ
/-- a body's contract: called with as' over the heap h0 it returns, and QC says what -/
def own_C (l : Launch) (Z : State) (y : MethodName) (bytes : ByteArray) (maxL : Nat) (ret : Option FieldType) (ws : List Jvm.Cond) (rm : Room) (as' : Array Value) (h0 : Heap) (QC : Option Value → Heap → List Loc → Prop) : Prop :=
  MetFree l y (head1 (Jvm.Cond.code y bytes maxL ret :: ws) rm) (fun a U => a = as' ∧ Z.Warmed39 U.vm ∧ U.heap = h0) (fun _ _ _ _ _ => True) (fun _ U o U' => ∃ v L, o = .returned v ∧ QC v U'.heap L ∧ FrameEnd U o U' L rm.cells rm.slots)
theorem own_body {l : Launch} {Z : State} {y : MethodName} {bytes : ByteArray} {maxL : Nat} {ret : Option FieldType} {ws : List Jvm.Cond} {rm : Room} {as' : Array Value} {h0 : Heap} {QC : Option Value → Heap → List Loc → Prop}
    (hpn : plainName y.cls = true) {Ls : Array Slot} (hef : ∀ m, entryFrame m as' maxL = mkF m 0 Ls [])
    (H : ∀ (p : Program) (e : Env) (s : State) (m : MethodId) (below : List Frame) (meth : Method) (c : Code) (T : State) (Q : Outcome → State → Prop), p.tables.exec = Jvm.exec → c.code = bytes → c.maxLocals = maxL → s.vm.findClass y.cls = some m.cls → meth.name = y.name → meth.sig.returnType = ret → meth.locks = false → Z.Warmed39 s.vm → T.heap = h0 →
      Stand p l e rm s m as' below meth c T [] 0 0 →
      (∀ (v : Option Value) (L : List Loc) (k n : Nat) (U : State), QC v U.heap L → k ≤ rm.cells → n ≤ rm.slots → FrameEnd s (.returned v) U L k n → Q (.returned v) U) → own_G p e below Q (T.setTop (mkF m 0 Ls []))) :
    own_C l Z y bytes maxL ret ws rm as' h0 QC := by
  refine MetFree.of_bodySF (plainFor_of_name hpn) hisR ?_
  intro p e s m args below meth c s₁ Bd hml0 hP hK
  obtain ⟨ha, hZ, hh⟩ := hP
  subst ha
  have X0 : Stand p l e rm s m args below meth c s₁ [] 0 0 := Stand.of_body Bd
  have e0 : s₁.heap = h0 := by rw [← hh, Bd.state]; rfl
  obtain ⟨s₂, o, h1, h2, h3, h4⟩ := H p e s m below meth c s₁ (fun o U' => ∃ v L, o = .returned v ∧ QC v U'.heap L ∧ FrameEnd s o U' L rm.cells rm.slots) Bd.exec Bd.bytes hml0 (findClass_of_methodNamed Bd.named) (name_of_methodNamed Bd.named Bd.method).1 Bd.returns Bd.notSynchronized hZ e0 X0
    (fun v L k n U hq hk hn hF => ⟨v, L, rfl, hq, hF.1, hF.2.1, hF.2.2.mono hk hn⟩)
  exact ⟨s₂, o, castTop (hef m) h1, h2, h3, h4⟩
theorem own_callS (X : Stand p l e R s m args below meth c T locs cells slots) (hx : p.tables.exec = Jvm.exec) (hZ : Z.Warmed39 s.vm) {own : String} {index : Nat} {y : MethodName} {bytes : ByteArray} {maxL : Nat} {ret : Option FieldType} (hown : s.vm.findClass own = some m.cls)
    (w1 : (Jvm.Cond.methodLink own index y).before a0 Z = true) (w2 : (Jvm.Cond.static y).before a0 Z = true) (w3 : (Jvm.Cond.initialized y.cls).before a0 Z = true) (w4 : (Jvm.Cond.code y bytes maxL ret).before a0 Z = true)
    (hy : y.cls ≠ "java/lang/invoke/MethodHandle" ∧ y.cls ≠ "java/lang/invoke/VarHandle")
    {rm : Room} {argsL rest : List Value} {QC : Option Value → Heap → List Loc → Prop} (eT : T.heap = h) (hC : own_C l Z y bytes maxL ret [] rm argsL.toArray h QC)
    {pc : Nat} {Ls : Array Slot} {st : List Value} (hst : st = argsL.reverse ++ rest) (hml : Ls.size = c.maxLocals) {ps : List FieldType} {r : Option FieldType} (hpd : parseMethodDescriptor y.desc = some ⟨ps, r⟩) (hlen : argsL.length = ps.length)
    (hd : decode c.code pc = .ok (.invokestatic index, 3)) {W : Nat} (hW : (rest.map fun v => v.category).sum ≤ W) (hf : rm.frames + 1 ≤ R.frames) (hl : W + (maxL + 11) + rm.locals ≤ R.locals) (hcc : cells + rm.cells ≤ R.cells) (hss : slots + rm.slots ≤ R.slots)
    (K : ∀ (v : Option Value) (T' : State) (L : List Loc), Stand p l e R s m args below meth c T' (locs ++ L) (cells + rm.cells) (slots + rm.slots) → QC v T'.heap L → own_G p e below Q (T'.setTop (mkF m (pc + 3) Ls (v.toList ++ rest)))) :
    own_G p e below Q (T.setTop (mkF m pc Ls st)) := by
  subst hst
  obtain ⟨v, vm1, ⟨T', L', k', n'⟩, -, X', ⟨L, hQ, l1, y1, z1⟩, st'⟩ := Jvm.LawKit.callS X hx (y := y) hown (mvT hZ w1) (mvT hZ w2) (mvT hZ w3) (mvT hZ w4) hy (backOf (W := W) hC hZ w4 w3 hf hl) (g := mkF m pc Ls (argsL.reverse ++ rest)) rfl hml (argsL := argsL) (rest := rest) (lenOf hpd hlen) rfl
    (by show 2 * 0 + _ ≤ _; rw [Nat.mul_zero, Nat.zero_add]; exact hW) hd (fun vm hv => ⟨rfl, eT, hcc, hss⟩)
  dsimp only [Pt.U, Pt.locs, Pt.cells, Pt.slots] at X' l1 y1 z1 st' hQ
  subst l1 y1 z1
  exact own_go st' (K v T' L X' hQ)
theorem own_callV (X : Stand p l e R s m args below meth c T locs cells slots) (hx : p.tables.exec = Jvm.exec) (hZ : Z.Warmed39 s.vm) {own C : String} {index : Nat} {y : MethodName} {bytes : ByteArray} {maxL : Nat} {ret : Option FieldType} (hown : s.vm.findClass own = some m.cls)
    (w1 : (Jvm.Cond.methodLink own index y).before a0 Z = true) (w2 : (Jvm.Cond.declares y).before a0 Z = true) (w3 : (Jvm.Cond.selects C y y).before a0 Z = true) (w4 : (Jvm.Cond.instanceMethod y).before a0 Z = true) (w5 : (Jvm.Cond.code y bytes maxL ret).before a0 Z = true) (w6 : (Jvm.Cond.initialized y.cls).before a0 Z = true)
    (hy : y.cls ≠ "java/lang/invoke/MethodHandle" ∧ y.cls ≠ "java/lang/invoke/VarHandle")
    {rm : Room} {argsL rest : List Value} {QC : Option Value → Heap → List Loc → Prop} (eT : T.heap = h) {b : Addr} (E : Exa Z h b C) (hC : own_C l Z y bytes maxL ret [] rm (.ref b :: argsL).toArray h QC)
    {pc : Nat} {Ls : Array Slot} {st : List Value} (hst : st = argsL.reverse ++ .ref b :: rest) (hml : Ls.size = c.maxLocals) {ps : List FieldType} {r : Option FieldType} (hpd : parseMethodDescriptor y.desc = some ⟨ps, r⟩) (hlen : argsL.length = ps.length)
    (hd : decode c.code pc = .ok (.invokevirtual index, 3)) {W : Nat} (hW : (rest.map fun v => v.category).sum ≤ W) (hf : rm.frames + 1 ≤ R.frames) (hl : W + (maxL + 11) + rm.locals ≤ R.locals) (hcc : cells + rm.cells ≤ R.cells) (hss : slots + rm.slots ≤ R.slots)
    (K : ∀ (v : Option Value) (T' : State) (L : List Loc), Stand p l e R s m args below meth c T' (locs ++ L) (cells + rm.cells) (slots + rm.slots) → QC v T'.heap L → own_G p e below Q (T'.setTop (mkF m (pc + 3) Ls (v.toList ++ rest)))) :
    own_G p e below Q (T.setTop (mkF m pc Ls st)) := by
  subst hst
  obtain ⟨cq, kq, qa, qb, qc⟩ := isOf hZ eT E
  obtain ⟨v, vm1, ⟨T', L', k', n'⟩, -, X', ⟨L, hQ, l1, y1, z1⟩, st'⟩ := X.virtualBack hx (y := y) (z := y) hown (mvT hZ w1) (mvT hZ w2) (notFace_of_selects (args := #[]) (mvT hZ w3)) (mvT hZ w3) (mvT hZ w4) hy (backOf (W := W) hC hZ w5 w6 hf hl) qa qc (g := mkF m pc Ls (argsL.reverse ++ .ref b :: rest)) rfl hml (Steps.refl _) (argsL := argsL) (rest := rest) (lenOf hpd hlen) rfl
    (by show 2 * 0 + _ ≤ _; rw [Nat.mul_zero, Nat.zero_add]; exact hW) hd (fun vm hv => ⟨rfl, eT, hcc, hss⟩)
  dsimp only [Pt.U, Pt.locs, Pt.cells, Pt.slots] at X' l1 y1 z1 st' hQ
  subst l1 y1 z1
  exact own_go (fun t k => st'.trans k) (K v T' L X' hQ)
theorem own_getS (X : Stand p l e R s m args below meth c T locs cells slots) (hx : p.tables.exec = Jvm.exec) (hZ : Z.Warmed39 s.vm) {own O n d : String} {index : Nat} (hown : s.vm.findClass own = some m.cls) (w : (Jvm.Cond.fieldLink own index O n d).before a0 Z = true) (eT : T.heap = h) {v : Value} (F : Sta Z h O n d v)
    {pc : Nat} {Ls : Array Slot} {st : List Value} (hd : decode c.code pc = .ok (.getstatic index, 3))
    (K : ∀ T' : State, Stand p l e R s m args below meth c T' locs cells slots → T'.heap = h → own_G p e below Q (T'.setTop (mkF m (pc + 3) Ls (v :: st)))) : own_G p e below Q (T.setTop (mkF m pc Ls st)) := by
  obtain ⟨T', X', e', st'⟩ := getS2 X hx hZ hown (host := "") (Or.inl w) Via.refl eT F (g := mkF m pc Ls st) rfl hd
  exact own_go st' (K T' X' e')
theorem own_getF (X : Stand p l e R s m args below meth c T locs cells slots) (hx : p.tables.exec = Jvm.exec) (hZ : Z.Warmed39 s.vm) {own O n d : String} {index : Nat} (hown : s.vm.findClass own = some m.cls) (w : (Jvm.Cond.fieldLink own index O n d).before a0 Z = true) (eT : T.heap = h) {a : Addr} {v : Value} (F : Fld Z h a O n d v)
    {pc : Nat} {Ls : Array Slot} {st : List Value} (hd : decode c.code pc = .ok (.getfield index, 3))
    (K : ∀ T' : State, Stand p l e R s m args below meth c T' locs cells slots → T'.heap = h → own_G p e below Q (T'.setTop (mkF m (pc + 3) Ls (v :: st)))) : own_G p e below Q (T.setTop (mkF m pc Ls (.ref a :: st))) := by
  obtain ⟨T', X', e', st'⟩ := getF X hx hZ hown (host := "") (Or.inl w) Via.refl eT F (g := mkF m pc Ls (.ref a :: st)) rfl rfl hd
  exact own_go st' (K T' X' e')
/-- a body that changes nothing returns v -/
def own_P (v : Value) (h0 : Heap) (v' : Option Value) (h : Heap) (L : List Loc) : Prop := v' = some v ∧ h = h0 ∧ L = []
/-- a static call of a body that changes nothing -/
theorem own_callSP (X : Stand p l e R s m args below meth c T locs cells slots) (hx : p.tables.exec = Jvm.exec) (hZ : Z.Warmed39 s.vm) {own : String} {index : Nat} {y : MethodName} {bytes : ByteArray} {maxL : Nat} {ret : Option FieldType} (hown : s.vm.findClass own = some m.cls)
    (w1 : (Jvm.Cond.methodLink own index y).before a0 Z = true) (w2 : (Jvm.Cond.static y).before a0 Z = true) (w3 : (Jvm.Cond.initialized y.cls).before a0 Z = true) (w4 : (Jvm.Cond.code y bytes maxL ret).before a0 Z = true)
    (hy : y.cls ≠ "java/lang/invoke/MethodHandle" ∧ y.cls ≠ "java/lang/invoke/VarHandle")
    {fr lo : Nat} {argsL rest : List Value} {v : Value} (eT : T.heap = h) (hC : own_C l Z y bytes maxL ret [] ({ frames := fr, cells := 0, slots := 0, locals := lo } : Room) argsL.toArray h (own_P v h))
    {pc : Nat} {Ls : Array Slot} {st : List Value} (hst : st = argsL.reverse ++ rest) (hml : Ls.size = c.maxLocals) {ps : List FieldType} {r : Option FieldType} (hpd : parseMethodDescriptor y.desc = some ⟨ps, r⟩) (hlen : argsL.length = ps.length)
    (hd : decode c.code pc = .ok (.invokestatic index, 3)) {W : Nat} (hW : (rest.map fun v => v.category).sum ≤ W) (hf : fr + 1 ≤ R.frames) (hl : W + (maxL + 11) + lo ≤ R.locals) (hcc : cells ≤ R.cells) (hss : slots ≤ R.slots)
    (K : ∀ T' : State, Stand p l e R s m args below meth c T' locs cells slots → T'.heap = h → own_G p e below Q (T'.setTop (mkF m (pc + 3) Ls (v :: rest)))) :
    own_G p e below Q (T.setTop (mkF m pc Ls st)) :=
  own_callS X hx hZ hown w1 w2 w3 w4 hy eT hC hst hml hpd hlen hd hW hf hl hcc hss fun v' T' L X' hq => by
    obtain ⟨rfl, e', rfl⟩ := hq
    rw [List.append_nil] at X'
    exact K T' X' e'
/-- a virtual call of a body that changes nothing -/
theorem own_callVP (X : Stand p l e R s m args below meth c T locs cells slots) (hx : p.tables.exec = Jvm.exec) (hZ : Z.Warmed39 s.vm) {own C : String} {index : Nat} {y : MethodName} {bytes : ByteArray} {maxL : Nat} {ret : Option FieldType} (hown : s.vm.findClass own = some m.cls)
    (w1 : (Jvm.Cond.methodLink own index y).before a0 Z = true) (w2 : (Jvm.Cond.declares y).before a0 Z = true) (w3 : (Jvm.Cond.selects C y y).before a0 Z = true) (w4 : (Jvm.Cond.instanceMethod y).before a0 Z = true) (w5 : (Jvm.Cond.code y bytes maxL ret).before a0 Z = true) (w6 : (Jvm.Cond.initialized y.cls).before a0 Z = true)
    (hy : y.cls ≠ "java/lang/invoke/MethodHandle" ∧ y.cls ≠ "java/lang/invoke/VarHandle")
    {fr lo : Nat} {argsL rest : List Value} {v : Value} (eT : T.heap = h) {b : Addr} (E : Exa Z h b C) (hC : own_C l Z y bytes maxL ret [] ({ frames := fr, cells := 0, slots := 0, locals := lo } : Room) (.ref b :: argsL).toArray h (own_P v h))
    {pc : Nat} {Ls : Array Slot} {st : List Value} (hst : st = argsL.reverse ++ .ref b :: rest) (hml : Ls.size = c.maxLocals) {ps : List FieldType} {r : Option FieldType} (hpd : parseMethodDescriptor y.desc = some ⟨ps, r⟩) (hlen : argsL.length = ps.length)
    (hd : decode c.code pc = .ok (.invokevirtual index, 3)) {W : Nat} (hW : (rest.map fun v => v.category).sum ≤ W) (hf : fr + 1 ≤ R.frames) (hl : W + (maxL + 11) + lo ≤ R.locals) (hcc : cells ≤ R.cells) (hss : slots ≤ R.slots)
    (K : ∀ T' : State, Stand p l e R s m args below meth c T' locs cells slots → T'.heap = h → own_G p e below Q (T'.setTop (mkF m (pc + 3) Ls (v :: rest)))) :
    own_G p e below Q (T.setTop (mkF m pc Ls st)) :=
  own_callV X hx hZ hown w1 w2 w3 w4 w5 w6 hy eT E hC hst hml hpd hlen hd hW hf hl hcc hss fun v' T' L X' hq => by
    obtain ⟨rfl, e', rfl⟩ := hq
    rw [List.append_nil] at X'
    exact K T' X' e'
/-- a static of exactly the class C, out of a case's words -/
theorem own_sta {t : Term} {C n d : String} (ht : t = .static C n d) {K : String} (hq : (Jvm.Cond.exactly t K).value a0 Z none Z [] = some true) (wi : (Jvm.Cond.initialized C).before a0 Z = true) (wl : (Jvm.Cond.laysStatic C n d).before a0 Z = true) :
    ∃ a : Addr, t.eval a0 Z none [] Z = some (.ref a) ∧ Sta Z Z.heap C n d (.ref a) ∧ Exa Z Z.heap a K := by
  subst ht
  obtain ⟨a, ev⟩ := exa_v hq
  exact ⟨a, ev, Sta.start ev (Or.inr ⟨wi, wl⟩), Exa.start ev hq⟩
theorem own_fld {t : Term} {a : Addr} {C n d : String} {k : Int32} (ev : t.eval a0 Z none [] Z = some (.ref a)) (hq : (Jvm.Cond.eq (.field t C n d) (.int k)).value a0 Z none Z [] = some true) : Fld Z Z.heap a C n d (.int k) := by
  obtain ⟨x, y, h1, h2, -, -⟩ := cmp_v (Or.inl hq)
  have h2' : y = .int k := (Option.some.inj ((Term.int_eval k).symm.trans h2)).symm
  subst h2'
  have hxy : x = .int k := by
    cases x <;> simp [Jvm.Cond.value, h1, h2] at hq ⊢
    exact hq
  subst hxy
  rw [fld_at ev] at h1
  exact Fld.start h1
theorem own_mod (k : Int32) (n : Nat) (hn : 0 < n) (hn2 : n < 2147483648) (y : Int32) (hy : y.toInt = (n : Int)) : ∃ i : Nat, i < n ∧ (k &&& (2147483647 : Int32)) % y = Int32.ofNat i := by
  have hm := c_mask k (2147483647 : Int32) 31 (by decide) (by decide)
  have h0 : 0 ≤ (k &&& (2147483647 : Int32)).toInt := by rw [hm]; omega
  have hr := (c_irem (k &&& (2147483647 : Int32)) y n hy).1 h0
  have h1 : 0 ≤ ((k &&& (2147483647 : Int32)) % y).toInt ∧ ((k &&& (2147483647 : Int32)) % y).toInt < n := by rw [hr]; exact ⟨Int.emod_nonneg _ (by omega), Int.emod_lt_of_pos _ (by omega)⟩
  generalize (k &&& (2147483647 : Int32)) % y = z at h1
  refine ⟨z.toInt.toNat, by omega, ?_⟩
  apply Int32.toInt_inj.mp
  rw [Int32.toInt_ofNat_small (by omega)]
  omega
end Own
/-- the constants lie at ad 0, ad 1, .. -/
def own_St (Z : State) (ad : Nat → Addr) : Prop := Sta Z Z.heap "com/example/broker_access_control/brokeraccesscontrol/wire/Api" "METADATA" "Lcom/example/broker_access_control/brokeraccesscontrol/wire/Api;" (.ref (ad 0)) ∧ Sta Z Z.heap "com/example/broker_access_control/brokeraccesscontrol/wire/Api" "SASL_HANDSHAKE" "Lcom/example/broker_access_control/brokeraccesscontrol/wire/Api;" (.ref (ad 1)) ∧ Sta Z Z.heap "com/example/broker_access_control/brokeraccesscontrol/wire/Api" "API_VERSIONS" "Lcom/example/broker_access_control/brokeraccesscontrol/wire/Api;" (.ref (ad 2)) ∧ Sta Z Z.heap "com/example/broker_access_control/brokeraccesscontrol/wire/Api" "DESCRIBE_ACLS" "Lcom/example/broker_access_control/brokeraccesscontrol/wire/Api;" (.ref (ad 3)) ∧ Sta Z Z.heap "com/example/broker_access_control/brokeraccesscontrol/wire/Api" "CREATE_ACLS" "Lcom/example/broker_access_control/brokeraccesscontrol/wire/Api;" (.ref (ad 4)) ∧ Sta Z Z.heap "com/example/broker_access_control/brokeraccesscontrol/wire/Api" "DELETE_ACLS" "Lcom/example/broker_access_control/brokeraccesscontrol/wire/Api;" (.ref (ad 5)) ∧ Sta Z Z.heap "com/example/broker_access_control/brokeraccesscontrol/wire/Api" "SASL_AUTHENTICATE" "Lcom/example/broker_access_control/brokeraccesscontrol/wire/Api;" (.ref (ad 6)) ∧ Sta Z Z.heap "com/example/broker_access_control/brokeraccesscontrol/wire/Api" "DESCRIBE_USER_SCRAM_CREDENTIALS" "Lcom/example/broker_access_control/brokeraccesscontrol/wire/Api;" (.ref (ad 7)) ∧ Sta Z Z.heap "com/example/broker_access_control/brokeraccesscontrol/wire/Api" "ALTER_USER_SCRAM_CREDENTIALS" "Lcom/example/broker_access_control/brokeraccesscontrol/wire/Api;" (.ref (ad 8))
theorem dp_0 : decode method_3_code 0 = .ok (.iload_n 0, 1) := by decide +kernel
theorem dp_1 : decode method_3_code 1 = .ok (.ifCond .ne 7, 3) := by decide +kernel
theorem dp_4 : decode method_3_code 4 = .ok (.getstatic 24, 3) := by decide +kernel
theorem dp_7 : decode method_3_code 7 = .ok (.areturn, 1) := by decide +kernel
theorem dp_8 : decode method_3_code 8 = .ok (.iload_n 0, 1) := by decide +kernel
theorem dp_9 : decode method_3_code 9 = .ok (.iconst 1, 1) := by decide +kernel
theorem dp_10 : decode method_3_code 10 = .ok (.if_icmp .ne 7, 3) := by decide +kernel
theorem dp_13 : decode method_3_code 13 = .ok (.getstatic 28, 3) := by decide +kernel
theorem dp_16 : decode method_3_code 16 = .ok (.areturn, 1) := by decide +kernel
theorem dp_17 : decode method_3_code 17 = .ok (.iload_n 0, 1) := by decide +kernel
theorem dp_18 : decode method_3_code 18 = .ok (.iconst 2, 1) := by decide +kernel
theorem dp_19 : decode method_3_code 19 = .ok (.if_icmp .ne 7, 3) := by decide +kernel
theorem dp_22 : decode method_3_code 22 = .ok (.getstatic 31, 3) := by decide +kernel
theorem dp_25 : decode method_3_code 25 = .ok (.areturn, 1) := by decide +kernel
theorem dp_26 : decode method_3_code 26 = .ok (.iload_n 0, 1) := by decide +kernel
theorem dp_27 : decode method_3_code 27 = .ok (.iconst 3, 1) := by decide +kernel
theorem dp_28 : decode method_3_code 28 = .ok (.if_icmp .ne 7, 3) := by decide +kernel
theorem dp_31 : decode method_3_code 31 = .ok (.getstatic 34, 3) := by decide +kernel
theorem dp_34 : decode method_3_code 34 = .ok (.areturn, 1) := by decide +kernel
theorem dp_35 : decode method_3_code 35 = .ok (.iload_n 0, 1) := by decide +kernel
theorem dp_36 : decode method_3_code 36 = .ok (.iconst 4, 1) := by decide +kernel
theorem dp_37 : decode method_3_code 37 = .ok (.if_icmp .ne 7, 3) := by decide +kernel
theorem dp_40 : decode method_3_code 40 = .ok (.getstatic 37, 3) := by decide +kernel
theorem dp_43 : decode method_3_code 43 = .ok (.areturn, 1) := by decide +kernel
theorem dp_44 : decode method_3_code 44 = .ok (.iload_n 0, 1) := by decide +kernel
theorem dp_45 : decode method_3_code 45 = .ok (.iconst 5, 1) := by decide +kernel
theorem dp_46 : decode method_3_code 46 = .ok (.if_icmp .ne 7, 3) := by decide +kernel
theorem dp_49 : decode method_3_code 49 = .ok (.getstatic 40, 3) := by decide +kernel
theorem dp_52 : decode method_3_code 52 = .ok (.areturn, 1) := by decide +kernel
theorem dp_53 : decode method_3_code 53 = .ok (.iload_n 0, 1) := by decide +kernel
theorem dp_54 : decode method_3_code 54 = .ok (.bipush 6, 2) := by decide +kernel
theorem dp_56 : decode method_3_code 56 = .ok (.if_icmp .ne 7, 3) := by decide +kernel
theorem dp_59 : decode method_3_code 59 = .ok (.getstatic 43, 3) := by decide +kernel
theorem dp_62 : decode method_3_code 62 = .ok (.areturn, 1) := by decide +kernel
theorem dp_63 : decode method_3_code 63 = .ok (.iload_n 0, 1) := by decide +kernel
theorem dp_64 : decode method_3_code 64 = .ok (.bipush 7, 2) := by decide +kernel
theorem dp_66 : decode method_3_code 66 = .ok (.if_icmp .ne 7, 3) := by decide +kernel
theorem dp_69 : decode method_3_code 69 = .ok (.getstatic 46, 3) := by decide +kernel
theorem dp_72 : decode method_3_code 72 = .ok (.areturn, 1) := by decide +kernel
theorem dp_73 : decode method_3_code 73 = .ok (.getstatic 49, 3) := by decide +kernel
theorem dp_76 : decode method_3_code 76 = .ok (.areturn, 1) := by decide +kernel
theorem dh_0 : decode method_4_code 0 = .ok (.iload_n 0, 1) := by decide +kernel
theorem dh_1 : decode method_4_code 1 = .ok (.ifCond .ne 5, 3) := by decide +kernel
theorem dh_4 : decode method_4_code 4 = .ok (.iconst 5, 1) := by decide +kernel
theorem dh_5 : decode method_4_code 5 = .ok (.ireturn, 1) := by decide +kernel
theorem dh_6 : decode method_4_code 6 = .ok (.iload_n 0, 1) := by decide +kernel
theorem dh_7 : decode method_4_code 7 = .ok (.iconst 1, 1) := by decide +kernel
theorem dh_8 : decode method_4_code 8 = .ok (.if_icmp .ne 5, 3) := by decide +kernel
theorem dh_11 : decode method_4_code 11 = .ok (.iconst 1, 1) := by decide +kernel
theorem dh_12 : decode method_4_code 12 = .ok (.ireturn, 1) := by decide +kernel
theorem dh_13 : decode method_4_code 13 = .ok (.iload_n 0, 1) := by decide +kernel
theorem dh_14 : decode method_4_code 14 = .ok (.iconst 2, 1) := by decide +kernel
theorem dh_15 : decode method_4_code 15 = .ok (.if_icmp .ne 5, 3) := by decide +kernel
theorem dh_18 : decode method_4_code 18 = .ok (.iconst 4, 1) := by decide +kernel
theorem dh_19 : decode method_4_code 19 = .ok (.ireturn, 1) := by decide +kernel
theorem dh_20 : decode method_4_code 20 = .ok (.iload_n 0, 1) := by decide +kernel
theorem dh_21 : decode method_4_code 21 = .ok (.iconst 3, 1) := by decide +kernel
theorem dh_22 : decode method_4_code 22 = .ok (.if_icmp .eq 13, 3) := by decide +kernel
theorem dh_25 : decode method_4_code 25 = .ok (.iload_n 0, 1) := by decide +kernel
theorem dh_26 : decode method_4_code 26 = .ok (.iconst 4, 1) := by decide +kernel
theorem dh_27 : decode method_4_code 27 = .ok (.if_icmp .eq 8, 3) := by decide +kernel
theorem dh_30 : decode method_4_code 30 = .ok (.iload_n 0, 1) := by decide +kernel
theorem dh_31 : decode method_4_code 31 = .ok (.iconst 5, 1) := by decide +kernel
theorem dh_32 : decode method_4_code 32 = .ok (.if_icmp .ne 5, 3) := by decide +kernel
theorem dh_35 : decode method_4_code 35 = .ok (.iconst 3, 1) := by decide +kernel
theorem dh_36 : decode method_4_code 36 = .ok (.ireturn, 1) := by decide +kernel
theorem dh_37 : decode method_4_code 37 = .ok (.iload_n 0, 1) := by decide +kernel
theorem dh_38 : decode method_4_code 38 = .ok (.bipush 6, 2) := by decide +kernel
theorem dh_40 : decode method_4_code 40 = .ok (.if_icmp .ne 5, 3) := by decide +kernel
theorem dh_43 : decode method_4_code 43 = .ok (.iconst 2, 1) := by decide +kernel
theorem dh_44 : decode method_4_code 44 = .ok (.ireturn, 1) := by decide +kernel
theorem dh_45 : decode method_4_code 45 = .ok (.iconst 0, 1) := by decide +kernel
theorem dh_46 : decode method_4_code 46 = .ok (.ireturn, 1) := by decide +kernel
theorem ds_0 : decode prog_70_method_10_code 0 = .ok (.iload_n 1, 1) := by decide +kernel
theorem ds_1 : decode prog_70_method_10_code 1 = .ok (.aload_n 0, 1) := by decide +kernel
theorem ds_2 : decode prog_70_method_10_code 2 = .ok (.getfield 54, 3) := by decide +kernel
theorem ds_5 : decode prog_70_method_10_code 5 = .ok (.if_icmp .lt 15, 3) := by decide +kernel
theorem ds_8 : decode prog_70_method_10_code 8 = .ok (.iload_n 1, 1) := by decide +kernel
theorem ds_9 : decode prog_70_method_10_code 9 = .ok (.aload_n 0, 1) := by decide +kernel
theorem ds_10 : decode prog_70_method_10_code 10 = .ok (.getfield 57, 3) := by decide +kernel
theorem ds_13 : decode prog_70_method_10_code 13 = .ok (.if_icmp .gt 7, 3) := by decide +kernel
theorem ds_16 : decode prog_70_method_10_code 16 = .ok (.iconst 1, 1) := by decide +kernel
theorem ds_17 : decode prog_70_method_10_code 17 = .ok (.goto 4, 3) := by decide +kernel
theorem ds_20 : decode prog_70_method_10_code 20 = .ok (.iconst 0, 1) := by decide +kernel
theorem ds_21 : decode prog_70_method_10_code 21 = .ok (.ireturn, 1) := by decide +kernel
theorem pn_l : plainName "com/example/broker_access_control/brokeraccesscontrol/wire/ApiServesPinLaw" = true := by first | (simp [plainName, overriddenIn]; done) | decide +kernel
theorem pn_c : plainName "com/example/broker_access_control/brokeraccesscontrol/wire/Api" = true := by first | (simp [plainName, overriddenIn]; done) | decide +kernel
theorem pd_p : parseMethodDescriptor "(I)Lcom/example/broker_access_control/brokeraccesscontrol/wire/Api;" = some ⟨[.int], some (.object "com/example/broker_access_control/brokeraccesscontrol/wire/Api")⟩ := by decide +kernel
theorem pd_h : parseMethodDescriptor "(I)I" = some ⟨[.int], some .int⟩ := by decide +kernel
theorem pd_s : parseMethodDescriptor "(I)Z" = some ⟨[.int], some .boolean⟩ := by decide +kernel
theorem ef_p (m : MethodId) (x0 : Int32) : entryFrame m #[(.int x0)] 1 = mkF m 0 #[.val (.int x0)] [] := by first | (simp [entryFrame, mkF, argsToLocals, Value.category, maxLocals]; done) | rfl
theorem ef_s (m : MethodId) (x0 : Addr) (x1 : Int32) : entryFrame m #[(.ref x0), (.int x1)] 2 = mkF m 0 #[.val (.ref x0), .val (.int x1)] [] := by first | (simp [entryFrame, mkF, argsToLocals, Value.category, maxLocals]; done) | rfl
theorem ef_0 (m : MethodId) (x0 x1 x2 : Int32) : entryFrame m #[(.int x0), (.int x1), (.int x2)] maxLocals = mkF m 0 #[.val (.int x0), .val (.int x1), .val (.int x2), .unset, .unset, .unset, .unset, .unset] [] := by first | (simp [entryFrame, mkF, argsToLocals, Value.category, maxLocals]; done) | rfl
set_option maxRecDepth 65536 in
set_option maxHeartbeats 40000000 in
theorem own_pick (l : Launch) (Z : State) (a0 : Array Value) (hw : ∀ d ∈ tables_1, d.before a0 Z = true) (ad : Nat → Addr) (hS : own_St Z ad) (h0 : Heap) (hO : Ext Z.heap h0) (i : Nat) (hi : i < 9) :
    own_C l Z (⟨"com/example/broker_access_control/brokeraccesscontrol/wire/ApiServesPinLaw", "pick", "(I)Lcom/example/broker_access_control/brokeraccesscontrol/wire/Api;"⟩ : MethodName) method_3_code 1 (some (.object "com/example/broker_access_control/brokeraccesscontrol/wire/Api")) [] ({ frames := 0, cells := 0, slots := 0, locals := 0 } : Room) #[.int (Int32.ofNat i)] h0 (own_P (.ref (ad i)) h0) := by
  refine own_body pn_l (fun m => ef_p m _) ?_
  intro p e s m below meth c T Q hx hby hml hown hnm hret hlk hZ e0 X0 hR
  obtain hi' : i = 0 ∨ i = 1 ∨ i = 2 ∨ i = 3 ∨ i = 4 ∨ i = 5 ∨ i = 6 ∨ i = 7 ∨ i = 8 := by omega
  clear hi
  rcases hi' with rfl | rfl | rfl | rfl | rfl | rfl | rfl | rfl | rfl
  · show own_G p e below Q (T.setTop (mkF m 0 #[.val (.int (Int32.ofNat 0))] []))
    refine own_go (fun _ k => XS.iloadN X0.here hx rfl (hb hby dp_0) rfl  k) ?_
    show own_G p e below Q (T.setTop (mkF m 1 #[.val (.int (Int32.ofNat 0))] [(.int (Int32.ofNat 0))]))
    refine own_go (fun _ k => XS.ifNo X0.here hx rfl (hb hby dp_1) rfl ((if0 _ _).trans (teq (by decide : (Int32.ofNat 0) = (0 : Int32))).2) k) ?_
    show own_G p e below Q (T.setTop (mkF m 4 #[.val (.int (Int32.ofNat 0))] []))
    refine own_getS X0 hx hZ hown (hw _ (List.mem_of_getElem? (i := 5) rfl)) e0 (Sta.ext hO hS.1) (hb hby dp_4) ?_
    intro T1 X1 e1
    show own_G p e below Q (T1.setTop (mkF m 7 #[.val (.int (Int32.ofNat 0))] [(.ref (ad 0))]))
    exact own_retR X1 hx hlk rfl rfl rfl hret (hb hby dp_7) (fun U hU hF => hR _ _ _ _ _ ⟨rfl, hU.trans e1, rfl⟩ (by decide) (by decide) hF)
  · show own_G p e below Q (T.setTop (mkF m 0 #[.val (.int (Int32.ofNat 1))] []))
    refine own_go (fun _ k => XS.iloadN X0.here hx rfl (hb hby dp_0) rfl  k) ?_
    show own_G p e below Q (T.setTop (mkF m 1 #[.val (.int (Int32.ofNat 1))] [(.int (Int32.ofNat 1))]))
    refine own_go (fun _ k => XS.ifYes X0.here hx rfl (pc0 := 1) (pc' := 8) rfl (hb hby dp_1) rfl ((if0 _ _).trans (feq (by decide : ¬ ((Int32.ofNat 1) = (0 : Int32)))).2) (by decide) (by decide) k) ?_
    show own_G p e below Q (T.setTop (mkF m 8 #[.val (.int (Int32.ofNat 1))] []))
    refine own_go (fun _ k => XS.iloadN X0.here hx rfl (hb hby dp_8) rfl  k) ?_
    show own_G p e below Q (T.setTop (mkF m 9 #[.val (.int (Int32.ofNat 1))] [(.int (Int32.ofNat 1))]))
    refine own_go (fun _ k => XS.iconst X0.here hx rfl (hb hby dp_9) k) ?_
    show own_G p e below Q (T.setTop (mkF m 10 #[.val (.int (Int32.ofNat 1))] [(.int (1 : Int32)), (.int (Int32.ofNat 1))]))
    refine own_go (fun _ k => XS.icmpNo X0.here hx rfl (hb hby dp_10) rfl (teq (by decide : (Int32.ofNat 1) = (1 : Int32))).2 k) ?_
    show own_G p e below Q (T.setTop (mkF m 13 #[.val (.int (Int32.ofNat 1))] []))
    refine own_getS X0 hx hZ hown (hw _ (List.mem_of_getElem? (i := 20) rfl)) e0 (Sta.ext hO hS.2.1) (hb hby dp_13) ?_
    intro T2 X2 e2
    show own_G p e below Q (T2.setTop (mkF m 16 #[.val (.int (Int32.ofNat 1))] [(.ref (ad 1))]))
    exact own_retR X2 hx hlk rfl rfl rfl hret (hb hby dp_16) (fun U hU hF => hR _ _ _ _ _ ⟨rfl, hU.trans e2, rfl⟩ (by decide) (by decide) hF)
  · show own_G p e below Q (T.setTop (mkF m 0 #[.val (.int (Int32.ofNat 2))] []))
    refine own_go (fun _ k => XS.iloadN X0.here hx rfl (hb hby dp_0) rfl  k) ?_
    show own_G p e below Q (T.setTop (mkF m 1 #[.val (.int (Int32.ofNat 2))] [(.int (Int32.ofNat 2))]))
    refine own_go (fun _ k => XS.ifYes X0.here hx rfl (pc0 := 1) (pc' := 8) rfl (hb hby dp_1) rfl ((if0 _ _).trans (feq (by decide : ¬ ((Int32.ofNat 2) = (0 : Int32)))).2) (by decide) (by decide) k) ?_
    show own_G p e below Q (T.setTop (mkF m 8 #[.val (.int (Int32.ofNat 2))] []))
    refine own_go (fun _ k => XS.iloadN X0.here hx rfl (hb hby dp_8) rfl  k) ?_
    show own_G p e below Q (T.setTop (mkF m 9 #[.val (.int (Int32.ofNat 2))] [(.int (Int32.ofNat 2))]))
    refine own_go (fun _ k => XS.iconst X0.here hx rfl (hb hby dp_9) k) ?_
    show own_G p e below Q (T.setTop (mkF m 10 #[.val (.int (Int32.ofNat 2))] [(.int (1 : Int32)), (.int (Int32.ofNat 2))]))
    refine own_go (fun _ k => XS.icmpYes X0.here hx rfl (pc0 := 10) (pc' := 17) rfl (hb hby dp_10) rfl (feq (by decide : ¬ ((Int32.ofNat 2) = (1 : Int32)))).2 (by decide) (by decide) k) ?_
    show own_G p e below Q (T.setTop (mkF m 17 #[.val (.int (Int32.ofNat 2))] []))
    refine own_go (fun _ k => XS.iloadN X0.here hx rfl (hb hby dp_17) rfl  k) ?_
    show own_G p e below Q (T.setTop (mkF m 18 #[.val (.int (Int32.ofNat 2))] [(.int (Int32.ofNat 2))]))
    refine own_go (fun _ k => XS.iconst X0.here hx rfl (hb hby dp_18) k) ?_
    show own_G p e below Q (T.setTop (mkF m 19 #[.val (.int (Int32.ofNat 2))] [(.int (2 : Int32)), (.int (Int32.ofNat 2))]))
    refine own_go (fun _ k => XS.icmpNo X0.here hx rfl (hb hby dp_19) rfl (teq (by decide : (Int32.ofNat 2) = (2 : Int32))).2 k) ?_
    show own_G p e below Q (T.setTop (mkF m 22 #[.val (.int (Int32.ofNat 2))] []))
    refine own_getS X0 hx hZ hown (hw _ (List.mem_of_getElem? (i := 22) rfl)) e0 (Sta.ext hO hS.2.2.1) (hb hby dp_22) ?_
    intro T3 X3 e3
    show own_G p e below Q (T3.setTop (mkF m 25 #[.val (.int (Int32.ofNat 2))] [(.ref (ad 2))]))
    exact own_retR X3 hx hlk rfl rfl rfl hret (hb hby dp_25) (fun U hU hF => hR _ _ _ _ _ ⟨rfl, hU.trans e3, rfl⟩ (by decide) (by decide) hF)
  · show own_G p e below Q (T.setTop (mkF m 0 #[.val (.int (Int32.ofNat 3))] []))
    refine own_go (fun _ k => XS.iloadN X0.here hx rfl (hb hby dp_0) rfl  k) ?_
    show own_G p e below Q (T.setTop (mkF m 1 #[.val (.int (Int32.ofNat 3))] [(.int (Int32.ofNat 3))]))
    refine own_go (fun _ k => XS.ifYes X0.here hx rfl (pc0 := 1) (pc' := 8) rfl (hb hby dp_1) rfl ((if0 _ _).trans (feq (by decide : ¬ ((Int32.ofNat 3) = (0 : Int32)))).2) (by decide) (by decide) k) ?_
    show own_G p e below Q (T.setTop (mkF m 8 #[.val (.int (Int32.ofNat 3))] []))
    refine own_go (fun _ k => XS.iloadN X0.here hx rfl (hb hby dp_8) rfl  k) ?_
    show own_G p e below Q (T.setTop (mkF m 9 #[.val (.int (Int32.ofNat 3))] [(.int (Int32.ofNat 3))]))
    refine own_go (fun _ k => XS.iconst X0.here hx rfl (hb hby dp_9) k) ?_
    show own_G p e below Q (T.setTop (mkF m 10 #[.val (.int (Int32.ofNat 3))] [(.int (1 : Int32)), (.int (Int32.ofNat 3))]))
    refine own_go (fun _ k => XS.icmpYes X0.here hx rfl (pc0 := 10) (pc' := 17) rfl (hb hby dp_10) rfl (feq (by decide : ¬ ((Int32.ofNat 3) = (1 : Int32)))).2 (by decide) (by decide) k) ?_
    show own_G p e below Q (T.setTop (mkF m 17 #[.val (.int (Int32.ofNat 3))] []))
    refine own_go (fun _ k => XS.iloadN X0.here hx rfl (hb hby dp_17) rfl  k) ?_
    show own_G p e below Q (T.setTop (mkF m 18 #[.val (.int (Int32.ofNat 3))] [(.int (Int32.ofNat 3))]))
    refine own_go (fun _ k => XS.iconst X0.here hx rfl (hb hby dp_18) k) ?_
    show own_G p e below Q (T.setTop (mkF m 19 #[.val (.int (Int32.ofNat 3))] [(.int (2 : Int32)), (.int (Int32.ofNat 3))]))
    refine own_go (fun _ k => XS.icmpYes X0.here hx rfl (pc0 := 19) (pc' := 26) rfl (hb hby dp_19) rfl (feq (by decide : ¬ ((Int32.ofNat 3) = (2 : Int32)))).2 (by decide) (by decide) k) ?_
    show own_G p e below Q (T.setTop (mkF m 26 #[.val (.int (Int32.ofNat 3))] []))
    refine own_go (fun _ k => XS.iloadN X0.here hx rfl (hb hby dp_26) rfl  k) ?_
    show own_G p e below Q (T.setTop (mkF m 27 #[.val (.int (Int32.ofNat 3))] [(.int (Int32.ofNat 3))]))
    refine own_go (fun _ k => XS.iconst X0.here hx rfl (hb hby dp_27) k) ?_
    show own_G p e below Q (T.setTop (mkF m 28 #[.val (.int (Int32.ofNat 3))] [(.int (3 : Int32)), (.int (Int32.ofNat 3))]))
    refine own_go (fun _ k => XS.icmpNo X0.here hx rfl (hb hby dp_28) rfl (teq (by decide : (Int32.ofNat 3) = (3 : Int32))).2 k) ?_
    show own_G p e below Q (T.setTop (mkF m 31 #[.val (.int (Int32.ofNat 3))] []))
    refine own_getS X0 hx hZ hown (hw _ (List.mem_of_getElem? (i := 30) rfl)) e0 (Sta.ext hO hS.2.2.2.1) (hb hby dp_31) ?_
    intro T4 X4 e4
    show own_G p e below Q (T4.setTop (mkF m 34 #[.val (.int (Int32.ofNat 3))] [(.ref (ad 3))]))
    exact own_retR X4 hx hlk rfl rfl rfl hret (hb hby dp_34) (fun U hU hF => hR _ _ _ _ _ ⟨rfl, hU.trans e4, rfl⟩ (by decide) (by decide) hF)
  · show own_G p e below Q (T.setTop (mkF m 0 #[.val (.int (Int32.ofNat 4))] []))
    refine own_go (fun _ k => XS.iloadN X0.here hx rfl (hb hby dp_0) rfl  k) ?_
    show own_G p e below Q (T.setTop (mkF m 1 #[.val (.int (Int32.ofNat 4))] [(.int (Int32.ofNat 4))]))
    refine own_go (fun _ k => XS.ifYes X0.here hx rfl (pc0 := 1) (pc' := 8) rfl (hb hby dp_1) rfl ((if0 _ _).trans (feq (by decide : ¬ ((Int32.ofNat 4) = (0 : Int32)))).2) (by decide) (by decide) k) ?_
    show own_G p e below Q (T.setTop (mkF m 8 #[.val (.int (Int32.ofNat 4))] []))
    refine own_go (fun _ k => XS.iloadN X0.here hx rfl (hb hby dp_8) rfl  k) ?_
    show own_G p e below Q (T.setTop (mkF m 9 #[.val (.int (Int32.ofNat 4))] [(.int (Int32.ofNat 4))]))
    refine own_go (fun _ k => XS.iconst X0.here hx rfl (hb hby dp_9) k) ?_
    show own_G p e below Q (T.setTop (mkF m 10 #[.val (.int (Int32.ofNat 4))] [(.int (1 : Int32)), (.int (Int32.ofNat 4))]))
    refine own_go (fun _ k => XS.icmpYes X0.here hx rfl (pc0 := 10) (pc' := 17) rfl (hb hby dp_10) rfl (feq (by decide : ¬ ((Int32.ofNat 4) = (1 : Int32)))).2 (by decide) (by decide) k) ?_
    show own_G p e below Q (T.setTop (mkF m 17 #[.val (.int (Int32.ofNat 4))] []))
    refine own_go (fun _ k => XS.iloadN X0.here hx rfl (hb hby dp_17) rfl  k) ?_
    show own_G p e below Q (T.setTop (mkF m 18 #[.val (.int (Int32.ofNat 4))] [(.int (Int32.ofNat 4))]))
    refine own_go (fun _ k => XS.iconst X0.here hx rfl (hb hby dp_18) k) ?_
    show own_G p e below Q (T.setTop (mkF m 19 #[.val (.int (Int32.ofNat 4))] [(.int (2 : Int32)), (.int (Int32.ofNat 4))]))
    refine own_go (fun _ k => XS.icmpYes X0.here hx rfl (pc0 := 19) (pc' := 26) rfl (hb hby dp_19) rfl (feq (by decide : ¬ ((Int32.ofNat 4) = (2 : Int32)))).2 (by decide) (by decide) k) ?_
    show own_G p e below Q (T.setTop (mkF m 26 #[.val (.int (Int32.ofNat 4))] []))
    refine own_go (fun _ k => XS.iloadN X0.here hx rfl (hb hby dp_26) rfl  k) ?_
    show own_G p e below Q (T.setTop (mkF m 27 #[.val (.int (Int32.ofNat 4))] [(.int (Int32.ofNat 4))]))
    refine own_go (fun _ k => XS.iconst X0.here hx rfl (hb hby dp_27) k) ?_
    show own_G p e below Q (T.setTop (mkF m 28 #[.val (.int (Int32.ofNat 4))] [(.int (3 : Int32)), (.int (Int32.ofNat 4))]))
    refine own_go (fun _ k => XS.icmpYes X0.here hx rfl (pc0 := 28) (pc' := 35) rfl (hb hby dp_28) rfl (feq (by decide : ¬ ((Int32.ofNat 4) = (3 : Int32)))).2 (by decide) (by decide) k) ?_
    show own_G p e below Q (T.setTop (mkF m 35 #[.val (.int (Int32.ofNat 4))] []))
    refine own_go (fun _ k => XS.iloadN X0.here hx rfl (hb hby dp_35) rfl  k) ?_
    show own_G p e below Q (T.setTop (mkF m 36 #[.val (.int (Int32.ofNat 4))] [(.int (Int32.ofNat 4))]))
    refine own_go (fun _ k => XS.iconst X0.here hx rfl (hb hby dp_36) k) ?_
    show own_G p e below Q (T.setTop (mkF m 37 #[.val (.int (Int32.ofNat 4))] [(.int (4 : Int32)), (.int (Int32.ofNat 4))]))
    refine own_go (fun _ k => XS.icmpNo X0.here hx rfl (hb hby dp_37) rfl (teq (by decide : (Int32.ofNat 4) = (4 : Int32))).2 k) ?_
    show own_G p e below Q (T.setTop (mkF m 40 #[.val (.int (Int32.ofNat 4))] []))
    refine own_getS X0 hx hZ hown (hw _ (List.mem_of_getElem? (i := 32) rfl)) e0 (Sta.ext hO hS.2.2.2.2.1) (hb hby dp_40) ?_
    intro T5 X5 e5
    show own_G p e below Q (T5.setTop (mkF m 43 #[.val (.int (Int32.ofNat 4))] [(.ref (ad 4))]))
    exact own_retR X5 hx hlk rfl rfl rfl hret (hb hby dp_43) (fun U hU hF => hR _ _ _ _ _ ⟨rfl, hU.trans e5, rfl⟩ (by decide) (by decide) hF)
  · show own_G p e below Q (T.setTop (mkF m 0 #[.val (.int (Int32.ofNat 5))] []))
    refine own_go (fun _ k => XS.iloadN X0.here hx rfl (hb hby dp_0) rfl  k) ?_
    show own_G p e below Q (T.setTop (mkF m 1 #[.val (.int (Int32.ofNat 5))] [(.int (Int32.ofNat 5))]))
    refine own_go (fun _ k => XS.ifYes X0.here hx rfl (pc0 := 1) (pc' := 8) rfl (hb hby dp_1) rfl ((if0 _ _).trans (feq (by decide : ¬ ((Int32.ofNat 5) = (0 : Int32)))).2) (by decide) (by decide) k) ?_
    show own_G p e below Q (T.setTop (mkF m 8 #[.val (.int (Int32.ofNat 5))] []))
    refine own_go (fun _ k => XS.iloadN X0.here hx rfl (hb hby dp_8) rfl  k) ?_
    show own_G p e below Q (T.setTop (mkF m 9 #[.val (.int (Int32.ofNat 5))] [(.int (Int32.ofNat 5))]))
    refine own_go (fun _ k => XS.iconst X0.here hx rfl (hb hby dp_9) k) ?_
    show own_G p e below Q (T.setTop (mkF m 10 #[.val (.int (Int32.ofNat 5))] [(.int (1 : Int32)), (.int (Int32.ofNat 5))]))
    refine own_go (fun _ k => XS.icmpYes X0.here hx rfl (pc0 := 10) (pc' := 17) rfl (hb hby dp_10) rfl (feq (by decide : ¬ ((Int32.ofNat 5) = (1 : Int32)))).2 (by decide) (by decide) k) ?_
    show own_G p e below Q (T.setTop (mkF m 17 #[.val (.int (Int32.ofNat 5))] []))
    refine own_go (fun _ k => XS.iloadN X0.here hx rfl (hb hby dp_17) rfl  k) ?_
    show own_G p e below Q (T.setTop (mkF m 18 #[.val (.int (Int32.ofNat 5))] [(.int (Int32.ofNat 5))]))
    refine own_go (fun _ k => XS.iconst X0.here hx rfl (hb hby dp_18) k) ?_
    show own_G p e below Q (T.setTop (mkF m 19 #[.val (.int (Int32.ofNat 5))] [(.int (2 : Int32)), (.int (Int32.ofNat 5))]))
    refine own_go (fun _ k => XS.icmpYes X0.here hx rfl (pc0 := 19) (pc' := 26) rfl (hb hby dp_19) rfl (feq (by decide : ¬ ((Int32.ofNat 5) = (2 : Int32)))).2 (by decide) (by decide) k) ?_
    show own_G p e below Q (T.setTop (mkF m 26 #[.val (.int (Int32.ofNat 5))] []))
    refine own_go (fun _ k => XS.iloadN X0.here hx rfl (hb hby dp_26) rfl  k) ?_
    show own_G p e below Q (T.setTop (mkF m 27 #[.val (.int (Int32.ofNat 5))] [(.int (Int32.ofNat 5))]))
    refine own_go (fun _ k => XS.iconst X0.here hx rfl (hb hby dp_27) k) ?_
    show own_G p e below Q (T.setTop (mkF m 28 #[.val (.int (Int32.ofNat 5))] [(.int (3 : Int32)), (.int (Int32.ofNat 5))]))
    refine own_go (fun _ k => XS.icmpYes X0.here hx rfl (pc0 := 28) (pc' := 35) rfl (hb hby dp_28) rfl (feq (by decide : ¬ ((Int32.ofNat 5) = (3 : Int32)))).2 (by decide) (by decide) k) ?_
    show own_G p e below Q (T.setTop (mkF m 35 #[.val (.int (Int32.ofNat 5))] []))
    refine own_go (fun _ k => XS.iloadN X0.here hx rfl (hb hby dp_35) rfl  k) ?_
    show own_G p e below Q (T.setTop (mkF m 36 #[.val (.int (Int32.ofNat 5))] [(.int (Int32.ofNat 5))]))
    refine own_go (fun _ k => XS.iconst X0.here hx rfl (hb hby dp_36) k) ?_
    show own_G p e below Q (T.setTop (mkF m 37 #[.val (.int (Int32.ofNat 5))] [(.int (4 : Int32)), (.int (Int32.ofNat 5))]))
    refine own_go (fun _ k => XS.icmpYes X0.here hx rfl (pc0 := 37) (pc' := 44) rfl (hb hby dp_37) rfl (feq (by decide : ¬ ((Int32.ofNat 5) = (4 : Int32)))).2 (by decide) (by decide) k) ?_
    show own_G p e below Q (T.setTop (mkF m 44 #[.val (.int (Int32.ofNat 5))] []))
    refine own_go (fun _ k => XS.iloadN X0.here hx rfl (hb hby dp_44) rfl  k) ?_
    show own_G p e below Q (T.setTop (mkF m 45 #[.val (.int (Int32.ofNat 5))] [(.int (Int32.ofNat 5))]))
    refine own_go (fun _ k => XS.iconst X0.here hx rfl (hb hby dp_45) k) ?_
    show own_G p e below Q (T.setTop (mkF m 46 #[.val (.int (Int32.ofNat 5))] [(.int (5 : Int32)), (.int (Int32.ofNat 5))]))
    refine own_go (fun _ k => XS.icmpNo X0.here hx rfl (hb hby dp_46) rfl (teq (by decide : (Int32.ofNat 5) = (5 : Int32))).2 k) ?_
    show own_G p e below Q (T.setTop (mkF m 49 #[.val (.int (Int32.ofNat 5))] []))
    refine own_getS X0 hx hZ hown (hw _ (List.mem_of_getElem? (i := 34) rfl)) e0 (Sta.ext hO hS.2.2.2.2.2.1) (hb hby dp_49) ?_
    intro T6 X6 e6
    show own_G p e below Q (T6.setTop (mkF m 52 #[.val (.int (Int32.ofNat 5))] [(.ref (ad 5))]))
    exact own_retR X6 hx hlk rfl rfl rfl hret (hb hby dp_52) (fun U hU hF => hR _ _ _ _ _ ⟨rfl, hU.trans e6, rfl⟩ (by decide) (by decide) hF)
  · show own_G p e below Q (T.setTop (mkF m 0 #[.val (.int (Int32.ofNat 6))] []))
    refine own_go (fun _ k => XS.iloadN X0.here hx rfl (hb hby dp_0) rfl  k) ?_
    show own_G p e below Q (T.setTop (mkF m 1 #[.val (.int (Int32.ofNat 6))] [(.int (Int32.ofNat 6))]))
    refine own_go (fun _ k => XS.ifYes X0.here hx rfl (pc0 := 1) (pc' := 8) rfl (hb hby dp_1) rfl ((if0 _ _).trans (feq (by decide : ¬ ((Int32.ofNat 6) = (0 : Int32)))).2) (by decide) (by decide) k) ?_
    show own_G p e below Q (T.setTop (mkF m 8 #[.val (.int (Int32.ofNat 6))] []))
    refine own_go (fun _ k => XS.iloadN X0.here hx rfl (hb hby dp_8) rfl  k) ?_
    show own_G p e below Q (T.setTop (mkF m 9 #[.val (.int (Int32.ofNat 6))] [(.int (Int32.ofNat 6))]))
    refine own_go (fun _ k => XS.iconst X0.here hx rfl (hb hby dp_9) k) ?_
    show own_G p e below Q (T.setTop (mkF m 10 #[.val (.int (Int32.ofNat 6))] [(.int (1 : Int32)), (.int (Int32.ofNat 6))]))
    refine own_go (fun _ k => XS.icmpYes X0.here hx rfl (pc0 := 10) (pc' := 17) rfl (hb hby dp_10) rfl (feq (by decide : ¬ ((Int32.ofNat 6) = (1 : Int32)))).2 (by decide) (by decide) k) ?_
    show own_G p e below Q (T.setTop (mkF m 17 #[.val (.int (Int32.ofNat 6))] []))
    refine own_go (fun _ k => XS.iloadN X0.here hx rfl (hb hby dp_17) rfl  k) ?_
    show own_G p e below Q (T.setTop (mkF m 18 #[.val (.int (Int32.ofNat 6))] [(.int (Int32.ofNat 6))]))
    refine own_go (fun _ k => XS.iconst X0.here hx rfl (hb hby dp_18) k) ?_
    show own_G p e below Q (T.setTop (mkF m 19 #[.val (.int (Int32.ofNat 6))] [(.int (2 : Int32)), (.int (Int32.ofNat 6))]))
    refine own_go (fun _ k => XS.icmpYes X0.here hx rfl (pc0 := 19) (pc' := 26) rfl (hb hby dp_19) rfl (feq (by decide : ¬ ((Int32.ofNat 6) = (2 : Int32)))).2 (by decide) (by decide) k) ?_
    show own_G p e below Q (T.setTop (mkF m 26 #[.val (.int (Int32.ofNat 6))] []))
    refine own_go (fun _ k => XS.iloadN X0.here hx rfl (hb hby dp_26) rfl  k) ?_
    show own_G p e below Q (T.setTop (mkF m 27 #[.val (.int (Int32.ofNat 6))] [(.int (Int32.ofNat 6))]))
    refine own_go (fun _ k => XS.iconst X0.here hx rfl (hb hby dp_27) k) ?_
    show own_G p e below Q (T.setTop (mkF m 28 #[.val (.int (Int32.ofNat 6))] [(.int (3 : Int32)), (.int (Int32.ofNat 6))]))
    refine own_go (fun _ k => XS.icmpYes X0.here hx rfl (pc0 := 28) (pc' := 35) rfl (hb hby dp_28) rfl (feq (by decide : ¬ ((Int32.ofNat 6) = (3 : Int32)))).2 (by decide) (by decide) k) ?_
    show own_G p e below Q (T.setTop (mkF m 35 #[.val (.int (Int32.ofNat 6))] []))
    refine own_go (fun _ k => XS.iloadN X0.here hx rfl (hb hby dp_35) rfl  k) ?_
    show own_G p e below Q (T.setTop (mkF m 36 #[.val (.int (Int32.ofNat 6))] [(.int (Int32.ofNat 6))]))
    refine own_go (fun _ k => XS.iconst X0.here hx rfl (hb hby dp_36) k) ?_
    show own_G p e below Q (T.setTop (mkF m 37 #[.val (.int (Int32.ofNat 6))] [(.int (4 : Int32)), (.int (Int32.ofNat 6))]))
    refine own_go (fun _ k => XS.icmpYes X0.here hx rfl (pc0 := 37) (pc' := 44) rfl (hb hby dp_37) rfl (feq (by decide : ¬ ((Int32.ofNat 6) = (4 : Int32)))).2 (by decide) (by decide) k) ?_
    show own_G p e below Q (T.setTop (mkF m 44 #[.val (.int (Int32.ofNat 6))] []))
    refine own_go (fun _ k => XS.iloadN X0.here hx rfl (hb hby dp_44) rfl  k) ?_
    show own_G p e below Q (T.setTop (mkF m 45 #[.val (.int (Int32.ofNat 6))] [(.int (Int32.ofNat 6))]))
    refine own_go (fun _ k => XS.iconst X0.here hx rfl (hb hby dp_45) k) ?_
    show own_G p e below Q (T.setTop (mkF m 46 #[.val (.int (Int32.ofNat 6))] [(.int (5 : Int32)), (.int (Int32.ofNat 6))]))
    refine own_go (fun _ k => XS.icmpYes X0.here hx rfl (pc0 := 46) (pc' := 53) rfl (hb hby dp_46) rfl (feq (by decide : ¬ ((Int32.ofNat 6) = (5 : Int32)))).2 (by decide) (by decide) k) ?_
    show own_G p e below Q (T.setTop (mkF m 53 #[.val (.int (Int32.ofNat 6))] []))
    refine own_go (fun _ k => XS.iloadN X0.here hx rfl (hb hby dp_53) rfl  k) ?_
    show own_G p e below Q (T.setTop (mkF m 54 #[.val (.int (Int32.ofNat 6))] [(.int (Int32.ofNat 6))]))
    refine own_go (fun _ k => XS.bipush X0.here hx rfl (hb hby dp_54) k) ?_
    show own_G p e below Q (T.setTop (mkF m 56 #[.val (.int (Int32.ofNat 6))] [(.int (6 : Int32)), (.int (Int32.ofNat 6))]))
    refine own_go (fun _ k => XS.icmpNo X0.here hx rfl (hb hby dp_56) rfl (teq (by decide : (Int32.ofNat 6) = (6 : Int32))).2 k) ?_
    show own_G p e below Q (T.setTop (mkF m 59 #[.val (.int (Int32.ofNat 6))] []))
    refine own_getS X0 hx hZ hown (hw _ (List.mem_of_getElem? (i := 26) rfl)) e0 (Sta.ext hO hS.2.2.2.2.2.2.1) (hb hby dp_59) ?_
    intro T7 X7 e7
    show own_G p e below Q (T7.setTop (mkF m 62 #[.val (.int (Int32.ofNat 6))] [(.ref (ad 6))]))
    exact own_retR X7 hx hlk rfl rfl rfl hret (hb hby dp_62) (fun U hU hF => hR _ _ _ _ _ ⟨rfl, hU.trans e7, rfl⟩ (by decide) (by decide) hF)
  · show own_G p e below Q (T.setTop (mkF m 0 #[.val (.int (Int32.ofNat 7))] []))
    refine own_go (fun _ k => XS.iloadN X0.here hx rfl (hb hby dp_0) rfl  k) ?_
    show own_G p e below Q (T.setTop (mkF m 1 #[.val (.int (Int32.ofNat 7))] [(.int (Int32.ofNat 7))]))
    refine own_go (fun _ k => XS.ifYes X0.here hx rfl (pc0 := 1) (pc' := 8) rfl (hb hby dp_1) rfl ((if0 _ _).trans (feq (by decide : ¬ ((Int32.ofNat 7) = (0 : Int32)))).2) (by decide) (by decide) k) ?_
    show own_G p e below Q (T.setTop (mkF m 8 #[.val (.int (Int32.ofNat 7))] []))
    refine own_go (fun _ k => XS.iloadN X0.here hx rfl (hb hby dp_8) rfl  k) ?_
    show own_G p e below Q (T.setTop (mkF m 9 #[.val (.int (Int32.ofNat 7))] [(.int (Int32.ofNat 7))]))
    refine own_go (fun _ k => XS.iconst X0.here hx rfl (hb hby dp_9) k) ?_
    show own_G p e below Q (T.setTop (mkF m 10 #[.val (.int (Int32.ofNat 7))] [(.int (1 : Int32)), (.int (Int32.ofNat 7))]))
    refine own_go (fun _ k => XS.icmpYes X0.here hx rfl (pc0 := 10) (pc' := 17) rfl (hb hby dp_10) rfl (feq (by decide : ¬ ((Int32.ofNat 7) = (1 : Int32)))).2 (by decide) (by decide) k) ?_
    show own_G p e below Q (T.setTop (mkF m 17 #[.val (.int (Int32.ofNat 7))] []))
    refine own_go (fun _ k => XS.iloadN X0.here hx rfl (hb hby dp_17) rfl  k) ?_
    show own_G p e below Q (T.setTop (mkF m 18 #[.val (.int (Int32.ofNat 7))] [(.int (Int32.ofNat 7))]))
    refine own_go (fun _ k => XS.iconst X0.here hx rfl (hb hby dp_18) k) ?_
    show own_G p e below Q (T.setTop (mkF m 19 #[.val (.int (Int32.ofNat 7))] [(.int (2 : Int32)), (.int (Int32.ofNat 7))]))
    refine own_go (fun _ k => XS.icmpYes X0.here hx rfl (pc0 := 19) (pc' := 26) rfl (hb hby dp_19) rfl (feq (by decide : ¬ ((Int32.ofNat 7) = (2 : Int32)))).2 (by decide) (by decide) k) ?_
    show own_G p e below Q (T.setTop (mkF m 26 #[.val (.int (Int32.ofNat 7))] []))
    refine own_go (fun _ k => XS.iloadN X0.here hx rfl (hb hby dp_26) rfl  k) ?_
    show own_G p e below Q (T.setTop (mkF m 27 #[.val (.int (Int32.ofNat 7))] [(.int (Int32.ofNat 7))]))
    refine own_go (fun _ k => XS.iconst X0.here hx rfl (hb hby dp_27) k) ?_
    show own_G p e below Q (T.setTop (mkF m 28 #[.val (.int (Int32.ofNat 7))] [(.int (3 : Int32)), (.int (Int32.ofNat 7))]))
    refine own_go (fun _ k => XS.icmpYes X0.here hx rfl (pc0 := 28) (pc' := 35) rfl (hb hby dp_28) rfl (feq (by decide : ¬ ((Int32.ofNat 7) = (3 : Int32)))).2 (by decide) (by decide) k) ?_
    show own_G p e below Q (T.setTop (mkF m 35 #[.val (.int (Int32.ofNat 7))] []))
    refine own_go (fun _ k => XS.iloadN X0.here hx rfl (hb hby dp_35) rfl  k) ?_
    show own_G p e below Q (T.setTop (mkF m 36 #[.val (.int (Int32.ofNat 7))] [(.int (Int32.ofNat 7))]))
    refine own_go (fun _ k => XS.iconst X0.here hx rfl (hb hby dp_36) k) ?_
    show own_G p e below Q (T.setTop (mkF m 37 #[.val (.int (Int32.ofNat 7))] [(.int (4 : Int32)), (.int (Int32.ofNat 7))]))
    refine own_go (fun _ k => XS.icmpYes X0.here hx rfl (pc0 := 37) (pc' := 44) rfl (hb hby dp_37) rfl (feq (by decide : ¬ ((Int32.ofNat 7) = (4 : Int32)))).2 (by decide) (by decide) k) ?_
    show own_G p e below Q (T.setTop (mkF m 44 #[.val (.int (Int32.ofNat 7))] []))
    refine own_go (fun _ k => XS.iloadN X0.here hx rfl (hb hby dp_44) rfl  k) ?_
    show own_G p e below Q (T.setTop (mkF m 45 #[.val (.int (Int32.ofNat 7))] [(.int (Int32.ofNat 7))]))
    refine own_go (fun _ k => XS.iconst X0.here hx rfl (hb hby dp_45) k) ?_
    show own_G p e below Q (T.setTop (mkF m 46 #[.val (.int (Int32.ofNat 7))] [(.int (5 : Int32)), (.int (Int32.ofNat 7))]))
    refine own_go (fun _ k => XS.icmpYes X0.here hx rfl (pc0 := 46) (pc' := 53) rfl (hb hby dp_46) rfl (feq (by decide : ¬ ((Int32.ofNat 7) = (5 : Int32)))).2 (by decide) (by decide) k) ?_
    show own_G p e below Q (T.setTop (mkF m 53 #[.val (.int (Int32.ofNat 7))] []))
    refine own_go (fun _ k => XS.iloadN X0.here hx rfl (hb hby dp_53) rfl  k) ?_
    show own_G p e below Q (T.setTop (mkF m 54 #[.val (.int (Int32.ofNat 7))] [(.int (Int32.ofNat 7))]))
    refine own_go (fun _ k => XS.bipush X0.here hx rfl (hb hby dp_54) k) ?_
    show own_G p e below Q (T.setTop (mkF m 56 #[.val (.int (Int32.ofNat 7))] [(.int (6 : Int32)), (.int (Int32.ofNat 7))]))
    refine own_go (fun _ k => XS.icmpYes X0.here hx rfl (pc0 := 56) (pc' := 63) rfl (hb hby dp_56) rfl (feq (by decide : ¬ ((Int32.ofNat 7) = (6 : Int32)))).2 (by decide) (by decide) k) ?_
    show own_G p e below Q (T.setTop (mkF m 63 #[.val (.int (Int32.ofNat 7))] []))
    refine own_go (fun _ k => XS.iloadN X0.here hx rfl (hb hby dp_63) rfl  k) ?_
    show own_G p e below Q (T.setTop (mkF m 64 #[.val (.int (Int32.ofNat 7))] [(.int (Int32.ofNat 7))]))
    refine own_go (fun _ k => XS.bipush X0.here hx rfl (hb hby dp_64) k) ?_
    show own_G p e below Q (T.setTop (mkF m 66 #[.val (.int (Int32.ofNat 7))] [(.int (7 : Int32)), (.int (Int32.ofNat 7))]))
    refine own_go (fun _ k => XS.icmpNo X0.here hx rfl (hb hby dp_66) rfl (teq (by decide : (Int32.ofNat 7) = (7 : Int32))).2 k) ?_
    show own_G p e below Q (T.setTop (mkF m 69 #[.val (.int (Int32.ofNat 7))] []))
    refine own_getS X0 hx hZ hown (hw _ (List.mem_of_getElem? (i := 28) rfl)) e0 (Sta.ext hO hS.2.2.2.2.2.2.2.1) (hb hby dp_69) ?_
    intro T8 X8 e8
    show own_G p e below Q (T8.setTop (mkF m 72 #[.val (.int (Int32.ofNat 7))] [(.ref (ad 7))]))
    exact own_retR X8 hx hlk rfl rfl rfl hret (hb hby dp_72) (fun U hU hF => hR _ _ _ _ _ ⟨rfl, hU.trans e8, rfl⟩ (by decide) (by decide) hF)
  · show own_G p e below Q (T.setTop (mkF m 0 #[.val (.int (Int32.ofNat 8))] []))
    refine own_go (fun _ k => XS.iloadN X0.here hx rfl (hb hby dp_0) rfl  k) ?_
    show own_G p e below Q (T.setTop (mkF m 1 #[.val (.int (Int32.ofNat 8))] [(.int (Int32.ofNat 8))]))
    refine own_go (fun _ k => XS.ifYes X0.here hx rfl (pc0 := 1) (pc' := 8) rfl (hb hby dp_1) rfl ((if0 _ _).trans (feq (by decide : ¬ ((Int32.ofNat 8) = (0 : Int32)))).2) (by decide) (by decide) k) ?_
    show own_G p e below Q (T.setTop (mkF m 8 #[.val (.int (Int32.ofNat 8))] []))
    refine own_go (fun _ k => XS.iloadN X0.here hx rfl (hb hby dp_8) rfl  k) ?_
    show own_G p e below Q (T.setTop (mkF m 9 #[.val (.int (Int32.ofNat 8))] [(.int (Int32.ofNat 8))]))
    refine own_go (fun _ k => XS.iconst X0.here hx rfl (hb hby dp_9) k) ?_
    show own_G p e below Q (T.setTop (mkF m 10 #[.val (.int (Int32.ofNat 8))] [(.int (1 : Int32)), (.int (Int32.ofNat 8))]))
    refine own_go (fun _ k => XS.icmpYes X0.here hx rfl (pc0 := 10) (pc' := 17) rfl (hb hby dp_10) rfl (feq (by decide : ¬ ((Int32.ofNat 8) = (1 : Int32)))).2 (by decide) (by decide) k) ?_
    show own_G p e below Q (T.setTop (mkF m 17 #[.val (.int (Int32.ofNat 8))] []))
    refine own_go (fun _ k => XS.iloadN X0.here hx rfl (hb hby dp_17) rfl  k) ?_
    show own_G p e below Q (T.setTop (mkF m 18 #[.val (.int (Int32.ofNat 8))] [(.int (Int32.ofNat 8))]))
    refine own_go (fun _ k => XS.iconst X0.here hx rfl (hb hby dp_18) k) ?_
    show own_G p e below Q (T.setTop (mkF m 19 #[.val (.int (Int32.ofNat 8))] [(.int (2 : Int32)), (.int (Int32.ofNat 8))]))
    refine own_go (fun _ k => XS.icmpYes X0.here hx rfl (pc0 := 19) (pc' := 26) rfl (hb hby dp_19) rfl (feq (by decide : ¬ ((Int32.ofNat 8) = (2 : Int32)))).2 (by decide) (by decide) k) ?_
    show own_G p e below Q (T.setTop (mkF m 26 #[.val (.int (Int32.ofNat 8))] []))
    refine own_go (fun _ k => XS.iloadN X0.here hx rfl (hb hby dp_26) rfl  k) ?_
    show own_G p e below Q (T.setTop (mkF m 27 #[.val (.int (Int32.ofNat 8))] [(.int (Int32.ofNat 8))]))
    refine own_go (fun _ k => XS.iconst X0.here hx rfl (hb hby dp_27) k) ?_
    show own_G p e below Q (T.setTop (mkF m 28 #[.val (.int (Int32.ofNat 8))] [(.int (3 : Int32)), (.int (Int32.ofNat 8))]))
    refine own_go (fun _ k => XS.icmpYes X0.here hx rfl (pc0 := 28) (pc' := 35) rfl (hb hby dp_28) rfl (feq (by decide : ¬ ((Int32.ofNat 8) = (3 : Int32)))).2 (by decide) (by decide) k) ?_
    show own_G p e below Q (T.setTop (mkF m 35 #[.val (.int (Int32.ofNat 8))] []))
    refine own_go (fun _ k => XS.iloadN X0.here hx rfl (hb hby dp_35) rfl  k) ?_
    show own_G p e below Q (T.setTop (mkF m 36 #[.val (.int (Int32.ofNat 8))] [(.int (Int32.ofNat 8))]))
    refine own_go (fun _ k => XS.iconst X0.here hx rfl (hb hby dp_36) k) ?_
    show own_G p e below Q (T.setTop (mkF m 37 #[.val (.int (Int32.ofNat 8))] [(.int (4 : Int32)), (.int (Int32.ofNat 8))]))
    refine own_go (fun _ k => XS.icmpYes X0.here hx rfl (pc0 := 37) (pc' := 44) rfl (hb hby dp_37) rfl (feq (by decide : ¬ ((Int32.ofNat 8) = (4 : Int32)))).2 (by decide) (by decide) k) ?_
    show own_G p e below Q (T.setTop (mkF m 44 #[.val (.int (Int32.ofNat 8))] []))
    refine own_go (fun _ k => XS.iloadN X0.here hx rfl (hb hby dp_44) rfl  k) ?_
    show own_G p e below Q (T.setTop (mkF m 45 #[.val (.int (Int32.ofNat 8))] [(.int (Int32.ofNat 8))]))
    refine own_go (fun _ k => XS.iconst X0.here hx rfl (hb hby dp_45) k) ?_
    show own_G p e below Q (T.setTop (mkF m 46 #[.val (.int (Int32.ofNat 8))] [(.int (5 : Int32)), (.int (Int32.ofNat 8))]))
    refine own_go (fun _ k => XS.icmpYes X0.here hx rfl (pc0 := 46) (pc' := 53) rfl (hb hby dp_46) rfl (feq (by decide : ¬ ((Int32.ofNat 8) = (5 : Int32)))).2 (by decide) (by decide) k) ?_
    show own_G p e below Q (T.setTop (mkF m 53 #[.val (.int (Int32.ofNat 8))] []))
    refine own_go (fun _ k => XS.iloadN X0.here hx rfl (hb hby dp_53) rfl  k) ?_
    show own_G p e below Q (T.setTop (mkF m 54 #[.val (.int (Int32.ofNat 8))] [(.int (Int32.ofNat 8))]))
    refine own_go (fun _ k => XS.bipush X0.here hx rfl (hb hby dp_54) k) ?_
    show own_G p e below Q (T.setTop (mkF m 56 #[.val (.int (Int32.ofNat 8))] [(.int (6 : Int32)), (.int (Int32.ofNat 8))]))
    refine own_go (fun _ k => XS.icmpYes X0.here hx rfl (pc0 := 56) (pc' := 63) rfl (hb hby dp_56) rfl (feq (by decide : ¬ ((Int32.ofNat 8) = (6 : Int32)))).2 (by decide) (by decide) k) ?_
    show own_G p e below Q (T.setTop (mkF m 63 #[.val (.int (Int32.ofNat 8))] []))
    refine own_go (fun _ k => XS.iloadN X0.here hx rfl (hb hby dp_63) rfl  k) ?_
    show own_G p e below Q (T.setTop (mkF m 64 #[.val (.int (Int32.ofNat 8))] [(.int (Int32.ofNat 8))]))
    refine own_go (fun _ k => XS.bipush X0.here hx rfl (hb hby dp_64) k) ?_
    show own_G p e below Q (T.setTop (mkF m 66 #[.val (.int (Int32.ofNat 8))] [(.int (7 : Int32)), (.int (Int32.ofNat 8))]))
    refine own_go (fun _ k => XS.icmpYes X0.here hx rfl (pc0 := 66) (pc' := 73) rfl (hb hby dp_66) rfl (feq (by decide : ¬ ((Int32.ofNat 8) = (7 : Int32)))).2 (by decide) (by decide) k) ?_
    show own_G p e below Q (T.setTop (mkF m 73 #[.val (.int (Int32.ofNat 8))] []))
    refine own_getS X0 hx hZ hown (hw _ (List.mem_of_getElem? (i := 24) rfl)) e0 (Sta.ext hO hS.2.2.2.2.2.2.2.2) (hb hby dp_73) ?_
    intro T9 X9 e9
    show own_G p e below Q (T9.setTop (mkF m 76 #[.val (.int (Int32.ofNat 8))] [(.ref (ad 8))]))
    exact own_retR X9 hx hlk rfl rfl rfl hret (hb hby dp_76) (fun U hU hF => hR _ _ _ _ _ ⟨rfl, hU.trans e9, rfl⟩ (by decide) (by decide) hF)
def own_hi (i : Nat) : Int32 := ([5, 1, 4, 3, 3, 3, 2, 0, 0] : List Int32).getD i 0
set_option maxRecDepth 65536 in
set_option maxHeartbeats 40000000 in
theorem own_high (l : Launch) (Z : State) (a0 : Array Value) (hw : ∀ d ∈ tables_1, d.before a0 Z = true) (h0 : Heap) (i : Nat) (hi : i < 9) :
    own_C l Z (⟨"com/example/broker_access_control/brokeraccesscontrol/wire/ApiServesPinLaw", "highest", "(I)I"⟩ : MethodName) method_4_code 1 (some .int) [] ({ frames := 0, cells := 0, slots := 0, locals := 0 } : Room) #[.int (Int32.ofNat i)] h0 (own_P (.int (own_hi i)) h0) := by
  refine own_body pn_l (fun m => ef_p m _) ?_
  intro p e s m below meth c T Q hx hby hml hown hnm hret hlk hZ e0 X0 hR
  obtain hi' : i = 0 ∨ i = 1 ∨ i = 2 ∨ i = 3 ∨ i = 4 ∨ i = 5 ∨ i = 6 ∨ i = 7 ∨ i = 8 := by omega
  clear hi
  rcases hi' with rfl | rfl | rfl | rfl | rfl | rfl | rfl | rfl | rfl
  · show own_G p e below Q (T.setTop (mkF m 0 #[.val (.int (Int32.ofNat 0))] []))
    refine own_go (fun _ k => XS.iloadN X0.here hx rfl (hb hby dh_0) rfl  k) ?_
    show own_G p e below Q (T.setTop (mkF m 1 #[.val (.int (Int32.ofNat 0))] [(.int (Int32.ofNat 0))]))
    refine own_go (fun _ k => XS.ifNo X0.here hx rfl (hb hby dh_1) rfl ((if0 _ _).trans (teq (by decide : (Int32.ofNat 0) = (0 : Int32))).2) k) ?_
    show own_G p e below Q (T.setTop (mkF m 4 #[.val (.int (Int32.ofNat 0))] []))
    refine own_go (fun _ k => XS.iconst X0.here hx rfl (hb hby dh_4) k) ?_
    show own_G p e below Q (T.setTop (mkF m 5 #[.val (.int (Int32.ofNat 0))] [(.int (5 : Int32))]))
    exact own_retI X0 hx hlk hret (hb hby dh_5) (fun U hU hF => hR _ _ _ _ _ ⟨rfl, hU.trans e0, rfl⟩ (by decide) (by decide) hF)
  · show own_G p e below Q (T.setTop (mkF m 0 #[.val (.int (Int32.ofNat 1))] []))
    refine own_go (fun _ k => XS.iloadN X0.here hx rfl (hb hby dh_0) rfl  k) ?_
    show own_G p e below Q (T.setTop (mkF m 1 #[.val (.int (Int32.ofNat 1))] [(.int (Int32.ofNat 1))]))
    refine own_go (fun _ k => XS.ifYes X0.here hx rfl (pc0 := 1) (pc' := 6) rfl (hb hby dh_1) rfl ((if0 _ _).trans (feq (by decide : ¬ ((Int32.ofNat 1) = (0 : Int32)))).2) (by decide) (by decide) k) ?_
    show own_G p e below Q (T.setTop (mkF m 6 #[.val (.int (Int32.ofNat 1))] []))
    refine own_go (fun _ k => XS.iloadN X0.here hx rfl (hb hby dh_6) rfl  k) ?_
    show own_G p e below Q (T.setTop (mkF m 7 #[.val (.int (Int32.ofNat 1))] [(.int (Int32.ofNat 1))]))
    refine own_go (fun _ k => XS.iconst X0.here hx rfl (hb hby dh_7) k) ?_
    show own_G p e below Q (T.setTop (mkF m 8 #[.val (.int (Int32.ofNat 1))] [(.int (1 : Int32)), (.int (Int32.ofNat 1))]))
    refine own_go (fun _ k => XS.icmpNo X0.here hx rfl (hb hby dh_8) rfl (teq (by decide : (Int32.ofNat 1) = (1 : Int32))).2 k) ?_
    show own_G p e below Q (T.setTop (mkF m 11 #[.val (.int (Int32.ofNat 1))] []))
    refine own_go (fun _ k => XS.iconst X0.here hx rfl (hb hby dh_11) k) ?_
    show own_G p e below Q (T.setTop (mkF m 12 #[.val (.int (Int32.ofNat 1))] [(.int (1 : Int32))]))
    exact own_retI X0 hx hlk hret (hb hby dh_12) (fun U hU hF => hR _ _ _ _ _ ⟨rfl, hU.trans e0, rfl⟩ (by decide) (by decide) hF)
  · show own_G p e below Q (T.setTop (mkF m 0 #[.val (.int (Int32.ofNat 2))] []))
    refine own_go (fun _ k => XS.iloadN X0.here hx rfl (hb hby dh_0) rfl  k) ?_
    show own_G p e below Q (T.setTop (mkF m 1 #[.val (.int (Int32.ofNat 2))] [(.int (Int32.ofNat 2))]))
    refine own_go (fun _ k => XS.ifYes X0.here hx rfl (pc0 := 1) (pc' := 6) rfl (hb hby dh_1) rfl ((if0 _ _).trans (feq (by decide : ¬ ((Int32.ofNat 2) = (0 : Int32)))).2) (by decide) (by decide) k) ?_
    show own_G p e below Q (T.setTop (mkF m 6 #[.val (.int (Int32.ofNat 2))] []))
    refine own_go (fun _ k => XS.iloadN X0.here hx rfl (hb hby dh_6) rfl  k) ?_
    show own_G p e below Q (T.setTop (mkF m 7 #[.val (.int (Int32.ofNat 2))] [(.int (Int32.ofNat 2))]))
    refine own_go (fun _ k => XS.iconst X0.here hx rfl (hb hby dh_7) k) ?_
    show own_G p e below Q (T.setTop (mkF m 8 #[.val (.int (Int32.ofNat 2))] [(.int (1 : Int32)), (.int (Int32.ofNat 2))]))
    refine own_go (fun _ k => XS.icmpYes X0.here hx rfl (pc0 := 8) (pc' := 13) rfl (hb hby dh_8) rfl (feq (by decide : ¬ ((Int32.ofNat 2) = (1 : Int32)))).2 (by decide) (by decide) k) ?_
    show own_G p e below Q (T.setTop (mkF m 13 #[.val (.int (Int32.ofNat 2))] []))
    refine own_go (fun _ k => XS.iloadN X0.here hx rfl (hb hby dh_13) rfl  k) ?_
    show own_G p e below Q (T.setTop (mkF m 14 #[.val (.int (Int32.ofNat 2))] [(.int (Int32.ofNat 2))]))
    refine own_go (fun _ k => XS.iconst X0.here hx rfl (hb hby dh_14) k) ?_
    show own_G p e below Q (T.setTop (mkF m 15 #[.val (.int (Int32.ofNat 2))] [(.int (2 : Int32)), (.int (Int32.ofNat 2))]))
    refine own_go (fun _ k => XS.icmpNo X0.here hx rfl (hb hby dh_15) rfl (teq (by decide : (Int32.ofNat 2) = (2 : Int32))).2 k) ?_
    show own_G p e below Q (T.setTop (mkF m 18 #[.val (.int (Int32.ofNat 2))] []))
    refine own_go (fun _ k => XS.iconst X0.here hx rfl (hb hby dh_18) k) ?_
    show own_G p e below Q (T.setTop (mkF m 19 #[.val (.int (Int32.ofNat 2))] [(.int (4 : Int32))]))
    exact own_retI X0 hx hlk hret (hb hby dh_19) (fun U hU hF => hR _ _ _ _ _ ⟨rfl, hU.trans e0, rfl⟩ (by decide) (by decide) hF)
  · show own_G p e below Q (T.setTop (mkF m 0 #[.val (.int (Int32.ofNat 3))] []))
    refine own_go (fun _ k => XS.iloadN X0.here hx rfl (hb hby dh_0) rfl  k) ?_
    show own_G p e below Q (T.setTop (mkF m 1 #[.val (.int (Int32.ofNat 3))] [(.int (Int32.ofNat 3))]))
    refine own_go (fun _ k => XS.ifYes X0.here hx rfl (pc0 := 1) (pc' := 6) rfl (hb hby dh_1) rfl ((if0 _ _).trans (feq (by decide : ¬ ((Int32.ofNat 3) = (0 : Int32)))).2) (by decide) (by decide) k) ?_
    show own_G p e below Q (T.setTop (mkF m 6 #[.val (.int (Int32.ofNat 3))] []))
    refine own_go (fun _ k => XS.iloadN X0.here hx rfl (hb hby dh_6) rfl  k) ?_
    show own_G p e below Q (T.setTop (mkF m 7 #[.val (.int (Int32.ofNat 3))] [(.int (Int32.ofNat 3))]))
    refine own_go (fun _ k => XS.iconst X0.here hx rfl (hb hby dh_7) k) ?_
    show own_G p e below Q (T.setTop (mkF m 8 #[.val (.int (Int32.ofNat 3))] [(.int (1 : Int32)), (.int (Int32.ofNat 3))]))
    refine own_go (fun _ k => XS.icmpYes X0.here hx rfl (pc0 := 8) (pc' := 13) rfl (hb hby dh_8) rfl (feq (by decide : ¬ ((Int32.ofNat 3) = (1 : Int32)))).2 (by decide) (by decide) k) ?_
    show own_G p e below Q (T.setTop (mkF m 13 #[.val (.int (Int32.ofNat 3))] []))
    refine own_go (fun _ k => XS.iloadN X0.here hx rfl (hb hby dh_13) rfl  k) ?_
    show own_G p e below Q (T.setTop (mkF m 14 #[.val (.int (Int32.ofNat 3))] [(.int (Int32.ofNat 3))]))
    refine own_go (fun _ k => XS.iconst X0.here hx rfl (hb hby dh_14) k) ?_
    show own_G p e below Q (T.setTop (mkF m 15 #[.val (.int (Int32.ofNat 3))] [(.int (2 : Int32)), (.int (Int32.ofNat 3))]))
    refine own_go (fun _ k => XS.icmpYes X0.here hx rfl (pc0 := 15) (pc' := 20) rfl (hb hby dh_15) rfl (feq (by decide : ¬ ((Int32.ofNat 3) = (2 : Int32)))).2 (by decide) (by decide) k) ?_
    show own_G p e below Q (T.setTop (mkF m 20 #[.val (.int (Int32.ofNat 3))] []))
    refine own_go (fun _ k => XS.iloadN X0.here hx rfl (hb hby dh_20) rfl  k) ?_
    show own_G p e below Q (T.setTop (mkF m 21 #[.val (.int (Int32.ofNat 3))] [(.int (Int32.ofNat 3))]))
    refine own_go (fun _ k => XS.iconst X0.here hx rfl (hb hby dh_21) k) ?_
    show own_G p e below Q (T.setTop (mkF m 22 #[.val (.int (Int32.ofNat 3))] [(.int (3 : Int32)), (.int (Int32.ofNat 3))]))
    refine own_go (fun _ k => XS.icmpYes X0.here hx rfl (pc0 := 22) (pc' := 35) rfl (hb hby dh_22) rfl (teq (by decide : (Int32.ofNat 3) = (3 : Int32))).1 (by decide) (by decide) k) ?_
    show own_G p e below Q (T.setTop (mkF m 35 #[.val (.int (Int32.ofNat 3))] []))
    refine own_go (fun _ k => XS.iconst X0.here hx rfl (hb hby dh_35) k) ?_
    show own_G p e below Q (T.setTop (mkF m 36 #[.val (.int (Int32.ofNat 3))] [(.int (3 : Int32))]))
    exact own_retI X0 hx hlk hret (hb hby dh_36) (fun U hU hF => hR _ _ _ _ _ ⟨rfl, hU.trans e0, rfl⟩ (by decide) (by decide) hF)
  · show own_G p e below Q (T.setTop (mkF m 0 #[.val (.int (Int32.ofNat 4))] []))
    refine own_go (fun _ k => XS.iloadN X0.here hx rfl (hb hby dh_0) rfl  k) ?_
    show own_G p e below Q (T.setTop (mkF m 1 #[.val (.int (Int32.ofNat 4))] [(.int (Int32.ofNat 4))]))
    refine own_go (fun _ k => XS.ifYes X0.here hx rfl (pc0 := 1) (pc' := 6) rfl (hb hby dh_1) rfl ((if0 _ _).trans (feq (by decide : ¬ ((Int32.ofNat 4) = (0 : Int32)))).2) (by decide) (by decide) k) ?_
    show own_G p e below Q (T.setTop (mkF m 6 #[.val (.int (Int32.ofNat 4))] []))
    refine own_go (fun _ k => XS.iloadN X0.here hx rfl (hb hby dh_6) rfl  k) ?_
    show own_G p e below Q (T.setTop (mkF m 7 #[.val (.int (Int32.ofNat 4))] [(.int (Int32.ofNat 4))]))
    refine own_go (fun _ k => XS.iconst X0.here hx rfl (hb hby dh_7) k) ?_
    show own_G p e below Q (T.setTop (mkF m 8 #[.val (.int (Int32.ofNat 4))] [(.int (1 : Int32)), (.int (Int32.ofNat 4))]))
    refine own_go (fun _ k => XS.icmpYes X0.here hx rfl (pc0 := 8) (pc' := 13) rfl (hb hby dh_8) rfl (feq (by decide : ¬ ((Int32.ofNat 4) = (1 : Int32)))).2 (by decide) (by decide) k) ?_
    show own_G p e below Q (T.setTop (mkF m 13 #[.val (.int (Int32.ofNat 4))] []))
    refine own_go (fun _ k => XS.iloadN X0.here hx rfl (hb hby dh_13) rfl  k) ?_
    show own_G p e below Q (T.setTop (mkF m 14 #[.val (.int (Int32.ofNat 4))] [(.int (Int32.ofNat 4))]))
    refine own_go (fun _ k => XS.iconst X0.here hx rfl (hb hby dh_14) k) ?_
    show own_G p e below Q (T.setTop (mkF m 15 #[.val (.int (Int32.ofNat 4))] [(.int (2 : Int32)), (.int (Int32.ofNat 4))]))
    refine own_go (fun _ k => XS.icmpYes X0.here hx rfl (pc0 := 15) (pc' := 20) rfl (hb hby dh_15) rfl (feq (by decide : ¬ ((Int32.ofNat 4) = (2 : Int32)))).2 (by decide) (by decide) k) ?_
    show own_G p e below Q (T.setTop (mkF m 20 #[.val (.int (Int32.ofNat 4))] []))
    refine own_go (fun _ k => XS.iloadN X0.here hx rfl (hb hby dh_20) rfl  k) ?_
    show own_G p e below Q (T.setTop (mkF m 21 #[.val (.int (Int32.ofNat 4))] [(.int (Int32.ofNat 4))]))
    refine own_go (fun _ k => XS.iconst X0.here hx rfl (hb hby dh_21) k) ?_
    show own_G p e below Q (T.setTop (mkF m 22 #[.val (.int (Int32.ofNat 4))] [(.int (3 : Int32)), (.int (Int32.ofNat 4))]))
    refine own_go (fun _ k => XS.icmpNo X0.here hx rfl (hb hby dh_22) rfl (feq (by decide : ¬ ((Int32.ofNat 4) = (3 : Int32)))).1 k) ?_
    show own_G p e below Q (T.setTop (mkF m 25 #[.val (.int (Int32.ofNat 4))] []))
    refine own_go (fun _ k => XS.iloadN X0.here hx rfl (hb hby dh_25) rfl  k) ?_
    show own_G p e below Q (T.setTop (mkF m 26 #[.val (.int (Int32.ofNat 4))] [(.int (Int32.ofNat 4))]))
    refine own_go (fun _ k => XS.iconst X0.here hx rfl (hb hby dh_26) k) ?_
    show own_G p e below Q (T.setTop (mkF m 27 #[.val (.int (Int32.ofNat 4))] [(.int (4 : Int32)), (.int (Int32.ofNat 4))]))
    refine own_go (fun _ k => XS.icmpYes X0.here hx rfl (pc0 := 27) (pc' := 35) rfl (hb hby dh_27) rfl (teq (by decide : (Int32.ofNat 4) = (4 : Int32))).1 (by decide) (by decide) k) ?_
    show own_G p e below Q (T.setTop (mkF m 35 #[.val (.int (Int32.ofNat 4))] []))
    refine own_go (fun _ k => XS.iconst X0.here hx rfl (hb hby dh_35) k) ?_
    show own_G p e below Q (T.setTop (mkF m 36 #[.val (.int (Int32.ofNat 4))] [(.int (3 : Int32))]))
    exact own_retI X0 hx hlk hret (hb hby dh_36) (fun U hU hF => hR _ _ _ _ _ ⟨rfl, hU.trans e0, rfl⟩ (by decide) (by decide) hF)
  · show own_G p e below Q (T.setTop (mkF m 0 #[.val (.int (Int32.ofNat 5))] []))
    refine own_go (fun _ k => XS.iloadN X0.here hx rfl (hb hby dh_0) rfl  k) ?_
    show own_G p e below Q (T.setTop (mkF m 1 #[.val (.int (Int32.ofNat 5))] [(.int (Int32.ofNat 5))]))
    refine own_go (fun _ k => XS.ifYes X0.here hx rfl (pc0 := 1) (pc' := 6) rfl (hb hby dh_1) rfl ((if0 _ _).trans (feq (by decide : ¬ ((Int32.ofNat 5) = (0 : Int32)))).2) (by decide) (by decide) k) ?_
    show own_G p e below Q (T.setTop (mkF m 6 #[.val (.int (Int32.ofNat 5))] []))
    refine own_go (fun _ k => XS.iloadN X0.here hx rfl (hb hby dh_6) rfl  k) ?_
    show own_G p e below Q (T.setTop (mkF m 7 #[.val (.int (Int32.ofNat 5))] [(.int (Int32.ofNat 5))]))
    refine own_go (fun _ k => XS.iconst X0.here hx rfl (hb hby dh_7) k) ?_
    show own_G p e below Q (T.setTop (mkF m 8 #[.val (.int (Int32.ofNat 5))] [(.int (1 : Int32)), (.int (Int32.ofNat 5))]))
    refine own_go (fun _ k => XS.icmpYes X0.here hx rfl (pc0 := 8) (pc' := 13) rfl (hb hby dh_8) rfl (feq (by decide : ¬ ((Int32.ofNat 5) = (1 : Int32)))).2 (by decide) (by decide) k) ?_
    show own_G p e below Q (T.setTop (mkF m 13 #[.val (.int (Int32.ofNat 5))] []))
    refine own_go (fun _ k => XS.iloadN X0.here hx rfl (hb hby dh_13) rfl  k) ?_
    show own_G p e below Q (T.setTop (mkF m 14 #[.val (.int (Int32.ofNat 5))] [(.int (Int32.ofNat 5))]))
    refine own_go (fun _ k => XS.iconst X0.here hx rfl (hb hby dh_14) k) ?_
    show own_G p e below Q (T.setTop (mkF m 15 #[.val (.int (Int32.ofNat 5))] [(.int (2 : Int32)), (.int (Int32.ofNat 5))]))
    refine own_go (fun _ k => XS.icmpYes X0.here hx rfl (pc0 := 15) (pc' := 20) rfl (hb hby dh_15) rfl (feq (by decide : ¬ ((Int32.ofNat 5) = (2 : Int32)))).2 (by decide) (by decide) k) ?_
    show own_G p e below Q (T.setTop (mkF m 20 #[.val (.int (Int32.ofNat 5))] []))
    refine own_go (fun _ k => XS.iloadN X0.here hx rfl (hb hby dh_20) rfl  k) ?_
    show own_G p e below Q (T.setTop (mkF m 21 #[.val (.int (Int32.ofNat 5))] [(.int (Int32.ofNat 5))]))
    refine own_go (fun _ k => XS.iconst X0.here hx rfl (hb hby dh_21) k) ?_
    show own_G p e below Q (T.setTop (mkF m 22 #[.val (.int (Int32.ofNat 5))] [(.int (3 : Int32)), (.int (Int32.ofNat 5))]))
    refine own_go (fun _ k => XS.icmpNo X0.here hx rfl (hb hby dh_22) rfl (feq (by decide : ¬ ((Int32.ofNat 5) = (3 : Int32)))).1 k) ?_
    show own_G p e below Q (T.setTop (mkF m 25 #[.val (.int (Int32.ofNat 5))] []))
    refine own_go (fun _ k => XS.iloadN X0.here hx rfl (hb hby dh_25) rfl  k) ?_
    show own_G p e below Q (T.setTop (mkF m 26 #[.val (.int (Int32.ofNat 5))] [(.int (Int32.ofNat 5))]))
    refine own_go (fun _ k => XS.iconst X0.here hx rfl (hb hby dh_26) k) ?_
    show own_G p e below Q (T.setTop (mkF m 27 #[.val (.int (Int32.ofNat 5))] [(.int (4 : Int32)), (.int (Int32.ofNat 5))]))
    refine own_go (fun _ k => XS.icmpNo X0.here hx rfl (hb hby dh_27) rfl (feq (by decide : ¬ ((Int32.ofNat 5) = (4 : Int32)))).1 k) ?_
    show own_G p e below Q (T.setTop (mkF m 30 #[.val (.int (Int32.ofNat 5))] []))
    refine own_go (fun _ k => XS.iloadN X0.here hx rfl (hb hby dh_30) rfl  k) ?_
    show own_G p e below Q (T.setTop (mkF m 31 #[.val (.int (Int32.ofNat 5))] [(.int (Int32.ofNat 5))]))
    refine own_go (fun _ k => XS.iconst X0.here hx rfl (hb hby dh_31) k) ?_
    show own_G p e below Q (T.setTop (mkF m 32 #[.val (.int (Int32.ofNat 5))] [(.int (5 : Int32)), (.int (Int32.ofNat 5))]))
    refine own_go (fun _ k => XS.icmpNo X0.here hx rfl (hb hby dh_32) rfl (teq (by decide : (Int32.ofNat 5) = (5 : Int32))).2 k) ?_
    show own_G p e below Q (T.setTop (mkF m 35 #[.val (.int (Int32.ofNat 5))] []))
    refine own_go (fun _ k => XS.iconst X0.here hx rfl (hb hby dh_35) k) ?_
    show own_G p e below Q (T.setTop (mkF m 36 #[.val (.int (Int32.ofNat 5))] [(.int (3 : Int32))]))
    exact own_retI X0 hx hlk hret (hb hby dh_36) (fun U hU hF => hR _ _ _ _ _ ⟨rfl, hU.trans e0, rfl⟩ (by decide) (by decide) hF)
  · show own_G p e below Q (T.setTop (mkF m 0 #[.val (.int (Int32.ofNat 6))] []))
    refine own_go (fun _ k => XS.iloadN X0.here hx rfl (hb hby dh_0) rfl  k) ?_
    show own_G p e below Q (T.setTop (mkF m 1 #[.val (.int (Int32.ofNat 6))] [(.int (Int32.ofNat 6))]))
    refine own_go (fun _ k => XS.ifYes X0.here hx rfl (pc0 := 1) (pc' := 6) rfl (hb hby dh_1) rfl ((if0 _ _).trans (feq (by decide : ¬ ((Int32.ofNat 6) = (0 : Int32)))).2) (by decide) (by decide) k) ?_
    show own_G p e below Q (T.setTop (mkF m 6 #[.val (.int (Int32.ofNat 6))] []))
    refine own_go (fun _ k => XS.iloadN X0.here hx rfl (hb hby dh_6) rfl  k) ?_
    show own_G p e below Q (T.setTop (mkF m 7 #[.val (.int (Int32.ofNat 6))] [(.int (Int32.ofNat 6))]))
    refine own_go (fun _ k => XS.iconst X0.here hx rfl (hb hby dh_7) k) ?_
    show own_G p e below Q (T.setTop (mkF m 8 #[.val (.int (Int32.ofNat 6))] [(.int (1 : Int32)), (.int (Int32.ofNat 6))]))
    refine own_go (fun _ k => XS.icmpYes X0.here hx rfl (pc0 := 8) (pc' := 13) rfl (hb hby dh_8) rfl (feq (by decide : ¬ ((Int32.ofNat 6) = (1 : Int32)))).2 (by decide) (by decide) k) ?_
    show own_G p e below Q (T.setTop (mkF m 13 #[.val (.int (Int32.ofNat 6))] []))
    refine own_go (fun _ k => XS.iloadN X0.here hx rfl (hb hby dh_13) rfl  k) ?_
    show own_G p e below Q (T.setTop (mkF m 14 #[.val (.int (Int32.ofNat 6))] [(.int (Int32.ofNat 6))]))
    refine own_go (fun _ k => XS.iconst X0.here hx rfl (hb hby dh_14) k) ?_
    show own_G p e below Q (T.setTop (mkF m 15 #[.val (.int (Int32.ofNat 6))] [(.int (2 : Int32)), (.int (Int32.ofNat 6))]))
    refine own_go (fun _ k => XS.icmpYes X0.here hx rfl (pc0 := 15) (pc' := 20) rfl (hb hby dh_15) rfl (feq (by decide : ¬ ((Int32.ofNat 6) = (2 : Int32)))).2 (by decide) (by decide) k) ?_
    show own_G p e below Q (T.setTop (mkF m 20 #[.val (.int (Int32.ofNat 6))] []))
    refine own_go (fun _ k => XS.iloadN X0.here hx rfl (hb hby dh_20) rfl  k) ?_
    show own_G p e below Q (T.setTop (mkF m 21 #[.val (.int (Int32.ofNat 6))] [(.int (Int32.ofNat 6))]))
    refine own_go (fun _ k => XS.iconst X0.here hx rfl (hb hby dh_21) k) ?_
    show own_G p e below Q (T.setTop (mkF m 22 #[.val (.int (Int32.ofNat 6))] [(.int (3 : Int32)), (.int (Int32.ofNat 6))]))
    refine own_go (fun _ k => XS.icmpNo X0.here hx rfl (hb hby dh_22) rfl (feq (by decide : ¬ ((Int32.ofNat 6) = (3 : Int32)))).1 k) ?_
    show own_G p e below Q (T.setTop (mkF m 25 #[.val (.int (Int32.ofNat 6))] []))
    refine own_go (fun _ k => XS.iloadN X0.here hx rfl (hb hby dh_25) rfl  k) ?_
    show own_G p e below Q (T.setTop (mkF m 26 #[.val (.int (Int32.ofNat 6))] [(.int (Int32.ofNat 6))]))
    refine own_go (fun _ k => XS.iconst X0.here hx rfl (hb hby dh_26) k) ?_
    show own_G p e below Q (T.setTop (mkF m 27 #[.val (.int (Int32.ofNat 6))] [(.int (4 : Int32)), (.int (Int32.ofNat 6))]))
    refine own_go (fun _ k => XS.icmpNo X0.here hx rfl (hb hby dh_27) rfl (feq (by decide : ¬ ((Int32.ofNat 6) = (4 : Int32)))).1 k) ?_
    show own_G p e below Q (T.setTop (mkF m 30 #[.val (.int (Int32.ofNat 6))] []))
    refine own_go (fun _ k => XS.iloadN X0.here hx rfl (hb hby dh_30) rfl  k) ?_
    show own_G p e below Q (T.setTop (mkF m 31 #[.val (.int (Int32.ofNat 6))] [(.int (Int32.ofNat 6))]))
    refine own_go (fun _ k => XS.iconst X0.here hx rfl (hb hby dh_31) k) ?_
    show own_G p e below Q (T.setTop (mkF m 32 #[.val (.int (Int32.ofNat 6))] [(.int (5 : Int32)), (.int (Int32.ofNat 6))]))
    refine own_go (fun _ k => XS.icmpYes X0.here hx rfl (pc0 := 32) (pc' := 37) rfl (hb hby dh_32) rfl (feq (by decide : ¬ ((Int32.ofNat 6) = (5 : Int32)))).2 (by decide) (by decide) k) ?_
    show own_G p e below Q (T.setTop (mkF m 37 #[.val (.int (Int32.ofNat 6))] []))
    refine own_go (fun _ k => XS.iloadN X0.here hx rfl (hb hby dh_37) rfl  k) ?_
    show own_G p e below Q (T.setTop (mkF m 38 #[.val (.int (Int32.ofNat 6))] [(.int (Int32.ofNat 6))]))
    refine own_go (fun _ k => XS.bipush X0.here hx rfl (hb hby dh_38) k) ?_
    show own_G p e below Q (T.setTop (mkF m 40 #[.val (.int (Int32.ofNat 6))] [(.int (6 : Int32)), (.int (Int32.ofNat 6))]))
    refine own_go (fun _ k => XS.icmpNo X0.here hx rfl (hb hby dh_40) rfl (teq (by decide : (Int32.ofNat 6) = (6 : Int32))).2 k) ?_
    show own_G p e below Q (T.setTop (mkF m 43 #[.val (.int (Int32.ofNat 6))] []))
    refine own_go (fun _ k => XS.iconst X0.here hx rfl (hb hby dh_43) k) ?_
    show own_G p e below Q (T.setTop (mkF m 44 #[.val (.int (Int32.ofNat 6))] [(.int (2 : Int32))]))
    exact own_retI X0 hx hlk hret (hb hby dh_44) (fun U hU hF => hR _ _ _ _ _ ⟨rfl, hU.trans e0, rfl⟩ (by decide) (by decide) hF)
  · show own_G p e below Q (T.setTop (mkF m 0 #[.val (.int (Int32.ofNat 7))] []))
    refine own_go (fun _ k => XS.iloadN X0.here hx rfl (hb hby dh_0) rfl  k) ?_
    show own_G p e below Q (T.setTop (mkF m 1 #[.val (.int (Int32.ofNat 7))] [(.int (Int32.ofNat 7))]))
    refine own_go (fun _ k => XS.ifYes X0.here hx rfl (pc0 := 1) (pc' := 6) rfl (hb hby dh_1) rfl ((if0 _ _).trans (feq (by decide : ¬ ((Int32.ofNat 7) = (0 : Int32)))).2) (by decide) (by decide) k) ?_
    show own_G p e below Q (T.setTop (mkF m 6 #[.val (.int (Int32.ofNat 7))] []))
    refine own_go (fun _ k => XS.iloadN X0.here hx rfl (hb hby dh_6) rfl  k) ?_
    show own_G p e below Q (T.setTop (mkF m 7 #[.val (.int (Int32.ofNat 7))] [(.int (Int32.ofNat 7))]))
    refine own_go (fun _ k => XS.iconst X0.here hx rfl (hb hby dh_7) k) ?_
    show own_G p e below Q (T.setTop (mkF m 8 #[.val (.int (Int32.ofNat 7))] [(.int (1 : Int32)), (.int (Int32.ofNat 7))]))
    refine own_go (fun _ k => XS.icmpYes X0.here hx rfl (pc0 := 8) (pc' := 13) rfl (hb hby dh_8) rfl (feq (by decide : ¬ ((Int32.ofNat 7) = (1 : Int32)))).2 (by decide) (by decide) k) ?_
    show own_G p e below Q (T.setTop (mkF m 13 #[.val (.int (Int32.ofNat 7))] []))
    refine own_go (fun _ k => XS.iloadN X0.here hx rfl (hb hby dh_13) rfl  k) ?_
    show own_G p e below Q (T.setTop (mkF m 14 #[.val (.int (Int32.ofNat 7))] [(.int (Int32.ofNat 7))]))
    refine own_go (fun _ k => XS.iconst X0.here hx rfl (hb hby dh_14) k) ?_
    show own_G p e below Q (T.setTop (mkF m 15 #[.val (.int (Int32.ofNat 7))] [(.int (2 : Int32)), (.int (Int32.ofNat 7))]))
    refine own_go (fun _ k => XS.icmpYes X0.here hx rfl (pc0 := 15) (pc' := 20) rfl (hb hby dh_15) rfl (feq (by decide : ¬ ((Int32.ofNat 7) = (2 : Int32)))).2 (by decide) (by decide) k) ?_
    show own_G p e below Q (T.setTop (mkF m 20 #[.val (.int (Int32.ofNat 7))] []))
    refine own_go (fun _ k => XS.iloadN X0.here hx rfl (hb hby dh_20) rfl  k) ?_
    show own_G p e below Q (T.setTop (mkF m 21 #[.val (.int (Int32.ofNat 7))] [(.int (Int32.ofNat 7))]))
    refine own_go (fun _ k => XS.iconst X0.here hx rfl (hb hby dh_21) k) ?_
    show own_G p e below Q (T.setTop (mkF m 22 #[.val (.int (Int32.ofNat 7))] [(.int (3 : Int32)), (.int (Int32.ofNat 7))]))
    refine own_go (fun _ k => XS.icmpNo X0.here hx rfl (hb hby dh_22) rfl (feq (by decide : ¬ ((Int32.ofNat 7) = (3 : Int32)))).1 k) ?_
    show own_G p e below Q (T.setTop (mkF m 25 #[.val (.int (Int32.ofNat 7))] []))
    refine own_go (fun _ k => XS.iloadN X0.here hx rfl (hb hby dh_25) rfl  k) ?_
    show own_G p e below Q (T.setTop (mkF m 26 #[.val (.int (Int32.ofNat 7))] [(.int (Int32.ofNat 7))]))
    refine own_go (fun _ k => XS.iconst X0.here hx rfl (hb hby dh_26) k) ?_
    show own_G p e below Q (T.setTop (mkF m 27 #[.val (.int (Int32.ofNat 7))] [(.int (4 : Int32)), (.int (Int32.ofNat 7))]))
    refine own_go (fun _ k => XS.icmpNo X0.here hx rfl (hb hby dh_27) rfl (feq (by decide : ¬ ((Int32.ofNat 7) = (4 : Int32)))).1 k) ?_
    show own_G p e below Q (T.setTop (mkF m 30 #[.val (.int (Int32.ofNat 7))] []))
    refine own_go (fun _ k => XS.iloadN X0.here hx rfl (hb hby dh_30) rfl  k) ?_
    show own_G p e below Q (T.setTop (mkF m 31 #[.val (.int (Int32.ofNat 7))] [(.int (Int32.ofNat 7))]))
    refine own_go (fun _ k => XS.iconst X0.here hx rfl (hb hby dh_31) k) ?_
    show own_G p e below Q (T.setTop (mkF m 32 #[.val (.int (Int32.ofNat 7))] [(.int (5 : Int32)), (.int (Int32.ofNat 7))]))
    refine own_go (fun _ k => XS.icmpYes X0.here hx rfl (pc0 := 32) (pc' := 37) rfl (hb hby dh_32) rfl (feq (by decide : ¬ ((Int32.ofNat 7) = (5 : Int32)))).2 (by decide) (by decide) k) ?_
    show own_G p e below Q (T.setTop (mkF m 37 #[.val (.int (Int32.ofNat 7))] []))
    refine own_go (fun _ k => XS.iloadN X0.here hx rfl (hb hby dh_37) rfl  k) ?_
    show own_G p e below Q (T.setTop (mkF m 38 #[.val (.int (Int32.ofNat 7))] [(.int (Int32.ofNat 7))]))
    refine own_go (fun _ k => XS.bipush X0.here hx rfl (hb hby dh_38) k) ?_
    show own_G p e below Q (T.setTop (mkF m 40 #[.val (.int (Int32.ofNat 7))] [(.int (6 : Int32)), (.int (Int32.ofNat 7))]))
    refine own_go (fun _ k => XS.icmpYes X0.here hx rfl (pc0 := 40) (pc' := 45) rfl (hb hby dh_40) rfl (feq (by decide : ¬ ((Int32.ofNat 7) = (6 : Int32)))).2 (by decide) (by decide) k) ?_
    show own_G p e below Q (T.setTop (mkF m 45 #[.val (.int (Int32.ofNat 7))] []))
    refine own_go (fun _ k => XS.iconst X0.here hx rfl (hb hby dh_45) k) ?_
    show own_G p e below Q (T.setTop (mkF m 46 #[.val (.int (Int32.ofNat 7))] [(.int (0 : Int32))]))
    exact own_retI X0 hx hlk hret (hb hby dh_46) (fun U hU hF => hR _ _ _ _ _ ⟨rfl, hU.trans e0, rfl⟩ (by decide) (by decide) hF)
  · show own_G p e below Q (T.setTop (mkF m 0 #[.val (.int (Int32.ofNat 8))] []))
    refine own_go (fun _ k => XS.iloadN X0.here hx rfl (hb hby dh_0) rfl  k) ?_
    show own_G p e below Q (T.setTop (mkF m 1 #[.val (.int (Int32.ofNat 8))] [(.int (Int32.ofNat 8))]))
    refine own_go (fun _ k => XS.ifYes X0.here hx rfl (pc0 := 1) (pc' := 6) rfl (hb hby dh_1) rfl ((if0 _ _).trans (feq (by decide : ¬ ((Int32.ofNat 8) = (0 : Int32)))).2) (by decide) (by decide) k) ?_
    show own_G p e below Q (T.setTop (mkF m 6 #[.val (.int (Int32.ofNat 8))] []))
    refine own_go (fun _ k => XS.iloadN X0.here hx rfl (hb hby dh_6) rfl  k) ?_
    show own_G p e below Q (T.setTop (mkF m 7 #[.val (.int (Int32.ofNat 8))] [(.int (Int32.ofNat 8))]))
    refine own_go (fun _ k => XS.iconst X0.here hx rfl (hb hby dh_7) k) ?_
    show own_G p e below Q (T.setTop (mkF m 8 #[.val (.int (Int32.ofNat 8))] [(.int (1 : Int32)), (.int (Int32.ofNat 8))]))
    refine own_go (fun _ k => XS.icmpYes X0.here hx rfl (pc0 := 8) (pc' := 13) rfl (hb hby dh_8) rfl (feq (by decide : ¬ ((Int32.ofNat 8) = (1 : Int32)))).2 (by decide) (by decide) k) ?_
    show own_G p e below Q (T.setTop (mkF m 13 #[.val (.int (Int32.ofNat 8))] []))
    refine own_go (fun _ k => XS.iloadN X0.here hx rfl (hb hby dh_13) rfl  k) ?_
    show own_G p e below Q (T.setTop (mkF m 14 #[.val (.int (Int32.ofNat 8))] [(.int (Int32.ofNat 8))]))
    refine own_go (fun _ k => XS.iconst X0.here hx rfl (hb hby dh_14) k) ?_
    show own_G p e below Q (T.setTop (mkF m 15 #[.val (.int (Int32.ofNat 8))] [(.int (2 : Int32)), (.int (Int32.ofNat 8))]))
    refine own_go (fun _ k => XS.icmpYes X0.here hx rfl (pc0 := 15) (pc' := 20) rfl (hb hby dh_15) rfl (feq (by decide : ¬ ((Int32.ofNat 8) = (2 : Int32)))).2 (by decide) (by decide) k) ?_
    show own_G p e below Q (T.setTop (mkF m 20 #[.val (.int (Int32.ofNat 8))] []))
    refine own_go (fun _ k => XS.iloadN X0.here hx rfl (hb hby dh_20) rfl  k) ?_
    show own_G p e below Q (T.setTop (mkF m 21 #[.val (.int (Int32.ofNat 8))] [(.int (Int32.ofNat 8))]))
    refine own_go (fun _ k => XS.iconst X0.here hx rfl (hb hby dh_21) k) ?_
    show own_G p e below Q (T.setTop (mkF m 22 #[.val (.int (Int32.ofNat 8))] [(.int (3 : Int32)), (.int (Int32.ofNat 8))]))
    refine own_go (fun _ k => XS.icmpNo X0.here hx rfl (hb hby dh_22) rfl (feq (by decide : ¬ ((Int32.ofNat 8) = (3 : Int32)))).1 k) ?_
    show own_G p e below Q (T.setTop (mkF m 25 #[.val (.int (Int32.ofNat 8))] []))
    refine own_go (fun _ k => XS.iloadN X0.here hx rfl (hb hby dh_25) rfl  k) ?_
    show own_G p e below Q (T.setTop (mkF m 26 #[.val (.int (Int32.ofNat 8))] [(.int (Int32.ofNat 8))]))
    refine own_go (fun _ k => XS.iconst X0.here hx rfl (hb hby dh_26) k) ?_
    show own_G p e below Q (T.setTop (mkF m 27 #[.val (.int (Int32.ofNat 8))] [(.int (4 : Int32)), (.int (Int32.ofNat 8))]))
    refine own_go (fun _ k => XS.icmpNo X0.here hx rfl (hb hby dh_27) rfl (feq (by decide : ¬ ((Int32.ofNat 8) = (4 : Int32)))).1 k) ?_
    show own_G p e below Q (T.setTop (mkF m 30 #[.val (.int (Int32.ofNat 8))] []))
    refine own_go (fun _ k => XS.iloadN X0.here hx rfl (hb hby dh_30) rfl  k) ?_
    show own_G p e below Q (T.setTop (mkF m 31 #[.val (.int (Int32.ofNat 8))] [(.int (Int32.ofNat 8))]))
    refine own_go (fun _ k => XS.iconst X0.here hx rfl (hb hby dh_31) k) ?_
    show own_G p e below Q (T.setTop (mkF m 32 #[.val (.int (Int32.ofNat 8))] [(.int (5 : Int32)), (.int (Int32.ofNat 8))]))
    refine own_go (fun _ k => XS.icmpYes X0.here hx rfl (pc0 := 32) (pc' := 37) rfl (hb hby dh_32) rfl (feq (by decide : ¬ ((Int32.ofNat 8) = (5 : Int32)))).2 (by decide) (by decide) k) ?_
    show own_G p e below Q (T.setTop (mkF m 37 #[.val (.int (Int32.ofNat 8))] []))
    refine own_go (fun _ k => XS.iloadN X0.here hx rfl (hb hby dh_37) rfl  k) ?_
    show own_G p e below Q (T.setTop (mkF m 38 #[.val (.int (Int32.ofNat 8))] [(.int (Int32.ofNat 8))]))
    refine own_go (fun _ k => XS.bipush X0.here hx rfl (hb hby dh_38) k) ?_
    show own_G p e below Q (T.setTop (mkF m 40 #[.val (.int (Int32.ofNat 8))] [(.int (6 : Int32)), (.int (Int32.ofNat 8))]))
    refine own_go (fun _ k => XS.icmpYes X0.here hx rfl (pc0 := 40) (pc' := 45) rfl (hb hby dh_40) rfl (feq (by decide : ¬ ((Int32.ofNat 8) = (6 : Int32)))).2 (by decide) (by decide) k) ?_
    show own_G p e below Q (T.setTop (mkF m 45 #[.val (.int (Int32.ofNat 8))] []))
    refine own_go (fun _ k => XS.iconst X0.here hx rfl (hb hby dh_45) k) ?_
    show own_G p e below Q (T.setTop (mkF m 46 #[.val (.int (Int32.ofNat 8))] [(.int (0 : Int32))]))
    exact own_retI X0 hx hlk hret (hb hby dh_46) (fun U hU hF => hR _ _ _ _ _ ⟨rfl, hU.trans e0, rfl⟩ (by decide) (by decide) hF)
set_option maxRecDepth 65536 in
set_option maxHeartbeats 40000000 in
theorem own_srv (l : Launch) (Z : State) (a0 : Array Value) (hw : ∀ d ∈ tables_1, d.before a0 Z = true) (h0 : Heap) (wa : Addr) (vv lo hh : Int32) (F1 : Fld Z h0 wa "com/example/broker_access_control/brokeraccesscontrol/wire/Api" "lowest" "S" (.int lo)) (F2 : Fld Z h0 wa "com/example/broker_access_control/brokeraccesscontrol/wire/Api" "highest" "S" (.int hh)) :
    own_C l Z (⟨"com/example/broker_access_control/brokeraccesscontrol/wire/Api", "serves", "(I)Z"⟩ : MethodName) prog_70_method_10_code 2 (some .boolean) [] ({ frames := 0, cells := 0, slots := 0, locals := 0 } : Room) #[.ref wa, .int vv] h0 (own_P (.int (if vv < lo then (0 : Int32) else if hh < vv then 0 else 1)) h0) := by
  refine own_body pn_c (fun m => ef_s m _ _) ?_
  intro p e s m below meth c T Q hx hby hml hown hnm hret hlk hZ e0 X0 hR
  refine own_go (fun _ k => XS.iloadN X0.here hx rfl (hb hby ds_0) rfl  k) ?_
  show own_G p e below Q (T.setTop (mkF m 1 #[.val (.ref wa), .val (.int vv)] [(.int vv)]))
  refine own_go (fun _ k => XS.aloadN X0.here hx rfl (hb hby ds_1) rfl rfl  k) ?_
  show own_G p e below Q (T.setTop (mkF m 2 #[.val (.ref wa), .val (.int vv)] [(.ref wa), (.int vv)]))
  refine own_getF X0 hx hZ hown (hw _ (List.mem_of_getElem? (i := 16) rfl)) e0 F1 (hb hby ds_2) ?_
  intro T10 X10 e10
  show own_G p e below Q (T10.setTop (mkF m 5 #[.val (.ref wa), .val (.int vv)] [(.int lo), (.int vv)]))
  by_cases h1 : vv < lo
  · refine own_go (fun _ k => XS.icmpYes X10.here hx rfl (pc0 := 5) (pc' := 20) rfl (hb hby ds_5) rfl (tlt h1).1 (by decide) (by decide) k) ?_
    show own_G p e below Q (T10.setTop (mkF m 20 #[.val (.ref wa), .val (.int vv)] []))
    refine own_go (fun _ k => XS.iconst X10.here hx rfl (hb hby ds_20) k) ?_
    show own_G p e below Q (T10.setTop (mkF m 21 #[.val (.ref wa), .val (.int vv)] [(.int (0 : Int32))]))
    exact own_retN X10 hx hlk (Or.inl rfl) hret (hb hby ds_21) (by rw [if_pos h1]; rfl) (fun U hU hF => hR _ _ _ _ _ ⟨rfl, hU.trans e10, rfl⟩ (by decide) (by decide) hF)
  · refine own_go (fun _ k => XS.icmpNo X10.here hx rfl (hb hby ds_5) rfl (flt h1).1 k) ?_
    show own_G p e below Q (T10.setTop (mkF m 8 #[.val (.ref wa), .val (.int vv)] []))
    refine own_go (fun _ k => XS.iloadN X10.here hx rfl (hb hby ds_8) rfl  k) ?_
    show own_G p e below Q (T10.setTop (mkF m 9 #[.val (.ref wa), .val (.int vv)] [(.int vv)]))
    refine own_go (fun _ k => XS.aloadN X10.here hx rfl (hb hby ds_9) rfl rfl  k) ?_
    show own_G p e below Q (T10.setTop (mkF m 10 #[.val (.ref wa), .val (.int vv)] [(.ref wa), (.int vv)]))
    refine own_getF X10 hx hZ hown (hw _ (List.mem_of_getElem? (i := 18) rfl)) e10 F2 (hb hby ds_10) ?_
    intro T11 X11 e11
    show own_G p e below Q (T11.setTop (mkF m 13 #[.val (.ref wa), .val (.int vv)] [(.int hh), (.int vv)]))
    by_cases h2 : hh < vv
    · refine own_go (fun _ k => XS.icmpYes X11.here hx rfl (pc0 := 13) (pc' := 20) rfl (hb hby ds_13) rfl (tlt h2).2.2.1 (by decide) (by decide) k) ?_
      show own_G p e below Q (T11.setTop (mkF m 20 #[.val (.ref wa), .val (.int vv)] []))
      refine own_go (fun _ k => XS.iconst X11.here hx rfl (hb hby ds_20) k) ?_
      show own_G p e below Q (T11.setTop (mkF m 21 #[.val (.ref wa), .val (.int vv)] [(.int (0 : Int32))]))
      exact own_retN X11 hx hlk (Or.inl rfl) hret (hb hby ds_21) (by rw [if_neg h1, if_pos h2]; rfl) (fun U hU hF => hR _ _ _ _ _ ⟨rfl, hU.trans e11, rfl⟩ (by decide) (by decide) hF)
    · refine own_go (fun _ k => XS.icmpNo X11.here hx rfl (hb hby ds_13) rfl (flt h2).2.2.1 k) ?_
      show own_G p e below Q (T11.setTop (mkF m 16 #[.val (.ref wa), .val (.int vv)] []))
      refine own_go (fun _ k => XS.iconst X11.here hx rfl (hb hby ds_16) k) ?_
      show own_G p e below Q (T11.setTop (mkF m 17 #[.val (.ref wa), .val (.int vv)] [(.int (1 : Int32))]))
      refine own_go (fun _ k => XS.goto X11.here hx rfl (pc0 := 17) (pc' := 21) rfl (hb hby ds_17) (by decide) (by decide) k) ?_
      show own_G p e below Q (T11.setTop (mkF m 21 #[.val (.ref wa), .val (.int vv)] [(.int (1 : Int32))]))
      exact own_retN X11 hx hlk (Or.inl rfl) hret (hb hby ds_21) (by rw [if_neg h1, if_neg h2]; rfl) (fun U hU hF => hR _ _ _ _ _ ⟨rfl, hU.trans e11, rfl⟩ (by decide) (by decide) hF)
set_option maxRecDepth 65536 in
set_option maxHeartbeats 40000000 in
theorem rm0 (l : Launch) (Z : State) (a0 : Array Value) (hw : ∀ d ∈ tables_1, d.before a0 Z = true) (ad : Nat → Addr) (hS : own_St Z ad) (hE : ∀ i, i < 9 → Exa Z Z.heap (ad i) "com/example/broker_access_control/brokeraccesscontrol/wire/Api") (hL : ∀ i, i < 9 → Fld Z Z.heap (ad i) "com/example/broker_access_control/brokeraccesscontrol/wire/Api" "lowest" "S" (.int (0 : Int32))) (hH : ∀ i, i < 9 → Fld Z Z.heap (ad i) "com/example/broker_access_control/brokeraccesscontrol/wire/Api" "highest" "S" (.int (own_hi i))) (p1 p2 p3 : Int32) :
    own_C l Z x code maxLocals ret tables_1 room_1 #[.int p1, .int p2, .int p3] Z.heap (fun v h L => v = some (.int 1) ∧ Fr Z.heap.size L) := by
  refine own_body pn_l (fun m => ef_0 m _ _ _) ?_
  intro p e s m below meth c T Q hx hby hml hown hnm hret hlk hZ e0 X0 hR
  have hO : Ext Z.heap Z.heap := ⟨Nat.le_refl _, fun _ _ q => q⟩
  have N0 := Fr.nil Z.heap.size
  obtain ⟨i, hi, hr⟩ := own_mod p1 9 (by decide) (by decide) (9 : Int32) (by decide)
  show own_G p e below Q (T.setTop (mkF m 0 #[.val (.int p1), .val (.int p2), .val (.int p3), .unset, .unset, .unset, .unset, .unset] []))
  refine own_go (fun _ k => XS.iloadN X0.here hx rfl (hb hby at_0) rfl  k) ?_
  show own_G p e below Q (T.setTop (mkF m 1 #[.val (.int p1), .val (.int p2), .val (.int p3), .unset, .unset, .unset, .unset, .unset] [(.int p1)]))
  refine own_go (fun _ k => X0.ldcI hx hown (mvT hZ (hw _ (List.mem_of_getElem? (i := 0) rfl))) rfl (hb hby at_1) k) ?_
  show own_G p e below Q (T.setTop (mkF m 3 #[.val (.int p1), .val (.int p2), .val (.int p3), .unset, .unset, .unset, .unset, .unset] [(.int (2147483647 : Int32)), (.int p1)]))
  refine own_go (fun _ k => XS.iand X0.here hx rfl (hb hby at_3) rfl k) ?_
  show own_G p e below Q (T.setTop (mkF m 4 #[.val (.int p1), .val (.int p2), .val (.int p3), .unset, .unset, .unset, .unset, .unset] [(.int (p1 &&& (2147483647 : Int32)))]))
  refine own_go (fun _ k => XS.bipush X0.here hx rfl (hb hby at_4) k) ?_
  show own_G p e below Q (T.setTop (mkF m 6 #[.val (.int p1), .val (.int p2), .val (.int p3), .unset, .unset, .unset, .unset, .unset] [(.int (9 : Int32)), (.int (p1 &&& (2147483647 : Int32)))]))
  refine own_go (fun _ k => iremM X0 hx rfl (hb hby at_6) rfl (by decide) k) ?_
  show own_G p e below Q (T.setTop (mkF m 7 #[.val (.int p1), .val (.int p2), .val (.int p3), .unset, .unset, .unset, .unset, .unset] [(.int ((p1 &&& (2147483647 : Int32)) % (9 : Int32)))]))
  rw [hr]
  show own_G p e below Q (T.setTop (mkF m 7 #[.val (.int p1), .val (.int p2), .val (.int p3), .unset, .unset, .unset, .unset, .unset] [(.int (Int32.ofNat i))]))
  refine own_go (fun _ k => XS.istoreN X0.here hx rfl (hb hby at_7) rfl (l' := #[.val (.int p1), .val (.int p2), .val (.int p3), .val (.int (Int32.ofNat i)), .unset, .unset, .unset, .unset]) rfl k) ?_
  show own_G p e below Q (T.setTop (mkF m 8 #[.val (.int p1), .val (.int p2), .val (.int p3), .val (.int (Int32.ofNat i)), .unset, .unset, .unset, .unset] []))
  have K22 : ∀ vv : Int32, own_G p e below Q (T.setTop (mkF m 22 #[.val (.int p1), .val (.int p2), .val (.int p3), .val (.int (Int32.ofNat i)), .unset, .unset, .unset, .unset] [(.int vv)])) := by
    intro vv
    show own_G p e below Q (T.setTop (mkF m 22 #[.val (.int p1), .val (.int p2), .val (.int p3), .val (.int (Int32.ofNat i)), .unset, .unset, .unset, .unset] [(.int vv)]))
    refine own_go (fun _ k => XS.istore X0.here hx rfl (hb hby at_22) rfl (l' := #[.val (.int p1), .val (.int p2), .val (.int p3), .val (.int (Int32.ofNat i)), .val (.int vv), .unset, .unset, .unset]) rfl k) ?_
    show own_G p e below Q (T.setTop (mkF m 24 #[.val (.int p1), .val (.int p2), .val (.int p3), .val (.int (Int32.ofNat i)), .val (.int vv), .unset, .unset, .unset] []))
    refine own_go (fun _ k => XS.iloadN X0.here hx rfl (hb hby at_24) rfl  k) ?_
    show own_G p e below Q (T.setTop (mkF m 25 #[.val (.int p1), .val (.int p2), .val (.int p3), .val (.int (Int32.ofNat i)), .val (.int vv), .unset, .unset, .unset] [(.int (Int32.ofNat i))]))
    refine own_callSP X0 hx hZ hown (hw _ (List.mem_of_getElem? (i := 1) rfl)) (hw _ (List.mem_of_getElem? (i := 2) rfl)) (hw _ (List.mem_of_getElem? (i := 3) rfl)) (hw _ (List.mem_of_getElem? (i := 4) rfl)) (by decide) (argsL := [(.int (Int32.ofNat i))]) (rest := []) e0 (own_pick l Z a0 hw ad hS _ hO i hi) rfl (by rw [hml]; rfl) pd_p rfl (hb hby at_25) (W := 0) (Nat.le_of_eq rfl) (by decide) (by decide) (by decide) (by decide) ?_
    intro T12 X12 e12
    show own_G p e below Q (T12.setTop (mkF m 28 #[.val (.int p1), .val (.int p2), .val (.int p3), .val (.int (Int32.ofNat i)), .val (.int vv), .unset, .unset, .unset] [(.ref (ad i))]))
    refine own_go (fun _ k => XS.astore X12.here hx rfl (hb hby at_28) rfl rfl (l' := #[.val (.int p1), .val (.int p2), .val (.int p3), .val (.int (Int32.ofNat i)), .val (.int vv), .val (.ref (ad i)), .unset, .unset]) rfl k) ?_
    show own_G p e below Q (T12.setTop (mkF m 30 #[.val (.int p1), .val (.int p2), .val (.int p3), .val (.int (Int32.ofNat i)), .val (.int vv), .val (.ref (ad i)), .unset, .unset] []))
    refine own_go (fun _ k => XS.iloadN X12.here hx rfl (hb hby at_30) rfl  k) ?_
    show own_G p e below Q (T12.setTop (mkF m 31 #[.val (.int p1), .val (.int p2), .val (.int p3), .val (.int (Int32.ofNat i)), .val (.int vv), .val (.ref (ad i)), .unset, .unset] [(.int (Int32.ofNat i))]))
    refine own_callSP X12 hx hZ hown (hw _ (List.mem_of_getElem? (i := 8) rfl)) (hw _ (List.mem_of_getElem? (i := 9) rfl)) (hw _ (List.mem_of_getElem? (i := 3) rfl)) (hw _ (List.mem_of_getElem? (i := 10) rfl)) (by decide) (argsL := [(.int (Int32.ofNat i))]) (rest := []) e12 (own_high l Z a0 hw _ i hi) rfl (by rw [hml]; rfl) pd_h rfl (hb hby at_31) (W := 0) (Nat.le_of_eq rfl) (by decide) (by decide) (by decide) (by decide) ?_
    intro T13 X13 e13
    show own_G p e below Q (T13.setTop (mkF m 34 #[.val (.int p1), .val (.int p2), .val (.int p3), .val (.int (Int32.ofNat i)), .val (.int vv), .val (.ref (ad i)), .unset, .unset] [(.int (own_hi i))]))
    refine own_go (fun _ k => XS.istore X13.here hx rfl (hb hby at_34) rfl (l' := #[.val (.int p1), .val (.int p2), .val (.int p3), .val (.int (Int32.ofNat i)), .val (.int vv), .val (.ref (ad i)), .val (.int (own_hi i)), .unset]) rfl k) ?_
    show own_G p e below Q (T13.setTop (mkF m 36 #[.val (.int p1), .val (.int p2), .val (.int p3), .val (.int (Int32.ofNat i)), .val (.int vv), .val (.ref (ad i)), .val (.int (own_hi i)), .unset] []))
    refine own_go (fun _ k => XS.iconst X13.here hx rfl (hb hby at_36) k) ?_
    show own_G p e below Q (T13.setTop (mkF m 37 #[.val (.int p1), .val (.int p2), .val (.int p3), .val (.int (Int32.ofNat i)), .val (.int vv), .val (.ref (ad i)), .val (.int (own_hi i)), .unset] [(.int (0 : Int32))]))
    refine own_go (fun _ k => XS.iload X13.here hx rfl (hb hby at_37) rfl  k) ?_
    show own_G p e below Q (T13.setTop (mkF m 39 #[.val (.int p1), .val (.int p2), .val (.int p3), .val (.int (Int32.ofNat i)), .val (.int vv), .val (.ref (ad i)), .val (.int (own_hi i)), .unset] [(.int vv), (.int (0 : Int32))]))
    by_cases h1 : vv < (0 : Int32)
    · refine own_go (fun _ k => XS.icmpYes X13.here hx rfl (pc0 := 39) (pc' := 53) rfl (hb hby at_39) rfl (tlt h1).2.2.1 (by decide) (by decide) k) ?_
      show own_G p e below Q (T13.setTop (mkF m 53 #[.val (.int p1), .val (.int p2), .val (.int p3), .val (.int (Int32.ofNat i)), .val (.int vv), .val (.ref (ad i)), .val (.int (own_hi i)), .unset] []))
      refine own_go (fun _ k => XS.iconst X13.here hx rfl (hb hby at_53) k) ?_
      show own_G p e below Q (T13.setTop (mkF m 54 #[.val (.int p1), .val (.int p2), .val (.int p3), .val (.int (Int32.ofNat i)), .val (.int vv), .val (.ref (ad i)), .val (.int (own_hi i)), .unset] [(.int (0 : Int32))]))
      refine own_go (fun _ k => XS.istore X13.here hx rfl (hb hby at_54) rfl (l' := #[.val (.int p1), .val (.int p2), .val (.int p3), .val (.int (Int32.ofNat i)), .val (.int vv), .val (.ref (ad i)), .val (.int (own_hi i)), .val (.int (0 : Int32))]) rfl k) ?_
      show own_G p e below Q (T13.setTop (mkF m 56 #[.val (.int p1), .val (.int p2), .val (.int p3), .val (.int (Int32.ofNat i)), .val (.int vv), .val (.ref (ad i)), .val (.int (own_hi i)), .val (.int (0 : Int32))] []))
      refine own_go (fun _ k => XS.aload X13.here hx rfl (hb hby at_56) rfl rfl  k) ?_
      show own_G p e below Q (T13.setTop (mkF m 58 #[.val (.int p1), .val (.int p2), .val (.int p3), .val (.int (Int32.ofNat i)), .val (.int vv), .val (.ref (ad i)), .val (.int (own_hi i)), .val (.int (0 : Int32))] [(.ref (ad i))]))
      refine own_go (fun _ k => XS.iload X13.here hx rfl (hb hby at_58) rfl  k) ?_
      show own_G p e below Q (T13.setTop (mkF m 60 #[.val (.int p1), .val (.int p2), .val (.int p3), .val (.int (Int32.ofNat i)), .val (.int vv), .val (.ref (ad i)), .val (.int (own_hi i)), .val (.int (0 : Int32))] [(.int vv), (.ref (ad i))]))
      refine own_callVP X13 hx hZ hown (hw _ (List.mem_of_getElem? (i := 11) rfl)) (hw _ (List.mem_of_getElem? (i := 12) rfl)) (hw _ (List.mem_of_getElem? (i := 14) rfl)) (hw _ (List.mem_of_getElem? (i := 13) rfl)) (hw _ (List.mem_of_getElem? (i := 15) rfl)) (hw _ (List.mem_of_getElem? (i := 6) rfl)) (by decide) (argsL := [(.int vv)]) (rest := []) e13 (hE i hi) (own_srv l Z a0 hw _ (ad i) vv 0 (own_hi i) (hL i hi) (hH i hi)) rfl (by rw [hml]; rfl) pd_s rfl (hb hby at_60) (W := 0) (Nat.le_of_eq rfl) (by decide) (by decide) (by decide) (by decide) ?_
      intro T14 X14 e14
      show own_G p e below Q (T14.setTop (mkF m 63 #[.val (.int p1), .val (.int p2), .val (.int p3), .val (.int (Int32.ofNat i)), .val (.int vv), .val (.ref (ad i)), .val (.int (own_hi i)), .val (.int (0 : Int32))] [(.int (if vv < (0 : Int32) then (0 : Int32) else if own_hi i < vv then 0 else 1))]))
      refine own_go (fun _ k => XS.iload X14.here hx rfl (hb hby at_63) rfl  k) ?_
      show own_G p e below Q (T14.setTop (mkF m 65 #[.val (.int p1), .val (.int p2), .val (.int p3), .val (.int (Int32.ofNat i)), .val (.int vv), .val (.ref (ad i)), .val (.int (own_hi i)), .val (.int (0 : Int32))] [(.int (0 : Int32)), (.int (if vv < (0 : Int32) then (0 : Int32) else if own_hi i < vv then 0 else 1))]))
      refine own_go (fun _ k => XS.icmpNo X14.here hx rfl (hb hby at_65) rfl (teq (by rw [if_pos h1])).2 k) ?_
      show own_G p e below Q (T14.setTop (mkF m 68 #[.val (.int p1), .val (.int p2), .val (.int p3), .val (.int (Int32.ofNat i)), .val (.int vv), .val (.ref (ad i)), .val (.int (own_hi i)), .val (.int (0 : Int32))] []))
      refine own_go (fun _ k => XS.iconst X14.here hx rfl (hb hby at_68) k) ?_
      show own_G p e below Q (T14.setTop (mkF m 69 #[.val (.int p1), .val (.int p2), .val (.int p3), .val (.int (Int32.ofNat i)), .val (.int vv), .val (.ref (ad i)), .val (.int (own_hi i)), .val (.int (0 : Int32))] [(.int (1 : Int32))]))
      refine own_go (fun _ k => XS.goto X14.here hx rfl (pc0 := 69) (pc' := 73) rfl (hb hby at_69) (by decide) (by decide) k) ?_
      show own_G p e below Q (T14.setTop (mkF m 73 #[.val (.int p1), .val (.int p2), .val (.int p3), .val (.int (Int32.ofNat i)), .val (.int vv), .val (.ref (ad i)), .val (.int (own_hi i)), .val (.int (0 : Int32))] [(.int (1 : Int32))]))
      exact own_retN X14 hx hlk (Or.inl rfl) hret (hb hby at_73) rfl (fun U hU hF => hR _ _ _ _ _ ⟨rfl, N0⟩ (by decide) (by decide) hF)
    · refine own_go (fun _ k => XS.icmpNo X13.here hx rfl (hb hby at_39) rfl (flt h1).2.2.1 k) ?_
      show own_G p e below Q (T13.setTop (mkF m 42 #[.val (.int p1), .val (.int p2), .val (.int p3), .val (.int (Int32.ofNat i)), .val (.int vv), .val (.ref (ad i)), .val (.int (own_hi i)), .unset] []))
      refine own_go (fun _ k => XS.iload X13.here hx rfl (hb hby at_42) rfl  k) ?_
      show own_G p e below Q (T13.setTop (mkF m 44 #[.val (.int p1), .val (.int p2), .val (.int p3), .val (.int (Int32.ofNat i)), .val (.int vv), .val (.ref (ad i)), .val (.int (own_hi i)), .unset] [(.int vv)]))
      refine own_go (fun _ k => XS.iload X13.here hx rfl (hb hby at_44) rfl  k) ?_
      show own_G p e below Q (T13.setTop (mkF m 46 #[.val (.int p1), .val (.int p2), .val (.int p3), .val (.int (Int32.ofNat i)), .val (.int vv), .val (.ref (ad i)), .val (.int (own_hi i)), .unset] [(.int (own_hi i)), (.int vv)]))
      by_cases h2 : (own_hi i) < vv
      · refine own_go (fun _ k => XS.icmpYes X13.here hx rfl (pc0 := 46) (pc' := 53) rfl (hb hby at_46) rfl (tlt h2).2.2.1 (by decide) (by decide) k) ?_
        show own_G p e below Q (T13.setTop (mkF m 53 #[.val (.int p1), .val (.int p2), .val (.int p3), .val (.int (Int32.ofNat i)), .val (.int vv), .val (.ref (ad i)), .val (.int (own_hi i)), .unset] []))
        refine own_go (fun _ k => XS.iconst X13.here hx rfl (hb hby at_53) k) ?_
        show own_G p e below Q (T13.setTop (mkF m 54 #[.val (.int p1), .val (.int p2), .val (.int p3), .val (.int (Int32.ofNat i)), .val (.int vv), .val (.ref (ad i)), .val (.int (own_hi i)), .unset] [(.int (0 : Int32))]))
        refine own_go (fun _ k => XS.istore X13.here hx rfl (hb hby at_54) rfl (l' := #[.val (.int p1), .val (.int p2), .val (.int p3), .val (.int (Int32.ofNat i)), .val (.int vv), .val (.ref (ad i)), .val (.int (own_hi i)), .val (.int (0 : Int32))]) rfl k) ?_
        show own_G p e below Q (T13.setTop (mkF m 56 #[.val (.int p1), .val (.int p2), .val (.int p3), .val (.int (Int32.ofNat i)), .val (.int vv), .val (.ref (ad i)), .val (.int (own_hi i)), .val (.int (0 : Int32))] []))
        refine own_go (fun _ k => XS.aload X13.here hx rfl (hb hby at_56) rfl rfl  k) ?_
        show own_G p e below Q (T13.setTop (mkF m 58 #[.val (.int p1), .val (.int p2), .val (.int p3), .val (.int (Int32.ofNat i)), .val (.int vv), .val (.ref (ad i)), .val (.int (own_hi i)), .val (.int (0 : Int32))] [(.ref (ad i))]))
        refine own_go (fun _ k => XS.iload X13.here hx rfl (hb hby at_58) rfl  k) ?_
        show own_G p e below Q (T13.setTop (mkF m 60 #[.val (.int p1), .val (.int p2), .val (.int p3), .val (.int (Int32.ofNat i)), .val (.int vv), .val (.ref (ad i)), .val (.int (own_hi i)), .val (.int (0 : Int32))] [(.int vv), (.ref (ad i))]))
        refine own_callVP X13 hx hZ hown (hw _ (List.mem_of_getElem? (i := 11) rfl)) (hw _ (List.mem_of_getElem? (i := 12) rfl)) (hw _ (List.mem_of_getElem? (i := 14) rfl)) (hw _ (List.mem_of_getElem? (i := 13) rfl)) (hw _ (List.mem_of_getElem? (i := 15) rfl)) (hw _ (List.mem_of_getElem? (i := 6) rfl)) (by decide) (argsL := [(.int vv)]) (rest := []) e13 (hE i hi) (own_srv l Z a0 hw _ (ad i) vv 0 (own_hi i) (hL i hi) (hH i hi)) rfl (by rw [hml]; rfl) pd_s rfl (hb hby at_60) (W := 0) (Nat.le_of_eq rfl) (by decide) (by decide) (by decide) (by decide) ?_
        intro T15 X15 e15
        show own_G p e below Q (T15.setTop (mkF m 63 #[.val (.int p1), .val (.int p2), .val (.int p3), .val (.int (Int32.ofNat i)), .val (.int vv), .val (.ref (ad i)), .val (.int (own_hi i)), .val (.int (0 : Int32))] [(.int (if vv < (0 : Int32) then (0 : Int32) else if own_hi i < vv then 0 else 1))]))
        refine own_go (fun _ k => XS.iload X15.here hx rfl (hb hby at_63) rfl  k) ?_
        show own_G p e below Q (T15.setTop (mkF m 65 #[.val (.int p1), .val (.int p2), .val (.int p3), .val (.int (Int32.ofNat i)), .val (.int vv), .val (.ref (ad i)), .val (.int (own_hi i)), .val (.int (0 : Int32))] [(.int (0 : Int32)), (.int (if vv < (0 : Int32) then (0 : Int32) else if own_hi i < vv then 0 else 1))]))
        refine own_go (fun _ k => XS.icmpNo X15.here hx rfl (hb hby at_65) rfl (teq (by rw [if_neg h1, if_pos h2])).2 k) ?_
        show own_G p e below Q (T15.setTop (mkF m 68 #[.val (.int p1), .val (.int p2), .val (.int p3), .val (.int (Int32.ofNat i)), .val (.int vv), .val (.ref (ad i)), .val (.int (own_hi i)), .val (.int (0 : Int32))] []))
        refine own_go (fun _ k => XS.iconst X15.here hx rfl (hb hby at_68) k) ?_
        show own_G p e below Q (T15.setTop (mkF m 69 #[.val (.int p1), .val (.int p2), .val (.int p3), .val (.int (Int32.ofNat i)), .val (.int vv), .val (.ref (ad i)), .val (.int (own_hi i)), .val (.int (0 : Int32))] [(.int (1 : Int32))]))
        refine own_go (fun _ k => XS.goto X15.here hx rfl (pc0 := 69) (pc' := 73) rfl (hb hby at_69) (by decide) (by decide) k) ?_
        show own_G p e below Q (T15.setTop (mkF m 73 #[.val (.int p1), .val (.int p2), .val (.int p3), .val (.int (Int32.ofNat i)), .val (.int vv), .val (.ref (ad i)), .val (.int (own_hi i)), .val (.int (0 : Int32))] [(.int (1 : Int32))]))
        exact own_retN X15 hx hlk (Or.inl rfl) hret (hb hby at_73) rfl (fun U hU hF => hR _ _ _ _ _ ⟨rfl, N0⟩ (by decide) (by decide) hF)
      · refine own_go (fun _ k => XS.icmpNo X13.here hx rfl (hb hby at_46) rfl (flt h2).2.2.1 k) ?_
        show own_G p e below Q (T13.setTop (mkF m 49 #[.val (.int p1), .val (.int p2), .val (.int p3), .val (.int (Int32.ofNat i)), .val (.int vv), .val (.ref (ad i)), .val (.int (own_hi i)), .unset] []))
        refine own_go (fun _ k => XS.iconst X13.here hx rfl (hb hby at_49) k) ?_
        show own_G p e below Q (T13.setTop (mkF m 50 #[.val (.int p1), .val (.int p2), .val (.int p3), .val (.int (Int32.ofNat i)), .val (.int vv), .val (.ref (ad i)), .val (.int (own_hi i)), .unset] [(.int (1 : Int32))]))
        refine own_go (fun _ k => XS.goto X13.here hx rfl (pc0 := 50) (pc' := 54) rfl (hb hby at_50) (by decide) (by decide) k) ?_
        show own_G p e below Q (T13.setTop (mkF m 54 #[.val (.int p1), .val (.int p2), .val (.int p3), .val (.int (Int32.ofNat i)), .val (.int vv), .val (.ref (ad i)), .val (.int (own_hi i)), .unset] [(.int (1 : Int32))]))
        refine own_go (fun _ k => XS.istore X13.here hx rfl (hb hby at_54) rfl (l' := #[.val (.int p1), .val (.int p2), .val (.int p3), .val (.int (Int32.ofNat i)), .val (.int vv), .val (.ref (ad i)), .val (.int (own_hi i)), .val (.int (1 : Int32))]) rfl k) ?_
        show own_G p e below Q (T13.setTop (mkF m 56 #[.val (.int p1), .val (.int p2), .val (.int p3), .val (.int (Int32.ofNat i)), .val (.int vv), .val (.ref (ad i)), .val (.int (own_hi i)), .val (.int (1 : Int32))] []))
        refine own_go (fun _ k => XS.aload X13.here hx rfl (hb hby at_56) rfl rfl  k) ?_
        show own_G p e below Q (T13.setTop (mkF m 58 #[.val (.int p1), .val (.int p2), .val (.int p3), .val (.int (Int32.ofNat i)), .val (.int vv), .val (.ref (ad i)), .val (.int (own_hi i)), .val (.int (1 : Int32))] [(.ref (ad i))]))
        refine own_go (fun _ k => XS.iload X13.here hx rfl (hb hby at_58) rfl  k) ?_
        show own_G p e below Q (T13.setTop (mkF m 60 #[.val (.int p1), .val (.int p2), .val (.int p3), .val (.int (Int32.ofNat i)), .val (.int vv), .val (.ref (ad i)), .val (.int (own_hi i)), .val (.int (1 : Int32))] [(.int vv), (.ref (ad i))]))
        refine own_callVP X13 hx hZ hown (hw _ (List.mem_of_getElem? (i := 11) rfl)) (hw _ (List.mem_of_getElem? (i := 12) rfl)) (hw _ (List.mem_of_getElem? (i := 14) rfl)) (hw _ (List.mem_of_getElem? (i := 13) rfl)) (hw _ (List.mem_of_getElem? (i := 15) rfl)) (hw _ (List.mem_of_getElem? (i := 6) rfl)) (by decide) (argsL := [(.int vv)]) (rest := []) e13 (hE i hi) (own_srv l Z a0 hw _ (ad i) vv 0 (own_hi i) (hL i hi) (hH i hi)) rfl (by rw [hml]; rfl) pd_s rfl (hb hby at_60) (W := 0) (Nat.le_of_eq rfl) (by decide) (by decide) (by decide) (by decide) ?_
        intro T16 X16 e16
        show own_G p e below Q (T16.setTop (mkF m 63 #[.val (.int p1), .val (.int p2), .val (.int p3), .val (.int (Int32.ofNat i)), .val (.int vv), .val (.ref (ad i)), .val (.int (own_hi i)), .val (.int (1 : Int32))] [(.int (if vv < (0 : Int32) then (0 : Int32) else if own_hi i < vv then 0 else 1))]))
        refine own_go (fun _ k => XS.iload X16.here hx rfl (hb hby at_63) rfl  k) ?_
        show own_G p e below Q (T16.setTop (mkF m 65 #[.val (.int p1), .val (.int p2), .val (.int p3), .val (.int (Int32.ofNat i)), .val (.int vv), .val (.ref (ad i)), .val (.int (own_hi i)), .val (.int (1 : Int32))] [(.int (1 : Int32)), (.int (if vv < (0 : Int32) then (0 : Int32) else if own_hi i < vv then 0 else 1))]))
        refine own_go (fun _ k => XS.icmpNo X16.here hx rfl (hb hby at_65) rfl (teq (by rw [if_neg h1, if_neg h2])).2 k) ?_
        show own_G p e below Q (T16.setTop (mkF m 68 #[.val (.int p1), .val (.int p2), .val (.int p3), .val (.int (Int32.ofNat i)), .val (.int vv), .val (.ref (ad i)), .val (.int (own_hi i)), .val (.int (1 : Int32))] []))
        refine own_go (fun _ k => XS.iconst X16.here hx rfl (hb hby at_68) k) ?_
        show own_G p e below Q (T16.setTop (mkF m 69 #[.val (.int p1), .val (.int p2), .val (.int p3), .val (.int (Int32.ofNat i)), .val (.int vv), .val (.ref (ad i)), .val (.int (own_hi i)), .val (.int (1 : Int32))] [(.int (1 : Int32))]))
        refine own_go (fun _ k => XS.goto X16.here hx rfl (pc0 := 69) (pc' := 73) rfl (hb hby at_69) (by decide) (by decide) k) ?_
        show own_G p e below Q (T16.setTop (mkF m 73 #[.val (.int p1), .val (.int p2), .val (.int p3), .val (.int (Int32.ofNat i)), .val (.int vv), .val (.ref (ad i)), .val (.int (own_hi i)), .val (.int (1 : Int32))] [(.int (1 : Int32))]))
        exact own_retN X16 hx hlk (Or.inl rfl) hret (hb hby at_73) rfl (fun U hU hF => hR _ _ _ _ _ ⟨rfl, N0⟩ (by decide) (by decide) hF)
  show own_G p e below Q (T.setTop (mkF m 8 #[.val (.int p1), .val (.int p2), .val (.int p3), .val (.int (Int32.ofNat i)), .unset, .unset, .unset, .unset] []))
  refine own_go (fun _ k => XS.iloadN X0.here hx rfl (hb hby at_8) rfl  k) ?_
  show own_G p e below Q (T.setTop (mkF m 9 #[.val (.int p1), .val (.int p2), .val (.int p3), .val (.int (Int32.ofNat i)), .unset, .unset, .unset, .unset] [(.int p3)]))
  refine own_go (fun _ k => XS.iconst X0.here hx rfl (hb hby at_9) k) ?_
  show own_G p e below Q (T.setTop (mkF m 10 #[.val (.int p1), .val (.int p2), .val (.int p3), .val (.int (Int32.ofNat i)), .unset, .unset, .unset, .unset] [(.int (1 : Int32)), (.int p3)]))
  refine own_go (fun _ k => XS.iand X0.here hx rfl (hb hby at_10) rfl k) ?_
  show own_G p e below Q (T.setTop (mkF m 11 #[.val (.int p1), .val (.int p2), .val (.int p3), .val (.int (Int32.ofNat i)), .unset, .unset, .unset, .unset] [(.int (p3 &&& (1 : Int32)))]))
  by_cases hm : (p3 &&& (1 : Int32)) = (0 : Int32)
  · refine own_go (fun _ k => XS.ifYes X0.here hx rfl (pc0 := 11) (pc' := 18) rfl (hb hby at_11) rfl ((if0 _ _).trans (teq hm).1) (by decide) (by decide) k) ?_
    show own_G p e below Q (T.setTop (mkF m 18 #[.val (.int p1), .val (.int p2), .val (.int p3), .val (.int (Int32.ofNat i)), .unset, .unset, .unset, .unset] []))
    refine own_go (fun _ k => XS.iloadN X0.here hx rfl (hb hby at_18) rfl  k) ?_
    show own_G p e below Q (T.setTop (mkF m 19 #[.val (.int p1), .val (.int p2), .val (.int p3), .val (.int (Int32.ofNat i)), .unset, .unset, .unset, .unset] [(.int p2)]))
    refine own_go (fun _ k => XS.bipush X0.here hx rfl (hb hby at_19) k) ?_
    show own_G p e below Q (T.setTop (mkF m 21 #[.val (.int p1), .val (.int p2), .val (.int p3), .val (.int (Int32.ofNat i)), .unset, .unset, .unset, .unset] [(.int (8 : Int32)), (.int p2)]))
    refine own_go (fun _ k => iremM X0 hx rfl (hb hby at_21) rfl (by decide) k) ?_
    show own_G p e below Q (T.setTop (mkF m 22 #[.val (.int p1), .val (.int p2), .val (.int p3), .val (.int (Int32.ofNat i)), .unset, .unset, .unset, .unset] [(.int (p2 % (8 : Int32)))]))
    exact K22 _
  · refine own_go (fun _ k => XS.ifNo X0.here hx rfl (hb hby at_11) rfl ((if0 _ _).trans (feq hm).1) k) ?_
    show own_G p e below Q (T.setTop (mkF m 14 #[.val (.int p1), .val (.int p2), .val (.int p3), .val (.int (Int32.ofNat i)), .unset, .unset, .unset, .unset] []))
    refine own_go (fun _ k => XS.iloadN X0.here hx rfl (hb hby at_14) rfl  k) ?_
    show own_G p e below Q (T.setTop (mkF m 15 #[.val (.int p1), .val (.int p2), .val (.int p3), .val (.int (Int32.ofNat i)), .unset, .unset, .unset, .unset] [(.int p2)]))
    refine own_go (fun _ k => XS.goto X0.here hx rfl (pc0 := 15) (pc' := 22) rfl (hb hby at_15) (by decide) (by decide) k) ?_
    show own_G p e below Q (T.setTop (mkF m 22 #[.val (.int p1), .val (.int p2), .val (.int p3), .val (.int (Int32.ofNat i)), .unset, .unset, .unset, .unset] [(.int p2)]))
    exact K22 _
theorem comes_1 {Post : Tables → Env → Array Value → State → Outcome → State → Prop} (hpost : ∀ tb e args s v u, (limb_1_1.after args s (.returned v) u = true ∧ limb_1_2.after args s (.returned v) u = true ∧ True) → FrameEnd s (.returned v) u (Jvm.fieldLocs frame_1_writes args s ++ Jvm.arrayLocs frame_1_arrays args s ++ Jvm.staticLocs frame_1_statics s) 0 0 → Post tb e args s (.returned v) u) :
    ArmFor flags0 classFile x code maxLocals ret World_1 tables_1 room_1 Calls_1 rest_1 Pre_1 Post := by
  intro l hfl _ _ p e ha hc hk s m args below hf hA hF happ hP
  obtain ⟨hcalls, hrest, hpre⟩ := hP
  obtain ⟨-, -, -, hnamed, -, -, -, hat⟩ := (Spec.applies_iff hf).mp happ
  obtain ⟨hg, hn⟩ := and_e (Cond.before_iff.mp (show (Jvm.Cond.and given_1 narrow_1).before args s = true from hpre))
  obtain ⟨hcount, hg0⟩ := and_e hg
  obtain ⟨w0, w1, w2, rfl⟩ : ∃ w0 w1 w2 : Value, args = #[w0, w1, w2] := by
    have hs : args.size = 3 := by simpa [Cond.value, given_1] using hcount
    obtain ⟨L⟩ := args
    match L, hs with
    | [w0, w1, w2], _ => exact ⟨w0, w1, w2, rfl⟩
  have hw := fun d (hd : d ∈ tables_1) => atoms_spec (ws := Jvm.Cond.code x code maxLocals ret :: tables_1) hat d (List.mem_cons_of_mem _ hd)
  obtain ⟨hq0, hg1⟩ := and_e hg0
  obtain ⟨i0, e0⟩ := is_v hq0
  obtain rfl : w0 = (.int i0) := Option.some.inj e0
  obtain ⟨hq1, hg2⟩ := and_e hg1
  obtain ⟨i1, e1⟩ := is_v hq1
  obtain rfl : w1 = (.int i1) := Option.some.inj e1
  obtain ⟨i2, e2⟩ := is_v hg2
  obtain rfl : w2 = (.int i2) := Option.some.inj e2
  obtain ⟨nn0, hn0⟩ := and_e hn
  obtain ⟨nn1, hn1⟩ := and_e hn0
  obtain ⟨nn2, hn2⟩ := and_e hn1
  obtain ⟨nn3, hn3⟩ := and_e hn2
  obtain ⟨nn4, hn4⟩ := and_e hn3
  obtain ⟨nn5, hn5⟩ := and_e hn4
  obtain ⟨nn6, hn6⟩ := and_e hn5
  obtain ⟨nn7, hn7⟩ := and_e hn6
  obtain ⟨nn8, hn8⟩ := and_e hn7
  obtain ⟨nn9, hn9⟩ := and_e hn8
  obtain ⟨nn10, hn10⟩ := and_e hn9
  obtain ⟨nn11, hn11⟩ := and_e hn10
  obtain ⟨nn12, hn12⟩ := and_e hn11
  obtain ⟨nn13, hn13⟩ := and_e hn12
  obtain ⟨nn14, hn14⟩ := and_e hn13
  obtain ⟨nn15, hn15⟩ := and_e hn14
  obtain ⟨nn16, hn16⟩ := and_e hn15
  obtain ⟨nn17, hn17⟩ := and_e hn16
  obtain ⟨nn18, hn18⟩ := and_e hn17
  obtain ⟨nn19, hn19⟩ := and_e hn18
  obtain ⟨nn20, hn20⟩ := and_e hn19
  obtain ⟨nn21, hn21⟩ := and_e hn20
  obtain ⟨nn22, hn22⟩ := and_e hn21
  obtain ⟨nn23, hn23⟩ := and_e hn22
  obtain ⟨nn24, hn24⟩ := and_e hn23
  obtain ⟨nn25, hn25⟩ := and_e hn24
  obtain ⟨c0, ev0, st0, ex0⟩ := own_sta rfl nn0 (hw _ (List.mem_of_getElem? (i := 6) rfl)) (hw _ (List.mem_of_getElem? (i := 7) rfl))
  obtain ⟨c1, ev1, st1, ex1⟩ := own_sta rfl nn3 (hw _ (List.mem_of_getElem? (i := 6) rfl)) (hw _ (List.mem_of_getElem? (i := 21) rfl))
  obtain ⟨c2, ev2, st2, ex2⟩ := own_sta rfl nn6 (hw _ (List.mem_of_getElem? (i := 6) rfl)) (hw _ (List.mem_of_getElem? (i := 23) rfl))
  obtain ⟨c8, ev8, st8, ex8⟩ := own_sta rfl nn9 (hw _ (List.mem_of_getElem? (i := 6) rfl)) (hw _ (List.mem_of_getElem? (i := 25) rfl))
  obtain ⟨c6, ev6, st6, ex6⟩ := own_sta rfl nn11 (hw _ (List.mem_of_getElem? (i := 6) rfl)) (hw _ (List.mem_of_getElem? (i := 27) rfl))
  obtain ⟨c7, ev7, st7, ex7⟩ := own_sta rfl nn13 (hw _ (List.mem_of_getElem? (i := 6) rfl)) (hw _ (List.mem_of_getElem? (i := 29) rfl))
  obtain ⟨c3, ev3, st3, ex3⟩ := own_sta rfl nn16 (hw _ (List.mem_of_getElem? (i := 6) rfl)) (hw _ (List.mem_of_getElem? (i := 31) rfl))
  obtain ⟨c4, ev4, st4, ex4⟩ := own_sta rfl nn20 (hw _ (List.mem_of_getElem? (i := 6) rfl)) (hw _ (List.mem_of_getElem? (i := 33) rfl))
  obtain ⟨c5, ev5, st5, ex5⟩ := own_sta rfl nn24 (hw _ (List.mem_of_getElem? (i := 6) rfl)) (hw _ (List.mem_of_getElem? (i := 35) rfl))
  have lowest0 := own_fld ev0 nn1
  have highest0 := own_fld ev0 nn2
  have lowest1 := own_fld ev1 nn4
  have highest1 := own_fld ev1 nn5
  have lowest2 := own_fld ev2 nn7
  have highest2 := own_fld ev2 nn8
  have lowest8 := own_fld ev8 nn10
  have lowest6 := own_fld ev6 nn12
  have lowest7 := own_fld ev7 nn14
  have highest7 := own_fld ev7 nn15
  have lowest3 := own_fld ev3 nn17
  have highest3 := own_fld ev3 nn18
  have highest8 := own_fld ev8 nn19
  have lowest4 := own_fld ev4 nn21
  have highest4 := own_fld ev4 nn22
  have highest6 := own_fld ev6 nn23
  have lowest5 := own_fld ev5 nn25
  have highest5 := own_fld ev5 hn25
  have hE : ∀ i, i < 9 → Exa s s.heap ((fun i => [c0, c1, c2, c3, c4, c5, c6, c7, c8].getD i c0) i) "com/example/broker_access_control/brokeraccesscontrol/wire/Api" := by
    intro i hi
    obtain hi' : i = 0 ∨ i = 1 ∨ i = 2 ∨ i = 3 ∨ i = 4 ∨ i = 5 ∨ i = 6 ∨ i = 7 ∨ i = 8 := by omega
    clear hi
    rcases hi' with rfl | rfl | rfl | rfl | rfl | rfl | rfl | rfl | rfl
    · exact ex0
    · exact ex1
    · exact ex2
    · exact ex3
    · exact ex4
    · exact ex5
    · exact ex6
    · exact ex7
    · exact ex8
  have hL : ∀ i, i < 9 → Fld s s.heap ((fun i => [c0, c1, c2, c3, c4, c5, c6, c7, c8].getD i c0) i) "com/example/broker_access_control/brokeraccesscontrol/wire/Api" "lowest" "S" (.int (0 : Int32)) := by
    intro i hi
    obtain hi' : i = 0 ∨ i = 1 ∨ i = 2 ∨ i = 3 ∨ i = 4 ∨ i = 5 ∨ i = 6 ∨ i = 7 ∨ i = 8 := by omega
    clear hi
    rcases hi' with rfl | rfl | rfl | rfl | rfl | rfl | rfl | rfl | rfl
    · exact lowest0
    · exact lowest1
    · exact lowest2
    · exact lowest3
    · exact lowest4
    · exact lowest5
    · exact lowest6
    · exact lowest7
    · exact lowest8
  have hH : ∀ i, i < 9 → Fld s s.heap ((fun i => [c0, c1, c2, c3, c4, c5, c6, c7, c8].getD i c0) i) "com/example/broker_access_control/brokeraccesscontrol/wire/Api" "highest" "S" (.int (own_hi i)) := by
    intro i hi
    obtain hi' : i = 0 ∨ i = 1 ∨ i = 2 ∨ i = 3 ∨ i = 4 ∨ i = 5 ∨ i = 6 ∨ i = 7 ∨ i = 8 := by omega
    clear hi
    rcases hi' with rfl | rfl | rfl | rfl | rfl | rfl | rfl | rfl | rfl
    · exact highest0
    · exact highest1
    · exact highest2
    · exact highest3
    · exact highest4
    · exact highest5
    · exact highest6
    · exact highest7
    · exact highest8
  obtain ⟨n, o, h1, h2, h3, _, L, rfl, ⟨rfl, N⟩, hq⟩ := rm0 l s _ hw (fun i => [c0, c1, c2, c3, c4, c5, c6, c7, c8].getD i c0) ⟨st0, st1, st2, st3, st4, st5, st6, st7, st8⟩ hE hL hH i0 i1 i2 p e ha hc hk s m _ below hf ((Spec.applies_iff_loose hf).mp happ).1 ⟨rfl, State.Warmed39.refl s, rfl⟩ trivial
  refine ⟨n, _, h1, h2, h3, hpost _ _ _ _ _ _ ⟨Cond.after_iff.mpr rfl, Cond.after_iff.mpr (eq_i res_at (Term.int_eval (1)) rfl), trivial⟩ ⟨hq.1, hq.2.1, (hq.2.2.sift fun y hy => Or.inr (N y hy)).mono (by decide) (by decide)⟩⟩
theorem main_1_1 : Claimed_1_1 := comes_1 fun _ _ _ _ _ _ h hF => ⟨h.1, hF⟩
theorem main_1_2 : Claimed_1_2 := comes_1 fun _ _ _ _ _ _ h hF => ⟨h.2.1, hF⟩
end Jvm.Pilot.@@N@@
namespace Jvm.Pilot.@@N@@
open Jvm Jvm.ClassFile Sem Op Lib Jvm.Free Jvm.Stand Jvm.Pilot.@@N@@.Jvm.D
/-! MADE BY PROGRAM (witnessworld.py) out of the Statement's table words and the real class files: 12 classes; the members and pool entries that the words name. The judged class is class 1, her method 1. -/
namespace start1
open Jvm.ClassFile
def u (s : String) : CpInfo := .utf8 (stringToUtf16 s)
/-- a pool by its gaps: so many unusable entries, then the entry; so many at the end -/
def gap : Nat → List CpInfo → List CpInfo
  | 0, r => r
  | n + 1, r => .unusable :: gap n r
def poolList (es : List (Nat × CpInfo)) (last : Nat) : List CpInfo := es.foldr (fun e r => gap e.1 (e.2 :: r)) (gap last [])
def pool (es : List (Nat × CpInfo)) (last : Nat) : Array CpInfo := ⟨poolList es last⟩
def fileOf (pool : Array CpInfo) (this : Nat) (attrs : Array Attribute := #[]) (ms : Array MethodInfo := #[]) (fl : Nat := 33) (sup : Nat := 0) (ifs : Array Nat := #[]) (fds : Array FieldInfo := #[]) : ClassFile where
  minorVersion := 0
  majorVersion := 65
  constantPool := pool
  accessFlags := fl
  thisClass := this
  superClass := sup
  interfaces := ifs
  fields := fds
  methods := ms
  attributes := attrs
def plain (name : String) (sup : Option ClassId) : Class where
  name := name
  kind := .ordinary
  loader := none
  accessFlags := 33
  super := sup
  interfaces := #[]
  cf := none
  fields := #[]
  methods := #[]
  instanceTypes := #[]
  staticTypes := #[]
  resolved := #[]
  callSites := []
  init := .initialized
  statics := none
  mirror := none

def pool0 : Array CpInfo := pool [(5, u "<init>"), (0, u "()V"), (1, .class_ 10), (1, u "java/lang/Object")] 113

def k0m0 : Method := { name := "<init>", desc := "()V", sig := { parameters := [], returnType := none }, accessFlags := 1, code := none }
/-- java/lang/Object -/
def k0 : Class := { plain "java/lang/Object" none with
  accessFlags := 33
  interfaces := #[]
  cf := some (fileOf pool0 8 #[] #[{ accessFlags := 1, nameIndex := 5, descriptorIndex := 6, attributes := #[] }] 33 0 #[] #[])
  fields := #[]
  methods := #[k0m0]
  instanceTypes := #[]
  staticTypes := #[]
  resolved := Array.replicate 124 none
  statics := none }

def pool1 : Array CpInfo := pool [(2, .class_ 4), (1, u "java/lang/Object"), (0, u "<init>"), (0, u "()V"), (0, .integer 2147483647), (0, .methodref 9 10), (0, .class_ 11), (0, .nameAndType 12 13), (0, u "com/example/broker_access_control/brokeraccesscontrol/wire/ApiServesPinLaw"), (0, u "pick"), (0, u "(I)Lcom/example/broker_access_control/brokeraccesscontrol/wire/Api;"), (0, .methodref 9 15), (0, .nameAndType 16 17), (0, u "highest"), (0, u "(I)I"), (0, .methodref 19 20), (0, .class_ 21), (0, .nameAndType 22 23), (0, u "com/example/broker_access_control/brokeraccesscontrol/wire/Api"), (0, u "serves"), (0, u "(I)Z"), (0, .fieldref 19 25), (0, .nameAndType 26 27), (0, u "METADATA"), (0, u "Lcom/example/broker_access_control/brokeraccesscontrol/wire/Api;"), (0, .fieldref 19 29), (0, .nameAndType 30 27), (0, u "SASL_HANDSHAKE"), (0, .fieldref 19 32), (0, .nameAndType 33 27), (0, u "API_VERSIONS"), (0, .fieldref 19 35), (0, .nameAndType 36 27), (0, u "DESCRIBE_ACLS"), (0, .fieldref 19 38), (0, .nameAndType 39 27), (0, u "CREATE_ACLS"), (0, .fieldref 19 41), (0, .nameAndType 42 27), (0, u "DELETE_ACLS"), (0, .fieldref 19 44), (0, .nameAndType 45 27), (0, u "SASL_AUTHENTICATE"), (0, .fieldref 19 47), (0, .nameAndType 48 27), (0, u "DESCRIBE_USER_SCRAM_CREDENTIALS"), (0, .fieldref 19 50), (0, .nameAndType 51 27), (0, u "ALTER_USER_SCRAM_CREDENTIALS"), (2, u "law"), (0, u "(III)Z")] 3

def k1m0 : Method := { name := "<init>", desc := "()V", sig := { parameters := [], returnType := none }, accessFlags := 1, code := none }
def k1c1 : Code := { maxStack := 2, maxLocals := 8, code := code, exceptionTable := #[], attributes := #[] }
def k1m1 : Method := { name := "law", desc := "(III)Z", sig := { parameters := [.int, .int, .int], returnType := some .boolean }, accessFlags := 9, code := some k1c1 }
def k1c2 : Code := { maxStack := 2, maxLocals := 1, code := method_3_code, exceptionTable := #[], attributes := #[] }
def k1m2 : Method := { name := "pick", desc := "(I)Lcom/example/broker_access_control/brokeraccesscontrol/wire/Api;", sig := { parameters := [.int], returnType := some (.object "com/example/broker_access_control/brokeraccesscontrol/wire/Api") }, accessFlags := 10, code := some k1c2 }
def k1c3 : Code := { maxStack := 2, maxLocals := 1, code := method_4_code, exceptionTable := #[], attributes := #[] }
def k1m3 : Method := { name := "highest", desc := "(I)I", sig := { parameters := [.int], returnType := some .int }, accessFlags := 10, code := some k1c3 }
/-- com/example/broker_access_control/brokeraccesscontrol/wire/ApiServesPinLaw -/
def k1 : Class := { plain "com/example/broker_access_control/brokeraccesscontrol/wire/ApiServesPinLaw" (some 0) with
  accessFlags := 49
  interfaces := #[]
  cf := some (fileOf pool1 9 #[] #[{ accessFlags := 1, nameIndex := 5, descriptorIndex := 6, attributes := #[] }, { accessFlags := 9, nameIndex := 54, descriptorIndex := 55, attributes := #[] }, { accessFlags := 10, nameIndex := 12, descriptorIndex := 13, attributes := #[] }, { accessFlags := 10, nameIndex := 16, descriptorIndex := 17, attributes := #[] }] 49 2 #[] #[])
  fields := #[]
  methods := #[k1m0, k1m1, k1m2, k1m3]
  instanceTypes := #[]
  staticTypes := #[]
  resolved := Array.replicate 59 none
  statics := none }

def pool2 : Array CpInfo := pool [(1, .class_ 2), (0, u "java/lang/constant/Constable"), (0, .class_ 4), (0, u "java/lang/Object")] 6

/-- java/lang/constant/Constable -/
def k2 : Class := { plain "java/lang/constant/Constable" (some 0) with
  accessFlags := 1537
  interfaces := #[]
  cf := some (fileOf pool2 1 #[] #[] 1537 3 #[] #[])
  fields := #[]
  methods := #[]
  instanceTypes := #[]
  staticTypes := #[]
  resolved := Array.replicate 11 none
  statics := none }

def pool3 : Array CpInfo := pool [(1, .class_ 2), (0, u "java/lang/Comparable"), (0, .class_ 4), (0, u "java/lang/Object")] 7

/-- java/lang/Comparable -/
def k3 : Class := { plain "java/lang/Comparable" (some 0) with
  accessFlags := 1537
  interfaces := #[]
  cf := some (fileOf pool3 1 #[] #[] 1537 3 #[] #[])
  fields := #[]
  methods := #[]
  instanceTypes := #[]
  staticTypes := #[]
  resolved := Array.replicate 12 none
  statics := none }

def pool4 : Array CpInfo := pool [(1, .class_ 2), (0, u "java/io/Serializable"), (0, .class_ 4), (0, u "java/lang/Object")] 2

/-- java/io/Serializable -/
def k4 : Class := { plain "java/io/Serializable" (some 0) with
  accessFlags := 1537
  interfaces := #[]
  cf := some (fileOf pool4 1 #[] #[] 1537 3 #[] #[])
  fields := #[]
  methods := #[]
  instanceTypes := #[]
  staticTypes := #[]
  resolved := Array.replicate 7 none
  statics := none }

def pool5 : Array CpInfo := pool [(2, .class_ 4), (1, u "java/lang/Enum"), (0, u "name"), (0, u "Ljava/lang/String;"), (2, u "ordinal"), (0, u "I"), (1, .class_ 14), (1, u "java/lang/Object"), (4, u "hash"), (86, .class_ 108), (1, u "java/lang/Enum$EnumDesc"), (2, .class_ 112), (0, u "java/lang/constant/Constable"), (0, .class_ 114), (0, u "java/lang/Comparable"), (0, .class_ 116), (0, u "java/io/Serializable")] 87

/-- java/lang/Enum -/
def k5 : Class := { plain "java/lang/Enum" (some 0) with
  accessFlags := 1057
  interfaces := #[2, 3, 4]
  cf := some (fileOf pool5 2 #[.nestMembers #[106]] #[] 1057 12 #[111, 113, 115] #[{ accessFlags := 18, nameIndex := 5, descriptorIndex := 6, attributes := #[] }, { accessFlags := 18, nameIndex := 9, descriptorIndex := 10, attributes := #[] }, { accessFlags := 2, nameIndex := 19, descriptorIndex := 10, attributes := #[] }])
  fields := #[{ name := "name", type := (.object "java/lang/String"), accessFlags := 18, slot := 0, constantValue := 0 }, { name := "ordinal", type := .int, accessFlags := 18, slot := 1, constantValue := 0 }, { name := "hash", type := .int, accessFlags := 2, slot := 2, constantValue := 0 }]
  methods := #[]
  instanceTypes := #[(.object "java/lang/String"), .int, .int]
  staticTypes := #[]
  resolved := Array.replicate 204 none
  statics := none }

def pool6 : Array CpInfo := pool [(1, .class_ 2), (0, u "com/example/broker_access_control/brokeraccesscontrol/wire/Api"), (2, u "METADATA"), (0, u "Lcom/example/broker_access_control/brokeraccesscontrol/wire/Api;"), (2, u "SASL_HANDSHAKE"), (2, u "API_VERSIONS"), (2, u "DESCRIBE_ACLS"), (2, u "CREATE_ACLS"), (2, u "DELETE_ACLS"), (2, u "SASL_AUTHENTICATE"), (2, u "DESCRIBE_USER_SCRAM_CREDENTIALS"), (2, u "ALTER_USER_SCRAM_CREDENTIALS"), (2, u "$VALUES"), (0, u "[Lcom/example/broker_access_control/brokeraccesscontrol/wire/Api;"), (6, .class_ 43), (1, u "java/lang/Enum"), (8, u "key"), (0, u "S"), (0, .fieldref 1 55), (0, .nameAndType 56 53), (0, u "lowest"), (0, .fieldref 1 58), (0, .nameAndType 59 53), (0, u "highest"), (2, u "firstFlexible"), (26, u "(I)Z"), (30, u "serves")] 5

def k6c0 : Code := { maxStack := 2, maxLocals := 2, code := prog_70_method_10_code, exceptionTable := #[], attributes := #[] }
def k6m0 : Method := { name := "serves", desc := "(I)Z", sig := { parameters := [.int], returnType := some .boolean }, accessFlags := 1, code := some k6c0 }
/-- com/example/broker_access_control/brokeraccesscontrol/wire/Api -/
def k6 : Class := { plain "com/example/broker_access_control/brokeraccesscontrol/wire/Api" (some 5) with
  accessFlags := 16433
  interfaces := #[]
  cf := some (fileOf pool6 1 #[] #[{ accessFlags := 1, nameIndex := 120, descriptorIndex := 89, attributes := #[] }] 16433 41 #[] #[{ accessFlags := 16409, nameIndex := 5, descriptorIndex := 6, attributes := #[] }, { accessFlags := 16409, nameIndex := 9, descriptorIndex := 6, attributes := #[] }, { accessFlags := 16409, nameIndex := 12, descriptorIndex := 6, attributes := #[] }, { accessFlags := 16409, nameIndex := 15, descriptorIndex := 6, attributes := #[] }, { accessFlags := 16409, nameIndex := 18, descriptorIndex := 6, attributes := #[] }, { accessFlags := 16409, nameIndex := 21, descriptorIndex := 6, attributes := #[] }, { accessFlags := 16409, nameIndex := 24, descriptorIndex := 6, attributes := #[] }, { accessFlags := 16409, nameIndex := 27, descriptorIndex := 6, attributes := #[] }, { accessFlags := 16409, nameIndex := 30, descriptorIndex := 6, attributes := #[] }, { accessFlags := 18, nameIndex := 52, descriptorIndex := 53, attributes := #[] }, { accessFlags := 18, nameIndex := 56, descriptorIndex := 53, attributes := #[] }, { accessFlags := 18, nameIndex := 59, descriptorIndex := 53, attributes := #[] }, { accessFlags := 18, nameIndex := 62, descriptorIndex := 53, attributes := #[] }, { accessFlags := 4122, nameIndex := 33, descriptorIndex := 34, attributes := #[] }])
  fields := #[{ name := "METADATA", type := (.object "com/example/broker_access_control/brokeraccesscontrol/wire/Api"), accessFlags := 16409, slot := 0, constantValue := 0 }, { name := "SASL_HANDSHAKE", type := (.object "com/example/broker_access_control/brokeraccesscontrol/wire/Api"), accessFlags := 16409, slot := 1, constantValue := 0 }, { name := "API_VERSIONS", type := (.object "com/example/broker_access_control/brokeraccesscontrol/wire/Api"), accessFlags := 16409, slot := 2, constantValue := 0 }, { name := "DESCRIBE_ACLS", type := (.object "com/example/broker_access_control/brokeraccesscontrol/wire/Api"), accessFlags := 16409, slot := 3, constantValue := 0 }, { name := "CREATE_ACLS", type := (.object "com/example/broker_access_control/brokeraccesscontrol/wire/Api"), accessFlags := 16409, slot := 4, constantValue := 0 }, { name := "DELETE_ACLS", type := (.object "com/example/broker_access_control/brokeraccesscontrol/wire/Api"), accessFlags := 16409, slot := 5, constantValue := 0 }, { name := "SASL_AUTHENTICATE", type := (.object "com/example/broker_access_control/brokeraccesscontrol/wire/Api"), accessFlags := 16409, slot := 6, constantValue := 0 }, { name := "DESCRIBE_USER_SCRAM_CREDENTIALS", type := (.object "com/example/broker_access_control/brokeraccesscontrol/wire/Api"), accessFlags := 16409, slot := 7, constantValue := 0 }, { name := "ALTER_USER_SCRAM_CREDENTIALS", type := (.object "com/example/broker_access_control/brokeraccesscontrol/wire/Api"), accessFlags := 16409, slot := 8, constantValue := 0 }, { name := "key", type := .short, accessFlags := 18, slot := 3, constantValue := 0 }, { name := "lowest", type := .short, accessFlags := 18, slot := 4, constantValue := 0 }, { name := "highest", type := .short, accessFlags := 18, slot := 5, constantValue := 0 }, { name := "firstFlexible", type := .short, accessFlags := 18, slot := 6, constantValue := 0 }, { name := "$VALUES", type := (.array (.object "com/example/broker_access_control/brokeraccesscontrol/wire/Api")), accessFlags := 4122, slot := 9, constantValue := 0 }]
  methods := #[k6m0]
  instanceTypes := #[(.object "java/lang/String"), .int, .int, .short, .short, .short, .short]
  staticTypes := #[(.object "com/example/broker_access_control/brokeraccesscontrol/wire/Api"), (.object "com/example/broker_access_control/brokeraccesscontrol/wire/Api"), (.object "com/example/broker_access_control/brokeraccesscontrol/wire/Api"), (.object "com/example/broker_access_control/brokeraccesscontrol/wire/Api"), (.object "com/example/broker_access_control/brokeraccesscontrol/wire/Api"), (.object "com/example/broker_access_control/brokeraccesscontrol/wire/Api"), (.object "com/example/broker_access_control/brokeraccesscontrol/wire/Api"), (.object "com/example/broker_access_control/brokeraccesscontrol/wire/Api"), (.object "com/example/broker_access_control/brokeraccesscontrol/wire/Api"), (.array (.object "com/example/broker_access_control/brokeraccesscontrol/wire/Api"))]
  resolved := Array.replicate 126 none
  statics := some 0 }

def pool7 : Array CpInfo := pool [(1, u "java/lang/Cloneable"), (0, .class_ 1), (0, u "java/lang/Object"), (0, .class_ 3)] 3

/-- java/lang/Cloneable -/
def k7 : Class := { plain "java/lang/Cloneable" (some 0) with
  accessFlags := 1537
  interfaces := #[]
  cf := some (fileOf pool7 2 #[] #[] 1537 4 #[] #[])
  fields := #[]
  methods := #[]
  instanceTypes := #[]
  staticTypes := #[]
  resolved := Array.replicate 8 none
  statics := none }

/-- the primitive byte -/
def k8 : Class := { plain "byte" none with kind := .primitive 'B', accessFlags := 0x411 }
/-- [B -/
def k9 : Class := { plain "[B" (some 0) with kind := .array 8 .byte, interfaces := #[7, 4], accessFlags := 1041 }

/-- the primitive int -/
def k10 : Class := { plain "int" none with kind := .primitive 'I', accessFlags := 0x411 }
/-- [I -/
def k11 : Class := { plain "[I" (some 0) with kind := .array 10 .int, interfaces := #[7, 4], accessFlags := 1041 }

def heap : Heap := #[{ cls := 6, slots := #[.ref 1, .ref 2, .ref 3, .ref 4, .ref 5, .ref 6, .ref 7, .ref 8, .ref 9, .null], vm := .statics 6 },
  { cls := 6, slots := #[.null, .int 0, .int 0, .int 3, .int 0, .int 5, .int 0], vm := .none },
  { cls := 6, slots := #[.null, .int 1, .int 0, .int 17, .int 0, .int 1, .int 0], vm := .none },
  { cls := 6, slots := #[.null, .int 2, .int 0, .int 18, .int 0, .int 4, .int 0], vm := .none },
  { cls := 6, slots := #[.null, .int 3, .int 0, .int 29, .int 0, .int 3, .int 0], vm := .none },
  { cls := 6, slots := #[.null, .int 4, .int 0, .int 30, .int 0, .int 3, .int 0], vm := .none },
  { cls := 6, slots := #[.null, .int 5, .int 0, .int 31, .int 0, .int 3, .int 0], vm := .none },
  { cls := 6, slots := #[.null, .int 6, .int 0, .int 36, .int 0, .int 2, .int 0], vm := .none },
  { cls := 6, slots := #[.null, .int 7, .int 0, .int 50, .int 0, .int 0, .int 0], vm := .none },
  { cls := 6, slots := #[.null, .int 8, .int 0, .int 51, .int 0, .int 0, .int 0], vm := .none }]
def classes : Array Class := #[k0, k1, k2, k3, k4, k5, k6, k7, k8, k9, k10, k11]
def interned : List (Array UInt16 × Addr) := []
def slotsUsed : Nat := 73
def theMethod : MethodId := ⟨1, 1⟩
def args0 : Array Value := #[.int 5, .int 6, .int 7]
def aboutOver (below : List Frame) : State where
  vm := { classes := classes, interned := interned.toArray }
  heap := heap
  slotsUsed := slotsUsed
  threads := #[{ frames := .invoking theMethod args0 :: below }]
def below0 : List Frame := [.native { method := ⟨0, 0⟩, args := #[] }]
def about1 : State := aboutOver below0
def p0 : Program := .bare "" "" ""
def e0 : Env := launch0.env 0 0 0
theorem w_frames : about1.frames = Frame.invoking theMethod args0 :: below0 := rfl
set_option maxRecDepth 65536 in
theorem w_args : argsFit about1.vm theMethod args0 = true := by decide +kernel
set_option maxRecDepth 65536 in
theorem w_heap : heapFits about1 = true := by decide +kernel
set_option maxRecDepth 65536 in
theorem w_runnable : about1.curStatus? = some .runnable := by decide +kernel
set_option maxRecDepth 65536 in
theorem w_alone : about1.alone = true := by decide +kernel
set_option maxRecDepth 65536 in
theorem w_named : about1.methodNamed? x = some theMethod := by decide +kernel
set_option maxRecDepth 65536 in
theorem w_hears : about1.hears theMethod below0 = true := by decide +kernel
set_option maxRecDepth 65536 in
theorem w_ripe : about1.ripe theMethod args0 below0 = true := by decide +kernel
theorem w_running : about1.status = .running := rfl
set_option maxRecDepth 65536 in
theorem w_room : about1.hasRoom e0.platform room_1 = true :=
  launch0.hasRoom_least _ room_1 (by decide +kernel) (by decide +kernel) (by decide +kernel) (by decide +kernel) (by decide +kernel) (by decide +kernel)
theorem allAtoms_all (ts : List Jvm.Cond) (a : Array Jvm.Value) (st : Jvm.State) : (allAtoms ts).before a st = ts.all (fun c => c.before a st) := by
  induction ts with
  | nil => rfl
  | cons c t ih =>
    show (Jvm.Cond.and c (allAtoms t)).before a st = _
    rw [Jvm.Cond.before_and, ih, List.all_cons]
def words1 : List Jvm.Cond := Jvm.Cond.code x code maxLocals ret :: tables_1
/-- a 'code' word, met by the world's own term for the bytes: nothing is compared byte by byte -/
theorem code_word {y : MethodName} {bytes : ByteArray} {mx : Nat} {rt : Option FieldType} {a : Array Value} {s : State} {m : MethodId} {meth : Method} {c : Code} (h1 : s.methodNamed? y = some m) (h2 : s.vm.method? m = some meth) (h3 : meth.code = some c) (h4 : c.code = bytes)
    (h5 : (c.maxLocals == mx && c.exceptionTable.isEmpty && decide (c.maxStack ≤ mostOperands) && decide (meth.sig.returnType = rt) && !meth.locks && decide (parseMethodDescriptor y.desc = some meth.sig)) = true) : (Jvm.Cond.code y bytes mx rt).before a s = true := by
  simp only [Bool.and_eq_true, beq_iff_eq, Bool.not_eq_true', decide_eq_true_eq] at h5
  obtain ⟨⟨⟨⟨⟨g1, g2⟩, g3⟩, g4⟩, g5⟩, g6⟩ := h5
  simp [Cond.before, Cond.holds, Cond.value, h1, h2, h3, h4, g1, g2, g3, g4, g5, g6]
def isCode : Jvm.Cond → Bool
  | .code _ _ _ _ => true
  | _ => false
theorem all_split {L : List Jvm.Cond} {P : Jvm.Cond → Bool} (h1 : L.all (fun c => isCode c || P c) = true) (h2 : ∀ c ∈ L.filter isCode, P c = true) : L.all P = true := by
  refine List.all_eq_true.mpr fun c hc => ?_
  have h := List.all_eq_true.mp h1 c hc
  rcases Bool.eq_false_or_eq_true (isCode c) with hi | hi
  · exact h2 c (List.mem_filter.mpr ⟨hc, hi⟩)
  · simpa [hi] using h
set_option maxRecDepth 65536 in
theorem w_c0 : (Jvm.Cond.code x code maxLocals ret).before args0 about1 = true := code_word (m := ⟨1, 1⟩) (meth := k1m1) (c := k1c1) (by decide +kernel) rfl rfl rfl (by decide +kernel)
set_option maxRecDepth 65536 in
theorem w_c1 : (Jvm.Cond.code ({ cls := "com/example/broker_access_control/brokeraccesscontrol/wire/ApiServesPinLaw", name := "pick", desc := "(I)Lcom/example/broker_access_control/brokeraccesscontrol/wire/Api;" } : Jvm.MethodName) method_3_code (1 : Nat) (Option.some (Jvm.ClassFile.FieldType.object "com/example/broker_access_control/brokeraccesscontrol/wire/Api"))).before args0 about1 = true := code_word (m := ⟨1, 2⟩) (meth := k1m2) (c := k1c2) (by decide +kernel) rfl rfl rfl (by decide +kernel)
set_option maxRecDepth 65536 in
theorem w_c2 : (Jvm.Cond.code ({ cls := "com/example/broker_access_control/brokeraccesscontrol/wire/ApiServesPinLaw", name := "highest", desc := "(I)I" } : Jvm.MethodName) method_4_code (1 : Nat) (Option.some Jvm.ClassFile.FieldType.int)).before args0 about1 = true := code_word (m := ⟨1, 3⟩) (meth := k1m3) (c := k1c3) (by decide +kernel) rfl rfl rfl (by decide +kernel)
set_option maxRecDepth 65536 in
theorem w_c3 : (Jvm.Cond.code ({ cls := "com/example/broker_access_control/brokeraccesscontrol/wire/Api", name := "serves", desc := "(I)Z" } : Jvm.MethodName) prog_70_method_10_code (2 : Nat) (Option.some Jvm.ClassFile.FieldType.boolean)).before args0 about1 = true := code_word (m := ⟨6, 0⟩) (meth := k6m0) (c := k6c0) (by decide +kernel) rfl rfl rfl (by decide +kernel)
def codes1 : List Jvm.Cond := [Jvm.Cond.code x code maxLocals ret, Jvm.Cond.code ({ cls := "com/example/broker_access_control/brokeraccesscontrol/wire/ApiServesPinLaw", name := "pick", desc := "(I)Lcom/example/broker_access_control/brokeraccesscontrol/wire/Api;" } : Jvm.MethodName) method_3_code (1 : Nat) (Option.some (Jvm.ClassFile.FieldType.object "com/example/broker_access_control/brokeraccesscontrol/wire/Api")), Jvm.Cond.code ({ cls := "com/example/broker_access_control/brokeraccesscontrol/wire/ApiServesPinLaw", name := "highest", desc := "(I)I" } : Jvm.MethodName) method_4_code (1 : Nat) (Option.some Jvm.ClassFile.FieldType.int), Jvm.Cond.code ({ cls := "com/example/broker_access_control/brokeraccesscontrol/wire/Api", name := "serves", desc := "(I)Z" } : Jvm.MethodName) prog_70_method_10_code (2 : Nat) (Option.some Jvm.ClassFile.FieldType.boolean)]
set_option maxRecDepth 65536 in
theorem codes_eq : words1.filter isCode = codes1 := rfl
theorem w_codes : ∀ c ∈ words1.filter isCode, c.before args0 about1 = true := by
  rw [codes_eq]
  intro c hc
  simp only [codes1, List.mem_cons, List.not_mem_nil, or_false] at hc
  rcases hc with rfl | rfl | rfl | rfl
  · exact w_c0
  · exact w_c1
  · exact w_c2
  · exact w_c3
set_option maxRecDepth 65536 in
theorem w_t1 : (words1.take 24).all (fun c => isCode c || c.before args0 about1) = true := by decide +kernel
set_option maxRecDepth 65536 in
theorem w_t2 : (words1.drop 24).all (fun c => isCode c || c.before args0 about1) = true := by decide +kernel
theorem w_tables : (allAtoms (Jvm.Cond.code x code maxLocals ret :: tables_1)).before args0 about1 = true := by
  rw [allAtoms_all]
  show words1.all (fun c => c.before args0 about1) = true
  refine all_split ?_ w_codes
  rw [← List.take_append_drop 24 words1, List.all_append, w_t1, w_t2]
  rfl
set_option maxRecDepth 65536 in
theorem w_case : (Jvm.Cond.and given_1 narrow_1).before args0 about1 = true := by decide +kernel
theorem w_applies : (headSpec (Jvm.Cond.code x code maxLocals ret :: tables_1) room_1).applies x e0.platform about1 = true :=
  (Spec.applies_iff w_frames).mpr ⟨w_running, w_runnable, w_alone, w_named, w_hears, w_ripe, w_room, w_tables⟩
theorem atStart : AtStart classFile x code maxLocals ret World_1 tables_1 room_1 Calls_1 rest_1 Pre_1 launch0 p0 e0 about1 theMethod args0 below0 :=
  ⟨lists_1, trivial, launch0.admits_env _ _ _, launch0.least_env, fairChoices_fair.cas, fairChoices_fair.clock, w_frames, w_args, w_heap, w_applies, trivial, trivial, w_case⟩
end start1
theorem witness_1 : WitnessClaimed_1 := ⟨start1.p0, start1.e0, start1.about1, start1.theMethod, start1.args0, start1.below0, start1.atStart⟩
end Jvm.Pilot.@@N@@
