import JvmDerived
import JvmDerived.Pilot.@@N@@Statement
import JvmDerived.Pilot.@@N@@Code
set_option linter.unusedVariables false
set_option linter.unusedSimpArgs false
namespace Jvm.Pilot.@@N@@
open Jvm Jvm.ClassFile Sem Op Lib Jvm.Free Jvm.Stand Jvm.LawKit Jvm.RoadKit Bundle Jvm.Pilot.@@N@@.Jvm.D Jvm.Free.Fl
section Own
variable {p : Program} {l : Launch} {e : Env} {R : Room} {s : State} {m : MethodId} {args : Array Value} {below : List Frame} {meth : Method} {c : Code} {T : State} {locs : List Loc} {cells slots : Nat} {Z : State} {a0 : Array Value} {h : Heap} {G : Outcome → State → Prop}
/-- from S the body comes to its end, and the end is as asked -/
def Goes (p : Program) (e : Env) (below : List Frame) (G : Outcome → State → Prop) (S : State) : Prop :=
  ∃ s₂ o, Steps p.tables e below S s₂ ∧ s₂.status = .running ∧ Ended s₂ below o ∧ G o s₂
theorem own_go {S S' : State} (st : ∀ t, Steps p.tables e below S' t → Steps p.tables e below S t) (k : Goes p e below G S') : Goes p e below G S := by
  obtain ⟨s₂, o, h1, h2⟩ := k
  exact ⟨s₂, o, st _ h1, h2⟩
/-- what a contract says of the end -/
def EndsAs (Q : Option Value → Heap → List Loc → Prop) (s : State) (rc rs : Nat) (o : Outcome) (U : State) : Prop :=
  ∃ v L, o = .returned v ∧ Q v U.heap L ∧ FrameEnd s o U L rc rs
abbrev OwnMet (l : Launch) (Z : State) (y : MethodName) (bytes : ByteArray) (maxL : Nat) (ret : Option FieldType) (ws : List Jvm.Cond) (rm : Room) (as' : Array Value) (h : Heap) (Q : Option Value → Heap → List Loc → Prop) : Prop :=
  MetFree l y (head1 (Jvm.Cond.code y bytes maxL ret :: ws) rm) (fun a U => a = as' ∧ Z.Warmed39 U.vm ∧ U.heap = h) (fun _ _ _ _ _ => True) (fun _ U o U' => ∃ v L, o = .returned v ∧ Q v U'.heap L ∧ FrameEnd U o U' L rm.cells rm.slots)
theorem own_met {y : MethodName} {bytes : ByteArray} {maxL : Nat} {ret : Option FieldType} {ws : List Jvm.Cond} {rm : Room} {as' : Array Value} {h : Heap} {Q : Option Value → Heap → List Loc → Prop} {Ls : Array Slot}
    (hpn : plainFor y = true) (hef : ∀ m, entryFrame m as' maxL = mkF m 0 Ls [])
    (body : ∀ (p : Program) (e : Env) (s : State) (m : MethodId) (below : List Frame) (meth : Method) (c : Code) (s₁ : State), p.tables.exec = Jvm.exec → c.code = bytes → c.maxLocals = maxL → Z.Warmed39 s.vm → s.vm.findClass y.cls = some m.cls → meth.name = y.name → meth.sig.returnType = ret → meth.locks = false →
      Stand p l e rm s m as' below meth c s₁ [] 0 0 → s₁.heap = h → Goes p e below (EndsAs Q s rm.cells rm.slots) (s₁.setTop (mkF m 0 Ls []))) :
    OwnMet l Z y bytes maxL ret ws rm as' h Q := by
  refine MetFree.of_bodySF hpn hisR ?_
  intro p e s m args below meth c s₁ Bd hml0 hP hK
  obtain ⟨rfl, hZ, hh⟩ := hP
  obtain ⟨s₂, o, h1, h2, h3, h4⟩ := body p e s m below meth c s₁ Bd.exec Bd.bytes hml0 hZ (findClass_of_methodNamed Bd.named) (name_of_methodNamed Bd.named Bd.method).1 Bd.returns Bd.notSynchronized (Stand.of_body Bd) (by rw [← hh, Bd.state]; rfl)
  exact ⟨s₂, o, castTop (hef m) h1, h2, h3, h4⟩
theorem s_retI (X : Stand p l e R s m args below meth c T locs cells slots) (hx : p.tables.exec = Jvm.exec) (hlk : meth.locks = false) {Q : Option Value → Heap → List Loc → Prop} {pc rc rs : Nat} {Ls : Array Slot} {st : List Value} {t : FieldType} {w : Value} {i : Instr} (hret : meth.sig.returnType = some t)
    (hd : decode c.code pc = .ok (i, 1)) (hn : narrow t w = w) (hi : (i = .ireturn ∧ (t = .int ∨ t = .boolean ∨ t = .byte ∨ t = .char ∨ t = .short) ∧ ∃ z, w = .int z) ∨ (i = .lreturn ∧ t = .long ∧ ∃ z, w = .long z) ∨ (i = .dreturn ∧ t = .double ∧ ∃ z, w = .double z) ∨ (i = .freturn ∧ t = .float ∧ ∃ z, w = .float z) ∨ (i = .areturn ∧ t.isReference = true ∧ w.isRef = true))
    (hc : cells ≤ rc) (hs : slots ≤ rs) (hq : Q (some w) T.heap locs) : Goes p e below (EndsAs Q s rc rs) (T.setTop (mkF m pc Ls (w :: st))) := by
  obtain ⟨fs, hr, hrun, hended, hW, hsame⟩ := X.leave (v := some w) (fun h => by rw [hret] at h; cases h) hlk
  exact ⟨_, _, retOut X hx hret hn hi hd hr, hrun, hended, _, _, rfl, hq, ⟨_, rfl⟩, hW, hsame.mono hc hs⟩
theorem s_ret (X : Stand p l e R s m args below meth c T locs cells slots) (hx : p.tables.exec = Jvm.exec) (hlk : meth.locks = false) {Q : Option Value → Heap → List Loc → Prop} {pc rc rs : Nat} {Ls : Array Slot} (hret : meth.sig.returnType = none)
    (hd : decode c.code pc = .ok (.return_, 1)) (hc : cells ≤ rc) (hs : slots ≤ rs) (hq : Q none T.heap locs) : Goes p e below (EndsAs Q s rc rs) (T.setTop (mkF m pc Ls [])) := by
  obtain ⟨fs, hr, hrun, hended, hW, hsame⟩ := X.leave (v := none) (fun _ => rfl) hlk
  exact ⟨_, _, X.returnOut hx hret hd hr, hrun, hended, _, _, rfl, hq, ⟨_, rfl⟩, hW, hsame.mono hc hs⟩
theorem c_static (X : Stand p l e R s m args below meth c T locs cells slots) (hx : p.tables.exec = Jvm.exec) (hZ : Z.Warmed39 s.vm) {own : String} {index : Nat} {y : MethodName} (hown : s.vm.findClass own = some m.cls)
    {bytes : ByteArray} {maxL : Nat} {ret : Option FieldType} (w1 : (Jvm.Cond.methodLink own index y).before a0 Z = true) (w2 : (Jvm.Cond.static y).before a0 Z = true) (w3 : (Jvm.Cond.initialized y.cls).before a0 Z = true) (w4 : (Jvm.Cond.code y bytes maxL ret).before a0 Z = true) (hy : y.cls ≠ "java/lang/invoke/MethodHandle" ∧ y.cls ≠ "java/lang/invoke/VarHandle")
    {rm : Room} {as' : Array Value} {Q : Option Value → Heap → List Loc → Prop} (eT : T.heap = h) (hM : OwnMet l Z y bytes maxL ret [] rm as' h Q) {W : Nat} (hf : rm.frames + 1 ≤ R.frames) (hl : W + (maxL + 11) + rm.locals ≤ R.locals) (hc : cells + rm.cells ≤ R.cells) (hs : slots + rm.slots ≤ R.slots)
    {pc pc' : Nat} {Ls : Array Slot} {st : List Value} (hsize : Ls.size = c.maxLocals) {argsL rest : List Value} (hlen : ∀ sig, parseMethodDescriptor y.desc = some sig → argsL.length = sig.parameters.length) (has : argsL.toArray = as') (hst : st = argsL.reverse ++ rest) (hW : (rest.map fun v => v.category).sum ≤ W)
    (hd : decode c.code pc = .ok (.invokestatic index, 3)) (hp : pc + 3 = pc')
    (k : ∀ (T' : State) (v : Option Value) (L : List Loc), Stand p l e R s m args below meth c T' (locs ++ L) (cells + rm.cells) (slots + rm.slots) → Q v T'.heap L → Goes p e below G (T'.setTop (mkF m pc' Ls (v.toList ++ rest)))) :
    Goes p e below G (T.setTop (mkF m pc Ls st)) := by
  subst hp
  obtain ⟨v, _, ⟨T', L', k', n'⟩, -, X', ⟨Lc, hQ, l1, y1, z1⟩, stp⟩ := Jvm.LawKit.callS X hx (y := y) hown (mvT hZ w1) (mvT hZ w2) (mvT hZ w3) (mvT hZ w4) hy (backOf (W := W) hM hZ w4 w3 hf hl) (g := mkF m pc Ls st) rfl hsize (argsL := argsL) (rest := rest) hlen hst (by show 2 * 0 + _ ≤ _; omega) hd (fun _ _ => ⟨has, eT, hc, hs⟩)
  dsimp only [Pt.U, Pt.locs, Pt.cells, Pt.slots] at X' l1 y1 z1 stp hQ
  subst l1 y1 z1
  exact own_go stp (k T' v Lc X' hQ)
theorem c_special (X : Stand p l e R s m args below meth c T locs cells slots) (hx : p.tables.exec = Jvm.exec) (hZ : Z.Warmed39 s.vm) {own : String} {index : Nat} {y : MethodName} (hy1 : y.name = "<init>") (hown : s.vm.findClass own = some m.cls)
    {bytes : ByteArray} {maxL : Nat} (w1 : (Jvm.Cond.methodLink own index y).before a0 Z = true) (w2 : (Jvm.Cond.instanceMethod y).before a0 Z = true) (w3 : (Jvm.Cond.initialized y.cls).before a0 Z = true) (w4 : (Jvm.Cond.code y bytes maxL none).before a0 Z = true) (hy : y.cls ≠ "java/lang/invoke/MethodHandle" ∧ y.cls ≠ "java/lang/invoke/VarHandle")
    {rm : Room} {as' : Array Value} {Q : Option Value → Heap → List Loc → Prop} (eT : T.heap = h) (hM : OwnMet l Z y bytes maxL none [] rm as' h Q) {W : Nat} (hf : rm.frames + 1 ≤ R.frames) (hl : W + (maxL + 11) + rm.locals ≤ R.locals) (hc : cells + rm.cells ≤ R.cells) (hs : slots + rm.slots ≤ R.slots)
    {pc pc' : Nat} {Ls : Array Slot} {st : List Value} (hsize : Ls.size = c.maxLocals) {a : Addr} {argsL rest : List Value} (hlen : ∀ sig, parseMethodDescriptor y.desc = some sig → argsL.length = sig.parameters.length) (has : (.ref a :: argsL).toArray = as') (hst : st = argsL.reverse ++ .ref a :: rest) (hW : (rest.map fun v => v.category).sum ≤ W)
    (hd : decode c.code pc = .ok (.invokespecial index, 3)) (hp : pc + 3 = pc')
    (k : ∀ (T' : State) (v : Option Value) (L : List Loc), Stand p l e R s m args below meth c T' (locs ++ L) (cells + rm.cells) (slots + rm.slots) → Q v T'.heap L → Goes p e below G (T'.setTop (mkF m pc' Ls (v.toList ++ rest)))) :
    Goes p e below G (T.setTop (mkF m pc Ls st)) := by
  subst hp
  obtain ⟨v, _, ⟨T', L', k', n'⟩, -, X', ⟨Lc, hQ, l1, y1, z1⟩, stp⟩ := X.specialBack hx (y := y) hy1 hown (mvT hZ w1) (mvT hZ w2) (mvT hZ w4) hy (backOf (W := W) hM hZ w4 w3 hf hl) (g := mkF m pc Ls st) rfl hsize (Steps.refl _) (a := a) (argsL := argsL) (rest := rest) hlen hst (by show 2 * 0 + _ ≤ _; omega) hd (fun _ _ => ⟨has, eT, hc, hs⟩)
  dsimp only [Pt.U, Pt.locs, Pt.cells, Pt.slots] at X' l1 y1 z1 stp hQ
  subst l1 y1 z1
  exact own_go (fun _ q => stp.trans q) (k T' v Lc X' hQ)
theorem c_virtual (X : Stand p l e R s m args below meth c T locs cells slots) (hx : p.tables.exec = Jvm.exec) (hZ : Z.Warmed39 s.vm) {own C : String} {index : Nat} {y : MethodName} (hown : s.vm.findClass own = some m.cls)
    {bytes : ByteArray} {maxL : Nat} {ret : Option FieldType} (w1 : (Jvm.Cond.methodLink own index y).before a0 Z = true) (w2 : (Jvm.Cond.declares y).before a0 Z = true) (w5 : (Jvm.Cond.selects C y y).before a0 Z = true) (w6 : (Jvm.Cond.instanceMethod y).before a0 Z = true) (w3 : (Jvm.Cond.initialized y.cls).before a0 Z = true) (w4 : (Jvm.Cond.code y bytes maxL ret).before a0 Z = true) (hy : y.cls ≠ "java/lang/invoke/MethodHandle" ∧ y.cls ≠ "java/lang/invoke/VarHandle")
    {rm : Room} {as' : Array Value} {Q : Option Value → Heap → List Loc → Prop} (eT : T.heap = h) {a : Addr} (E : Exa Z h a C) (hM : OwnMet l Z y bytes maxL ret [] rm as' h Q) {W : Nat} (hf : rm.frames + 1 ≤ R.frames) (hl : W + (maxL + 11) + rm.locals ≤ R.locals) (hc : cells + rm.cells ≤ R.cells) (hs : slots + rm.slots ≤ R.slots)
    {pc pc' : Nat} {Ls : Array Slot} {st : List Value} (hsize : Ls.size = c.maxLocals) {argsL rest : List Value} (hlen : ∀ sig, parseMethodDescriptor y.desc = some sig → argsL.length = sig.parameters.length) (has : (.ref a :: argsL).toArray = as') (hst : st = argsL.reverse ++ .ref a :: rest) (hW : (rest.map fun v => v.category).sum ≤ W)
    (hd : decode c.code pc = .ok (.invokevirtual index, 3)) (hp : pc + 3 = pc')
    (k : ∀ (T' : State) (v : Option Value) (L : List Loc), Stand p l e R s m args below meth c T' (locs ++ L) (cells + rm.cells) (slots + rm.slots) → Q v T'.heap L → Goes p e below G (T'.setTop (mkF m pc' Ls (v.toList ++ rest)))) :
    Goes p e below G (T.setTop (mkF m pc Ls st)) := by
  subst hp
  obtain ⟨cq, kq, qa, qb, qc⟩ := isOf hZ eT E
  obtain ⟨v, _, ⟨T', L', k', n'⟩, -, X', ⟨Lc, hQ, l1, y1, z1⟩, stp⟩ := X.virtualBack hx (y := y) (z := y) hown (mvT hZ w1) (mvT hZ w2) (notFace_of_selects (args := #[]) (mvT hZ w5)) (mvT hZ w5) (mvT hZ w6) hy (backOf (W := W) hM hZ w4 w3 hf hl) qa qc (g := mkF m pc Ls st) rfl hsize (Steps.refl _) (argsL := argsL) (rest := rest) hlen hst (by show 2 * 0 + _ ≤ _; omega) hd (fun _ _ => ⟨has, eT, hc, hs⟩)
  dsimp only [Pt.U, Pt.locs, Pt.cells, Pt.slots] at X' l1 y1 z1 stp hQ
  subst l1 y1 z1
  exact own_go (fun _ q => stp.trans q) (k T' v Lc X' hQ)
theorem s_new (X : Stand p l e R s m args below meth c T locs cells slots) (hx : p.tables.exec = Jvm.exec) (hZ : Z.Warmed39 s.vm) {own C : String} {index n : Nat} (hown : s.vm.findClass own = some m.cls) (w : (Jvm.Cond.classLink own index C).before a0 Z = true) (wi : (Jvm.Cond.instantiable C n).before a0 Z = true) (wz : (Jvm.Cond.initialized C).before a0 Z = true) (eT : T.heap = h)
    {pc pc' : Nat} {Ls : Array Slot} {st : List Value} (hd : decode c.code pc = .ok (.new index, 3)) (hp : pc + 3 = pc') (hc : cells + 1 ≤ R.cells) (hl : slots + n ≤ R.slots)
    (k : ∀ (T' : State) (h' : Heap) (a : Addr), Stand p l e R s m args below meth c T' locs (cells + 1) (slots + n) → T'.heap = h' → Ext h h' → a = h.size → Exa Z h' a C → (∀ {O nm d : String} {ty : FieldType}, Laid Z a0 C O nm d → parseFieldDescriptor d = some ty → Fld Z h' a O nm d (defaultValue ty)) → Goes p e below G (T'.setTop (mkF m pc' Ls (.ref a :: st)))) :
    Goes p e below G (T.setTop (mkF m pc Ls st)) := by
  subst hp
  obtain ⟨T', h', X', e', E, A, D, -, stp⟩ := newO X hx hZ hown w wi wz eT (g := mkF m pc Ls st) rfl hd hc hl
  exact own_go stp (k T' h' _ X' e' E rfl A D)
theorem s_initO (X : Stand p l e R s m args below meth c T locs cells slots) (hx : p.tables.exec = Jvm.exec) (hZ : Z.Warmed39 s.vm) {own : String} {index : Nat} (hown : s.vm.findClass own = some m.cls) (w1 : (Jvm.Cond.methodLink own index Lib.objectInit).before a0 Z = true) (w2 : (Jvm.Cond.instanceMethod Lib.objectInit).before a0 Z = true)
    (w3 : (Jvm.Cond.code Lib.objectInit ⟨#[0xb1]⟩ 1 none).before a0 Z = true) (eT : T.heap = h) {pc pc' : Nat} {Ls : Array Slot} {st : List Value} {a : Addr} (hd : decode c.code pc = .ok (.invokespecial index, 3)) (hp : pc + 3 = pc') (hsize : Ls.size = c.maxLocals)
    (hf : 1 ≤ R.frames) {W : Nat} (hW : (st.map fun v => v.category).sum ≤ W) (hl : W + 12 ≤ R.locals)
    (k : ∀ T' : State, Stand p l e R s m args below meth c T' locs cells slots → T'.heap = h → Goes p e below G (T'.setTop (mkF m pc' Ls st))) :
    Goes p e below G (T.setTop (mkF m pc Ls (.ref a :: st))) := by
  subst hp
  obtain ⟨T', X', e', stp⟩ := initO X hx hZ hown w1 w2 w3 eT (g := mkF m pc Ls (.ref a :: st)) rfl hsize rfl hd hf (W := W) (by show 2 * 0 + _ ≤ _; omega) hl
  exact own_go stp (k T' X' e')
theorem s_getF (X : Stand p l e R s m args below meth c T locs cells slots) (hx : p.tables.exec = Jvm.exec) (hZ : Z.Warmed39 s.vm) {own O n d : String} {index : Nat} (hown : s.vm.findClass own = some m.cls) (w : (Jvm.Cond.fieldLink own index O n d).before a0 Z = true)
    (eT : T.heap = h) {a : Addr} {v : Value} (F : Fld Z h a O n d v) {pc pc' : Nat} {Ls : Array Slot} {st : List Value} (hd : decode c.code pc = .ok (.getfield index, 3)) (hp : pc + 3 = pc')
    (k : ∀ T' : State, Stand p l e R s m args below meth c T' locs cells slots → T'.heap = h → Goes p e below G (T'.setTop (mkF m pc' Ls (v :: st)))) :
    Goes p e below G (T.setTop (mkF m pc Ls (.ref a :: st))) := by
  subst hp
  obtain ⟨T', X', e', stp⟩ := getF X hx hZ hown (host := "") (Or.inl w) Via.refl eT F (g := mkF m pc Ls (.ref a :: st)) rfl rfl hd
  exact own_go stp (k T' X' e')
theorem s_getS (X : Stand p l e R s m args below meth c T locs cells slots) (hx : p.tables.exec = Jvm.exec) (hZ : Z.Warmed39 s.vm) {own O n d : String} {index : Nat} (hown : s.vm.findClass own = some m.cls) (w : (Jvm.Cond.fieldLink own index O n d).before a0 Z = true)
    (eT : T.heap = h) {v : Value} (F : Sta Z h O n d v) {pc pc' : Nat} {Ls : Array Slot} {st : List Value} (hd : decode c.code pc = .ok (.getstatic index, 3)) (hp : pc + 3 = pc')
    (k : ∀ T' : State, Stand p l e R s m args below meth c T' locs cells slots → T'.heap = h → Goes p e below G (T'.setTop (mkF m pc' Ls (v :: st)))) :
    Goes p e below G (T.setTop (mkF m pc Ls st)) := by
  subst hp
  obtain ⟨T', X', e', stp⟩ := getS X hx hZ hown (host := "") w Via.refl eT F (g := mkF m pc Ls st) rfl hd
  exact own_go stp (k T' X' e')
theorem s_instY (X : Stand p l e R s m args below meth c T locs cells slots) (hx : p.tables.exec = Jvm.exec) (hZ : Z.Warmed39 s.vm) {own K : String} {index : Nat} (hown : s.vm.findClass own = some m.cls) (w : (Jvm.Cond.classLink own index K).before a0 Z = true)
    (eT : T.heap = h) {a : Addr} (F : Ins Z h a K true) {pc pc' : Nat} {Ls : Array Slot} {st : List Value} (hd : decode c.code pc = .ok (.instanceof index, 3)) (hp : pc + 3 = pc')
    (k : ∀ T' : State, Stand p l e R s m args below meth c T' locs cells slots → T'.heap = h → Goes p e below G (T'.setTop (mkF m pc' Ls (.int 1 :: st)))) :
    Goes p e below G (T.setTop (mkF m pc Ls (.ref a :: st))) := by
  subst hp
  obtain ⟨T', X', e', stp⟩ := instY X hx hZ hown w eT F (g := mkF m pc Ls (.ref a :: st)) rfl rfl hd
  exact own_go stp (k T' X' e')
theorem s_castY (X : Stand p l e R s m args below meth c T locs cells slots) (hx : p.tables.exec = Jvm.exec) (hZ : Z.Warmed39 s.vm) {own K : String} {index : Nat} (hown : s.vm.findClass own = some m.cls) (w : (Jvm.Cond.classLink own index K).before a0 Z = true)
    (eT : T.heap = h) {a : Addr} (F : Ins Z h a K true) {pc pc' : Nat} {Ls : Array Slot} {st : List Value} (hd : decode c.code pc = .ok (.checkcast index, 3)) (hp : pc + 3 = pc')
    (k : ∀ T' : State, Stand p l e R s m args below meth c T' locs cells slots → T'.heap = h → Goes p e below G (T'.setTop (mkF m pc' Ls (.ref a :: st)))) :
    Goes p e below G (T.setTop (mkF m pc Ls (.ref a :: st))) := by
  subst hp
  obtain ⟨T', X', e', stp⟩ := castY X hx hZ hown w eT F (g := mkF m pc Ls (.ref a :: st)) rfl rfl hd
  exact own_go stp (k T' X' e')
theorem s_putF (X : Stand p l e R s m args below meth c T locs cells slots) (hx : p.tables.exec = Jvm.exec) (hZ : Z.Warmed39 s.vm) {own O n d C : String} {index kk : Nat} {ty : FieldType} (hown : s.vm.findClass own = some m.cls) (w : (Jvm.Cond.fieldLink own index O n d).before a0 Z = true)
    (eT : T.heap = h) {a : Addr} {v old : Value} (F : Fld Z h a O n d old) (E : Exa Z h a C) (L : (Jvm.Cond.lays C O n d).before a0 Z = true ∨ ((Jvm.Cond.laysFinal C O n d).before a0 Z = true ∧ own = O ∧ meth.name = "<init>")) (wi : (Jvm.Cond.instantiable C kk).before a0 Z = true)
    (hty : parseFieldDescriptor d = some ty) (hn : narrow ty v = v) (hf : fits ty v = true) {pc pc' : Nat} {Ls : Array Slot} {st : List Value} (hd : decode c.code pc = .ok (.putfield index, 3)) (hp : pc + 3 = pc')
    (k : ∀ (T' : State) (h' : Heap), Stand p l e R s m args below meth c T' (locs ++ [⟨a, Jvm.RoadKit.slotOf Z O n d⟩]) cells slots → T'.heap = h' → Wr h h' a (Jvm.RoadKit.slotOf Z O n d) v → Goes p e below G (T'.setTop (mkF m pc' Ls st))) :
    Goes p e below G (T.setTop (mkF m pc Ls (v :: .ref a :: st))) := by
  subst hp
  obtain ⟨T', h', X', e', W, stp⟩ := putF X hx hZ hown (host := "") (Or.inl w) Via.refl eT F E L wi hty hn hf (g := mkF m pc Ls (v :: .ref a :: st)) rfl rfl hd
  exact own_go stp (k T' h' X' e' W)
theorem s_newP (X : Stand p l e R s m args below meth c T locs cells slots) (hx : p.tables.exec = Jvm.exec) (hZ : Z.Warmed39 s.vm) {aty : ArrayType} (w : (Jvm.Cond.arrayClass (newarray.typeOf aty)).before a0 Z = true) (eT : T.heap = h)
    {pc pc' : Nat} {Ls : Array Slot} {st : List Value} {n : Int32} (hd : decode c.code pc = .ok (.newarray aty, 2)) (hp : pc + 2 = pc') (hn : ¬ n < 0) (cap : Nat) (hcap : n.toNatClampNeg ≤ cap) (hb : cap * 8 ≤ 536870912) (hc : cells + 1 ≤ R.cells) (hl : slots + cap ≤ R.slots)
    {ad : String} (had : "[" ++ (newarray.typeOf aty).toString = ad)
    (k : ∀ (T' : State) (h' : Heap) (cA : ClassId) (a : Addr), Stand p l e R s m args below meth c T' locs (cells + 1) (slots + cap) → T'.heap = h' → Ext h h' → a = h.size → Arv Z h' a cA (newarray.typeOf aty) n [] (defaultValue (newarray.typeOf aty)) → Exa Z h' a ad → Goes p e below G (T'.setTop (mkF m pc' Ls (.ref a :: st)))) :
    Goes p e below G (T.setTop (mkF m pc Ls (.int n :: st))) := by
  subst hp
  obtain ⟨T', h', cA, X', e', E, A, Ex, stp⟩ := newPE X hx hZ w eT (g := mkF m pc Ls (.int n :: st)) rfl hd rfl hn hcap hb hc hl had
  exact own_go stp (k T' h' cA _ X' e' E rfl (Arv.new A hn) Ex)
theorem s_len (X : Stand p l e R s m args below meth c T locs cells slots) (hx : p.tables.exec = Jvm.exec) (hZ : Z.Warmed39 s.vm) (eT : T.heap = h) {a : Addr} {kk : ClassId} {ty : FieldType} {z : Int32} {vs : List Value} {dv : Value} (F : Arv Z h a kk ty z vs dv)
    {pc pc' : Nat} {Ls : Array Slot} {st : List Value} (hd : decode c.code pc = .ok (.arraylength, 1)) (hp : pc + 1 = pc')
    (k : Goes p e below G (T.setTop (mkF m pc' Ls (.int z :: st)))) : Goes p e below G (T.setTop (mkF m pc Ls (.ref a :: st))) := by
  subst hp
  obtain ⟨cl, A, q1, S, q3, H, K⟩ := F
  refine own_go (fun t q => X.arraylength hx (by rw [eT]; exact A.1) (State.isArrayOf_alike hZ.alike A.2.1) (g := mkF m pc Ls (.ref a :: st)) rfl rfl hd t ?_) k
  rw [len_of S q3]; exact q
theorem own_fitD {v : Value} (h : fits .double v = true) : ∃ x, v = .double x := fit_D h
theorem s_daload (X : Stand p l e R s m args below meth c T locs cells slots) (hx : p.tables.exec = Jvm.exec) (hZ : Z.Warmed39 s.vm) (eT : T.heap = h) {a : Addr} {kk : ClassId} {z j : Int32} {vs : List Value} {dv : Value} (F : Arv Z h a kk .double z vs dv) (hj : ¬ j < 0 ∧ j < z) {v : Value} (hv : vs.getD j.toNatClampNeg dv = v)
    {pc pc' : Nat} {Ls : Array Slot} {st : List Value} (hd : decode c.code pc = .ok (.daload, 1)) (hp : pc + 1 = pc')
    (k : Goes p e below G (T.setTop (mkF m pc' Ls (v :: st)))) : Goes p e below G (T.setTop (mkF m pc Ls (.int j :: .ref a :: st))) := by
  subst hp
  obtain ⟨cl, A, q1, S, q3, H, K⟩ := F
  exact own_go (fun t q => X.daload hx (by rw [eT]; exact A.1) (State.isArrayOf_alike hZ.alike A.2.1) A.2.2 (inb_of S hj) (H.at (inb_of S hj) hv) (g := mkF m pc Ls (.int j :: .ref a :: st)) rfl rfl hd t q) k
theorem s_laload (X : Stand p l e R s m args below meth c T locs cells slots) (hx : p.tables.exec = Jvm.exec) (hZ : Z.Warmed39 s.vm) (eT : T.heap = h) {a : Addr} {kk : ClassId} {z j : Int32} {vs : List Value} {dv : Value} (F : Arv Z h a kk .long z vs dv) (hj : ¬ j < 0 ∧ j < z) {v : Value} (hv : vs.getD j.toNatClampNeg dv = v)
    {pc pc' : Nat} {Ls : Array Slot} {st : List Value} (hd : decode c.code pc = .ok (.laload, 1)) (hp : pc + 1 = pc')
    (k : Goes p e below G (T.setTop (mkF m pc' Ls (v :: st)))) : Goes p e below G (T.setTop (mkF m pc Ls (.int j :: .ref a :: st))) := by
  subst hp
  obtain ⟨cl, A, q1, S, q3, H, K⟩ := F
  exact own_go (fun t q => X.laload hx (by rw [eT]; exact A.1) (State.isArrayOf_alike hZ.alike A.2.1) A.2.2 (inb_of S hj) (H.at (inb_of S hj) hv) (g := mkF m pc Ls (.int j :: .ref a :: st)) rfl rfl hd t q) k
theorem s_iaload (X : Stand p l e R s m args below meth c T locs cells slots) (hx : p.tables.exec = Jvm.exec) (hZ : Z.Warmed39 s.vm) (eT : T.heap = h) {a : Addr} {kk : ClassId} {z j : Int32} {vs : List Value} {dv : Value} (F : Arv Z h a kk .int z vs dv) (hj : ¬ j < 0 ∧ j < z) {v : Value} (hv : vs.getD j.toNatClampNeg dv = v)
    {pc pc' : Nat} {Ls : Array Slot} {st : List Value} (hd : decode c.code pc = .ok (.iaload, 1)) (hp : pc + 1 = pc')
    (k : Goes p e below G (T.setTop (mkF m pc' Ls (v :: st)))) : Goes p e below G (T.setTop (mkF m pc Ls (.int j :: .ref a :: st))) := by
  subst hp
  obtain ⟨cl, A, q1, S, q3, H, K⟩ := F
  exact own_go (fun t q => X.iaload hx (by rw [eT]; exact A.1) (State.isArrayOf_alike hZ.alike A.2.1) A.2.2 (inb_of S hj) (H.at (inb_of S hj) hv) (g := mkF m pc Ls (.int j :: .ref a :: st)) rfl rfl hd t q) k
theorem s_aaload (X : Stand p l e R s m args below meth c T locs cells slots) (hx : p.tables.exec = Jvm.exec) (hZ : Z.Warmed39 s.vm) (eT : T.heap = h) {a : Addr} {kk : ClassId} {ty : FieldType} {z j : Int32} {vs : List Value} {dv : Value} (F : Arv Z h a kk ty z vs dv) (hty : ty.isReference = true) (hj : ¬ j < 0 ∧ j < z) {v : Value} (hv : vs.getD j.toNatClampNeg dv = v)
    {pc pc' : Nat} {Ls : Array Slot} {st : List Value} (hd : decode c.code pc = .ok (.aaload, 1)) (hp : pc + 1 = pc')
    (k : Goes p e below G (T.setTop (mkF m pc' Ls (v :: st)))) : Goes p e below G (T.setTop (mkF m pc Ls (.int j :: .ref a :: st))) := by
  subst hp
  obtain ⟨cl, A, q1, S, q3, H, K⟩ := F
  exact own_go (fun t q => X.aaload hx (by rw [eT]; exact A.1) (State.isArrayOf_alike hZ.alike A.2.1) hty A.2.2 (inb_of S hj) (H.at (inb_of S hj) hv) (g := mkF m pc Ls (.int j :: .ref a :: st)) rfl rfl hd t q) k
theorem s_dastore (X : Stand p l e R s m args below meth c T locs cells slots) (hx : p.tables.exec = Jvm.exec) (hZ : Z.Warmed39 s.vm) (eT : T.heap = h) {a : Addr} {kk : ClassId} {z j : Int32} {vs : List Value} {dv : Value} (F : Arv Z h a kk .double z vs dv) (hj : ¬ j < 0 ∧ j < z) (i : Nat) (hi : j.toNatClampNeg = i) (hl : i < vs.length) {x : UInt64}
    {pc pc' : Nat} {Ls : Array Slot} {st : List Value} (hd : decode c.code pc = .ok (.dastore, 1)) (hp : pc + 1 = pc')
    (k : ∀ (T' : State) (h' : Heap), Stand p l e R s m args below meth c T' (locs ++ [⟨a, j.toNatClampNeg⟩]) cells slots → T'.heap = h' → Wr h h' a j.toNatClampNeg (.double x) → Arv Z h' a kk .double z (vs.set i (.double x)) dv → Goes p e below G (T'.setTop (mkF m pc' Ls st))) :
    Goes p e below G (T.setTop (mkF m pc Ls (.double x :: .int j :: .ref a :: st))) := by
  subst hp
  obtain ⟨cl, A, q1, S, q3, H, K⟩ := F
  obtain ⟨T', h', X', e', W, stp⟩ := stD X hx hZ eT A (inb_of S hj) (g := mkF m pc Ls (.double x :: .int j :: .ref a :: st)) rfl rfl hd
  exact own_go stp (k T' h' X' e' W (Arv.set A q1 S q3 H K rfl W i hi hl))
theorem s_lastore (X : Stand p l e R s m args below meth c T locs cells slots) (hx : p.tables.exec = Jvm.exec) (hZ : Z.Warmed39 s.vm) (eT : T.heap = h) {a : Addr} {kk : ClassId} {z j : Int32} {vs : List Value} {dv : Value} (F : Arv Z h a kk .long z vs dv) (hj : ¬ j < 0 ∧ j < z) (i : Nat) (hi : j.toNatClampNeg = i) (hl : i < vs.length) {x : Int64}
    {pc pc' : Nat} {Ls : Array Slot} {st : List Value} (hd : decode c.code pc = .ok (.lastore, 1)) (hp : pc + 1 = pc')
    (k : ∀ (T' : State) (h' : Heap), Stand p l e R s m args below meth c T' (locs ++ [⟨a, j.toNatClampNeg⟩]) cells slots → T'.heap = h' → Wr h h' a j.toNatClampNeg (.long x) → Arv Z h' a kk .long z (vs.set i (.long x)) dv → Goes p e below G (T'.setTop (mkF m pc' Ls st))) :
    Goes p e below G (T.setTop (mkF m pc Ls (.long x :: .int j :: .ref a :: st))) := by
  subst hp
  obtain ⟨cl, A, q1, S, q3, H, K⟩ := F
  obtain ⟨T', h', X', e', W, stp⟩ := stJ X hx hZ eT A (inb_of S hj) (g := mkF m pc Ls (.long x :: .int j :: .ref a :: st)) rfl rfl hd
  exact own_go stp (k T' h' X' e' W (Arv.set A q1 S q3 H K rfl W i hi hl))
theorem s_clone (X : Stand p l e R s m args below meth c T locs cells slots) (hx : p.tables.exec = Jvm.exec) (hZ : Z.Warmed39 s.vm) {own ad : String} {index : Nat} (hown : s.vm.findClass own = some m.cls)
    (w1 : (Jvm.Cond.methodLink own index ⟨ad, "clone", "()Ljava/lang/Object;"⟩).before a0 Z = true) (w2 : (Jvm.Cond.sameMethod ad "java/lang/Object" "clone" "()Ljava/lang/Object;").before a0 Z = true) (w3 : (Jvm.Cond.native ⟨"java/lang/Object", "clone", "()Ljava/lang/Object;"⟩).before a0 Z = true)
    (w4 : (Jvm.Cond.instanceMethod ⟨"java/lang/Object", "clone", "()Ljava/lang/Object;"⟩).before a0 Z = true) (w5 : (Jvm.Cond.selects ad ⟨ad, "clone", "()Ljava/lang/Object;"⟩ ⟨"java/lang/Object", "clone", "()Ljava/lang/Object;"⟩).before a0 Z = true) (w6 : (Jvm.Cond.castable ad "java/lang/Cloneable").before a0 Z = true)
    (eT : T.heap = h) {a : Addr} {kk : ClassId} {ty : FieldType} {z : Int32} {vs : List Value} {dv : Value} (F : Arv Z h a kk ty z vs dv) (E : Exa Z h a ad) {pc pc' : Nat} {Ls : Array Slot} {st : List Value} (hd : decode c.code pc = .ok (.invokevirtual index, 3)) (hp : pc + 3 = pc') (hsize : Ls.size = c.maxLocals)
    (hf : 1 ≤ R.frames) {W : Nat} (hW : (st.map fun v => v.category).sum ≤ W) (hl : W + 14 ≤ R.locals) (cap : Nat) (hcap : z.toNatClampNeg ≤ cap) (hc : cells + 1 ≤ R.cells) (hsl : slots + cap ≤ R.slots)
    (k : ∀ (T' : State) (h' : Heap) (b : Addr), Stand p l e R s m args below meth c T' locs (cells + 1) (slots + cap) → T'.heap = h' → Ext h h' → b = h.size → Arv Z h' b kk ty z vs dv → Exa Z h' b ad → Goes p e below G (T'.setTop (mkF m pc' Ls (.ref b :: st)))) :
    Goes p e below G (T.setTop (mkF m pc Ls (.ref a :: st))) := by
  subst hp
  obtain ⟨T', h', X', e', E', F', Ex, stp⟩ := cloneH X hx hZ hown w1 w2 w3 w4 w5 w6 eT F.arh E (g := mkF m pc Ls (.ref a :: st)) rfl hsize rfl hd hf (W := W) (by show 2 * 0 + _ ≤ _; omega) hl hcap hc hsl
  exact own_go stp (k T' h' _ X' e' E' rfl F' Ex)
theorem s_copy (X : Stand p l e R s m args below meth c T locs cells slots) (hx : p.tables.exec = Jvm.exec) (hZ : Z.Warmed39 s.vm) {own : String} {index : Nat} (hown : s.vm.findClass own = some m.cls)
    (w1 : (Jvm.Cond.methodLink own index Jvm.Stand.acN).before a0 Z = true) (w2 : (Jvm.Cond.native Jvm.Stand.acN).before a0 Z = true) (w3 : (Jvm.Cond.static Jvm.Stand.acN).before a0 Z = true) (w4 : (Jvm.Cond.initialized "java/lang/System").before a0 Z = true) (eT : T.heap = h)
    {a b : Addr} {ka kb : ClassId} {ty : FieldType} {z z' sp dp nn : Int32} {vs vd us : List Value} {dv dd : Value} (A : Arv Z h a ka ty z vs dv) (B : Arv Z h b kb ty z' vd dd) (hty : refKind ty = false)
    (h1 : ¬ sp < 0) (h2 : ¬ dp < 0) (h3 : ¬ nn < 0) (h4 : sp.toNatClampNeg + nn.toNatClampNeg ≤ z.toNatClampNeg) (h5 : dp.toNatClampNeg + nn.toNatClampNeg ≤ z'.toNatClampNeg)
    (hus : us = (List.range nn.toNatClampNeg).map fun i => vs.getD (sp.toNatClampNeg + i) dv) (hl : dp.toNatClampNeg + nn.toNatClampNeg ≤ vd.length) {n0 : Nat} (N : Fr n0 locs) (ge : n0 ≤ b)
    {pc pc' : Nat} {Ls : Array Slot} {st : List Value} (hd : decode c.code pc = .ok (.invokestatic index, 3)) (hp : pc + 3 = pc') (hsize : Ls.size = c.maxLocals)
    (hf : 1 ≤ R.frames) {W : Nat} (hW : (st.map fun v => v.category).sum ≤ W) (hlo : W + (nativeFrameWords "java/lang/System" "arraycopy" 5 + 11) ≤ R.locals)
    (k : ∀ (T' : State) (h' : Heap) (L : List Loc), Stand p l e R s m args below meth c T' L cells slots → T'.heap = h' → Fr n0 L → Keep h h' [b] → Arv Z h' b kb ty z' (vd.take dp.toNatClampNeg ++ us ++ vd.drop (dp.toNatClampNeg + nn.toNatClampNeg)) dd → Goes p e below G (T'.setTop (mkF m pc' Ls st))) :
    Goes p e below G (T.setTop (mkF m pc Ls (.int nn :: .int dp :: .ref b :: .int sp :: .ref a :: st))) := by
  subst hp
  obtain ⟨T', h', L, X', e', N', K, B', stp⟩ := cpA X hx hZ hown w1 w2 w3 w4 eT A B (Or.inl ⟨rfl, hty⟩) h1 h2 h3 h4 h5 hus hl N ge (g := mkF m pc Ls (.int nn :: .int dp :: .ref b :: .int sp :: .ref a :: st)) rfl hsize rfl hd hf (W := W) (by show 2 * 0 + _ ≤ _; omega) hlo
  exact own_go stp (k T' h' L X' e' N' K B')
theorem s_iload (X : Stand p l e R s m args below meth c T locs cells slots) (hx : p.tables.exec = Jvm.exec) {pc pc' : Nat} {Ls : Array Slot} {st : List Value} {j : Nat} {v : Int32} (hd : decode c.code pc = .ok (.iload j, 2)) (hp : pc + 2 = pc') (hl : Ls[j]? = some (.val (.int v)))
    (k : Goes p e below G (T.setTop (mkF m pc' Ls (.int v :: st)))) : Goes p e below G (T.setTop (mkF m pc Ls (st))) := by
  subst hp
  exact own_go (fun _ k => XS.iload X.here hx rfl hd hl k) k
theorem s_iloadN (X : Stand p l e R s m args below meth c T locs cells slots) (hx : p.tables.exec = Jvm.exec) {pc pc' : Nat} {Ls : Array Slot} {st : List Value} {j : Fin 4} {v : Int32} (hd : decode c.code pc = .ok (.iload_n j, 1)) (hp : pc + 1 = pc') (hl : Ls[j.val]? = some (.val (.int v)))
    (k : Goes p e below G (T.setTop (mkF m pc' Ls (.int v :: st)))) : Goes p e below G (T.setTop (mkF m pc Ls (st))) := by
  subst hp
  exact own_go (fun _ k => XS.iloadN X.here hx rfl hd hl k) k
theorem s_istore (X : Stand p l e R s m args below meth c T locs cells slots) (hx : p.tables.exec = Jvm.exec) {pc pc' : Nat} {Ls : Array Slot} {st : List Value} {j : Nat} {v : Int32} (l' : Array Slot) (hd : decode c.code pc = .ok (.istore j, 2)) (hp : pc + 2 = pc') (hl : storeLocals Ls j (.int v) = some l')
    (k : Goes p e below G (T.setTop (mkF m pc' l' (st)))) : Goes p e below G (T.setTop (mkF m pc Ls (.int v :: st))) := by
  subst hp
  exact own_go (fun _ k => XS.istore X.here hx rfl hd rfl hl k) k
theorem s_istoreN (X : Stand p l e R s m args below meth c T locs cells slots) (hx : p.tables.exec = Jvm.exec) {pc pc' : Nat} {Ls : Array Slot} {st : List Value} {j : Fin 4} {v : Int32} (l' : Array Slot) (hd : decode c.code pc = .ok (.istore_n j, 1)) (hp : pc + 1 = pc') (hl : storeLocals Ls j.val (.int v) = some l')
    (k : Goes p e below G (T.setTop (mkF m pc' l' (st)))) : Goes p e below G (T.setTop (mkF m pc Ls (.int v :: st))) := by
  subst hp
  exact own_go (fun _ k => XS.istoreN X.here hx rfl hd rfl hl k) k
theorem s_lload (X : Stand p l e R s m args below meth c T locs cells slots) (hx : p.tables.exec = Jvm.exec) {pc pc' : Nat} {Ls : Array Slot} {st : List Value} {j : Nat} {v : Int64} (hd : decode c.code pc = .ok (.lload j, 2)) (hp : pc + 2 = pc') (hl : Ls[j]? = some (.val (.long v)))
    (k : Goes p e below G (T.setTop (mkF m pc' Ls (.long v :: st)))) : Goes p e below G (T.setTop (mkF m pc Ls (st))) := by
  subst hp
  exact own_go (fun _ k => XT.lload X.here hx rfl hd hl k) k
theorem s_lloadN (X : Stand p l e R s m args below meth c T locs cells slots) (hx : p.tables.exec = Jvm.exec) {pc pc' : Nat} {Ls : Array Slot} {st : List Value} {j : Fin 4} {v : Int64} (hd : decode c.code pc = .ok (.lload_n j, 1)) (hp : pc + 1 = pc') (hl : Ls[j.val]? = some (.val (.long v)))
    (k : Goes p e below G (T.setTop (mkF m pc' Ls (.long v :: st)))) : Goes p e below G (T.setTop (mkF m pc Ls (st))) := by
  subst hp
  exact own_go (fun _ k => XT.lloadN X.here hx rfl hd hl k) k
theorem s_lstore (X : Stand p l e R s m args below meth c T locs cells slots) (hx : p.tables.exec = Jvm.exec) {pc pc' : Nat} {Ls : Array Slot} {st : List Value} {j : Nat} {v : Int64} (l' : Array Slot) (hd : decode c.code pc = .ok (.lstore j, 2)) (hp : pc + 2 = pc') (hl : storeLocals Ls j (.long v) = some l')
    (k : Goes p e below G (T.setTop (mkF m pc' l' (st)))) : Goes p e below G (T.setTop (mkF m pc Ls (.long v :: st))) := by
  subst hp
  exact own_go (fun _ k => XT.lstore X.here hx rfl hd rfl hl k) k
theorem s_lstoreN (X : Stand p l e R s m args below meth c T locs cells slots) (hx : p.tables.exec = Jvm.exec) {pc pc' : Nat} {Ls : Array Slot} {st : List Value} {j : Fin 4} {v : Int64} (l' : Array Slot) (hd : decode c.code pc = .ok (.lstore_n j, 1)) (hp : pc + 1 = pc') (hl : storeLocals Ls j.val (.long v) = some l')
    (k : Goes p e below G (T.setTop (mkF m pc' l' (st)))) : Goes p e below G (T.setTop (mkF m pc Ls (.long v :: st))) := by
  subst hp
  exact own_go (fun _ k => XT.lstoreN X.here hx rfl hd rfl hl k) k
theorem s_dload (X : Stand p l e R s m args below meth c T locs cells slots) (hx : p.tables.exec = Jvm.exec) {pc pc' : Nat} {Ls : Array Slot} {st : List Value} {j : Nat} {v : UInt64} (hd : decode c.code pc = .ok (.dload j, 2)) (hp : pc + 2 = pc') (hl : Ls[j]? = some (.val (.double v)))
    (k : Goes p e below G (T.setTop (mkF m pc' Ls (.double v :: st)))) : Goes p e below G (T.setTop (mkF m pc Ls (st))) := by
  subst hp
  exact own_go (fun _ k => XS.dload X.here hx rfl hd hl k) k
theorem s_dloadN (X : Stand p l e R s m args below meth c T locs cells slots) (hx : p.tables.exec = Jvm.exec) {pc pc' : Nat} {Ls : Array Slot} {st : List Value} {j : Fin 4} {v : UInt64} (hd : decode c.code pc = .ok (.dload_n j, 1)) (hp : pc + 1 = pc') (hl : Ls[j.val]? = some (.val (.double v)))
    (k : Goes p e below G (T.setTop (mkF m pc' Ls (.double v :: st)))) : Goes p e below G (T.setTop (mkF m pc Ls (st))) := by
  subst hp
  exact own_go (fun _ k => XS.dloadN X.here hx rfl hd hl k) k
theorem s_dstore (X : Stand p l e R s m args below meth c T locs cells slots) (hx : p.tables.exec = Jvm.exec) {pc pc' : Nat} {Ls : Array Slot} {st : List Value} {j : Nat} {v : UInt64} (l' : Array Slot) (hd : decode c.code pc = .ok (.dstore j, 2)) (hp : pc + 2 = pc') (hl : storeLocals Ls j (.double v) = some l')
    (k : Goes p e below G (T.setTop (mkF m pc' l' (st)))) : Goes p e below G (T.setTop (mkF m pc Ls (.double v :: st))) := by
  subst hp
  exact own_go (fun _ k => XS.dstore X.here hx rfl hd rfl hl k) k
theorem s_dstoreN (X : Stand p l e R s m args below meth c T locs cells slots) (hx : p.tables.exec = Jvm.exec) {pc pc' : Nat} {Ls : Array Slot} {st : List Value} {j : Fin 4} {v : UInt64} (l' : Array Slot) (hd : decode c.code pc = .ok (.dstore_n j, 1)) (hp : pc + 1 = pc') (hl : storeLocals Ls j.val (.double v) = some l')
    (k : Goes p e below G (T.setTop (mkF m pc' l' (st)))) : Goes p e below G (T.setTop (mkF m pc Ls (.double v :: st))) := by
  subst hp
  exact own_go (fun _ k => XS.dstoreN X.here hx rfl hd rfl hl k) k
theorem s_aload (X : Stand p l e R s m args below meth c T locs cells slots) (hx : p.tables.exec = Jvm.exec) {pc pc' : Nat} {Ls : Array Slot} {st : List Value} {j : Nat} {v : Value} (hd : decode c.code pc = .ok (.aload j, 2)) (hp : pc + 2 = pc') (hl : Ls[j]? = some (.val v)) (hv : v.isRef = true)
    (k : Goes p e below G (T.setTop (mkF m pc' Ls (v :: st)))) : Goes p e below G (T.setTop (mkF m pc Ls (st))) := by
  subst hp
  exact own_go (fun _ k => XS.aload X.here hx rfl hd hl hv k) k
theorem s_aloadN (X : Stand p l e R s m args below meth c T locs cells slots) (hx : p.tables.exec = Jvm.exec) {pc pc' : Nat} {Ls : Array Slot} {st : List Value} {j : Fin 4} {v : Value} (hd : decode c.code pc = .ok (.aload_n j, 1)) (hp : pc + 1 = pc') (hl : Ls[j.val]? = some (.val v)) (hv : v.isRef = true)
    (k : Goes p e below G (T.setTop (mkF m pc' Ls (v :: st)))) : Goes p e below G (T.setTop (mkF m pc Ls (st))) := by
  subst hp
  exact own_go (fun _ k => XS.aloadN X.here hx rfl hd hl hv k) k
theorem s_astore (X : Stand p l e R s m args below meth c T locs cells slots) (hx : p.tables.exec = Jvm.exec) {pc pc' : Nat} {Ls : Array Slot} {st : List Value} {j : Nat} {v : Value} (l' : Array Slot) (hd : decode c.code pc = .ok (.astore j, 2)) (hp : pc + 2 = pc') (hv : v.isRef = true) (hl : storeLocals Ls j v = some l')
    (k : Goes p e below G (T.setTop (mkF m pc' l' (st)))) : Goes p e below G (T.setTop (mkF m pc Ls (v :: st))) := by
  subst hp
  exact own_go (fun _ k => XS.astore X.here hx rfl hd rfl hv hl k) k
theorem s_astoreN (X : Stand p l e R s m args below meth c T locs cells slots) (hx : p.tables.exec = Jvm.exec) {pc pc' : Nat} {Ls : Array Slot} {st : List Value} {j : Fin 4} {v : Value} (l' : Array Slot) (hd : decode c.code pc = .ok (.astore_n j, 1)) (hp : pc + 1 = pc') (hv : v.isRef = true) (hl : storeLocals Ls j.val v = some l')
    (k : Goes p e below G (T.setTop (mkF m pc' l' (st)))) : Goes p e below G (T.setTop (mkF m pc Ls (v :: st))) := by
  subst hp
  exact own_go (fun _ k => XS.astoreN X.here hx rfl hd rfl hv hl k) k
theorem s_iconst (X : Stand p l e R s m args below meth c T locs cells slots) (hx : p.tables.exec = Jvm.exec) {pc pc' : Nat} {Ls : Array Slot} {st : List Value} {i : Int} (v : Int32) (hd : decode c.code pc = .ok (.iconst i, 1)) (hp : pc + 1 = pc') (hv : Int32.ofInt i = v)
    (k : Goes p e below G (T.setTop (mkF m pc' Ls (.int v :: st)))) : Goes p e below G (T.setTop (mkF m pc Ls (st))) := by
  subst hp
  exact own_go (fun _ k => XS.iconst X.here hx rfl hd (by rw [hv]; exact k)) k
theorem s_bipush (X : Stand p l e R s m args below meth c T locs cells slots) (hx : p.tables.exec = Jvm.exec) {pc pc' : Nat} {Ls : Array Slot} {st : List Value} {i : Int} (v : Int32) (hd : decode c.code pc = .ok (.bipush i, 2)) (hp : pc + 2 = pc') (hv : (Int8.ofInt i).toInt32 = v)
    (k : Goes p e below G (T.setTop (mkF m pc' Ls (.int v :: st)))) : Goes p e below G (T.setTop (mkF m pc Ls (st))) := by
  subst hp
  exact own_go (fun _ k => XS.bipush X.here hx rfl hd (by rw [hv]; exact k)) k
theorem s_sipush (X : Stand p l e R s m args below meth c T locs cells slots) (hx : p.tables.exec = Jvm.exec) {pc pc' : Nat} {Ls : Array Slot} {st : List Value} {i : Int} (v : Int32) (hd : decode c.code pc = .ok (.sipush i, 3)) (hp : pc + 3 = pc') (hv : (Int16.ofInt i).toInt32 = v)
    (k : Goes p e below G (T.setTop (mkF m pc' Ls (.int v :: st)))) : Goes p e below G (T.setTop (mkF m pc Ls (st))) := by
  subst hp
  exact own_go (fun _ k => XS.sipush X.here hx rfl hd (by rw [hv]; exact k)) k
theorem s_lconst (X : Stand p l e R s m args below meth c T locs cells slots) (hx : p.tables.exec = Jvm.exec) {pc pc' : Nat} {Ls : Array Slot} {st : List Value} {i : Fin 2} (v : Int64) (hd : decode c.code pc = .ok (.lconst i, 1)) (hp : pc + 1 = pc') (hv : Int64.ofNat i = v)
    (k : Goes p e below G (T.setTop (mkF m pc' Ls (.long v :: st)))) : Goes p e below G (T.setTop (mkF m pc Ls (st))) := by
  subst hp
  exact own_go (fun _ k => XT.lconst X.here hx rfl hd (by rw [hv]; exact k)) k
theorem s_dconst0 (X : Stand p l e R s m args below meth c T locs cells slots) (hx : p.tables.exec = Jvm.exec) {pc pc' : Nat} {Ls : Array Slot} {st : List Value}  (hd : decode c.code pc = .ok (.dconst 0, 1)) (hp : pc + 1 = pc') 
    (k : Goes p e below G (T.setTop (mkF m pc' Ls (.double 0 :: st)))) : Goes p e below G (T.setTop (mkF m pc Ls (st))) := by
  subst hp
  exact own_go (fun _ k => XS.dconst0 X.here hx rfl hd rfl k) k
theorem s_dconst1 (X : Stand p l e R s m args below meth c T locs cells slots) (hx : p.tables.exec = Jvm.exec) {pc pc' : Nat} {Ls : Array Slot} {st : List Value}  (hd : decode c.code pc = .ok (.dconst 1, 1)) (hp : pc + 1 = pc') 
    (k : Goes p e below G (T.setTop (mkF m pc' Ls (.double 4607182418800017408 :: st)))) : Goes p e below G (T.setTop (mkF m pc Ls (st))) := by
  subst hp
  exact own_go (fun _ k => XS.dconst1 X.here hx rfl hd rfl k) k
theorem s_aconstNull (X : Stand p l e R s m args below meth c T locs cells slots) (hx : p.tables.exec = Jvm.exec) {pc pc' : Nat} {Ls : Array Slot} {st : List Value}  (hd : decode c.code pc = .ok (.aconst_null, 1)) (hp : pc + 1 = pc') 
    (k : Goes p e below G (T.setTop (mkF m pc' Ls (.null :: st)))) : Goes p e below G (T.setTop (mkF m pc Ls (st))) := by
  subst hp
  exact own_go (fun _ k => XS.aconstNull X.here hx rfl hd k) k
theorem s_ldcI (X : Stand p l e R s m args below meth c T locs cells slots) (hx : p.tables.exec = Jvm.exec) {pc pc' : Nat} {Ls : Array Slot} {st : List Value} (hZ : Z.Warmed39 s.vm) {own : String} {j : Nat} {v : Int32} (hown : s.vm.findClass own = some m.cls) (w : (Jvm.Cond.constant own j v).before a0 Z = true) (hd : decode c.code pc = .ok (.ldc j, 2)) (hp : pc + 2 = pc') 
    (k : Goes p e below G (T.setTop (mkF m pc' Ls (.int v :: st)))) : Goes p e below G (T.setTop (mkF m pc Ls (st))) := by
  subst hp
  exact own_go (fun _ k => X.ldcInt hx hown (mvT hZ w) (g := mkF m pc Ls st) rfl hd _ k) k
theorem s_ldcJ (X : Stand p l e R s m args below meth c T locs cells slots) (hx : p.tables.exec = Jvm.exec) {pc pc' : Nat} {Ls : Array Slot} {st : List Value} (hZ : Z.Warmed39 s.vm) {own : String} {j : Nat} {v : Int64} (hown : s.vm.findClass own = some m.cls) (w : (Jvm.Cond.constantLong own j v).before a0 Z = true) (hd : decode c.code pc = .ok (.ldc2_w j, 3)) (hp : pc + 3 = pc') 
    (k : Goes p e below G (T.setTop (mkF m pc' Ls (.long v :: st)))) : Goes p e below G (T.setTop (mkF m pc Ls (st))) := by
  subst hp
  exact own_go (fun _ k => X.ldc2Long hx hown (mvT hZ w) (g := mkF m pc Ls st) rfl hd _ k) k
theorem s_ldcD (X : Stand p l e R s m args below meth c T locs cells slots) (hx : p.tables.exec = Jvm.exec) {pc pc' : Nat} {Ls : Array Slot} {st : List Value} (hZ : Z.Warmed39 s.vm) {own : String} {j : Nat} {v : UInt64} (hown : s.vm.findClass own = some m.cls) (w : (Jvm.Cond.constantDouble own j v).before a0 Z = true) (hd : decode c.code pc = .ok (.ldc2_w j, 3)) (hp : pc + 3 = pc') 
    (k : Goes p e below G (T.setTop (mkF m pc' Ls (.double v :: st)))) : Goes p e below G (T.setTop (mkF m pc Ls (st))) := by
  subst hp
  exact own_go (fun _ k => X.ldc2DoubleC hx hown (mvT hZ w) (g := mkF m pc Ls st) rfl hd _ k) k
theorem s_iadd (X : Stand p l e R s m args below meth c T locs cells slots) (hx : p.tables.exec = Jvm.exec) {pc pc' : Nat} {Ls : Array Slot} {st : List Value} {x y : Int32} (hd : decode c.code pc = .ok (.iadd, 1)) (hp : pc + 1 = pc') 
    (k : Goes p e below G (T.setTop (mkF m pc' Ls (.int (x + y) :: st)))) : Goes p e below G (T.setTop (mkF m pc Ls (.int y :: .int x :: st))) := by
  subst hp
  exact own_go (fun _ k => XS.iadd X.here hx rfl hd rfl k) k
theorem s_isub (X : Stand p l e R s m args below meth c T locs cells slots) (hx : p.tables.exec = Jvm.exec) {pc pc' : Nat} {Ls : Array Slot} {st : List Value} {x y : Int32} (hd : decode c.code pc = .ok (.isub, 1)) (hp : pc + 1 = pc') 
    (k : Goes p e below G (T.setTop (mkF m pc' Ls (.int (x - y) :: st)))) : Goes p e below G (T.setTop (mkF m pc Ls (.int y :: .int x :: st))) := by
  subst hp
  exact own_go (fun _ k => XS.isub X.here hx rfl hd rfl k) k
theorem s_imul (X : Stand p l e R s m args below meth c T locs cells slots) (hx : p.tables.exec = Jvm.exec) {pc pc' : Nat} {Ls : Array Slot} {st : List Value} {x y : Int32} (hd : decode c.code pc = .ok (.imul, 1)) (hp : pc + 1 = pc') 
    (k : Goes p e below G (T.setTop (mkF m pc' Ls (.int (x * y) :: st)))) : Goes p e below G (T.setTop (mkF m pc Ls (.int y :: .int x :: st))) := by
  subst hp
  exact own_go (fun _ k => XS.imul X.here hx rfl hd rfl k) k
theorem s_iand (X : Stand p l e R s m args below meth c T locs cells slots) (hx : p.tables.exec = Jvm.exec) {pc pc' : Nat} {Ls : Array Slot} {st : List Value} {x y : Int32} (hd : decode c.code pc = .ok (.iand, 1)) (hp : pc + 1 = pc') 
    (k : Goes p e below G (T.setTop (mkF m pc' Ls (.int (x &&& y) :: st)))) : Goes p e below G (T.setTop (mkF m pc Ls (.int y :: .int x :: st))) := by
  subst hp
  exact own_go (fun _ k => XS.iand X.here hx rfl hd rfl k) k
theorem s_ixor (X : Stand p l e R s m args below meth c T locs cells slots) (hx : p.tables.exec = Jvm.exec) {pc pc' : Nat} {Ls : Array Slot} {st : List Value} {x y : Int32} (hd : decode c.code pc = .ok (.ixor, 1)) (hp : pc + 1 = pc') 
    (k : Goes p e below G (T.setTop (mkF m pc' Ls (.int (x ^^^ y) :: st)))) : Goes p e below G (T.setTop (mkF m pc Ls (.int y :: .int x :: st))) := by
  subst hp
  exact own_go (fun _ k => XT.ixor X.here hx rfl hd rfl k) k
theorem s_ior (X : Stand p l e R s m args below meth c T locs cells slots) (hx : p.tables.exec = Jvm.exec) {pc pc' : Nat} {Ls : Array Slot} {st : List Value} {x y : Int32} (hd : decode c.code pc = .ok (.ior, 1)) (hp : pc + 1 = pc') 
    (k : Goes p e below G (T.setTop (mkF m pc' Ls (.int (x ||| y) :: st)))) : Goes p e below G (T.setTop (mkF m pc Ls (.int y :: .int x :: st))) := by
  subst hp
  exact own_go (fun _ k => XT.ior X.here hx rfl hd rfl k) k
theorem s_ishl (X : Stand p l e R s m args below meth c T locs cells slots) (hx : p.tables.exec = Jvm.exec) {pc pc' : Nat} {Ls : Array Slot} {st : List Value} {x y : Int32} (hd : decode c.code pc = .ok (.ishl, 1)) (hp : pc + 1 = pc') 
    (k : Goes p e below G (T.setTop (mkF m pc' Ls (.int (x <<< (y &&& 31)) :: st)))) : Goes p e below G (T.setTop (mkF m pc Ls (.int y :: .int x :: st))) := by
  subst hp
  exact own_go (fun _ k => XT.ishl X.here hx rfl hd rfl k) k
theorem s_ishr (X : Stand p l e R s m args below meth c T locs cells slots) (hx : p.tables.exec = Jvm.exec) {pc pc' : Nat} {Ls : Array Slot} {st : List Value} {x y : Int32} (hd : decode c.code pc = .ok (.ishr, 1)) (hp : pc + 1 = pc') 
    (k : Goes p e below G (T.setTop (mkF m pc' Ls (.int (x >>> (y &&& 31)) :: st)))) : Goes p e below G (T.setTop (mkF m pc Ls (.int y :: .int x :: st))) := by
  subst hp
  exact own_go (fun _ k => XT.ishr X.here hx rfl hd rfl k) k
theorem s_iushr (X : Stand p l e R s m args below meth c T locs cells slots) (hx : p.tables.exec = Jvm.exec) {pc pc' : Nat} {Ls : Array Slot} {st : List Value} {x y : Int32} (hd : decode c.code pc = .ok (.iushr, 1)) (hp : pc + 1 = pc') 
    (k : Goes p e below G (T.setTop (mkF m pc' Ls (.int (XT.ushr x y) :: st)))) : Goes p e below G (T.setTop (mkF m pc Ls (.int y :: .int x :: st))) := by
  subst hp
  exact own_go (fun _ k => XT.iushr X.here hx rfl hd rfl k) k
theorem s_irem (X : Stand p l e R s m args below meth c T locs cells slots) (hx : p.tables.exec = Jvm.exec) {pc pc' : Nat} {Ls : Array Slot} {st : List Value} {x y : Int32} (hd : decode c.code pc = .ok (.irem, 1)) (hp : pc + 1 = pc') (hy : y ≠ 0)
    (k : Goes p e below G (T.setTop (mkF m pc' Ls (.int (x % y) :: st)))) : Goes p e below G (T.setTop (mkF m pc Ls (.int y :: .int x :: st))) := by
  subst hp
  exact own_go (fun _ k => iremM X hx rfl hd rfl hy k) k
theorem s_ineg (X : Stand p l e R s m args below meth c T locs cells slots) (hx : p.tables.exec = Jvm.exec) {pc pc' : Nat} {Ls : Array Slot} {st : List Value} {x : Int32} (hd : decode c.code pc = .ok (.ineg, 1)) (hp : pc + 1 = pc') 
    (k : Goes p e below G (T.setTop (mkF m pc' Ls (.int (-x) :: st)))) : Goes p e below G (T.setTop (mkF m pc Ls (.int x :: st))) := by
  subst hp
  exact own_go (fun _ k => XS.ineg X.here hx rfl hd rfl k) k
theorem s_ladd (X : Stand p l e R s m args below meth c T locs cells slots) (hx : p.tables.exec = Jvm.exec) {pc pc' : Nat} {Ls : Array Slot} {st : List Value} {x y : Int64} (hd : decode c.code pc = .ok (.ladd, 1)) (hp : pc + 1 = pc') 
    (k : Goes p e below G (T.setTop (mkF m pc' Ls (.long (x + y) :: st)))) : Goes p e below G (T.setTop (mkF m pc Ls (.long y :: .long x :: st))) := by
  subst hp
  exact own_go (fun _ k => XT.ladd X.here hx rfl hd rfl k) k
theorem s_lsub (X : Stand p l e R s m args below meth c T locs cells slots) (hx : p.tables.exec = Jvm.exec) {pc pc' : Nat} {Ls : Array Slot} {st : List Value} {x y : Int64} (hd : decode c.code pc = .ok (.lsub, 1)) (hp : pc + 1 = pc') 
    (k : Goes p e below G (T.setTop (mkF m pc' Ls (.long (x - y) :: st)))) : Goes p e below G (T.setTop (mkF m pc Ls (.long y :: .long x :: st))) := by
  subst hp
  exact own_go (fun _ k => XT.lsub X.here hx rfl hd rfl k) k
theorem s_lmul (X : Stand p l e R s m args below meth c T locs cells slots) (hx : p.tables.exec = Jvm.exec) {pc pc' : Nat} {Ls : Array Slot} {st : List Value} {x y : Int64} (hd : decode c.code pc = .ok (.lmul, 1)) (hp : pc + 1 = pc') 
    (k : Goes p e below G (T.setTop (mkF m pc' Ls (.long (x * y) :: st)))) : Goes p e below G (T.setTop (mkF m pc Ls (.long y :: .long x :: st))) := by
  subst hp
  exact own_go (fun _ k => XT.lmul X.here hx rfl hd rfl k) k
theorem s_land (X : Stand p l e R s m args below meth c T locs cells slots) (hx : p.tables.exec = Jvm.exec) {pc pc' : Nat} {Ls : Array Slot} {st : List Value} {x y : Int64} (hd : decode c.code pc = .ok (.land, 1)) (hp : pc + 1 = pc') 
    (k : Goes p e below G (T.setTop (mkF m pc' Ls (.long (x &&& y) :: st)))) : Goes p e below G (T.setTop (mkF m pc Ls (.long y :: .long x :: st))) := by
  subst hp
  exact own_go (fun _ k => XT.land X.here hx rfl hd rfl k) k
theorem s_lor (X : Stand p l e R s m args below meth c T locs cells slots) (hx : p.tables.exec = Jvm.exec) {pc pc' : Nat} {Ls : Array Slot} {st : List Value} {x y : Int64} (hd : decode c.code pc = .ok (.lor, 1)) (hp : pc + 1 = pc') 
    (k : Goes p e below G (T.setTop (mkF m pc' Ls (.long (x ||| y) :: st)))) : Goes p e below G (T.setTop (mkF m pc Ls (.long y :: .long x :: st))) := by
  subst hp
  exact own_go (fun _ k => XT.lor X.here hx rfl hd rfl k) k
theorem s_lxor (X : Stand p l e R s m args below meth c T locs cells slots) (hx : p.tables.exec = Jvm.exec) {pc pc' : Nat} {Ls : Array Slot} {st : List Value} {x y : Int64} (hd : decode c.code pc = .ok (.lxor, 1)) (hp : pc + 1 = pc') 
    (k : Goes p e below G (T.setTop (mkF m pc' Ls (.long (x ^^^ y) :: st)))) : Goes p e below G (T.setTop (mkF m pc Ls (.long y :: .long x :: st))) := by
  subst hp
  exact own_go (fun _ k => XT.lxor X.here hx rfl hd rfl k) k
theorem s_lshl (X : Stand p l e R s m args below meth c T locs cells slots) (hx : p.tables.exec = Jvm.exec) {pc pc' : Nat} {Ls : Array Slot} {st : List Value} {x : Int64} {y : Int32} (hd : decode c.code pc = .ok (.lshl, 1)) (hp : pc + 1 = pc') 
    (k : Goes p e below G (T.setTop (mkF m pc' Ls (.long (x <<< (y.toInt64 &&& 63)) :: st)))) : Goes p e below G (T.setTop (mkF m pc Ls (.int y :: .long x :: st))) := by
  subst hp
  exact own_go (fun _ k => XT.lshl X.here hx rfl hd rfl k) k
theorem s_lshr (X : Stand p l e R s m args below meth c T locs cells slots) (hx : p.tables.exec = Jvm.exec) {pc pc' : Nat} {Ls : Array Slot} {st : List Value} {x : Int64} {y : Int32} (hd : decode c.code pc = .ok (.lshr, 1)) (hp : pc + 1 = pc') 
    (k : Goes p e below G (T.setTop (mkF m pc' Ls (.long (x >>> (y.toInt64 &&& 63)) :: st)))) : Goes p e below G (T.setTop (mkF m pc Ls (.int y :: .long x :: st))) := by
  subst hp
  exact own_go (fun _ k => XT.lshr X.here hx rfl hd rfl k) k
theorem s_lushr (X : Stand p l e R s m args below meth c T locs cells slots) (hx : p.tables.exec = Jvm.exec) {pc pc' : Nat} {Ls : Array Slot} {st : List Value} {x : Int64} {y : Int32} (hd : decode c.code pc = .ok (.lushr, 1)) (hp : pc + 1 = pc') 
    (k : Goes p e below G (T.setTop (mkF m pc' Ls (.long (XT.ushrL x y) :: st)))) : Goes p e below G (T.setTop (mkF m pc Ls (.int y :: .long x :: st))) := by
  subst hp
  exact own_go (fun _ k => XT.lushr X.here hx rfl hd rfl k) k
theorem s_i2l (X : Stand p l e R s m args below meth c T locs cells slots) (hx : p.tables.exec = Jvm.exec) {pc pc' : Nat} {Ls : Array Slot} {st : List Value} {x : Int32} (hd : decode c.code pc = .ok (.i2l, 1)) (hp : pc + 1 = pc') 
    (k : Goes p e below G (T.setTop (mkF m pc' Ls ((.long x.toInt64) :: st)))) : Goes p e below G (T.setTop (mkF m pc Ls (.int x :: st))) := by
  subst hp
  exact own_go (fun _ k => XT.i2l X.here hx rfl hd rfl k) k
theorem s_i2b (X : Stand p l e R s m args below meth c T locs cells slots) (hx : p.tables.exec = Jvm.exec) {pc pc' : Nat} {Ls : Array Slot} {st : List Value} {x : Int32} (hd : decode c.code pc = .ok (.i2b, 1)) (hp : pc + 1 = pc') 
    (k : Goes p e below G (T.setTop (mkF m pc' Ls ((.int x.toInt8.toInt32) :: st)))) : Goes p e below G (T.setTop (mkF m pc Ls (.int x :: st))) := by
  subst hp
  exact own_go (fun _ k => XT.i2b X.here hx rfl hd rfl k) k
theorem s_l2i (X : Stand p l e R s m args below meth c T locs cells slots) (hx : p.tables.exec = Jvm.exec) {pc pc' : Nat} {Ls : Array Slot} {st : List Value} {x : Int64} (hd : decode c.code pc = .ok (.l2i, 1)) (hp : pc + 1 = pc') 
    (k : Goes p e below G (T.setTop (mkF m pc' Ls (.int x.toInt32 :: st)))) : Goes p e below G (T.setTop (mkF m pc Ls (.long x :: st))) := by
  subst hp
  exact own_go (fun _ k => XT.l2i X.here hx rfl hd rfl k) k
theorem s_i2d (X : Stand p l e R s m args below meth c T locs cells slots) (hx : p.tables.exec = Jvm.exec) {pc pc' : Nat} {Ls : Array Slot} {st : List Value} {x : Int32} (hd : decode c.code pc = .ok (.i2d, 1)) (hp : pc + 1 = pc') 
    (k : Goes p e below G (T.setTop (mkF m pc' Ls (.double (FP.i2d x) :: st)))) : Goes p e below G (T.setTop (mkF m pc Ls (.int x :: st))) := by
  subst hp
  exact own_go (fun _ k => XS.i2dS X.here hx rfl hd rfl rfl k) k
theorem s_l2d (X : Stand p l e R s m args below meth c T locs cells slots) (hx : p.tables.exec = Jvm.exec) {pc pc' : Nat} {Ls : Array Slot} {st : List Value} {x : Int64} (hd : decode c.code pc = .ok (.l2d, 1)) (hp : pc + 1 = pc') 
    (k : Goes p e below G (T.setTop (mkF m pc' Ls (.double (FP.l2d x) :: st)))) : Goes p e below G (T.setTop (mkF m pc Ls (.long x :: st))) := by
  subst hp
  exact own_go (fun _ k => XS.l2dS X.here hx rfl hd rfl rfl k) k
theorem s_dneg (X : Stand p l e R s m args below meth c T locs cells slots) (hx : p.tables.exec = Jvm.exec) {pc pc' : Nat} {Ls : Array Slot} {st : List Value} {x : UInt64} (hd : decode c.code pc = .ok (.dneg, 1)) (hp : pc + 1 = pc') 
    (k : Goes p e below G (T.setTop (mkF m pc' Ls (.double (FP.dneg x) :: st)))) : Goes p e below G (T.setTop (mkF m pc Ls (.double x :: st))) := by
  subst hp
  exact own_go (fun _ k => XS.dnegS X.here hx rfl hd rfl rfl k) k
theorem s_dadd (X : Stand p l e R s m args below meth c T locs cells slots) (hx : p.tables.exec = Jvm.exec) {pc pc' : Nat} {Ls : Array Slot} {st : List Value} {x y : UInt64} (v : UInt64) (hd : decode c.code pc = .ok (.dadd, 1)) (hp : pc + 1 = pc') (hn : NoNaN64 (FP.dadd x y)) (hv : FP.dadd x y = v)
    (k : Goes p e below G (T.setTop (mkF m pc' Ls (.double v :: st)))) : Goes p e below G (T.setTop (mkF m pc Ls (.double y :: .double x :: st))) := by
  subst hp
  exact own_go (fun _ k => XS.daddS X.here hx rfl hd rfl hn hv k) k
theorem s_dsub (X : Stand p l e R s m args below meth c T locs cells slots) (hx : p.tables.exec = Jvm.exec) {pc pc' : Nat} {Ls : Array Slot} {st : List Value} {x y : UInt64} (v : UInt64) (hd : decode c.code pc = .ok (.dsub, 1)) (hp : pc + 1 = pc') (hn : NoNaN64 (FP.dsub x y)) (hv : FP.dsub x y = v)
    (k : Goes p e below G (T.setTop (mkF m pc' Ls (.double v :: st)))) : Goes p e below G (T.setTop (mkF m pc Ls (.double y :: .double x :: st))) := by
  subst hp
  exact own_go (fun _ k => XS.dsubS X.here hx rfl hd rfl hn hv k) k
theorem s_dmul (X : Stand p l e R s m args below meth c T locs cells slots) (hx : p.tables.exec = Jvm.exec) {pc pc' : Nat} {Ls : Array Slot} {st : List Value} {x y : UInt64} (v : UInt64) (hd : decode c.code pc = .ok (.dmul, 1)) (hp : pc + 1 = pc') (hn : NoNaN64 (FP.dmul x y)) (hv : FP.dmul x y = v)
    (k : Goes p e below G (T.setTop (mkF m pc' Ls (.double v :: st)))) : Goes p e below G (T.setTop (mkF m pc Ls (.double y :: .double x :: st))) := by
  subst hp
  exact own_go (fun _ k => XS.dmulS X.here hx rfl hd rfl hn hv k) k
theorem s_ddiv (X : Stand p l e R s m args below meth c T locs cells slots) (hx : p.tables.exec = Jvm.exec) {pc pc' : Nat} {Ls : Array Slot} {st : List Value} {x y : UInt64} (v : UInt64) (hd : decode c.code pc = .ok (.ddiv, 1)) (hp : pc + 1 = pc') (hn : NoNaN64 (FP.ddiv x y)) (hv : FP.ddiv x y = v)
    (k : Goes p e below G (T.setTop (mkF m pc' Ls (.double v :: st)))) : Goes p e below G (T.setTop (mkF m pc Ls (.double y :: .double x :: st))) := by
  subst hp
  exact own_go (fun _ k => XS.ddivS X.here hx rfl hd rfl hn hv k) k
theorem s_lcmp (X : Stand p l e R s m args below meth c T locs cells slots) (hx : p.tables.exec = Jvm.exec) {pc pc' : Nat} {Ls : Array Slot} {st : List Value} {x y : Int64} (hd : decode c.code pc = .ok (.lcmp, 1)) (hp : pc + 1 = pc') 
    (k : Goes p e below G (T.setTop (mkF m pc' Ls (.int (XT.cmpL x y) :: st)))) : Goes p e below G (T.setTop (mkF m pc Ls (.long y :: .long x :: st))) := by
  subst hp
  exact own_go (fun _ k => XT.lcmp X.here hx rfl hd rfl k) k
theorem s_dcmp (X : Stand p l e R s m args below meth c T locs cells slots) (hx : p.tables.exec = Jvm.exec) {pc pc' : Nat} {Ls : Array Slot} {st : List Value} {x y : UInt64} {o : CmpOp} (v : Int32) (hd : decode c.code pc = .ok (.dcmp o, 1)) (hp : pc + 1 = pc') (hv : cmpValue (FP.dcmp x y) o = v)
    (k : Goes p e below G (T.setTop (mkF m pc' Ls (.int v :: st)))) : Goes p e below G (T.setTop (mkF m pc Ls (.double y :: .double x :: st))) := by
  subst hp
  exact own_go (fun _ k => XS.dcmpS X.here hx rfl hd rfl hv k) k
theorem s_dup (X : Stand p l e R s m args below meth c T locs cells slots) (hx : p.tables.exec = Jvm.exec) {pc pc' : Nat} {Ls : Array Slot} {st : List Value} {x : Value} (hd : decode c.code pc = .ok (.dup, 1)) (hp : pc + 1 = pc') (hc : x.category = 1)
    (k : Goes p e below G (T.setTop (mkF m pc' Ls (x :: x :: st)))) : Goes p e below G (T.setTop (mkF m pc Ls (x :: st))) := by
  subst hp
  exact own_go (fun _ k => XS.dup X.here hx rfl hd rfl hc k) k
theorem s_pop (X : Stand p l e R s m args below meth c T locs cells slots) (hx : p.tables.exec = Jvm.exec) {pc pc' : Nat} {Ls : Array Slot} {st : List Value} {x : Value} (hd : decode c.code pc = .ok (.pop, 1)) (hp : pc + 1 = pc') (hc : x.category = 1)
    (k : Goes p e below G (T.setTop (mkF m pc' Ls (st)))) : Goes p e below G (T.setTop (mkF m pc Ls (x :: st))) := by
  subst hp
  exact own_go (fun _ k => XT.pop X.here hx rfl hd rfl hc k) k
theorem s_pop2D (X : Stand p l e R s m args below meth c T locs cells slots) (hx : p.tables.exec = Jvm.exec) {pc pc' : Nat} {Ls : Array Slot} {st : List Value} {x : UInt64} (hd : decode c.code pc = .ok (.pop2, 1)) (hp : pc + 1 = pc')
    (k : Goes p e below G (T.setTop (mkF m pc' Ls st))) : Goes p e below G (T.setTop (mkF m pc Ls (.double x :: st))) := by
  subst hp
  refine own_go (fun _ k => ?_) k
  jvm_step X.here [X.here.top, hx, hd, Value.category]
  exact k
theorem s_dup2 (X : Stand p l e R s m args below meth c T locs cells slots) (hx : p.tables.exec = Jvm.exec) {pc pc' : Nat} {Ls : Array Slot} {st : List Value} {x y : Value} (hd : decode c.code pc = .ok (.dup2, 1)) (hp : pc + 1 = pc') (hc : x.category = 1) (hc' : y.category = 1)
    (k : Goes p e below G (T.setTop (mkF m pc' Ls (x :: y :: x :: y :: st)))) : Goes p e below G (T.setTop (mkF m pc Ls (x :: y :: st))) := by
  subst hp
  exact own_go (fun _ k => XT.dup2 X.here hx rfl hd rfl hc hc' k) k
theorem s_iinc (X : Stand p l e R s m args below meth c T locs cells slots) (hx : p.tables.exec = Jvm.exec) {pc pc' : Nat} {Ls : Array Slot} {st : List Value} {j : Nat} {i : Int} {x : Int32} (v : Int32) (l' : Array Slot) (hd : decode c.code pc = .ok (.iinc j i, 3)) (hp : pc + 3 = pc') (hl : Ls[j]? = some (.val (.int x))) (hv : x + Int32.ofInt i = v) (hl' : storeLocals Ls j (.int v) = some l')
    (k : Goes p e below G (T.setTop (mkF m pc' l' (st)))) : Goes p e below G (T.setTop (mkF m pc Ls (st))) := by
  subst hp
  exact own_go (fun _ k => XS.iinc X.here hx rfl hd hl (by rw [hv]; exact hl') k) k
theorem s_goto (X : Stand p l e R s m args below meth c T locs cells slots) (hx : p.tables.exec = Jvm.exec) {pc pc' : Nat} {Ls : Array Slot} {st : List Value}  {o : Int} (hd : decode c.code pc = .ok (.goto o, 3))  (ho : 0 ≤ (pc : Int) + o) (hp : ((pc : Int) + o).toNat = pc')
    (k : Goes p e below G (T.setTop (mkF m pc' Ls (st)))) : Goes p e below G (T.setTop (mkF m pc Ls (st))) := own_go (fun _ k => XS.goto X.here hx rfl rfl hd ho hp k) k
theorem s_ifY (X : Stand p l e R s m args below meth c T locs cells slots) (hx : p.tables.exec = Jvm.exec) {pc pc' : Nat} {Ls : Array Slot} {st : List Value} {cd : ClassFile.Cond} {x : Int32} {o : Int} (hd : decode c.code pc = .ok (.ifCond cd o, 3)) (hc : ifCond.holds cd x = true) (ho : 0 ≤ (pc : Int) + o) (hp : ((pc : Int) + o).toNat = pc')
    (k : Goes p e below G (T.setTop (mkF m pc' Ls (st)))) : Goes p e below G (T.setTop (mkF m pc Ls (.int x :: st))) := own_go (fun _ k => XS.ifYes X.here hx rfl rfl hd rfl hc ho hp k) k
theorem s_icmpY (X : Stand p l e R s m args below meth c T locs cells slots) (hx : p.tables.exec = Jvm.exec) {pc pc' : Nat} {Ls : Array Slot} {st : List Value} {cd : ClassFile.Cond} {x y : Int32} {o : Int} (hd : decode c.code pc = .ok (.if_icmp cd o, 3)) (hc : if_icmp.holds cd x y = true) (ho : 0 ≤ (pc : Int) + o) (hp : ((pc : Int) + o).toNat = pc')
    (k : Goes p e below G (T.setTop (mkF m pc' Ls (st)))) : Goes p e below G (T.setTop (mkF m pc Ls (.int y :: .int x :: st))) := own_go (fun _ k => XS.icmpYes X.here hx rfl rfl hd rfl hc ho hp k) k
theorem s_acmpY (X : Stand p l e R s m args below meth c T locs cells slots) (hx : p.tables.exec = Jvm.exec) {pc pc' : Nat} {Ls : Array Slot} {st : List Value} {cd : ClassFile.ACond} {x y : Value} {o : Int} (hd : decode c.code pc = .ok (.if_acmp cd o, 3)) (h1 : x.isRef = true) (h2 : y.isRef = true) (hc : XT.acmp cd x y = true) (ho : 0 ≤ (pc : Int) + o) (hp : ((pc : Int) + o).toNat = pc')
    (k : Goes p e below G (T.setTop (mkF m pc' Ls (st)))) : Goes p e below G (T.setTop (mkF m pc Ls (y :: x :: st))) := own_go (fun _ k => XT.acmpYes X.here hx rfl rfl hd rfl h1 h2 hc ho hp k) k
theorem s_nonnullY (X : Stand p l e R s m args below meth c T locs cells slots) (hx : p.tables.exec = Jvm.exec) {pc pc' : Nat} {Ls : Array Slot} {st : List Value} {b : Addr} {o : Int} (hd : decode c.code pc = .ok (.ifnonnull o, 3))  (ho : 0 ≤ (pc : Int) + o) (hp : ((pc : Int) + o).toNat = pc')
    (k : Goes p e below G (T.setTop (mkF m pc' Ls (st)))) : Goes p e below G (T.setTop (mkF m pc Ls (.ref b :: st))) := own_go (fun _ k => XT.ifnonnullYes X.here hx rfl rfl hd rfl ho hp k) k
theorem s_ifN (X : Stand p l e R s m args below meth c T locs cells slots) (hx : p.tables.exec = Jvm.exec) {pc pc' : Nat} {Ls : Array Slot} {st : List Value} {cd : ClassFile.Cond} {x : Int32} {o : Int} (hd : decode c.code pc = .ok (.ifCond cd o, 3)) (hp : pc + 3 = pc') (hc : ifCond.holds cd x = false)
    (k : Goes p e below G (T.setTop (mkF m pc' Ls (st)))) : Goes p e below G (T.setTop (mkF m pc Ls (.int x :: st))) := by
  subst hp
  exact own_go (fun _ k => XS.ifNo X.here hx rfl hd rfl hc k) k
theorem s_icmpN (X : Stand p l e R s m args below meth c T locs cells slots) (hx : p.tables.exec = Jvm.exec) {pc pc' : Nat} {Ls : Array Slot} {st : List Value} {cd : ClassFile.Cond} {x y : Int32} {o : Int} (hd : decode c.code pc = .ok (.if_icmp cd o, 3)) (hp : pc + 3 = pc') (hc : if_icmp.holds cd x y = false)
    (k : Goes p e below G (T.setTop (mkF m pc' Ls (st)))) : Goes p e below G (T.setTop (mkF m pc Ls (.int y :: .int x :: st))) := by
  subst hp
  exact own_go (fun _ k => XS.icmpNo X.here hx rfl hd rfl hc k) k
theorem s_acmpN (X : Stand p l e R s m args below meth c T locs cells slots) (hx : p.tables.exec = Jvm.exec) {pc pc' : Nat} {Ls : Array Slot} {st : List Value} {cd : ClassFile.ACond} {x y : Value} {o : Int} (hd : decode c.code pc = .ok (.if_acmp cd o, 3)) (hp : pc + 3 = pc') (h1 : x.isRef = true) (h2 : y.isRef = true) (hc : XT.acmp cd x y = false)
    (k : Goes p e below G (T.setTop (mkF m pc' Ls (st)))) : Goes p e below G (T.setTop (mkF m pc Ls (y :: x :: st))) := by
  subst hp
  exact own_go (fun _ k => XT.acmpNo X.here hx rfl hd rfl h1 h2 hc k) k
theorem s_nullN (X : Stand p l e R s m args below meth c T locs cells slots) (hx : p.tables.exec = Jvm.exec) {pc pc' : Nat} {Ls : Array Slot} {st : List Value} {b : Addr} {o : Int} (hd : decode c.code pc = .ok (.ifnull o, 3)) (hp : pc + 3 = pc') 
    (k : Goes p e below G (T.setTop (mkF m pc' Ls (st)))) : Goes p e below G (T.setTop (mkF m pc Ls (.ref b :: st))) := by
  subst hp
  exact own_go (fun _ k => XS.ifnullNo X.here hx rfl hd rfl k) k
end Own
theorem iy_lt {x : Int32} (h : x < 0) : ifCond.holds .lt x = true := by rw [if0]; exact (tlt h).1
theorem in_lt {x : Int32} (h : ¬ x < 0) : ifCond.holds .lt x = false := by rw [if0]; exact (flt h).1
theorem iy_ge {x : Int32} (h : ¬ x < 0) : ifCond.holds .ge x = true := by rw [if0]; exact (flt h).2.1
theorem in_ge {x : Int32} (h : x < 0) : ifCond.holds .ge x = false := by rw [if0]; exact (tlt h).2.1
theorem iy_gt {x : Int32} (h : 0 < x) : ifCond.holds .gt x = true := by rw [if0]; exact (tlt h).2.2.1
theorem in_gt {x : Int32} (h : ¬ 0 < x) : ifCond.holds .gt x = false := by rw [if0]; exact (flt h).2.2.1
theorem iy_le {x : Int32} (h : ¬ 0 < x) : ifCond.holds .le x = true := by rw [if0]; exact (flt h).2.2.2
theorem in_le {x : Int32} (h : 0 < x) : ifCond.holds .le x = false := by rw [if0]; exact (tlt h).2.2.2
theorem iy_eq {x : Int32} (h : x = 0) : ifCond.holds .eq x = true := by rw [if0]; exact (teq h).1
theorem in_eq {x : Int32} (h : ¬ x = 0) : ifCond.holds .eq x = false := by rw [if0]; exact (feq h).1
theorem iy_ne {x : Int32} (h : ¬ x = 0) : ifCond.holds .ne x = true := by rw [if0]; exact (feq h).2
theorem in_ne {x : Int32} (h : x = 0) : ifCond.holds .ne x = false := by rw [if0]; exact (teq h).2
theorem cy_lt {x y : Int32} (h : x < y) : if_icmp.holds .lt x y = true := (tlt h).1
theorem cn_lt {x y : Int32} (h : ¬ x < y) : if_icmp.holds .lt x y = false := (flt h).1
theorem cy_ge {x y : Int32} (h : ¬ x < y) : if_icmp.holds .ge x y = true := (flt h).2.1
theorem cn_ge {x y : Int32} (h : x < y) : if_icmp.holds .ge x y = false := (tlt h).2.1
theorem cy_gt {x y : Int32} (h : y < x) : if_icmp.holds .gt x y = true := (tlt h).2.2.1
theorem cn_gt {x y : Int32} (h : ¬ y < x) : if_icmp.holds .gt x y = false := (flt h).2.2.1
theorem cy_le {x y : Int32} (h : ¬ y < x) : if_icmp.holds .le x y = true := (flt h).2.2.2
theorem cn_le {x y : Int32} (h : y < x) : if_icmp.holds .le x y = false := (tlt h).2.2.2
theorem cy_eq {x y : Int32} (h : x = y) : if_icmp.holds .eq x y = true := (teq h).1
theorem cn_eq {x y : Int32} (h : ¬ x = y) : if_icmp.holds .eq x y = false := (feq h).1
theorem cy_ne {x y : Int32} (h : ¬ x = y) : if_icmp.holds .ne x y = true := (feq h).2
theorem cn_ne {x y : Int32} (h : x = y) : if_icmp.holds .ne x y = false := (teq h).2
theorem own_nn {i : Int} {a : UInt64} (h : FP.Core.DInt i a) : NoNaN64 a := val64_no.mpr (FP.Core.Whole.ne_nan h)
theorem own_same {i : Int} {a b : UInt64} (ha : FP.Core.DInt i a) (hb : FP.Core.DInt i b) (o : CmpOp) : cmpValue (FP.dcmp a b) o = 0 := by
  rw [show FP.dcmp a b = some (compare i i) from FP.Core.dcmp_int ha hb, FP.Core.compare_self_int]; cases o <;> rfl
theorem own_cmpL_lt {x y : Int64} : XT.cmpL x y < 0 ↔ x < y := by
  have : XT.cmpL x y = lcmpW x y := rfl
  rw [this]; exact lw_lt x y
theorem own_cmpL_eq {x y : Int64} : XT.cmpL x y = 0 ↔ x = y := by
  have : XT.cmpL x y = lcmpW x y := rfl
  rw [this]; exact lw_eq x y
def own_idx (r : Int64) : Int64 := if (r &&& 1) = 0 then XT.ushrL r 1 &&& 3 else XT.ushrL r 1
def own_term (i : Int64) (w0 w1 v : Int32) : Int64 := if i = 0 then w0.toInt64 * v.toInt64 else if i = 1 then w1.toInt64 * v.toInt64 else 0
def own_t (i : Int64) (w0 w1 v : Int) : Int := if i = 0 then w0 * v else if i = 1 then w1 * v else 0
theorem own_ushr (r : Int64) : 0 ≤ (XT.ushrL r 1).toInt := by
  have h := c_lushr r 1 1 (by decide) (by decide)
  have e : XT.ushrL r 1 = (r.toUInt64 >>> ((1 : Int32) &&& 0x3f).toInt64.toUInt64).toInt64 := rfl
  rw [e, h]; omega
theorem own_idx_nn (r : Int64) : 0 ≤ (own_idx r).toInt := by
  unfold own_idx
  split
  · rw [c_maskL (XT.ushrL r 1) 3 2 (by decide) (by decide)]; omega
  · exact own_ushr r
theorem own_01 {i : Int64} (h0 : 0 ≤ i.toInt) (h : i < (2 : Int32).toInt64) : i = 0 ∨ i = 1 := by
  have h' := Int64.lt_iff_toInt_lt.mp h
  rw [c_i2l, show (2 : Int32).toInt = 2 from rfl] at h'
  simp only [← Int64.toInt_inj]
  show i.toInt = 0 ∨ i.toInt = 1
  omega
theorem own_t2 {i : Int64} (h : ¬ i < (2 : Int32).toInt64) (w0 w1 v : Int) : own_t i w0 w1 v = 0 := by
  have h0 : ¬ i = 0 := fun q => h (by rw [q]; decide)
  have h1 : ¬ i = 1 := fun q => h (by rw [q]; decide)
  rw [own_t, if_neg h0, if_neg h1]
theorem own_t0 (w0 w1 v : Int) : own_t 0 w0 w1 v = w0 * v := by rw [own_t, if_pos rfl]
theorem own_t1 (w0 w1 v : Int) : own_t 1 w0 w1 v = w1 * v := by rw [own_t, if_neg (by decide), if_pos rfl]
theorem own_mul {x y : Int} (hx : x.natAbs ≤ 128) (hy : y.natAbs ≤ 128) : (x * y).natAbs ≤ 16384 := by
  rw [Int.natAbs_mul]; exact Nat.le_trans (Nat.mul_le_mul hx hy) (by decide)
theorem own_t_le {i : Int64} {w0 w1 v : Int} (h0 : w0.natAbs ≤ 128) (h1 : w1.natAbs ≤ 128) (hv : v.natAbs ≤ 128) : (own_t i w0 w1 v).natAbs ≤ 16384 := by
  unfold own_t
  split
  · exact own_mul h0 hv
  · split
    · exact own_mul h1 hv
    · decide
theorem own_term_t {i : Int64} {w0 w1 v : Int32} (h0 : w0.toInt.natAbs ≤ 128) (h1 : w1.toInt.natAbs ≤ 128) (hv : v.toInt.natAbs ≤ 128) : (own_term i w0 w1 v).toInt = own_t i w0.toInt w1.toInt v.toInt := by
  have m0 := own_mul h0 hv
  have m1 := own_mul h1 hv
  unfold own_term own_t
  split
  · rw [FP.Core.int64_mul (by rw [c_i2l, c_i2l]; omega) (by rw [c_i2l, c_i2l]; omega), c_i2l, c_i2l]
  · split
    · rw [FP.Core.int64_mul (by rw [c_i2l, c_i2l]; omega) (by rw [c_i2l, c_i2l]; omega), c_i2l, c_i2l]
    · rfl
theorem own_byte (x : Int32) : x.toInt8.toInt32.toInt.natAbs ≤ 128 := by have := c_i2b x; omega
theorem own_prod {x y : Int32} (hx : x.toInt.natAbs ≤ 128) (hy : y.toInt.natAbs ≤ 128) : FP.Core.DInt (x.toInt * y.toInt) (FP.dmul (FP.i2d x) (FP.i2d y)) := by
  have := own_mul hx hy
  exact FP.Core.dmul_int (FP.Core.i2d_int x) (FP.Core.i2d_int y) (by omega)
theorem own_zero : FP.Core.DInt 0 0 := by
  have h := FP.Core.i2d_int 0
  rw [show FP.Core.i2d 0 = 0 by decide +kernel] at h; exact h
theorem own_size (a : Int32) : let k := (XT.ushr a (24 : Int32)) &&& (3 : Int32); k = 0 ∨ k = 1 ∨ k = 2 ∨ k = 3 := by
  intro k
  have k1 : k.toInt = (XT.ushr a (24 : Int32)).toInt % (2 ^ 2 : Nat) := c_mask _ 3 2 (by decide) (by decide)
  simp only [← Int32.toInt_inj]
  show k.toInt = 0 ∨ k.toInt = 1 ∨ k.toInt = 2 ∨ k.toInt = 3
  omega
theorem own_ladd {x y : Int64} (hx : x.toInt.natAbs ≤ 65536) (hy : y.toInt.natAbs ≤ 65536) : (x + y).toInt = x.toInt + y.toInt := FP.Core.int64_add (by omega) (by omega)
theorem d1_0 : decode method_2_code 0 = .ok (.lload_n 0, 1) := by decide +kernel
theorem d1_1 : decode method_2_code 1 = .ok (.lconst 1, 1) := by decide +kernel
theorem d1_2 : decode method_2_code 2 = .ok (.land, 1) := by decide +kernel
theorem d1_3 : decode method_2_code 3 = .ok (.lconst 0, 1) := by decide +kernel
theorem d1_4 : decode method_2_code 4 = .ok (.lcmp, 1) := by decide +kernel
theorem d1_5 : decode method_2_code 5 = .ok (.ifCond .ne 11, 3) := by decide +kernel
theorem d1_8 : decode method_2_code 8 = .ok (.lload_n 0, 1) := by decide +kernel
theorem d1_9 : decode method_2_code 9 = .ok (.iconst 1, 1) := by decide +kernel
theorem d1_10 : decode method_2_code 10 = .ok (.lushr, 1) := by decide +kernel
theorem d1_11 : decode method_2_code 11 = .ok (.ldc2_w 7, 3) := by decide +kernel
theorem d1_14 : decode method_2_code 14 = .ok (.land, 1) := by decide +kernel
theorem d1_15 : decode method_2_code 15 = .ok (.lreturn, 1) := by decide +kernel
theorem d1_16 : decode method_2_code 16 = .ok (.lload_n 0, 1) := by decide +kernel
theorem d1_17 : decode method_2_code 17 = .ok (.iconst 1, 1) := by decide +kernel
theorem d1_18 : decode method_2_code 18 = .ok (.lushr, 1) := by decide +kernel
theorem d1_19 : decode method_2_code 19 = .ok (.lreturn, 1) := by decide +kernel
theorem pn_1 : plainName "com/example/tesserae/tesserae/data/ExampleDotPinLaw" = true := by first | (simp [plainName, overriddenIn]; done) | decide +kernel
theorem ef_1 (z0 : Int64) (m : MethodId) : entryFrame m #[.long z0] 2 = mkF m 0 #[.val (.long z0), .second] [] := by first | (simp [entryFrame, mkF, argsToLocals, Value.category, maxLocals]; done) | rfl
set_option maxRecDepth 65536 in
set_option maxHeartbeats 40000000 in
theorem rm_1 (l : Launch) (Z : State) (a0 : Array Value) (hw : ∀ d ∈ tables_1, d.before a0 Z = true) (ws : List Jvm.Cond) (r1 : Int64) (h0 : Heap) (n0 : Nat) (Z0 : n0 ≤ h0.size)  :
    OwnMet l Z (⟨"com/example/tesserae/tesserae/data/ExampleDotPinLaw", "idx", "(J)J"⟩ : MethodName) method_2_code 2 (some .long) ws ({ frames := 0, cells := 0, slots := 0, locals := 0 } : Room) #[.long r1] h0 (fun v h L => v = some (.long (own_idx r1)) ∧ Fr n0 L ∧ h = h0) := by
  refine own_met (plainFor_of_name pn_1) (ef_1 r1) ?_
  intro p e s m below meth c s₁ hx hby hml hZ hown hnm hret hlk X0 e0
  have N0 := Fr.nil n0
  refine s_lloadN X0 hx (hb hby d1_0) (pc' := 1) rfl rfl ?_
  refine s_lconst X0 hx (1 : Int64) (hb hby d1_1) (pc' := 2) rfl rfl ?_
  refine s_land X0 hx (hb hby d1_2) (pc' := 3) rfl ?_
  refine s_lconst X0 hx (0 : Int64) (hb hby d1_3) (pc' := 4) rfl rfl ?_
  refine s_lcmp X0 hx (hb hby d1_4) (pc' := 5) rfl ?_
  by_cases h1 : (r1 &&& (1 : Int64)) = 0
  ·
    refine s_ifN X0 hx (hb hby d1_5) (pc' := 8) rfl (in_ne (own_cmpL_eq.mpr h1)) ?_
    refine s_lloadN X0 hx (hb hby d1_8) (pc' := 9) rfl rfl ?_
    refine s_iconst X0 hx (1 : Int32) (hb hby d1_9) (pc' := 10) rfl rfl ?_
    refine s_lushr X0 hx (hb hby d1_10) (pc' := 11) rfl ?_
    refine s_ldcJ X0 hx hZ hown (hw _ (List.mem_of_getElem? (i := 4) rfl)) (hb hby d1_11) (pc' := 14) rfl ?_
    refine s_land X0 hx (hb hby d1_14) (pc' := 15) rfl ?_
    exact s_retI X0 hx hlk hret (hb hby d1_15) rfl (Or.inr (Or.inl ⟨rfl, rfl, _, rfl⟩)) (by decide) (by decide) ⟨by rw [own_idx, if_pos h1], N0, e0⟩
  ·
    refine s_ifY X0 hx (hb hby d1_5) (iy_ne (fun z => h1 (own_cmpL_eq.mp z))) (by decide) (pc' := 16) (by decide) ?_
    refine s_lloadN X0 hx (hb hby d1_16) (pc' := 17) rfl rfl ?_
    refine s_iconst X0 hx (1 : Int32) (hb hby d1_17) (pc' := 18) rfl rfl ?_
    refine s_lushr X0 hx (hb hby d1_18) (pc' := 19) rfl ?_
    exact s_retI X0 hx hlk hret (hb hby d1_19) rfl (Or.inr (Or.inl ⟨rfl, rfl, _, rfl⟩)) (by decide) (by decide) ⟨by rw [own_idx, if_neg h1], N0, e0⟩
theorem d8_0 : decode method_3_code 0 = .ok (.lload_n 0, 1) := by decide +kernel
theorem d8_1 : decode method_3_code 1 = .ok (.lconst 0, 1) := by decide +kernel
theorem d8_2 : decode method_3_code 2 = .ok (.lcmp, 1) := by decide +kernel
theorem d8_3 : decode method_3_code 3 = .ok (.ifCond .ne 10, 3) := by decide +kernel
theorem d8_6 : decode method_3_code 6 = .ok (.iload_n 2, 1) := by decide +kernel
theorem d8_7 : decode method_3_code 7 = .ok (.i2l, 1) := by decide +kernel
theorem d8_8 : decode method_3_code 8 = .ok (.iload 4, 2) := by decide +kernel
theorem d8_10 : decode method_3_code 10 = .ok (.i2l, 1) := by decide +kernel
theorem d8_11 : decode method_3_code 11 = .ok (.lmul, 1) := by decide +kernel
theorem d8_12 : decode method_3_code 12 = .ok (.lreturn, 1) := by decide +kernel
theorem d8_13 : decode method_3_code 13 = .ok (.lload_n 0, 1) := by decide +kernel
theorem d8_14 : decode method_3_code 14 = .ok (.lconst 1, 1) := by decide +kernel
theorem d8_15 : decode method_3_code 15 = .ok (.lcmp, 1) := by decide +kernel
theorem d8_16 : decode method_3_code 16 = .ok (.ifCond .ne 10, 3) := by decide +kernel
theorem d8_19 : decode method_3_code 19 = .ok (.iload_n 3, 1) := by decide +kernel
theorem d8_20 : decode method_3_code 20 = .ok (.i2l, 1) := by decide +kernel
theorem d8_21 : decode method_3_code 21 = .ok (.iload 4, 2) := by decide +kernel
theorem d8_23 : decode method_3_code 23 = .ok (.i2l, 1) := by decide +kernel
theorem d8_24 : decode method_3_code 24 = .ok (.lmul, 1) := by decide +kernel
theorem d8_25 : decode method_3_code 25 = .ok (.lreturn, 1) := by decide +kernel
theorem d8_26 : decode method_3_code 26 = .ok (.lconst 0, 1) := by decide +kernel
theorem d8_27 : decode method_3_code 27 = .ok (.lreturn, 1) := by decide +kernel
theorem pn_8 : plainName "com/example/tesserae/tesserae/data/ExampleDotPinLaw" = true := by first | (simp [plainName, overriddenIn]; done) | decide +kernel
theorem ef_8 (z0 : Int64) (z1 : Int32) (z2 : Int32) (z3 : Int32) (m : MethodId) : entryFrame m #[.long z0, .int z1, .int z2, .int z3] 5 = mkF m 0 #[.val (.long z0), .second, .val (.int z1), .val (.int z2), .val (.int z3)] [] := by first | (simp [entryFrame, mkF, argsToLocals, Value.category, maxLocals]; done) | rfl
set_option maxRecDepth 65536 in
set_option maxHeartbeats 40000000 in
theorem rm_8 (l : Launch) (Z : State) (a0 : Array Value) (hw : ∀ d ∈ tables_1, d.before a0 Z = true) (ws : List Jvm.Cond) (i1 : Int64) (w0 : Int32) (w1 : Int32) (v1 : Int32) (h0 : Heap) (n0 : Nat) (Z0 : n0 ≤ h0.size)  :
    OwnMet l Z (⟨"com/example/tesserae/tesserae/data/ExampleDotPinLaw", "term", "(JIII)J"⟩ : MethodName) method_3_code 5 (some .long) ws ({ frames := 0, cells := 0, slots := 0, locals := 0 } : Room) #[.long i1, .int w0, .int w1, .int v1] h0 (fun v h L => v = some (.long (own_term i1 w0 w1 v1)) ∧ Fr n0 L ∧ h = h0) := by
  refine own_met (plainFor_of_name pn_8) (ef_8 i1 w0 w1 v1) ?_
  intro p e s m below meth c s₁ hx hby hml hZ hown hnm hret hlk X0 e0
  have N0 := Fr.nil n0
  refine s_lloadN X0 hx (hb hby d8_0) (pc' := 1) rfl rfl ?_
  refine s_lconst X0 hx (0 : Int64) (hb hby d8_1) (pc' := 2) rfl rfl ?_
  refine s_lcmp X0 hx (hb hby d8_2) (pc' := 3) rfl ?_
  by_cases h1 : i1 = 0
  ·
    refine s_ifN X0 hx (hb hby d8_3) (pc' := 6) rfl (in_ne (own_cmpL_eq.mpr h1)) ?_
    refine s_iloadN X0 hx (hb hby d8_6) (pc' := 7) rfl rfl ?_
    refine s_i2l X0 hx (hb hby d8_7) (pc' := 8) rfl ?_
    refine s_iload X0 hx (hb hby d8_8) (pc' := 10) rfl rfl ?_
    refine s_i2l X0 hx (hb hby d8_10) (pc' := 11) rfl ?_
    refine s_lmul X0 hx (hb hby d8_11) (pc' := 12) rfl ?_
    exact s_retI X0 hx hlk hret (hb hby d8_12) rfl (Or.inr (Or.inl ⟨rfl, rfl, _, rfl⟩)) (by decide) (by decide) ⟨by rw [own_term, if_pos h1], N0, e0⟩
  ·
    refine s_ifY X0 hx (hb hby d8_3) (iy_ne (fun z => h1 (own_cmpL_eq.mp z))) (by decide) (pc' := 13) (by decide) ?_
    refine s_lloadN X0 hx (hb hby d8_13) (pc' := 14) rfl rfl ?_
    refine s_lconst X0 hx (1 : Int64) (hb hby d8_14) (pc' := 15) rfl rfl ?_
    refine s_lcmp X0 hx (hb hby d8_15) (pc' := 16) rfl ?_
    by_cases h2 : i1 = 1
    ·
      refine s_ifN X0 hx (hb hby d8_16) (pc' := 19) rfl (in_ne (own_cmpL_eq.mpr h2)) ?_
      refine s_iloadN X0 hx (hb hby d8_19) (pc' := 20) rfl rfl ?_
      refine s_i2l X0 hx (hb hby d8_20) (pc' := 21) rfl ?_
      refine s_iload X0 hx (hb hby d8_21) (pc' := 23) rfl rfl ?_
      refine s_i2l X0 hx (hb hby d8_23) (pc' := 24) rfl ?_
      refine s_lmul X0 hx (hb hby d8_24) (pc' := 25) rfl ?_
      exact s_retI X0 hx hlk hret (hb hby d8_25) rfl (Or.inr (Or.inl ⟨rfl, rfl, _, rfl⟩)) (by decide) (by decide) ⟨by rw [own_term, if_neg h1, if_pos h2], N0, e0⟩
    ·
      refine s_ifY X0 hx (hb hby d8_16) (iy_ne (fun z => h2 (own_cmpL_eq.mp z))) (by decide) (pc' := 26) (by decide) ?_
      refine s_lconst X0 hx (0 : Int64) (hb hby d8_26) (pc' := 27) rfl rfl ?_
      exact s_retI X0 hx hlk hret (hb hby d8_27) rfl (Or.inr (Or.inl ⟨rfl, rfl, _, rfl⟩)) (by decide) (by decide) ⟨by rw [own_term, if_neg h1, if_neg h2], N0, e0⟩
theorem d5_0 : decode jdk_29_method_69_code 0 = .ok (.iload_n 0, 1) := by decide +kernel
theorem d5_1 : decode jdk_29_method_69_code 1 = .ok (.iload_n 1, 1) := by decide +kernel
theorem d5_2 : decode jdk_29_method_69_code 2 = .ok (.if_icmp .gt 7, 3) := by decide +kernel
theorem d5_5 : decode jdk_29_method_69_code 5 = .ok (.iload_n 0, 1) := by decide +kernel
theorem d5_6 : decode jdk_29_method_69_code 6 = .ok (.goto 4, 3) := by decide +kernel
theorem d5_9 : decode jdk_29_method_69_code 9 = .ok (.iload_n 1, 1) := by decide +kernel
theorem d5_10 : decode jdk_29_method_69_code 10 = .ok (.ireturn, 1) := by decide +kernel
theorem ef_5 (z0 : Int32) (z1 : Int32) (m : MethodId) : entryFrame m #[.int z0, .int z1] 2 = mkF m 0 #[.val (.int z0), .val (.int z1)] [] := by first | (simp [entryFrame, mkF, argsToLocals, Value.category, maxLocals]; done) | rfl
set_option maxRecDepth 65536 in
set_option maxHeartbeats 40000000 in
theorem rm_5_0 (l : Launch) (Z : State) (a0 : Array Value) (hw : ∀ d ∈ tables_1, d.before a0 Z = true) (ws : List Jvm.Cond)  (h0 : Heap) (n0 : Nat) (Z0 : n0 ≤ h0.size)  :
    OwnMet l Z (⟨"java/lang/Math", "min", "(II)I"⟩ : MethodName) jdk_29_method_69_code 2 (some .int) ws ({ frames := 0, cells := 0, slots := 0, locals := 0 } : Room) #[.int (3 : Int32), .int (0 : Int32)] h0 (fun v h L => v = some (.int (0 : Int32)) ∧ Fr n0 L ∧ h = h0) := by
  refine own_met (by decide +kernel) (ef_5 (3 : Int32) (0 : Int32)) ?_
  intro p e s m below meth c s₁ hx hby hml hZ hown hnm hret hlk X0 e0
  have N0 := Fr.nil n0
  refine s_iloadN X0 hx (hb hby d5_0) (pc' := 1) rfl rfl ?_
  refine s_iloadN X0 hx (hb hby d5_1) (pc' := 2) rfl rfl ?_
  refine s_icmpY X0 hx (hb hby d5_2) (by decide) (by decide) (pc' := 9) (by decide) ?_
  refine s_iloadN X0 hx (hb hby d5_9) (pc' := 10) rfl rfl ?_
  exact s_retI X0 hx hlk hret (hb hby d5_10) rfl (Or.inl ⟨rfl, by simp, _, rfl⟩) (by decide) (by decide) ⟨rfl, N0, e0⟩
set_option maxRecDepth 65536 in
set_option maxHeartbeats 40000000 in
theorem rm_5_1 (l : Launch) (Z : State) (a0 : Array Value) (hw : ∀ d ∈ tables_1, d.before a0 Z = true) (ws : List Jvm.Cond)  (h0 : Heap) (n0 : Nat) (Z0 : n0 ≤ h0.size)  :
    OwnMet l Z (⟨"java/lang/Math", "min", "(II)I"⟩ : MethodName) jdk_29_method_69_code 2 (some .int) ws ({ frames := 0, cells := 0, slots := 0, locals := 0 } : Room) #[.int (3 : Int32), .int (1 : Int32)] h0 (fun v h L => v = some (.int (1 : Int32)) ∧ Fr n0 L ∧ h = h0) := by
  refine own_met (by decide +kernel) (ef_5 (3 : Int32) (1 : Int32)) ?_
  intro p e s m below meth c s₁ hx hby hml hZ hown hnm hret hlk X0 e0
  have N0 := Fr.nil n0
  refine s_iloadN X0 hx (hb hby d5_0) (pc' := 1) rfl rfl ?_
  refine s_iloadN X0 hx (hb hby d5_1) (pc' := 2) rfl rfl ?_
  refine s_icmpY X0 hx (hb hby d5_2) (by decide) (by decide) (pc' := 9) (by decide) ?_
  refine s_iloadN X0 hx (hb hby d5_9) (pc' := 10) rfl rfl ?_
  exact s_retI X0 hx hlk hret (hb hby d5_10) rfl (Or.inl ⟨rfl, by simp, _, rfl⟩) (by decide) (by decide) ⟨rfl, N0, e0⟩
set_option maxRecDepth 65536 in
set_option maxHeartbeats 40000000 in
theorem rm_5_2 (l : Launch) (Z : State) (a0 : Array Value) (hw : ∀ d ∈ tables_1, d.before a0 Z = true) (ws : List Jvm.Cond)  (h0 : Heap) (n0 : Nat) (Z0 : n0 ≤ h0.size)  :
    OwnMet l Z (⟨"java/lang/Math", "min", "(II)I"⟩ : MethodName) jdk_29_method_69_code 2 (some .int) ws ({ frames := 0, cells := 0, slots := 0, locals := 0 } : Room) #[.int (3 : Int32), .int (2 : Int32)] h0 (fun v h L => v = some (.int (2 : Int32)) ∧ Fr n0 L ∧ h = h0) := by
  refine own_met (by decide +kernel) (ef_5 (3 : Int32) (2 : Int32)) ?_
  intro p e s m below meth c s₁ hx hby hml hZ hown hnm hret hlk X0 e0
  have N0 := Fr.nil n0
  refine s_iloadN X0 hx (hb hby d5_0) (pc' := 1) rfl rfl ?_
  refine s_iloadN X0 hx (hb hby d5_1) (pc' := 2) rfl rfl ?_
  refine s_icmpY X0 hx (hb hby d5_2) (by decide) (by decide) (pc' := 9) (by decide) ?_
  refine s_iloadN X0 hx (hb hby d5_9) (pc' := 10) rfl rfl ?_
  exact s_retI X0 hx hlk hret (hb hby d5_10) rfl (Or.inl ⟨rfl, by simp, _, rfl⟩) (by decide) (by decide) ⟨rfl, N0, e0⟩
theorem d4_0 : decode jdk_65_method_124_code 0 = .ok (.iload_n 1, 1) := by decide +kernel
theorem d4_1 : decode jdk_65_method_124_code 1 = .ok (.aload_n 0, 1) := by decide +kernel
theorem d4_2 : decode jdk_65_method_124_code 2 = .ok (.arraylength, 1) := by decide +kernel
theorem d4_3 : decode jdk_65_method_124_code 3 = .ok (.if_icmp .ne 11, 3) := by decide +kernel
theorem d4_6 : decode jdk_65_method_124_code 6 = .ok (.aload_n 0, 1) := by decide +kernel
theorem d4_7 : decode jdk_65_method_124_code 7 = .ok (.invokevirtual 319, 3) := by decide +kernel
theorem d4_10 : decode jdk_65_method_124_code 10 = .ok (.checkcast 320, 3) := by decide +kernel
theorem d4_13 : decode jdk_65_method_124_code 13 = .ok (.areturn, 1) := by decide +kernel
theorem d4_14 : decode jdk_65_method_124_code 14 = .ok (.iload_n 1, 1) := by decide +kernel
theorem d4_15 : decode jdk_65_method_124_code 15 = .ok (.newarray .long, 2) := by decide +kernel
theorem d4_17 : decode jdk_65_method_124_code 17 = .ok (.astore_n 2, 1) := by decide +kernel
theorem d4_18 : decode jdk_65_method_124_code 18 = .ok (.aload_n 0, 1) := by decide +kernel
theorem d4_19 : decode jdk_65_method_124_code 19 = .ok (.iconst 0, 1) := by decide +kernel
theorem d4_20 : decode jdk_65_method_124_code 20 = .ok (.aload_n 2, 1) := by decide +kernel
theorem d4_21 : decode jdk_65_method_124_code 21 = .ok (.iconst 0, 1) := by decide +kernel
theorem d4_22 : decode jdk_65_method_124_code 22 = .ok (.aload_n 0, 1) := by decide +kernel
theorem d4_23 : decode jdk_65_method_124_code 23 = .ok (.arraylength, 1) := by decide +kernel
theorem d4_24 : decode jdk_65_method_124_code 24 = .ok (.iload_n 1, 1) := by decide +kernel
theorem d4_25 : decode jdk_65_method_124_code 25 = .ok (.invokestatic 304, 3) := by decide +kernel
theorem d4_28 : decode jdk_65_method_124_code 28 = .ok (.invokestatic 150, 3) := by decide +kernel
theorem d4_31 : decode jdk_65_method_124_code 31 = .ok (.aload_n 2, 1) := by decide +kernel
theorem d4_32 : decode jdk_65_method_124_code 32 = .ok (.areturn, 1) := by decide +kernel
theorem pn_4 : plainName "java/util/Arrays" = true := by first | (simp [plainName, overriddenIn]; done) | decide +kernel
theorem pd_0 : parseMethodDescriptor "(II)I" = some ⟨[.int, .int], some .int⟩ := by decide +kernel
theorem ef_4 (z0 : Addr) (z1 : Int32) (m : MethodId) : entryFrame m #[.ref z0, .int z1] 3 = mkF m 0 #[.val (.ref z0), .val (.int z1), .unset] [] := by first | (simp [entryFrame, mkF, argsToLocals, Value.category, maxLocals]; done) | rfl
set_option maxRecDepth 65536 in
set_option maxHeartbeats 40000000 in
theorem rm_4_0 (l : Launch) (Z : State) (a0 : Array Value) (hw : ∀ d ∈ tables_1, d.before a0 Z = true) (ws : List Jvm.Cond) (a : Addr) (kk : ClassId) (y0 : Int64) (y1 : Int64) (y2 : Int64) (h0 : Heap) (n0 : Nat) (Z0 : n0 ≤ h0.size) (Va : Arv Z h0 a kk .long (3 : Int32) [.long y0, .long y1, .long y2] (.long 0)) (Ea : Exa Z h0 a "[J") :
    OwnMet l Z (⟨"java/util/Arrays", "copyOf", "([JI)[J"⟩ : MethodName) jdk_65_method_124_code 3 (some (.array .long)) ws ({ frames := 1, cells := 1, slots := 3, locals := 40 } : Room) #[.ref a, .int (0 : Int32)] h0 (fun v h L => ∃ (r : Addr) (k2 : ClassId), v = some (.ref r) ∧ Fr n0 L ∧ Keep h0 h [] ∧ h0.size ≤ r ∧ Arv Z h r k2 .long (0 : Int32) [] (.long 0)) := by
  refine own_met (plainFor_of_name pn_4) (ef_4 a (0 : Int32)) ?_
  intro p e s m below meth c s₁ hx hby hml hZ hown hnm hret hlk X0 e0
  have N0 := Fr.nil n0
  refine s_iloadN X0 hx (hb hby d4_0) (pc' := 1) rfl rfl ?_
  refine s_aloadN X0 hx (hb hby d4_1) (pc' := 2) rfl rfl rfl ?_
  refine s_len X0 hx hZ e0 Va (hb hby d4_2) (pc' := 3) rfl ?_
  refine s_icmpY X0 hx (hb hby d4_3) (by decide) (by decide) (pc' := 14) (by decide) ?_
  refine s_iloadN X0 hx (hb hby d4_14) (pc' := 15) rfl rfl ?_
  refine s_newP X0 hx hZ (hw _ (List.mem_of_getElem? (i := 5) rfl)) e0 (hb hby d4_15) (pc' := 17) rfl (by decide) 0 (by decide) (by decide) (by decide) (by decide) (ad := "[J") (by decide) ?_
  intro T1 h1 c1 o1 X1 e1 E1 g1 V1 Ex1
  have ne1_a : a ≠ o1 := Nat.ne_of_lt (by rw [g1]; exact Ea.lt)
  have hg1 : h0.size ≤ o1 := by rw [g1]; exact (Nat.le_refl _)
  have H1 : h0.size ≤ h1.size := Nat.le_trans (Nat.le_refl _) E1.1
  have U1 : Arv Z h1 o1 c1 .long (0 : Int32) [] (.long 0) := V1.pad (pad_rep [] _ 0)
  refine s_astoreN X1 hx #[.val (.ref a), .val (.int (0 : Int32)), .val (.ref o1)] (hb hby d4_17) (pc' := 18) rfl rfl rfl ?_
  refine s_aloadN X1 hx (hb hby d4_18) (pc' := 19) rfl rfl rfl ?_
  refine s_iconst X1 hx (0 : Int32) (hb hby d4_19) (pc' := 20) rfl rfl ?_
  refine s_aloadN X1 hx (hb hby d4_20) (pc' := 21) rfl rfl rfl ?_
  refine s_iconst X1 hx (0 : Int32) (hb hby d4_21) (pc' := 22) rfl rfl ?_
  refine s_aloadN X1 hx (hb hby d4_22) (pc' := 23) rfl rfl rfl ?_
  have fV2 := (Va.ext E1)
  refine s_len X1 hx hZ e1 fV2 (hb hby d4_23) (pc' := 24) rfl ?_
  refine s_iloadN X1 hx (hb hby d4_24) (pc' := 25) rfl rfl ?_
  refine c_static X1 hx hZ hown (hw _ (List.mem_of_getElem? (i := 22) rfl)) (hw _ (List.mem_of_getElem? (i := 23) rfl)) (hw _ (List.mem_of_getElem? (i := 24) rfl)) (hw _ (List.mem_of_getElem? (i := 25) rfl)) (by decide) e1 (rm_5_0 l Z a0 hw [] h1 n0 (Nat.le_trans Z0 H1)) (W := 4) (by decide) (by decide) (by decide) (by decide) (by rw [hml]; rfl) (argsL := [.int (3 : Int32), .int (0 : Int32)]) (rest := [.int (0 : Int32), .ref o1, .int (0 : Int32), .ref a]) (lenOf pd_0 rfl) rfl rfl (Nat.le_of_eq rfl) (hb hby d4_25) (pc' := 28) rfl ?_
  intro T3 v3 L3 X3 hQ3
  obtain ⟨rfl, Nq3, eh3⟩ := hQ3
  have N3 := Fr.app N0 Nq3
  show Goes p e below _ (T3.setTop (mkF m 28 #[.val (.ref a), .val (.int (0 : Int32)), .val (.ref o1)] [.int (0 : Int32), .int (0 : Int32), .ref o1, .int (0 : Int32), .ref a]))
  refine s_copy X3 hx hZ hown (hw _ (List.mem_of_getElem? (i := 26) rfl)) (hw _ (List.mem_of_getElem? (i := 29) rfl)) (hw _ (List.mem_of_getElem? (i := 27) rfl)) (hw _ (List.mem_of_getElem? (i := 28) rfl)) eh3 fV2 U1 rfl (by decide) (by decide) (by decide) (by decide) (by decide) (us := []) rfl (by simp) N3 (Nat.le_trans Z0 hg1) (hb hby d4_28) (pc' := 31) rfl (by rw [hml]; rfl) (by decide) (W := 0) (Nat.le_of_eq rfl) (by decide) ?_
  intro T4 h4 L4 X4 e4 N4 K4 V4
  have U4 : Arv Z h4 o1 c1 .long (0 : Int32) [] (.long 0) := V4
  have H4 : h0.size ≤ h4.size := Nat.le_trans H1 K4.1
  refine s_aloadN X4 hx (hb hby d4_31) (pc' := 32) rfl rfl rfl ?_
  have KK5 : Keep h0 h4 [] := (((Keep.refl _ _).ext E1).trans K4 (allS (Or.inr hg1) all0))
  exact s_retI X4 hx hlk hret (hb hby d4_32) rfl (Or.inr (Or.inr (Or.inr (Or.inr ⟨rfl, rfl, rfl⟩)))) (by decide) (by decide) (by rw [e4]; exact ⟨_, _, rfl, N4, KK5, hg1, U4⟩)
set_option maxRecDepth 65536 in
set_option maxHeartbeats 40000000 in
theorem rm_4_1 (l : Launch) (Z : State) (a0 : Array Value) (hw : ∀ d ∈ tables_1, d.before a0 Z = true) (ws : List Jvm.Cond) (a : Addr) (kk : ClassId) (y0 : Int64) (y1 : Int64) (y2 : Int64) (h0 : Heap) (n0 : Nat) (Z0 : n0 ≤ h0.size) (Va : Arv Z h0 a kk .long (3 : Int32) [.long y0, .long y1, .long y2] (.long 0)) (Ea : Exa Z h0 a "[J") :
    OwnMet l Z (⟨"java/util/Arrays", "copyOf", "([JI)[J"⟩ : MethodName) jdk_65_method_124_code 3 (some (.array .long)) ws ({ frames := 1, cells := 1, slots := 3, locals := 40 } : Room) #[.ref a, .int (1 : Int32)] h0 (fun v h L => ∃ (r : Addr) (k2 : ClassId), v = some (.ref r) ∧ Fr n0 L ∧ Keep h0 h [] ∧ h0.size ≤ r ∧ Arv Z h r k2 .long (1 : Int32) [.long y0] (.long 0)) := by
  refine own_met (plainFor_of_name pn_4) (ef_4 a (1 : Int32)) ?_
  intro p e s m below meth c s₁ hx hby hml hZ hown hnm hret hlk X0 e0
  have N0 := Fr.nil n0
  refine s_iloadN X0 hx (hb hby d4_0) (pc' := 1) rfl rfl ?_
  refine s_aloadN X0 hx (hb hby d4_1) (pc' := 2) rfl rfl rfl ?_
  refine s_len X0 hx hZ e0 Va (hb hby d4_2) (pc' := 3) rfl ?_
  refine s_icmpY X0 hx (hb hby d4_3) (by decide) (by decide) (pc' := 14) (by decide) ?_
  refine s_iloadN X0 hx (hb hby d4_14) (pc' := 15) rfl rfl ?_
  refine s_newP X0 hx hZ (hw _ (List.mem_of_getElem? (i := 5) rfl)) e0 (hb hby d4_15) (pc' := 17) rfl (by decide) 1 (by decide) (by decide) (by decide) (by decide) (ad := "[J") (by decide) ?_
  intro T1 h1 c1 o1 X1 e1 E1 g1 V1 Ex1
  have ne1_a : a ≠ o1 := Nat.ne_of_lt (by rw [g1]; exact Ea.lt)
  have hg1 : h0.size ≤ o1 := by rw [g1]; exact (Nat.le_refl _)
  have H1 : h0.size ≤ h1.size := Nat.le_trans (Nat.le_refl _) E1.1
  have U1 : Arv Z h1 o1 c1 .long (1 : Int32) [.long 0] (.long 0) := V1.pad (pad_rep [] _ 1)
  refine s_astoreN X1 hx #[.val (.ref a), .val (.int (1 : Int32)), .val (.ref o1)] (hb hby d4_17) (pc' := 18) rfl rfl rfl ?_
  refine s_aloadN X1 hx (hb hby d4_18) (pc' := 19) rfl rfl rfl ?_
  refine s_iconst X1 hx (0 : Int32) (hb hby d4_19) (pc' := 20) rfl rfl ?_
  refine s_aloadN X1 hx (hb hby d4_20) (pc' := 21) rfl rfl rfl ?_
  refine s_iconst X1 hx (0 : Int32) (hb hby d4_21) (pc' := 22) rfl rfl ?_
  refine s_aloadN X1 hx (hb hby d4_22) (pc' := 23) rfl rfl rfl ?_
  have fV2 := (Va.ext E1)
  refine s_len X1 hx hZ e1 fV2 (hb hby d4_23) (pc' := 24) rfl ?_
  refine s_iloadN X1 hx (hb hby d4_24) (pc' := 25) rfl rfl ?_
  refine c_static X1 hx hZ hown (hw _ (List.mem_of_getElem? (i := 22) rfl)) (hw _ (List.mem_of_getElem? (i := 23) rfl)) (hw _ (List.mem_of_getElem? (i := 24) rfl)) (hw _ (List.mem_of_getElem? (i := 25) rfl)) (by decide) e1 (rm_5_1 l Z a0 hw [] h1 n0 (Nat.le_trans Z0 H1)) (W := 4) (by decide) (by decide) (by decide) (by decide) (by rw [hml]; rfl) (argsL := [.int (3 : Int32), .int (1 : Int32)]) (rest := [.int (0 : Int32), .ref o1, .int (0 : Int32), .ref a]) (lenOf pd_0 rfl) rfl rfl (Nat.le_of_eq rfl) (hb hby d4_25) (pc' := 28) rfl ?_
  intro T3 v3 L3 X3 hQ3
  obtain ⟨rfl, Nq3, eh3⟩ := hQ3
  have N3 := Fr.app N0 Nq3
  show Goes p e below _ (T3.setTop (mkF m 28 #[.val (.ref a), .val (.int (1 : Int32)), .val (.ref o1)] [.int (1 : Int32), .int (0 : Int32), .ref o1, .int (0 : Int32), .ref a]))
  refine s_copy X3 hx hZ hown (hw _ (List.mem_of_getElem? (i := 26) rfl)) (hw _ (List.mem_of_getElem? (i := 29) rfl)) (hw _ (List.mem_of_getElem? (i := 27) rfl)) (hw _ (List.mem_of_getElem? (i := 28) rfl)) eh3 fV2 U1 rfl (by decide) (by decide) (by decide) (by decide) (by decide) (us := [.long y0]) rfl (by simp) N3 (Nat.le_trans Z0 hg1) (hb hby d4_28) (pc' := 31) rfl (by rw [hml]; rfl) (by decide) (W := 0) (Nat.le_of_eq rfl) (by decide) ?_
  intro T4 h4 L4 X4 e4 N4 K4 V4
  have U4 : Arv Z h4 o1 c1 .long (1 : Int32) [.long y0] (.long 0) := V4
  have H4 : h0.size ≤ h4.size := Nat.le_trans H1 K4.1
  refine s_aloadN X4 hx (hb hby d4_31) (pc' := 32) rfl rfl rfl ?_
  have KK5 : Keep h0 h4 [] := (((Keep.refl _ _).ext E1).trans K4 (allS (Or.inr hg1) all0))
  exact s_retI X4 hx hlk hret (hb hby d4_32) rfl (Or.inr (Or.inr (Or.inr (Or.inr ⟨rfl, rfl, rfl⟩)))) (by decide) (by decide) (by rw [e4]; exact ⟨_, _, rfl, N4, KK5, hg1, U4⟩)
set_option maxRecDepth 65536 in
set_option maxHeartbeats 40000000 in
theorem rm_4_2 (l : Launch) (Z : State) (a0 : Array Value) (hw : ∀ d ∈ tables_1, d.before a0 Z = true) (ws : List Jvm.Cond) (a : Addr) (kk : ClassId) (y0 : Int64) (y1 : Int64) (y2 : Int64) (h0 : Heap) (n0 : Nat) (Z0 : n0 ≤ h0.size) (Va : Arv Z h0 a kk .long (3 : Int32) [.long y0, .long y1, .long y2] (.long 0)) (Ea : Exa Z h0 a "[J") :
    OwnMet l Z (⟨"java/util/Arrays", "copyOf", "([JI)[J"⟩ : MethodName) jdk_65_method_124_code 3 (some (.array .long)) ws ({ frames := 1, cells := 1, slots := 3, locals := 40 } : Room) #[.ref a, .int (2 : Int32)] h0 (fun v h L => ∃ (r : Addr) (k2 : ClassId), v = some (.ref r) ∧ Fr n0 L ∧ Keep h0 h [] ∧ h0.size ≤ r ∧ Arv Z h r k2 .long (2 : Int32) [.long y0, .long y1] (.long 0)) := by
  refine own_met (plainFor_of_name pn_4) (ef_4 a (2 : Int32)) ?_
  intro p e s m below meth c s₁ hx hby hml hZ hown hnm hret hlk X0 e0
  have N0 := Fr.nil n0
  refine s_iloadN X0 hx (hb hby d4_0) (pc' := 1) rfl rfl ?_
  refine s_aloadN X0 hx (hb hby d4_1) (pc' := 2) rfl rfl rfl ?_
  refine s_len X0 hx hZ e0 Va (hb hby d4_2) (pc' := 3) rfl ?_
  refine s_icmpY X0 hx (hb hby d4_3) (by decide) (by decide) (pc' := 14) (by decide) ?_
  refine s_iloadN X0 hx (hb hby d4_14) (pc' := 15) rfl rfl ?_
  refine s_newP X0 hx hZ (hw _ (List.mem_of_getElem? (i := 5) rfl)) e0 (hb hby d4_15) (pc' := 17) rfl (by decide) 2 (by decide) (by decide) (by decide) (by decide) (ad := "[J") (by decide) ?_
  intro T1 h1 c1 o1 X1 e1 E1 g1 V1 Ex1
  have ne1_a : a ≠ o1 := Nat.ne_of_lt (by rw [g1]; exact Ea.lt)
  have hg1 : h0.size ≤ o1 := by rw [g1]; exact (Nat.le_refl _)
  have H1 : h0.size ≤ h1.size := Nat.le_trans (Nat.le_refl _) E1.1
  have U1 : Arv Z h1 o1 c1 .long (2 : Int32) [.long 0, .long 0] (.long 0) := V1.pad (pad_rep [] _ 2)
  refine s_astoreN X1 hx #[.val (.ref a), .val (.int (2 : Int32)), .val (.ref o1)] (hb hby d4_17) (pc' := 18) rfl rfl rfl ?_
  refine s_aloadN X1 hx (hb hby d4_18) (pc' := 19) rfl rfl rfl ?_
  refine s_iconst X1 hx (0 : Int32) (hb hby d4_19) (pc' := 20) rfl rfl ?_
  refine s_aloadN X1 hx (hb hby d4_20) (pc' := 21) rfl rfl rfl ?_
  refine s_iconst X1 hx (0 : Int32) (hb hby d4_21) (pc' := 22) rfl rfl ?_
  refine s_aloadN X1 hx (hb hby d4_22) (pc' := 23) rfl rfl rfl ?_
  have fV2 := (Va.ext E1)
  refine s_len X1 hx hZ e1 fV2 (hb hby d4_23) (pc' := 24) rfl ?_
  refine s_iloadN X1 hx (hb hby d4_24) (pc' := 25) rfl rfl ?_
  refine c_static X1 hx hZ hown (hw _ (List.mem_of_getElem? (i := 22) rfl)) (hw _ (List.mem_of_getElem? (i := 23) rfl)) (hw _ (List.mem_of_getElem? (i := 24) rfl)) (hw _ (List.mem_of_getElem? (i := 25) rfl)) (by decide) e1 (rm_5_2 l Z a0 hw [] h1 n0 (Nat.le_trans Z0 H1)) (W := 4) (by decide) (by decide) (by decide) (by decide) (by rw [hml]; rfl) (argsL := [.int (3 : Int32), .int (2 : Int32)]) (rest := [.int (0 : Int32), .ref o1, .int (0 : Int32), .ref a]) (lenOf pd_0 rfl) rfl rfl (Nat.le_of_eq rfl) (hb hby d4_25) (pc' := 28) rfl ?_
  intro T3 v3 L3 X3 hQ3
  obtain ⟨rfl, Nq3, eh3⟩ := hQ3
  have N3 := Fr.app N0 Nq3
  show Goes p e below _ (T3.setTop (mkF m 28 #[.val (.ref a), .val (.int (2 : Int32)), .val (.ref o1)] [.int (2 : Int32), .int (0 : Int32), .ref o1, .int (0 : Int32), .ref a]))
  refine s_copy X3 hx hZ hown (hw _ (List.mem_of_getElem? (i := 26) rfl)) (hw _ (List.mem_of_getElem? (i := 29) rfl)) (hw _ (List.mem_of_getElem? (i := 27) rfl)) (hw _ (List.mem_of_getElem? (i := 28) rfl)) eh3 fV2 U1 rfl (by decide) (by decide) (by decide) (by decide) (by decide) (us := [.long y0, .long y1]) rfl (by simp) N3 (Nat.le_trans Z0 hg1) (hb hby d4_28) (pc' := 31) rfl (by rw [hml]; rfl) (by decide) (W := 0) (Nat.le_of_eq rfl) (by decide) ?_
  intro T4 h4 L4 X4 e4 N4 K4 V4
  have U4 : Arv Z h4 o1 c1 .long (2 : Int32) [.long y0, .long y1] (.long 0) := V4
  have H4 : h0.size ≤ h4.size := Nat.le_trans H1 K4.1
  refine s_aloadN X4 hx (hb hby d4_31) (pc' := 32) rfl rfl rfl ?_
  have KK5 : Keep h0 h4 [] := (((Keep.refl _ _).ext E1).trans K4 (allS (Or.inr hg1) all0))
  exact s_retI X4 hx hlk hret (hb hby d4_32) rfl (Or.inr (Or.inr (Or.inr (Or.inr ⟨rfl, rfl, rfl⟩)))) (by decide) (by decide) (by rw [e4]; exact ⟨_, _, rfl, N4, KK5, hg1, U4⟩)
set_option maxRecDepth 65536 in
set_option maxHeartbeats 40000000 in
theorem rm_4_3 (l : Launch) (Z : State) (a0 : Array Value) (hw : ∀ d ∈ tables_1, d.before a0 Z = true) (ws : List Jvm.Cond) (a : Addr) (kk : ClassId) (y0 : Int64) (y1 : Int64) (y2 : Int64) (h0 : Heap) (n0 : Nat) (Z0 : n0 ≤ h0.size) (Va : Arv Z h0 a kk .long (3 : Int32) [.long y0, .long y1, .long y2] (.long 0)) (Ea : Exa Z h0 a "[J") :
    OwnMet l Z (⟨"java/util/Arrays", "copyOf", "([JI)[J"⟩ : MethodName) jdk_65_method_124_code 3 (some (.array .long)) ws ({ frames := 1, cells := 1, slots := 3, locals := 40 } : Room) #[.ref a, .int (3 : Int32)] h0 (fun v h L => ∃ (r : Addr) (k2 : ClassId), v = some (.ref r) ∧ Fr n0 L ∧ Keep h0 h [] ∧ h0.size ≤ r ∧ Arv Z h r k2 .long (3 : Int32) [.long y0, .long y1, .long y2] (.long 0)) := by
  refine own_met (plainFor_of_name pn_4) (ef_4 a (3 : Int32)) ?_
  intro p e s m below meth c s₁ hx hby hml hZ hown hnm hret hlk X0 e0
  have N0 := Fr.nil n0
  refine s_iloadN X0 hx (hb hby d4_0) (pc' := 1) rfl rfl ?_
  refine s_aloadN X0 hx (hb hby d4_1) (pc' := 2) rfl rfl rfl ?_
  refine s_len X0 hx hZ e0 Va (hb hby d4_2) (pc' := 3) rfl ?_
  refine s_icmpN X0 hx (hb hby d4_3) (pc' := 6) rfl (by decide) ?_
  refine s_aloadN X0 hx (hb hby d4_6) (pc' := 7) rfl rfl rfl ?_
  refine s_clone X0 hx hZ hown (hw _ (List.mem_of_getElem? (i := 45) rfl)) (hw _ (List.mem_of_getElem? (i := 46) rfl)) (hw _ (List.mem_of_getElem? (i := 50) rfl)) (hw _ (List.mem_of_getElem? (i := 48) rfl)) (hw _ (List.mem_of_getElem? (i := 49) rfl)) (hw _ (List.mem_of_getElem? (i := 51) rfl)) e0 Va Ea (hb hby d4_7) (pc' := 10) rfl (by rw [hml]; rfl) (by decide) (W := 0) (Nat.le_of_eq rfl) (by decide) 3 (by decide) (by decide) (by decide) ?_
  intro T1 h1 o1 X1 e1 E1 g1 V1 Ex1
  have ne1_a : a ≠ o1 := Nat.ne_of_lt (by rw [g1]; exact Ea.lt)
  have hg1 : h0.size ≤ o1 := by rw [g1]; exact (Nat.le_refl _)
  have H1 : h0.size ≤ h1.size := Nat.le_trans (Nat.le_refl _) E1.1
  refine s_castY X1 hx hZ hown (hw _ (List.mem_of_getElem? (i := 52) rfl)) e1 (Ins.self Ex1) (hb hby d4_10) (pc' := 13) rfl ?_
  intro T2 X2 e2
  have KK3 : Keep h0 h1 [] := ((Keep.refl _ _).ext E1)
  exact s_retI X2 hx hlk hret (hb hby d4_13) rfl (Or.inr (Or.inr (Or.inr (Or.inr ⟨rfl, rfl, rfl⟩)))) (by decide) (by decide) (by rw [e2]; exact ⟨_, _, rfl, N0, KK3, hg1, V1⟩)
theorem d6_0 : decode jdk_65_method_127_code 0 = .ok (.iload_n 1, 1) := by decide +kernel
theorem d6_1 : decode jdk_65_method_127_code 1 = .ok (.aload_n 0, 1) := by decide +kernel
theorem d6_2 : decode jdk_65_method_127_code 2 = .ok (.arraylength, 1) := by decide +kernel
theorem d6_3 : decode jdk_65_method_127_code 3 = .ok (.if_icmp .ne 11, 3) := by decide +kernel
theorem d6_6 : decode jdk_65_method_127_code 6 = .ok (.aload_n 0, 1) := by decide +kernel
theorem d6_7 : decode jdk_65_method_127_code 7 = .ok (.invokevirtual 328, 3) := by decide +kernel
theorem d6_10 : decode jdk_65_method_127_code 10 = .ok (.checkcast 329, 3) := by decide +kernel
theorem d6_13 : decode jdk_65_method_127_code 13 = .ok (.areturn, 1) := by decide +kernel
theorem d6_14 : decode jdk_65_method_127_code 14 = .ok (.iload_n 1, 1) := by decide +kernel
theorem d6_15 : decode jdk_65_method_127_code 15 = .ok (.newarray .double, 2) := by decide +kernel
theorem d6_17 : decode jdk_65_method_127_code 17 = .ok (.astore_n 2, 1) := by decide +kernel
theorem d6_18 : decode jdk_65_method_127_code 18 = .ok (.aload_n 0, 1) := by decide +kernel
theorem d6_19 : decode jdk_65_method_127_code 19 = .ok (.iconst 0, 1) := by decide +kernel
theorem d6_20 : decode jdk_65_method_127_code 20 = .ok (.aload_n 2, 1) := by decide +kernel
theorem d6_21 : decode jdk_65_method_127_code 21 = .ok (.iconst 0, 1) := by decide +kernel
theorem d6_22 : decode jdk_65_method_127_code 22 = .ok (.aload_n 0, 1) := by decide +kernel
theorem d6_23 : decode jdk_65_method_127_code 23 = .ok (.arraylength, 1) := by decide +kernel
theorem d6_24 : decode jdk_65_method_127_code 24 = .ok (.iload_n 1, 1) := by decide +kernel
theorem d6_25 : decode jdk_65_method_127_code 25 = .ok (.invokestatic 304, 3) := by decide +kernel
theorem d6_28 : decode jdk_65_method_127_code 28 = .ok (.invokestatic 150, 3) := by decide +kernel
theorem d6_31 : decode jdk_65_method_127_code 31 = .ok (.aload_n 2, 1) := by decide +kernel
theorem d6_32 : decode jdk_65_method_127_code 32 = .ok (.areturn, 1) := by decide +kernel
theorem pn_6 : plainName "java/util/Arrays" = true := by first | (simp [plainName, overriddenIn]; done) | decide +kernel
theorem ef_6 (z0 : Addr) (z1 : Int32) (m : MethodId) : entryFrame m #[.ref z0, .int z1] 3 = mkF m 0 #[.val (.ref z0), .val (.int z1), .unset] [] := by first | (simp [entryFrame, mkF, argsToLocals, Value.category, maxLocals]; done) | rfl
set_option maxRecDepth 65536 in
set_option maxHeartbeats 40000000 in
theorem rm_6_0 (l : Launch) (Z : State) (a0 : Array Value) (hw : ∀ d ∈ tables_1, d.before a0 Z = true) (ws : List Jvm.Cond) (a : Addr) (kk : ClassId) (y0 : UInt64) (y1 : UInt64) (y2 : UInt64) (h0 : Heap) (n0 : Nat) (Z0 : n0 ≤ h0.size) (Va : Arv Z h0 a kk .double (3 : Int32) [.double y0, .double y1, .double y2] (.double 0)) (Ea : Exa Z h0 a "[D") :
    OwnMet l Z (⟨"java/util/Arrays", "copyOf", "([DI)[D"⟩ : MethodName) jdk_65_method_127_code 3 (some (.array .double)) ws ({ frames := 1, cells := 1, slots := 3, locals := 40 } : Room) #[.ref a, .int (0 : Int32)] h0 (fun v h L => ∃ (r : Addr) (k2 : ClassId), v = some (.ref r) ∧ Fr n0 L ∧ Keep h0 h [] ∧ h0.size ≤ r ∧ Arv Z h r k2 .double (0 : Int32) [] (.double 0)) := by
  refine own_met (plainFor_of_name pn_6) (ef_6 a (0 : Int32)) ?_
  intro p e s m below meth c s₁ hx hby hml hZ hown hnm hret hlk X0 e0
  have N0 := Fr.nil n0
  refine s_iloadN X0 hx (hb hby d6_0) (pc' := 1) rfl rfl ?_
  refine s_aloadN X0 hx (hb hby d6_1) (pc' := 2) rfl rfl rfl ?_
  refine s_len X0 hx hZ e0 Va (hb hby d6_2) (pc' := 3) rfl ?_
  refine s_icmpY X0 hx (hb hby d6_3) (by decide) (by decide) (pc' := 14) (by decide) ?_
  refine s_iloadN X0 hx (hb hby d6_14) (pc' := 15) rfl rfl ?_
  refine s_newP X0 hx hZ (hw _ (List.mem_of_getElem? (i := 6) rfl)) e0 (hb hby d6_15) (pc' := 17) rfl (by decide) 0 (by decide) (by decide) (by decide) (by decide) (ad := "[D") (by decide) ?_
  intro T1 h1 c1 o1 X1 e1 E1 g1 V1 Ex1
  have ne1_a : a ≠ o1 := Nat.ne_of_lt (by rw [g1]; exact Ea.lt)
  have hg1 : h0.size ≤ o1 := by rw [g1]; exact (Nat.le_refl _)
  have H1 : h0.size ≤ h1.size := Nat.le_trans (Nat.le_refl _) E1.1
  have U1 : Arv Z h1 o1 c1 .double (0 : Int32) [] (.double 0) := V1.pad (pad_rep [] _ 0)
  refine s_astoreN X1 hx #[.val (.ref a), .val (.int (0 : Int32)), .val (.ref o1)] (hb hby d6_17) (pc' := 18) rfl rfl rfl ?_
  refine s_aloadN X1 hx (hb hby d6_18) (pc' := 19) rfl rfl rfl ?_
  refine s_iconst X1 hx (0 : Int32) (hb hby d6_19) (pc' := 20) rfl rfl ?_
  refine s_aloadN X1 hx (hb hby d6_20) (pc' := 21) rfl rfl rfl ?_
  refine s_iconst X1 hx (0 : Int32) (hb hby d6_21) (pc' := 22) rfl rfl ?_
  refine s_aloadN X1 hx (hb hby d6_22) (pc' := 23) rfl rfl rfl ?_
  have fV2 := (Va.ext E1)
  refine s_len X1 hx hZ e1 fV2 (hb hby d6_23) (pc' := 24) rfl ?_
  refine s_iloadN X1 hx (hb hby d6_24) (pc' := 25) rfl rfl ?_
  refine c_static X1 hx hZ hown (hw _ (List.mem_of_getElem? (i := 22) rfl)) (hw _ (List.mem_of_getElem? (i := 23) rfl)) (hw _ (List.mem_of_getElem? (i := 24) rfl)) (hw _ (List.mem_of_getElem? (i := 25) rfl)) (by decide) e1 (rm_5_0 l Z a0 hw [] h1 n0 (Nat.le_trans Z0 H1)) (W := 4) (by decide) (by decide) (by decide) (by decide) (by rw [hml]; rfl) (argsL := [.int (3 : Int32), .int (0 : Int32)]) (rest := [.int (0 : Int32), .ref o1, .int (0 : Int32), .ref a]) (lenOf pd_0 rfl) rfl rfl (Nat.le_of_eq rfl) (hb hby d6_25) (pc' := 28) rfl ?_
  intro T3 v3 L3 X3 hQ3
  obtain ⟨rfl, Nq3, eh3⟩ := hQ3
  have N3 := Fr.app N0 Nq3
  show Goes p e below _ (T3.setTop (mkF m 28 #[.val (.ref a), .val (.int (0 : Int32)), .val (.ref o1)] [.int (0 : Int32), .int (0 : Int32), .ref o1, .int (0 : Int32), .ref a]))
  refine s_copy X3 hx hZ hown (hw _ (List.mem_of_getElem? (i := 26) rfl)) (hw _ (List.mem_of_getElem? (i := 29) rfl)) (hw _ (List.mem_of_getElem? (i := 27) rfl)) (hw _ (List.mem_of_getElem? (i := 28) rfl)) eh3 fV2 U1 rfl (by decide) (by decide) (by decide) (by decide) (by decide) (us := []) rfl (by simp) N3 (Nat.le_trans Z0 hg1) (hb hby d6_28) (pc' := 31) rfl (by rw [hml]; rfl) (by decide) (W := 0) (Nat.le_of_eq rfl) (by decide) ?_
  intro T4 h4 L4 X4 e4 N4 K4 V4
  have U4 : Arv Z h4 o1 c1 .double (0 : Int32) [] (.double 0) := V4
  have H4 : h0.size ≤ h4.size := Nat.le_trans H1 K4.1
  refine s_aloadN X4 hx (hb hby d6_31) (pc' := 32) rfl rfl rfl ?_
  have KK5 : Keep h0 h4 [] := (((Keep.refl _ _).ext E1).trans K4 (allS (Or.inr hg1) all0))
  exact s_retI X4 hx hlk hret (hb hby d6_32) rfl (Or.inr (Or.inr (Or.inr (Or.inr ⟨rfl, rfl, rfl⟩)))) (by decide) (by decide) (by rw [e4]; exact ⟨_, _, rfl, N4, KK5, hg1, U4⟩)
set_option maxRecDepth 65536 in
set_option maxHeartbeats 40000000 in
theorem rm_6_1 (l : Launch) (Z : State) (a0 : Array Value) (hw : ∀ d ∈ tables_1, d.before a0 Z = true) (ws : List Jvm.Cond) (a : Addr) (kk : ClassId) (y0 : UInt64) (y1 : UInt64) (y2 : UInt64) (h0 : Heap) (n0 : Nat) (Z0 : n0 ≤ h0.size) (Va : Arv Z h0 a kk .double (3 : Int32) [.double y0, .double y1, .double y2] (.double 0)) (Ea : Exa Z h0 a "[D") :
    OwnMet l Z (⟨"java/util/Arrays", "copyOf", "([DI)[D"⟩ : MethodName) jdk_65_method_127_code 3 (some (.array .double)) ws ({ frames := 1, cells := 1, slots := 3, locals := 40 } : Room) #[.ref a, .int (1 : Int32)] h0 (fun v h L => ∃ (r : Addr) (k2 : ClassId), v = some (.ref r) ∧ Fr n0 L ∧ Keep h0 h [] ∧ h0.size ≤ r ∧ Arv Z h r k2 .double (1 : Int32) [.double y0] (.double 0)) := by
  refine own_met (plainFor_of_name pn_6) (ef_6 a (1 : Int32)) ?_
  intro p e s m below meth c s₁ hx hby hml hZ hown hnm hret hlk X0 e0
  have N0 := Fr.nil n0
  refine s_iloadN X0 hx (hb hby d6_0) (pc' := 1) rfl rfl ?_
  refine s_aloadN X0 hx (hb hby d6_1) (pc' := 2) rfl rfl rfl ?_
  refine s_len X0 hx hZ e0 Va (hb hby d6_2) (pc' := 3) rfl ?_
  refine s_icmpY X0 hx (hb hby d6_3) (by decide) (by decide) (pc' := 14) (by decide) ?_
  refine s_iloadN X0 hx (hb hby d6_14) (pc' := 15) rfl rfl ?_
  refine s_newP X0 hx hZ (hw _ (List.mem_of_getElem? (i := 6) rfl)) e0 (hb hby d6_15) (pc' := 17) rfl (by decide) 1 (by decide) (by decide) (by decide) (by decide) (ad := "[D") (by decide) ?_
  intro T1 h1 c1 o1 X1 e1 E1 g1 V1 Ex1
  have ne1_a : a ≠ o1 := Nat.ne_of_lt (by rw [g1]; exact Ea.lt)
  have hg1 : h0.size ≤ o1 := by rw [g1]; exact (Nat.le_refl _)
  have H1 : h0.size ≤ h1.size := Nat.le_trans (Nat.le_refl _) E1.1
  have U1 : Arv Z h1 o1 c1 .double (1 : Int32) [.double 0] (.double 0) := V1.pad (pad_rep [] _ 1)
  refine s_astoreN X1 hx #[.val (.ref a), .val (.int (1 : Int32)), .val (.ref o1)] (hb hby d6_17) (pc' := 18) rfl rfl rfl ?_
  refine s_aloadN X1 hx (hb hby d6_18) (pc' := 19) rfl rfl rfl ?_
  refine s_iconst X1 hx (0 : Int32) (hb hby d6_19) (pc' := 20) rfl rfl ?_
  refine s_aloadN X1 hx (hb hby d6_20) (pc' := 21) rfl rfl rfl ?_
  refine s_iconst X1 hx (0 : Int32) (hb hby d6_21) (pc' := 22) rfl rfl ?_
  refine s_aloadN X1 hx (hb hby d6_22) (pc' := 23) rfl rfl rfl ?_
  have fV2 := (Va.ext E1)
  refine s_len X1 hx hZ e1 fV2 (hb hby d6_23) (pc' := 24) rfl ?_
  refine s_iloadN X1 hx (hb hby d6_24) (pc' := 25) rfl rfl ?_
  refine c_static X1 hx hZ hown (hw _ (List.mem_of_getElem? (i := 22) rfl)) (hw _ (List.mem_of_getElem? (i := 23) rfl)) (hw _ (List.mem_of_getElem? (i := 24) rfl)) (hw _ (List.mem_of_getElem? (i := 25) rfl)) (by decide) e1 (rm_5_1 l Z a0 hw [] h1 n0 (Nat.le_trans Z0 H1)) (W := 4) (by decide) (by decide) (by decide) (by decide) (by rw [hml]; rfl) (argsL := [.int (3 : Int32), .int (1 : Int32)]) (rest := [.int (0 : Int32), .ref o1, .int (0 : Int32), .ref a]) (lenOf pd_0 rfl) rfl rfl (Nat.le_of_eq rfl) (hb hby d6_25) (pc' := 28) rfl ?_
  intro T3 v3 L3 X3 hQ3
  obtain ⟨rfl, Nq3, eh3⟩ := hQ3
  have N3 := Fr.app N0 Nq3
  show Goes p e below _ (T3.setTop (mkF m 28 #[.val (.ref a), .val (.int (1 : Int32)), .val (.ref o1)] [.int (1 : Int32), .int (0 : Int32), .ref o1, .int (0 : Int32), .ref a]))
  refine s_copy X3 hx hZ hown (hw _ (List.mem_of_getElem? (i := 26) rfl)) (hw _ (List.mem_of_getElem? (i := 29) rfl)) (hw _ (List.mem_of_getElem? (i := 27) rfl)) (hw _ (List.mem_of_getElem? (i := 28) rfl)) eh3 fV2 U1 rfl (by decide) (by decide) (by decide) (by decide) (by decide) (us := [.double y0]) rfl (by simp) N3 (Nat.le_trans Z0 hg1) (hb hby d6_28) (pc' := 31) rfl (by rw [hml]; rfl) (by decide) (W := 0) (Nat.le_of_eq rfl) (by decide) ?_
  intro T4 h4 L4 X4 e4 N4 K4 V4
  have U4 : Arv Z h4 o1 c1 .double (1 : Int32) [.double y0] (.double 0) := V4
  have H4 : h0.size ≤ h4.size := Nat.le_trans H1 K4.1
  refine s_aloadN X4 hx (hb hby d6_31) (pc' := 32) rfl rfl rfl ?_
  have KK5 : Keep h0 h4 [] := (((Keep.refl _ _).ext E1).trans K4 (allS (Or.inr hg1) all0))
  exact s_retI X4 hx hlk hret (hb hby d6_32) rfl (Or.inr (Or.inr (Or.inr (Or.inr ⟨rfl, rfl, rfl⟩)))) (by decide) (by decide) (by rw [e4]; exact ⟨_, _, rfl, N4, KK5, hg1, U4⟩)
set_option maxRecDepth 65536 in
set_option maxHeartbeats 40000000 in
theorem rm_6_2 (l : Launch) (Z : State) (a0 : Array Value) (hw : ∀ d ∈ tables_1, d.before a0 Z = true) (ws : List Jvm.Cond) (a : Addr) (kk : ClassId) (y0 : UInt64) (y1 : UInt64) (y2 : UInt64) (h0 : Heap) (n0 : Nat) (Z0 : n0 ≤ h0.size) (Va : Arv Z h0 a kk .double (3 : Int32) [.double y0, .double y1, .double y2] (.double 0)) (Ea : Exa Z h0 a "[D") :
    OwnMet l Z (⟨"java/util/Arrays", "copyOf", "([DI)[D"⟩ : MethodName) jdk_65_method_127_code 3 (some (.array .double)) ws ({ frames := 1, cells := 1, slots := 3, locals := 40 } : Room) #[.ref a, .int (2 : Int32)] h0 (fun v h L => ∃ (r : Addr) (k2 : ClassId), v = some (.ref r) ∧ Fr n0 L ∧ Keep h0 h [] ∧ h0.size ≤ r ∧ Arv Z h r k2 .double (2 : Int32) [.double y0, .double y1] (.double 0)) := by
  refine own_met (plainFor_of_name pn_6) (ef_6 a (2 : Int32)) ?_
  intro p e s m below meth c s₁ hx hby hml hZ hown hnm hret hlk X0 e0
  have N0 := Fr.nil n0
  refine s_iloadN X0 hx (hb hby d6_0) (pc' := 1) rfl rfl ?_
  refine s_aloadN X0 hx (hb hby d6_1) (pc' := 2) rfl rfl rfl ?_
  refine s_len X0 hx hZ e0 Va (hb hby d6_2) (pc' := 3) rfl ?_
  refine s_icmpY X0 hx (hb hby d6_3) (by decide) (by decide) (pc' := 14) (by decide) ?_
  refine s_iloadN X0 hx (hb hby d6_14) (pc' := 15) rfl rfl ?_
  refine s_newP X0 hx hZ (hw _ (List.mem_of_getElem? (i := 6) rfl)) e0 (hb hby d6_15) (pc' := 17) rfl (by decide) 2 (by decide) (by decide) (by decide) (by decide) (ad := "[D") (by decide) ?_
  intro T1 h1 c1 o1 X1 e1 E1 g1 V1 Ex1
  have ne1_a : a ≠ o1 := Nat.ne_of_lt (by rw [g1]; exact Ea.lt)
  have hg1 : h0.size ≤ o1 := by rw [g1]; exact (Nat.le_refl _)
  have H1 : h0.size ≤ h1.size := Nat.le_trans (Nat.le_refl _) E1.1
  have U1 : Arv Z h1 o1 c1 .double (2 : Int32) [.double 0, .double 0] (.double 0) := V1.pad (pad_rep [] _ 2)
  refine s_astoreN X1 hx #[.val (.ref a), .val (.int (2 : Int32)), .val (.ref o1)] (hb hby d6_17) (pc' := 18) rfl rfl rfl ?_
  refine s_aloadN X1 hx (hb hby d6_18) (pc' := 19) rfl rfl rfl ?_
  refine s_iconst X1 hx (0 : Int32) (hb hby d6_19) (pc' := 20) rfl rfl ?_
  refine s_aloadN X1 hx (hb hby d6_20) (pc' := 21) rfl rfl rfl ?_
  refine s_iconst X1 hx (0 : Int32) (hb hby d6_21) (pc' := 22) rfl rfl ?_
  refine s_aloadN X1 hx (hb hby d6_22) (pc' := 23) rfl rfl rfl ?_
  have fV2 := (Va.ext E1)
  refine s_len X1 hx hZ e1 fV2 (hb hby d6_23) (pc' := 24) rfl ?_
  refine s_iloadN X1 hx (hb hby d6_24) (pc' := 25) rfl rfl ?_
  refine c_static X1 hx hZ hown (hw _ (List.mem_of_getElem? (i := 22) rfl)) (hw _ (List.mem_of_getElem? (i := 23) rfl)) (hw _ (List.mem_of_getElem? (i := 24) rfl)) (hw _ (List.mem_of_getElem? (i := 25) rfl)) (by decide) e1 (rm_5_2 l Z a0 hw [] h1 n0 (Nat.le_trans Z0 H1)) (W := 4) (by decide) (by decide) (by decide) (by decide) (by rw [hml]; rfl) (argsL := [.int (3 : Int32), .int (2 : Int32)]) (rest := [.int (0 : Int32), .ref o1, .int (0 : Int32), .ref a]) (lenOf pd_0 rfl) rfl rfl (Nat.le_of_eq rfl) (hb hby d6_25) (pc' := 28) rfl ?_
  intro T3 v3 L3 X3 hQ3
  obtain ⟨rfl, Nq3, eh3⟩ := hQ3
  have N3 := Fr.app N0 Nq3
  show Goes p e below _ (T3.setTop (mkF m 28 #[.val (.ref a), .val (.int (2 : Int32)), .val (.ref o1)] [.int (2 : Int32), .int (0 : Int32), .ref o1, .int (0 : Int32), .ref a]))
  refine s_copy X3 hx hZ hown (hw _ (List.mem_of_getElem? (i := 26) rfl)) (hw _ (List.mem_of_getElem? (i := 29) rfl)) (hw _ (List.mem_of_getElem? (i := 27) rfl)) (hw _ (List.mem_of_getElem? (i := 28) rfl)) eh3 fV2 U1 rfl (by decide) (by decide) (by decide) (by decide) (by decide) (us := [.double y0, .double y1]) rfl (by simp) N3 (Nat.le_trans Z0 hg1) (hb hby d6_28) (pc' := 31) rfl (by rw [hml]; rfl) (by decide) (W := 0) (Nat.le_of_eq rfl) (by decide) ?_
  intro T4 h4 L4 X4 e4 N4 K4 V4
  have U4 : Arv Z h4 o1 c1 .double (2 : Int32) [.double y0, .double y1] (.double 0) := V4
  have H4 : h0.size ≤ h4.size := Nat.le_trans H1 K4.1
  refine s_aloadN X4 hx (hb hby d6_31) (pc' := 32) rfl rfl rfl ?_
  have KK5 : Keep h0 h4 [] := (((Keep.refl _ _).ext E1).trans K4 (allS (Or.inr hg1) all0))
  exact s_retI X4 hx hlk hret (hb hby d6_32) rfl (Or.inr (Or.inr (Or.inr (Or.inr ⟨rfl, rfl, rfl⟩)))) (by decide) (by decide) (by rw [e4]; exact ⟨_, _, rfl, N4, KK5, hg1, U4⟩)
set_option maxRecDepth 65536 in
set_option maxHeartbeats 40000000 in
theorem rm_6_3 (l : Launch) (Z : State) (a0 : Array Value) (hw : ∀ d ∈ tables_1, d.before a0 Z = true) (ws : List Jvm.Cond) (a : Addr) (kk : ClassId) (y0 : UInt64) (y1 : UInt64) (y2 : UInt64) (h0 : Heap) (n0 : Nat) (Z0 : n0 ≤ h0.size) (Va : Arv Z h0 a kk .double (3 : Int32) [.double y0, .double y1, .double y2] (.double 0)) (Ea : Exa Z h0 a "[D") :
    OwnMet l Z (⟨"java/util/Arrays", "copyOf", "([DI)[D"⟩ : MethodName) jdk_65_method_127_code 3 (some (.array .double)) ws ({ frames := 1, cells := 1, slots := 3, locals := 40 } : Room) #[.ref a, .int (3 : Int32)] h0 (fun v h L => ∃ (r : Addr) (k2 : ClassId), v = some (.ref r) ∧ Fr n0 L ∧ Keep h0 h [] ∧ h0.size ≤ r ∧ Arv Z h r k2 .double (3 : Int32) [.double y0, .double y1, .double y2] (.double 0)) := by
  refine own_met (plainFor_of_name pn_6) (ef_6 a (3 : Int32)) ?_
  intro p e s m below meth c s₁ hx hby hml hZ hown hnm hret hlk X0 e0
  have N0 := Fr.nil n0
  refine s_iloadN X0 hx (hb hby d6_0) (pc' := 1) rfl rfl ?_
  refine s_aloadN X0 hx (hb hby d6_1) (pc' := 2) rfl rfl rfl ?_
  refine s_len X0 hx hZ e0 Va (hb hby d6_2) (pc' := 3) rfl ?_
  refine s_icmpN X0 hx (hb hby d6_3) (pc' := 6) rfl (by decide) ?_
  refine s_aloadN X0 hx (hb hby d6_6) (pc' := 7) rfl rfl rfl ?_
  refine s_clone X0 hx hZ hown (hw _ (List.mem_of_getElem? (i := 54) rfl)) (hw _ (List.mem_of_getElem? (i := 55) rfl)) (hw _ (List.mem_of_getElem? (i := 50) rfl)) (hw _ (List.mem_of_getElem? (i := 48) rfl)) (hw _ (List.mem_of_getElem? (i := 56) rfl)) (hw _ (List.mem_of_getElem? (i := 57) rfl)) e0 Va Ea (hb hby d6_7) (pc' := 10) rfl (by rw [hml]; rfl) (by decide) (W := 0) (Nat.le_of_eq rfl) (by decide) 3 (by decide) (by decide) (by decide) ?_
  intro T1 h1 o1 X1 e1 E1 g1 V1 Ex1
  have ne1_a : a ≠ o1 := Nat.ne_of_lt (by rw [g1]; exact Ea.lt)
  have hg1 : h0.size ≤ o1 := by rw [g1]; exact (Nat.le_refl _)
  have H1 : h0.size ≤ h1.size := Nat.le_trans (Nat.le_refl _) E1.1
  refine s_castY X1 hx hZ hown (hw _ (List.mem_of_getElem? (i := 58) rfl)) e1 (Ins.self Ex1) (hb hby d6_10) (pc' := 13) rfl ?_
  intro T2 X2 e2
  have KK3 : Keep h0 h1 [] := ((Keep.refl _ _).ext E1)
  exact s_retI X2 hx hlk hret (hb hby d6_13) rfl (Or.inr (Or.inr (Or.inr (Or.inr ⟨rfl, rfl, rfl⟩)))) (by decide) (by decide) (by rw [e2]; exact ⟨_, _, rfl, N0, KK3, hg1, V1⟩)
theorem d2_0 : decode prog_13_method_2_code 0 = .ok (.aload_n 0, 1) := by decide +kernel
theorem d2_1 : decode prog_13_method_2_code 1 = .ok (.invokespecial 11, 3) := by decide +kernel
theorem d2_4 : decode prog_13_method_2_code 4 = .ok (.aload_n 0, 1) := by decide +kernel
theorem d2_5 : decode prog_13_method_2_code 5 = .ok (.dload_n 1, 1) := by decide +kernel
theorem d2_6 : decode prog_13_method_2_code 6 = .ok (.putfield 16, 3) := by decide +kernel
theorem d2_9 : decode prog_13_method_2_code 9 = .ok (.aload_n 0, 1) := by decide +kernel
theorem d2_10 : decode prog_13_method_2_code 10 = .ok (.aload_n 3, 1) := by decide +kernel
theorem d2_11 : decode prog_13_method_2_code 11 = .ok (.iload 5, 2) := by decide +kernel
theorem d2_13 : decode prog_13_method_2_code 13 = .ok (.invokestatic 20, 3) := by decide +kernel
theorem d2_16 : decode prog_13_method_2_code 16 = .ok (.putfield 26, 3) := by decide +kernel
theorem d2_19 : decode prog_13_method_2_code 19 = .ok (.aload_n 0, 1) := by decide +kernel
theorem d2_20 : decode prog_13_method_2_code 20 = .ok (.aload 4, 2) := by decide +kernel
theorem d2_22 : decode prog_13_method_2_code 22 = .ok (.iload 5, 2) := by decide +kernel
theorem d2_24 : decode prog_13_method_2_code 24 = .ok (.invokestatic 30, 3) := by decide +kernel
theorem d2_27 : decode prog_13_method_2_code 27 = .ok (.putfield 33, 3) := by decide +kernel
theorem d2_30 : decode prog_13_method_2_code 30 = .ok (.return_, 1) := by decide +kernel
theorem pn_2 : plainName "com/example/tesserae/tesserae/data/Example" = true := by first | (simp [plainName, overriddenIn]; done) | decide +kernel
theorem pd_1 : parseMethodDescriptor "([JI)[J" = some ⟨[(.array .long), .int], some (.array .long)⟩ := by decide +kernel
theorem pd_2 : parseMethodDescriptor "([DI)[D" = some ⟨[(.array .double), .int], some (.array .double)⟩ := by decide +kernel
theorem ef_2 (z0 : Addr) (z1 : UInt64) (z2 : Addr) (z3 : Addr) (z4 : Int32) (m : MethodId) : entryFrame m #[.ref z0, .double z1, .ref z2, .ref z3, .int z4] 6 = mkF m 0 #[.val (.ref z0), .val (.double z1), .second, .val (.ref z2), .val (.ref z3), .val (.int z4)] [] := by first | (simp [entryFrame, mkF, argsToLocals, Value.category, maxLocals]; done) | rfl
set_option maxRecDepth 65536 in
set_option maxHeartbeats 40000000 in
theorem rm_2_0 (l : Launch) (Z : State) (a0 : Array Value) (hw : ∀ d ∈ tables_1, d.before a0 Z = true) (ws : List Jvm.Cond) (a : Addr) (lb : UInt64) (ai : Addr) (av : Addr) (ki : ClassId) (kv : ClassId) (y0 : Int64) (y1 : Int64) (y2 : Int64) (x0 : UInt64) (x1 : UInt64) (x2 : UInt64) (vo0 : Value) (vo1 : Value) (vo2 : Value) (h0 : Heap) (n0 : Nat) (Z0 : n0 ≤ h0.size) (Ea : Exa Z h0 a "com/example/tesserae/tesserae/data/Example") (G0 : (Fld Z h0 a "com/example/tesserae/tesserae/data/Example" "label" "D" vo0)) (G1 : (Fld Z h0 a "com/example/tesserae/tesserae/data/Example" "indexes" "[J" vo1)) (G2 : (Fld Z h0 a "com/example/tesserae/tesserae/data/Example" "values" "[D" vo2)) (Vi : Arv Z h0 ai ki .long (3 : Int32) [.long y0, .long y1, .long y2] (.long 0)) (Ei : Exa Z h0 ai "[J") (Vv : Arv Z h0 av kv .double (3 : Int32) [.double x0, .double x1, .double x2] (.double 0)) (Ev : Exa Z h0 av "[D") (nia : ai ≠ a) (nva : av ≠ a) (ga : n0 ≤ a) :
    OwnMet l Z (⟨"com/example/tesserae/tesserae/data/Example", "<init>", "(D[J[DI)V"⟩ : MethodName) prog_13_method_2_code 6 none ws ({ frames := 2, cells := 2, slots := 6, locals := 55 } : Room) #[.ref a, .double lb, .ref ai, .ref av, .int (0 : Int32)] h0 (fun v h L => v = none ∧ Fr n0 L ∧ Keep h0 h [a] ∧ Exa Z h a "com/example/tesserae/tesserae/data/Example" ∧ ∃ (r1 r2 : Addr) (k1 k2 : ClassId), (Fld Z h a "com/example/tesserae/tesserae/data/Example" "indexes" "[J" (.ref r1)) ∧ (Fld Z h a "com/example/tesserae/tesserae/data/Example" "values" "[D" (.ref r2)) ∧ Arv Z h r1 k1 .long (0 : Int32) [] (.long 0) ∧ Arv Z h r2 k2 .double (0 : Int32) [] (.double 0)) := by
  refine own_met (plainFor_of_name pn_2) (ef_2 a lb ai av (0 : Int32)) ?_
  intro p e s m below meth c s₁ hx hby hml hZ hown hnm hret hlk X0 e0
  have N0 := Fr.nil n0
  refine s_aloadN X0 hx (hb hby d2_0) (pc' := 1) rfl rfl rfl ?_
  refine s_initO X0 hx hZ hown (hw _ (List.mem_of_getElem? (i := 13) rfl)) (hw _ (List.mem_of_getElem? (i := 14) rfl)) (hw _ (List.mem_of_getElem? (i := 15) rfl)) e0 (hb hby d2_1) (pc' := 4) rfl (by rw [hml]; rfl) (by decide) (W := 0) (Nat.le_of_eq rfl) (by decide) ?_
  intro T1 X1 e1
  refine s_aloadN X1 hx (hb hby d2_4) (pc' := 5) rfl rfl rfl ?_
  refine s_dloadN X1 hx (hb hby d2_5) (pc' := 6) rfl rfl ?_
  refine s_putF X1 hx hZ hown (hw _ (List.mem_of_getElem? (i := 16) rfl)) e1 G0 Ea (Or.inr ⟨(hw _ (List.mem_of_getElem? (i := 17) rfl)), rfl, hnm⟩) (hw _ (List.mem_of_getElem? (i := 8) rfl)) (ty := .double) (by decide) rfl rfl (hb hby d2_6) (pc' := 9) rfl ?_
  intro T2 h2 X2 e2 W2
  have N2 := Fr.snoc X2 N0 ga
  have F2 := G0.same W2
  have H2 : h0.size ≤ h2.size := by rw [W2.size]; exact (Nat.le_refl _)
  refine s_aloadN X2 hx (hb hby d2_9) (pc' := 10) rfl rfl rfl ?_
  refine s_aloadN X2 hx (hb hby d2_10) (pc' := 11) rfl rfl rfl ?_
  refine s_iload X2 hx (hb hby d2_11) (pc' := 13) rfl rfl ?_
  have fV3 := (Vi.other W2 nia)
  have fE4 := (Ei.wr W2)
  have fE5 := (Ea.wr W2)
  have fE6 := (Ev.wr W2)
  refine c_static X2 hx hZ hown (hw _ (List.mem_of_getElem? (i := 18) rfl)) (hw _ (List.mem_of_getElem? (i := 19) rfl)) (hw _ (List.mem_of_getElem? (i := 20) rfl)) (hw _ (List.mem_of_getElem? (i := 21) rfl)) (by decide) e2 (rm_4_0 l Z a0 hw [] ai ki y0 y1 y2 h2 n0 (Nat.le_trans Z0 H2) fV3 fE4) (W := 1) (by decide) (by decide) (by decide) (by decide) (by rw [hml]; rfl) (argsL := [.ref ai, .int (0 : Int32)]) (rest := [.ref a]) (lenOf pd_1 rfl) rfl rfl (Nat.le_of_eq rfl) (hb hby d2_13) (pc' := 16) rfl ?_
  intro T7 v7 L7 X7 hQ7
  obtain ⟨r7, kr7, rfl, Nq7, K7, lo7, V7⟩ := hQ7
  have N7 := Fr.app N2 Nq7
  have H7 : h0.size ≤ T7.heap.size := Nat.le_trans H2 K7.1
  show Goes p e below _ (T7.setTop (mkF m 16 #[.val (.ref a), .val (.double lb), .second, .val (.ref ai), .val (.ref av), .val (.int (0 : Int32))] [.ref r7, .ref a]))
  have ne7_a : a ≠ r7 := Nat.ne_of_lt (Nat.lt_of_lt_of_le fE5.lt lo7)
  have ne7_ai : ai ≠ r7 := Nat.ne_of_lt (Nat.lt_of_lt_of_le fE4.lt lo7)
  have ne7_av : av ≠ r7 := Nat.ne_of_lt (Nat.lt_of_lt_of_le fE6.lt lo7)
  have hg7 : h0.size ≤ r7 := Nat.le_trans H2 lo7
  have fF8 := ((G1.other W2 (Or.inr (slot_ne (C := "com/example/tesserae/tesserae/data/Example") (t := (.array .long)) (t' := .double) (Or.inr (hw _ (List.mem_of_getElem? (i := 31) rfl))) (Or.inr (hw _ (List.mem_of_getElem? (i := 17) rfl))) (by decide) (by decide) (by decide)))).keep K7 nin0)
  have fE9 := (fE5.keep K7)
  refine s_putF X7 hx hZ hown (hw _ (List.mem_of_getElem? (i := 30) rfl)) rfl fF8 fE9 (Or.inr ⟨(hw _ (List.mem_of_getElem? (i := 31) rfl)), rfl, hnm⟩) (hw _ (List.mem_of_getElem? (i := 8) rfl)) (ty := (.array .long)) (by decide) rfl rfl (hb hby d2_16) (pc' := 19) rfl ?_
  intro T10 h10 X10 e10 W10
  have N10 := Fr.snoc X10 N7 ga
  have F10 := fF8.same W10
  have H10 : h0.size ≤ h10.size := by rw [W10.size]; exact H7
  refine s_aloadN X10 hx (hb hby d2_19) (pc' := 20) rfl rfl rfl ?_
  refine s_aload X10 hx (hb hby d2_20) (pc' := 22) rfl rfl rfl ?_
  refine s_iload X10 hx (hb hby d2_22) (pc' := 24) rfl rfl ?_
  have fV11 := (((Vv.other W2 nva).keep K7 nin0).other W10 nva)
  have fE12 := ((fE6.keep K7).wr W10)
  have fE13 := (fE9.wr W10)
  have fE14 := ((fE4.keep K7).wr W10)
  have fV15 := (V7.other W10 (Ne.symm ne7_a))
  refine c_static X10 hx hZ hown (hw _ (List.mem_of_getElem? (i := 32) rfl)) (hw _ (List.mem_of_getElem? (i := 33) rfl)) (hw _ (List.mem_of_getElem? (i := 20) rfl)) (hw _ (List.mem_of_getElem? (i := 34) rfl)) (by decide) e10 (rm_6_0 l Z a0 hw [] av kv x0 x1 x2 h10 n0 (Nat.le_trans Z0 H10) fV11 fE12) (W := 1) (by decide) (by decide) (by decide) (by decide) (by rw [hml]; rfl) (argsL := [.ref av, .int (0 : Int32)]) (rest := [.ref a]) (lenOf pd_2 rfl) rfl rfl (Nat.le_of_eq rfl) (hb hby d2_24) (pc' := 27) rfl ?_
  intro T16 v16 L16 X16 hQ16
  obtain ⟨r16, kr16, rfl, Nq16, K16, lo16, V16⟩ := hQ16
  have N16 := Fr.app N10 Nq16
  have H16 : h0.size ≤ T16.heap.size := Nat.le_trans H10 K16.1
  show Goes p e below _ (T16.setTop (mkF m 27 #[.val (.ref a), .val (.double lb), .second, .val (.ref ai), .val (.ref av), .val (.int (0 : Int32))] [.ref r16, .ref a]))
  have ne16_a : a ≠ r16 := Nat.ne_of_lt (Nat.lt_of_lt_of_le fE13.lt lo16)
  have ne16_ai : ai ≠ r16 := Nat.ne_of_lt (Nat.lt_of_lt_of_le fE14.lt lo16)
  have ne16_av : av ≠ r16 := Nat.ne_of_lt (Nat.lt_of_lt_of_le fE12.lt lo16)
  have ne16_r7 : r7 ≠ r16 := Nat.ne_of_lt (Nat.lt_of_lt_of_le fV15.lt lo16)
  have hg16 : h0.size ≤ r16 := Nat.le_trans H10 lo16
  have fF17 := ((((G2.other W2 (Or.inr (slot_ne (C := "com/example/tesserae/tesserae/data/Example") (t := (.array .double)) (t' := .double) (Or.inr (hw _ (List.mem_of_getElem? (i := 36) rfl))) (Or.inr (hw _ (List.mem_of_getElem? (i := 17) rfl))) (by decide) (by decide) (by decide)))).keep K7 nin0).other W10 (Or.inr (slot_ne (C := "com/example/tesserae/tesserae/data/Example") (t := (.array .double)) (t' := (.array .long)) (Or.inr (hw _ (List.mem_of_getElem? (i := 36) rfl))) (Or.inr (hw _ (List.mem_of_getElem? (i := 31) rfl))) (by decide) (by decide) (by decide)))).keep K16 nin0)
  have fE18 := (fE13.keep K16)
  refine s_putF X16 hx hZ hown (hw _ (List.mem_of_getElem? (i := 35) rfl)) rfl fF17 fE18 (Or.inr ⟨(hw _ (List.mem_of_getElem? (i := 36) rfl)), rfl, hnm⟩) (hw _ (List.mem_of_getElem? (i := 8) rfl)) (ty := (.array .double)) (by decide) rfl rfl (hb hby d2_27) (pc' := 30) rfl ?_
  intro T19 h19 X19 e19 W19
  have N19 := Fr.snoc X19 N16 ga
  have F19 := fF17.same W19
  have H19 : h0.size ≤ h19.size := by rw [W19.size]; exact H16
  have KK20 : Keep h0 h19 [a] := ((((((Keep.refl _ _).wr W2 (Or.inl (List.mem_of_getElem? (i := 0) rfl))).trans K7 all0).wr W10 (Or.inl (List.mem_of_getElem? (i := 0) rfl))).trans K16 all0).wr W19 (Or.inl (List.mem_of_getElem? (i := 0) rfl)))
  have fE21 := (fE18.wr W19)
  have fF22 := ((F10.keep K16 nin0).other W19 (Or.inr (slot_ne (C := "com/example/tesserae/tesserae/data/Example") (t := (.array .long)) (t' := (.array .double)) (Or.inr (hw _ (List.mem_of_getElem? (i := 31) rfl))) (Or.inr (hw _ (List.mem_of_getElem? (i := 36) rfl))) (by decide) (by decide) (by decide))))
  have fV23 := ((fV15.keep K16 nin0).other W19 (Ne.symm ne7_a))
  have fV24 := (V16.other W19 (Ne.symm ne16_a))
  exact s_ret X19 hx hlk hret (hb hby d2_30) (by decide) (by decide) (by rw [e19]; exact ⟨rfl, N19, KK20, fE21, _, _, _, _, fF22, F19, fV23, fV24⟩)
set_option maxRecDepth 65536 in
set_option maxHeartbeats 40000000 in
theorem rm_2_1 (l : Launch) (Z : State) (a0 : Array Value) (hw : ∀ d ∈ tables_1, d.before a0 Z = true) (ws : List Jvm.Cond) (a : Addr) (lb : UInt64) (ai : Addr) (av : Addr) (ki : ClassId) (kv : ClassId) (y0 : Int64) (y1 : Int64) (y2 : Int64) (x0 : UInt64) (x1 : UInt64) (x2 : UInt64) (vo0 : Value) (vo1 : Value) (vo2 : Value) (h0 : Heap) (n0 : Nat) (Z0 : n0 ≤ h0.size) (Ea : Exa Z h0 a "com/example/tesserae/tesserae/data/Example") (G0 : (Fld Z h0 a "com/example/tesserae/tesserae/data/Example" "label" "D" vo0)) (G1 : (Fld Z h0 a "com/example/tesserae/tesserae/data/Example" "indexes" "[J" vo1)) (G2 : (Fld Z h0 a "com/example/tesserae/tesserae/data/Example" "values" "[D" vo2)) (Vi : Arv Z h0 ai ki .long (3 : Int32) [.long y0, .long y1, .long y2] (.long 0)) (Ei : Exa Z h0 ai "[J") (Vv : Arv Z h0 av kv .double (3 : Int32) [.double x0, .double x1, .double x2] (.double 0)) (Ev : Exa Z h0 av "[D") (nia : ai ≠ a) (nva : av ≠ a) (ga : n0 ≤ a) :
    OwnMet l Z (⟨"com/example/tesserae/tesserae/data/Example", "<init>", "(D[J[DI)V"⟩ : MethodName) prog_13_method_2_code 6 none ws ({ frames := 2, cells := 2, slots := 6, locals := 55 } : Room) #[.ref a, .double lb, .ref ai, .ref av, .int (1 : Int32)] h0 (fun v h L => v = none ∧ Fr n0 L ∧ Keep h0 h [a] ∧ Exa Z h a "com/example/tesserae/tesserae/data/Example" ∧ ∃ (r1 r2 : Addr) (k1 k2 : ClassId), (Fld Z h a "com/example/tesserae/tesserae/data/Example" "indexes" "[J" (.ref r1)) ∧ (Fld Z h a "com/example/tesserae/tesserae/data/Example" "values" "[D" (.ref r2)) ∧ Arv Z h r1 k1 .long (1 : Int32) [.long y0] (.long 0) ∧ Arv Z h r2 k2 .double (1 : Int32) [.double x0] (.double 0)) := by
  refine own_met (plainFor_of_name pn_2) (ef_2 a lb ai av (1 : Int32)) ?_
  intro p e s m below meth c s₁ hx hby hml hZ hown hnm hret hlk X0 e0
  have N0 := Fr.nil n0
  refine s_aloadN X0 hx (hb hby d2_0) (pc' := 1) rfl rfl rfl ?_
  refine s_initO X0 hx hZ hown (hw _ (List.mem_of_getElem? (i := 13) rfl)) (hw _ (List.mem_of_getElem? (i := 14) rfl)) (hw _ (List.mem_of_getElem? (i := 15) rfl)) e0 (hb hby d2_1) (pc' := 4) rfl (by rw [hml]; rfl) (by decide) (W := 0) (Nat.le_of_eq rfl) (by decide) ?_
  intro T1 X1 e1
  refine s_aloadN X1 hx (hb hby d2_4) (pc' := 5) rfl rfl rfl ?_
  refine s_dloadN X1 hx (hb hby d2_5) (pc' := 6) rfl rfl ?_
  refine s_putF X1 hx hZ hown (hw _ (List.mem_of_getElem? (i := 16) rfl)) e1 G0 Ea (Or.inr ⟨(hw _ (List.mem_of_getElem? (i := 17) rfl)), rfl, hnm⟩) (hw _ (List.mem_of_getElem? (i := 8) rfl)) (ty := .double) (by decide) rfl rfl (hb hby d2_6) (pc' := 9) rfl ?_
  intro T2 h2 X2 e2 W2
  have N2 := Fr.snoc X2 N0 ga
  have F2 := G0.same W2
  have H2 : h0.size ≤ h2.size := by rw [W2.size]; exact (Nat.le_refl _)
  refine s_aloadN X2 hx (hb hby d2_9) (pc' := 10) rfl rfl rfl ?_
  refine s_aloadN X2 hx (hb hby d2_10) (pc' := 11) rfl rfl rfl ?_
  refine s_iload X2 hx (hb hby d2_11) (pc' := 13) rfl rfl ?_
  have fV3 := (Vi.other W2 nia)
  have fE4 := (Ei.wr W2)
  have fE5 := (Ea.wr W2)
  have fE6 := (Ev.wr W2)
  refine c_static X2 hx hZ hown (hw _ (List.mem_of_getElem? (i := 18) rfl)) (hw _ (List.mem_of_getElem? (i := 19) rfl)) (hw _ (List.mem_of_getElem? (i := 20) rfl)) (hw _ (List.mem_of_getElem? (i := 21) rfl)) (by decide) e2 (rm_4_1 l Z a0 hw [] ai ki y0 y1 y2 h2 n0 (Nat.le_trans Z0 H2) fV3 fE4) (W := 1) (by decide) (by decide) (by decide) (by decide) (by rw [hml]; rfl) (argsL := [.ref ai, .int (1 : Int32)]) (rest := [.ref a]) (lenOf pd_1 rfl) rfl rfl (Nat.le_of_eq rfl) (hb hby d2_13) (pc' := 16) rfl ?_
  intro T7 v7 L7 X7 hQ7
  obtain ⟨r7, kr7, rfl, Nq7, K7, lo7, V7⟩ := hQ7
  have N7 := Fr.app N2 Nq7
  have H7 : h0.size ≤ T7.heap.size := Nat.le_trans H2 K7.1
  show Goes p e below _ (T7.setTop (mkF m 16 #[.val (.ref a), .val (.double lb), .second, .val (.ref ai), .val (.ref av), .val (.int (1 : Int32))] [.ref r7, .ref a]))
  have ne7_a : a ≠ r7 := Nat.ne_of_lt (Nat.lt_of_lt_of_le fE5.lt lo7)
  have ne7_ai : ai ≠ r7 := Nat.ne_of_lt (Nat.lt_of_lt_of_le fE4.lt lo7)
  have ne7_av : av ≠ r7 := Nat.ne_of_lt (Nat.lt_of_lt_of_le fE6.lt lo7)
  have hg7 : h0.size ≤ r7 := Nat.le_trans H2 lo7
  have fF8 := ((G1.other W2 (Or.inr (slot_ne (C := "com/example/tesserae/tesserae/data/Example") (t := (.array .long)) (t' := .double) (Or.inr (hw _ (List.mem_of_getElem? (i := 31) rfl))) (Or.inr (hw _ (List.mem_of_getElem? (i := 17) rfl))) (by decide) (by decide) (by decide)))).keep K7 nin0)
  have fE9 := (fE5.keep K7)
  refine s_putF X7 hx hZ hown (hw _ (List.mem_of_getElem? (i := 30) rfl)) rfl fF8 fE9 (Or.inr ⟨(hw _ (List.mem_of_getElem? (i := 31) rfl)), rfl, hnm⟩) (hw _ (List.mem_of_getElem? (i := 8) rfl)) (ty := (.array .long)) (by decide) rfl rfl (hb hby d2_16) (pc' := 19) rfl ?_
  intro T10 h10 X10 e10 W10
  have N10 := Fr.snoc X10 N7 ga
  have F10 := fF8.same W10
  have H10 : h0.size ≤ h10.size := by rw [W10.size]; exact H7
  refine s_aloadN X10 hx (hb hby d2_19) (pc' := 20) rfl rfl rfl ?_
  refine s_aload X10 hx (hb hby d2_20) (pc' := 22) rfl rfl rfl ?_
  refine s_iload X10 hx (hb hby d2_22) (pc' := 24) rfl rfl ?_
  have fV11 := (((Vv.other W2 nva).keep K7 nin0).other W10 nva)
  have fE12 := ((fE6.keep K7).wr W10)
  have fE13 := (fE9.wr W10)
  have fE14 := ((fE4.keep K7).wr W10)
  have fV15 := (V7.other W10 (Ne.symm ne7_a))
  refine c_static X10 hx hZ hown (hw _ (List.mem_of_getElem? (i := 32) rfl)) (hw _ (List.mem_of_getElem? (i := 33) rfl)) (hw _ (List.mem_of_getElem? (i := 20) rfl)) (hw _ (List.mem_of_getElem? (i := 34) rfl)) (by decide) e10 (rm_6_1 l Z a0 hw [] av kv x0 x1 x2 h10 n0 (Nat.le_trans Z0 H10) fV11 fE12) (W := 1) (by decide) (by decide) (by decide) (by decide) (by rw [hml]; rfl) (argsL := [.ref av, .int (1 : Int32)]) (rest := [.ref a]) (lenOf pd_2 rfl) rfl rfl (Nat.le_of_eq rfl) (hb hby d2_24) (pc' := 27) rfl ?_
  intro T16 v16 L16 X16 hQ16
  obtain ⟨r16, kr16, rfl, Nq16, K16, lo16, V16⟩ := hQ16
  have N16 := Fr.app N10 Nq16
  have H16 : h0.size ≤ T16.heap.size := Nat.le_trans H10 K16.1
  show Goes p e below _ (T16.setTop (mkF m 27 #[.val (.ref a), .val (.double lb), .second, .val (.ref ai), .val (.ref av), .val (.int (1 : Int32))] [.ref r16, .ref a]))
  have ne16_a : a ≠ r16 := Nat.ne_of_lt (Nat.lt_of_lt_of_le fE13.lt lo16)
  have ne16_ai : ai ≠ r16 := Nat.ne_of_lt (Nat.lt_of_lt_of_le fE14.lt lo16)
  have ne16_av : av ≠ r16 := Nat.ne_of_lt (Nat.lt_of_lt_of_le fE12.lt lo16)
  have ne16_r7 : r7 ≠ r16 := Nat.ne_of_lt (Nat.lt_of_lt_of_le fV15.lt lo16)
  have hg16 : h0.size ≤ r16 := Nat.le_trans H10 lo16
  have fF17 := ((((G2.other W2 (Or.inr (slot_ne (C := "com/example/tesserae/tesserae/data/Example") (t := (.array .double)) (t' := .double) (Or.inr (hw _ (List.mem_of_getElem? (i := 36) rfl))) (Or.inr (hw _ (List.mem_of_getElem? (i := 17) rfl))) (by decide) (by decide) (by decide)))).keep K7 nin0).other W10 (Or.inr (slot_ne (C := "com/example/tesserae/tesserae/data/Example") (t := (.array .double)) (t' := (.array .long)) (Or.inr (hw _ (List.mem_of_getElem? (i := 36) rfl))) (Or.inr (hw _ (List.mem_of_getElem? (i := 31) rfl))) (by decide) (by decide) (by decide)))).keep K16 nin0)
  have fE18 := (fE13.keep K16)
  refine s_putF X16 hx hZ hown (hw _ (List.mem_of_getElem? (i := 35) rfl)) rfl fF17 fE18 (Or.inr ⟨(hw _ (List.mem_of_getElem? (i := 36) rfl)), rfl, hnm⟩) (hw _ (List.mem_of_getElem? (i := 8) rfl)) (ty := (.array .double)) (by decide) rfl rfl (hb hby d2_27) (pc' := 30) rfl ?_
  intro T19 h19 X19 e19 W19
  have N19 := Fr.snoc X19 N16 ga
  have F19 := fF17.same W19
  have H19 : h0.size ≤ h19.size := by rw [W19.size]; exact H16
  have KK20 : Keep h0 h19 [a] := ((((((Keep.refl _ _).wr W2 (Or.inl (List.mem_of_getElem? (i := 0) rfl))).trans K7 all0).wr W10 (Or.inl (List.mem_of_getElem? (i := 0) rfl))).trans K16 all0).wr W19 (Or.inl (List.mem_of_getElem? (i := 0) rfl)))
  have fE21 := (fE18.wr W19)
  have fF22 := ((F10.keep K16 nin0).other W19 (Or.inr (slot_ne (C := "com/example/tesserae/tesserae/data/Example") (t := (.array .long)) (t' := (.array .double)) (Or.inr (hw _ (List.mem_of_getElem? (i := 31) rfl))) (Or.inr (hw _ (List.mem_of_getElem? (i := 36) rfl))) (by decide) (by decide) (by decide))))
  have fV23 := ((fV15.keep K16 nin0).other W19 (Ne.symm ne7_a))
  have fV24 := (V16.other W19 (Ne.symm ne16_a))
  exact s_ret X19 hx hlk hret (hb hby d2_30) (by decide) (by decide) (by rw [e19]; exact ⟨rfl, N19, KK20, fE21, _, _, _, _, fF22, F19, fV23, fV24⟩)
set_option maxRecDepth 65536 in
set_option maxHeartbeats 40000000 in
theorem rm_2_2 (l : Launch) (Z : State) (a0 : Array Value) (hw : ∀ d ∈ tables_1, d.before a0 Z = true) (ws : List Jvm.Cond) (a : Addr) (lb : UInt64) (ai : Addr) (av : Addr) (ki : ClassId) (kv : ClassId) (y0 : Int64) (y1 : Int64) (y2 : Int64) (x0 : UInt64) (x1 : UInt64) (x2 : UInt64) (vo0 : Value) (vo1 : Value) (vo2 : Value) (h0 : Heap) (n0 : Nat) (Z0 : n0 ≤ h0.size) (Ea : Exa Z h0 a "com/example/tesserae/tesserae/data/Example") (G0 : (Fld Z h0 a "com/example/tesserae/tesserae/data/Example" "label" "D" vo0)) (G1 : (Fld Z h0 a "com/example/tesserae/tesserae/data/Example" "indexes" "[J" vo1)) (G2 : (Fld Z h0 a "com/example/tesserae/tesserae/data/Example" "values" "[D" vo2)) (Vi : Arv Z h0 ai ki .long (3 : Int32) [.long y0, .long y1, .long y2] (.long 0)) (Ei : Exa Z h0 ai "[J") (Vv : Arv Z h0 av kv .double (3 : Int32) [.double x0, .double x1, .double x2] (.double 0)) (Ev : Exa Z h0 av "[D") (nia : ai ≠ a) (nva : av ≠ a) (ga : n0 ≤ a) :
    OwnMet l Z (⟨"com/example/tesserae/tesserae/data/Example", "<init>", "(D[J[DI)V"⟩ : MethodName) prog_13_method_2_code 6 none ws ({ frames := 2, cells := 2, slots := 6, locals := 55 } : Room) #[.ref a, .double lb, .ref ai, .ref av, .int (2 : Int32)] h0 (fun v h L => v = none ∧ Fr n0 L ∧ Keep h0 h [a] ∧ Exa Z h a "com/example/tesserae/tesserae/data/Example" ∧ ∃ (r1 r2 : Addr) (k1 k2 : ClassId), (Fld Z h a "com/example/tesserae/tesserae/data/Example" "indexes" "[J" (.ref r1)) ∧ (Fld Z h a "com/example/tesserae/tesserae/data/Example" "values" "[D" (.ref r2)) ∧ Arv Z h r1 k1 .long (2 : Int32) [.long y0, .long y1] (.long 0) ∧ Arv Z h r2 k2 .double (2 : Int32) [.double x0, .double x1] (.double 0)) := by
  refine own_met (plainFor_of_name pn_2) (ef_2 a lb ai av (2 : Int32)) ?_
  intro p e s m below meth c s₁ hx hby hml hZ hown hnm hret hlk X0 e0
  have N0 := Fr.nil n0
  refine s_aloadN X0 hx (hb hby d2_0) (pc' := 1) rfl rfl rfl ?_
  refine s_initO X0 hx hZ hown (hw _ (List.mem_of_getElem? (i := 13) rfl)) (hw _ (List.mem_of_getElem? (i := 14) rfl)) (hw _ (List.mem_of_getElem? (i := 15) rfl)) e0 (hb hby d2_1) (pc' := 4) rfl (by rw [hml]; rfl) (by decide) (W := 0) (Nat.le_of_eq rfl) (by decide) ?_
  intro T1 X1 e1
  refine s_aloadN X1 hx (hb hby d2_4) (pc' := 5) rfl rfl rfl ?_
  refine s_dloadN X1 hx (hb hby d2_5) (pc' := 6) rfl rfl ?_
  refine s_putF X1 hx hZ hown (hw _ (List.mem_of_getElem? (i := 16) rfl)) e1 G0 Ea (Or.inr ⟨(hw _ (List.mem_of_getElem? (i := 17) rfl)), rfl, hnm⟩) (hw _ (List.mem_of_getElem? (i := 8) rfl)) (ty := .double) (by decide) rfl rfl (hb hby d2_6) (pc' := 9) rfl ?_
  intro T2 h2 X2 e2 W2
  have N2 := Fr.snoc X2 N0 ga
  have F2 := G0.same W2
  have H2 : h0.size ≤ h2.size := by rw [W2.size]; exact (Nat.le_refl _)
  refine s_aloadN X2 hx (hb hby d2_9) (pc' := 10) rfl rfl rfl ?_
  refine s_aloadN X2 hx (hb hby d2_10) (pc' := 11) rfl rfl rfl ?_
  refine s_iload X2 hx (hb hby d2_11) (pc' := 13) rfl rfl ?_
  have fV3 := (Vi.other W2 nia)
  have fE4 := (Ei.wr W2)
  have fE5 := (Ea.wr W2)
  have fE6 := (Ev.wr W2)
  refine c_static X2 hx hZ hown (hw _ (List.mem_of_getElem? (i := 18) rfl)) (hw _ (List.mem_of_getElem? (i := 19) rfl)) (hw _ (List.mem_of_getElem? (i := 20) rfl)) (hw _ (List.mem_of_getElem? (i := 21) rfl)) (by decide) e2 (rm_4_2 l Z a0 hw [] ai ki y0 y1 y2 h2 n0 (Nat.le_trans Z0 H2) fV3 fE4) (W := 1) (by decide) (by decide) (by decide) (by decide) (by rw [hml]; rfl) (argsL := [.ref ai, .int (2 : Int32)]) (rest := [.ref a]) (lenOf pd_1 rfl) rfl rfl (Nat.le_of_eq rfl) (hb hby d2_13) (pc' := 16) rfl ?_
  intro T7 v7 L7 X7 hQ7
  obtain ⟨r7, kr7, rfl, Nq7, K7, lo7, V7⟩ := hQ7
  have N7 := Fr.app N2 Nq7
  have H7 : h0.size ≤ T7.heap.size := Nat.le_trans H2 K7.1
  show Goes p e below _ (T7.setTop (mkF m 16 #[.val (.ref a), .val (.double lb), .second, .val (.ref ai), .val (.ref av), .val (.int (2 : Int32))] [.ref r7, .ref a]))
  have ne7_a : a ≠ r7 := Nat.ne_of_lt (Nat.lt_of_lt_of_le fE5.lt lo7)
  have ne7_ai : ai ≠ r7 := Nat.ne_of_lt (Nat.lt_of_lt_of_le fE4.lt lo7)
  have ne7_av : av ≠ r7 := Nat.ne_of_lt (Nat.lt_of_lt_of_le fE6.lt lo7)
  have hg7 : h0.size ≤ r7 := Nat.le_trans H2 lo7
  have fF8 := ((G1.other W2 (Or.inr (slot_ne (C := "com/example/tesserae/tesserae/data/Example") (t := (.array .long)) (t' := .double) (Or.inr (hw _ (List.mem_of_getElem? (i := 31) rfl))) (Or.inr (hw _ (List.mem_of_getElem? (i := 17) rfl))) (by decide) (by decide) (by decide)))).keep K7 nin0)
  have fE9 := (fE5.keep K7)
  refine s_putF X7 hx hZ hown (hw _ (List.mem_of_getElem? (i := 30) rfl)) rfl fF8 fE9 (Or.inr ⟨(hw _ (List.mem_of_getElem? (i := 31) rfl)), rfl, hnm⟩) (hw _ (List.mem_of_getElem? (i := 8) rfl)) (ty := (.array .long)) (by decide) rfl rfl (hb hby d2_16) (pc' := 19) rfl ?_
  intro T10 h10 X10 e10 W10
  have N10 := Fr.snoc X10 N7 ga
  have F10 := fF8.same W10
  have H10 : h0.size ≤ h10.size := by rw [W10.size]; exact H7
  refine s_aloadN X10 hx (hb hby d2_19) (pc' := 20) rfl rfl rfl ?_
  refine s_aload X10 hx (hb hby d2_20) (pc' := 22) rfl rfl rfl ?_
  refine s_iload X10 hx (hb hby d2_22) (pc' := 24) rfl rfl ?_
  have fV11 := (((Vv.other W2 nva).keep K7 nin0).other W10 nva)
  have fE12 := ((fE6.keep K7).wr W10)
  have fE13 := (fE9.wr W10)
  have fE14 := ((fE4.keep K7).wr W10)
  have fV15 := (V7.other W10 (Ne.symm ne7_a))
  refine c_static X10 hx hZ hown (hw _ (List.mem_of_getElem? (i := 32) rfl)) (hw _ (List.mem_of_getElem? (i := 33) rfl)) (hw _ (List.mem_of_getElem? (i := 20) rfl)) (hw _ (List.mem_of_getElem? (i := 34) rfl)) (by decide) e10 (rm_6_2 l Z a0 hw [] av kv x0 x1 x2 h10 n0 (Nat.le_trans Z0 H10) fV11 fE12) (W := 1) (by decide) (by decide) (by decide) (by decide) (by rw [hml]; rfl) (argsL := [.ref av, .int (2 : Int32)]) (rest := [.ref a]) (lenOf pd_2 rfl) rfl rfl (Nat.le_of_eq rfl) (hb hby d2_24) (pc' := 27) rfl ?_
  intro T16 v16 L16 X16 hQ16
  obtain ⟨r16, kr16, rfl, Nq16, K16, lo16, V16⟩ := hQ16
  have N16 := Fr.app N10 Nq16
  have H16 : h0.size ≤ T16.heap.size := Nat.le_trans H10 K16.1
  show Goes p e below _ (T16.setTop (mkF m 27 #[.val (.ref a), .val (.double lb), .second, .val (.ref ai), .val (.ref av), .val (.int (2 : Int32))] [.ref r16, .ref a]))
  have ne16_a : a ≠ r16 := Nat.ne_of_lt (Nat.lt_of_lt_of_le fE13.lt lo16)
  have ne16_ai : ai ≠ r16 := Nat.ne_of_lt (Nat.lt_of_lt_of_le fE14.lt lo16)
  have ne16_av : av ≠ r16 := Nat.ne_of_lt (Nat.lt_of_lt_of_le fE12.lt lo16)
  have ne16_r7 : r7 ≠ r16 := Nat.ne_of_lt (Nat.lt_of_lt_of_le fV15.lt lo16)
  have hg16 : h0.size ≤ r16 := Nat.le_trans H10 lo16
  have fF17 := ((((G2.other W2 (Or.inr (slot_ne (C := "com/example/tesserae/tesserae/data/Example") (t := (.array .double)) (t' := .double) (Or.inr (hw _ (List.mem_of_getElem? (i := 36) rfl))) (Or.inr (hw _ (List.mem_of_getElem? (i := 17) rfl))) (by decide) (by decide) (by decide)))).keep K7 nin0).other W10 (Or.inr (slot_ne (C := "com/example/tesserae/tesserae/data/Example") (t := (.array .double)) (t' := (.array .long)) (Or.inr (hw _ (List.mem_of_getElem? (i := 36) rfl))) (Or.inr (hw _ (List.mem_of_getElem? (i := 31) rfl))) (by decide) (by decide) (by decide)))).keep K16 nin0)
  have fE18 := (fE13.keep K16)
  refine s_putF X16 hx hZ hown (hw _ (List.mem_of_getElem? (i := 35) rfl)) rfl fF17 fE18 (Or.inr ⟨(hw _ (List.mem_of_getElem? (i := 36) rfl)), rfl, hnm⟩) (hw _ (List.mem_of_getElem? (i := 8) rfl)) (ty := (.array .double)) (by decide) rfl rfl (hb hby d2_27) (pc' := 30) rfl ?_
  intro T19 h19 X19 e19 W19
  have N19 := Fr.snoc X19 N16 ga
  have F19 := fF17.same W19
  have H19 : h0.size ≤ h19.size := by rw [W19.size]; exact H16
  have KK20 : Keep h0 h19 [a] := ((((((Keep.refl _ _).wr W2 (Or.inl (List.mem_of_getElem? (i := 0) rfl))).trans K7 all0).wr W10 (Or.inl (List.mem_of_getElem? (i := 0) rfl))).trans K16 all0).wr W19 (Or.inl (List.mem_of_getElem? (i := 0) rfl)))
  have fE21 := (fE18.wr W19)
  have fF22 := ((F10.keep K16 nin0).other W19 (Or.inr (slot_ne (C := "com/example/tesserae/tesserae/data/Example") (t := (.array .long)) (t' := (.array .double)) (Or.inr (hw _ (List.mem_of_getElem? (i := 31) rfl))) (Or.inr (hw _ (List.mem_of_getElem? (i := 36) rfl))) (by decide) (by decide) (by decide))))
  have fV23 := ((fV15.keep K16 nin0).other W19 (Ne.symm ne7_a))
  have fV24 := (V16.other W19 (Ne.symm ne16_a))
  exact s_ret X19 hx hlk hret (hb hby d2_30) (by decide) (by decide) (by rw [e19]; exact ⟨rfl, N19, KK20, fE21, _, _, _, _, fF22, F19, fV23, fV24⟩)
set_option maxRecDepth 65536 in
set_option maxHeartbeats 40000000 in
theorem rm_2_3 (l : Launch) (Z : State) (a0 : Array Value) (hw : ∀ d ∈ tables_1, d.before a0 Z = true) (ws : List Jvm.Cond) (a : Addr) (lb : UInt64) (ai : Addr) (av : Addr) (ki : ClassId) (kv : ClassId) (y0 : Int64) (y1 : Int64) (y2 : Int64) (x0 : UInt64) (x1 : UInt64) (x2 : UInt64) (vo0 : Value) (vo1 : Value) (vo2 : Value) (h0 : Heap) (n0 : Nat) (Z0 : n0 ≤ h0.size) (Ea : Exa Z h0 a "com/example/tesserae/tesserae/data/Example") (G0 : (Fld Z h0 a "com/example/tesserae/tesserae/data/Example" "label" "D" vo0)) (G1 : (Fld Z h0 a "com/example/tesserae/tesserae/data/Example" "indexes" "[J" vo1)) (G2 : (Fld Z h0 a "com/example/tesserae/tesserae/data/Example" "values" "[D" vo2)) (Vi : Arv Z h0 ai ki .long (3 : Int32) [.long y0, .long y1, .long y2] (.long 0)) (Ei : Exa Z h0 ai "[J") (Vv : Arv Z h0 av kv .double (3 : Int32) [.double x0, .double x1, .double x2] (.double 0)) (Ev : Exa Z h0 av "[D") (nia : ai ≠ a) (nva : av ≠ a) (ga : n0 ≤ a) :
    OwnMet l Z (⟨"com/example/tesserae/tesserae/data/Example", "<init>", "(D[J[DI)V"⟩ : MethodName) prog_13_method_2_code 6 none ws ({ frames := 2, cells := 2, slots := 6, locals := 55 } : Room) #[.ref a, .double lb, .ref ai, .ref av, .int (3 : Int32)] h0 (fun v h L => v = none ∧ Fr n0 L ∧ Keep h0 h [a] ∧ Exa Z h a "com/example/tesserae/tesserae/data/Example" ∧ ∃ (r1 r2 : Addr) (k1 k2 : ClassId), (Fld Z h a "com/example/tesserae/tesserae/data/Example" "indexes" "[J" (.ref r1)) ∧ (Fld Z h a "com/example/tesserae/tesserae/data/Example" "values" "[D" (.ref r2)) ∧ Arv Z h r1 k1 .long (3 : Int32) [.long y0, .long y1, .long y2] (.long 0) ∧ Arv Z h r2 k2 .double (3 : Int32) [.double x0, .double x1, .double x2] (.double 0)) := by
  refine own_met (plainFor_of_name pn_2) (ef_2 a lb ai av (3 : Int32)) ?_
  intro p e s m below meth c s₁ hx hby hml hZ hown hnm hret hlk X0 e0
  have N0 := Fr.nil n0
  refine s_aloadN X0 hx (hb hby d2_0) (pc' := 1) rfl rfl rfl ?_
  refine s_initO X0 hx hZ hown (hw _ (List.mem_of_getElem? (i := 13) rfl)) (hw _ (List.mem_of_getElem? (i := 14) rfl)) (hw _ (List.mem_of_getElem? (i := 15) rfl)) e0 (hb hby d2_1) (pc' := 4) rfl (by rw [hml]; rfl) (by decide) (W := 0) (Nat.le_of_eq rfl) (by decide) ?_
  intro T1 X1 e1
  refine s_aloadN X1 hx (hb hby d2_4) (pc' := 5) rfl rfl rfl ?_
  refine s_dloadN X1 hx (hb hby d2_5) (pc' := 6) rfl rfl ?_
  refine s_putF X1 hx hZ hown (hw _ (List.mem_of_getElem? (i := 16) rfl)) e1 G0 Ea (Or.inr ⟨(hw _ (List.mem_of_getElem? (i := 17) rfl)), rfl, hnm⟩) (hw _ (List.mem_of_getElem? (i := 8) rfl)) (ty := .double) (by decide) rfl rfl (hb hby d2_6) (pc' := 9) rfl ?_
  intro T2 h2 X2 e2 W2
  have N2 := Fr.snoc X2 N0 ga
  have F2 := G0.same W2
  have H2 : h0.size ≤ h2.size := by rw [W2.size]; exact (Nat.le_refl _)
  refine s_aloadN X2 hx (hb hby d2_9) (pc' := 10) rfl rfl rfl ?_
  refine s_aloadN X2 hx (hb hby d2_10) (pc' := 11) rfl rfl rfl ?_
  refine s_iload X2 hx (hb hby d2_11) (pc' := 13) rfl rfl ?_
  have fV3 := (Vi.other W2 nia)
  have fE4 := (Ei.wr W2)
  have fE5 := (Ea.wr W2)
  have fE6 := (Ev.wr W2)
  refine c_static X2 hx hZ hown (hw _ (List.mem_of_getElem? (i := 18) rfl)) (hw _ (List.mem_of_getElem? (i := 19) rfl)) (hw _ (List.mem_of_getElem? (i := 20) rfl)) (hw _ (List.mem_of_getElem? (i := 21) rfl)) (by decide) e2 (rm_4_3 l Z a0 hw [] ai ki y0 y1 y2 h2 n0 (Nat.le_trans Z0 H2) fV3 fE4) (W := 1) (by decide) (by decide) (by decide) (by decide) (by rw [hml]; rfl) (argsL := [.ref ai, .int (3 : Int32)]) (rest := [.ref a]) (lenOf pd_1 rfl) rfl rfl (Nat.le_of_eq rfl) (hb hby d2_13) (pc' := 16) rfl ?_
  intro T7 v7 L7 X7 hQ7
  obtain ⟨r7, kr7, rfl, Nq7, K7, lo7, V7⟩ := hQ7
  have N7 := Fr.app N2 Nq7
  have H7 : h0.size ≤ T7.heap.size := Nat.le_trans H2 K7.1
  show Goes p e below _ (T7.setTop (mkF m 16 #[.val (.ref a), .val (.double lb), .second, .val (.ref ai), .val (.ref av), .val (.int (3 : Int32))] [.ref r7, .ref a]))
  have ne7_a : a ≠ r7 := Nat.ne_of_lt (Nat.lt_of_lt_of_le fE5.lt lo7)
  have ne7_ai : ai ≠ r7 := Nat.ne_of_lt (Nat.lt_of_lt_of_le fE4.lt lo7)
  have ne7_av : av ≠ r7 := Nat.ne_of_lt (Nat.lt_of_lt_of_le fE6.lt lo7)
  have hg7 : h0.size ≤ r7 := Nat.le_trans H2 lo7
  have fF8 := ((G1.other W2 (Or.inr (slot_ne (C := "com/example/tesserae/tesserae/data/Example") (t := (.array .long)) (t' := .double) (Or.inr (hw _ (List.mem_of_getElem? (i := 31) rfl))) (Or.inr (hw _ (List.mem_of_getElem? (i := 17) rfl))) (by decide) (by decide) (by decide)))).keep K7 nin0)
  have fE9 := (fE5.keep K7)
  refine s_putF X7 hx hZ hown (hw _ (List.mem_of_getElem? (i := 30) rfl)) rfl fF8 fE9 (Or.inr ⟨(hw _ (List.mem_of_getElem? (i := 31) rfl)), rfl, hnm⟩) (hw _ (List.mem_of_getElem? (i := 8) rfl)) (ty := (.array .long)) (by decide) rfl rfl (hb hby d2_16) (pc' := 19) rfl ?_
  intro T10 h10 X10 e10 W10
  have N10 := Fr.snoc X10 N7 ga
  have F10 := fF8.same W10
  have H10 : h0.size ≤ h10.size := by rw [W10.size]; exact H7
  refine s_aloadN X10 hx (hb hby d2_19) (pc' := 20) rfl rfl rfl ?_
  refine s_aload X10 hx (hb hby d2_20) (pc' := 22) rfl rfl rfl ?_
  refine s_iload X10 hx (hb hby d2_22) (pc' := 24) rfl rfl ?_
  have fV11 := (((Vv.other W2 nva).keep K7 nin0).other W10 nva)
  have fE12 := ((fE6.keep K7).wr W10)
  have fE13 := (fE9.wr W10)
  have fE14 := ((fE4.keep K7).wr W10)
  have fV15 := (V7.other W10 (Ne.symm ne7_a))
  refine c_static X10 hx hZ hown (hw _ (List.mem_of_getElem? (i := 32) rfl)) (hw _ (List.mem_of_getElem? (i := 33) rfl)) (hw _ (List.mem_of_getElem? (i := 20) rfl)) (hw _ (List.mem_of_getElem? (i := 34) rfl)) (by decide) e10 (rm_6_3 l Z a0 hw [] av kv x0 x1 x2 h10 n0 (Nat.le_trans Z0 H10) fV11 fE12) (W := 1) (by decide) (by decide) (by decide) (by decide) (by rw [hml]; rfl) (argsL := [.ref av, .int (3 : Int32)]) (rest := [.ref a]) (lenOf pd_2 rfl) rfl rfl (Nat.le_of_eq rfl) (hb hby d2_24) (pc' := 27) rfl ?_
  intro T16 v16 L16 X16 hQ16
  obtain ⟨r16, kr16, rfl, Nq16, K16, lo16, V16⟩ := hQ16
  have N16 := Fr.app N10 Nq16
  have H16 : h0.size ≤ T16.heap.size := Nat.le_trans H10 K16.1
  show Goes p e below _ (T16.setTop (mkF m 27 #[.val (.ref a), .val (.double lb), .second, .val (.ref ai), .val (.ref av), .val (.int (3 : Int32))] [.ref r16, .ref a]))
  have ne16_a : a ≠ r16 := Nat.ne_of_lt (Nat.lt_of_lt_of_le fE13.lt lo16)
  have ne16_ai : ai ≠ r16 := Nat.ne_of_lt (Nat.lt_of_lt_of_le fE14.lt lo16)
  have ne16_av : av ≠ r16 := Nat.ne_of_lt (Nat.lt_of_lt_of_le fE12.lt lo16)
  have ne16_r7 : r7 ≠ r16 := Nat.ne_of_lt (Nat.lt_of_lt_of_le fV15.lt lo16)
  have hg16 : h0.size ≤ r16 := Nat.le_trans H10 lo16
  have fF17 := ((((G2.other W2 (Or.inr (slot_ne (C := "com/example/tesserae/tesserae/data/Example") (t := (.array .double)) (t' := .double) (Or.inr (hw _ (List.mem_of_getElem? (i := 36) rfl))) (Or.inr (hw _ (List.mem_of_getElem? (i := 17) rfl))) (by decide) (by decide) (by decide)))).keep K7 nin0).other W10 (Or.inr (slot_ne (C := "com/example/tesserae/tesserae/data/Example") (t := (.array .double)) (t' := (.array .long)) (Or.inr (hw _ (List.mem_of_getElem? (i := 36) rfl))) (Or.inr (hw _ (List.mem_of_getElem? (i := 31) rfl))) (by decide) (by decide) (by decide)))).keep K16 nin0)
  have fE18 := (fE13.keep K16)
  refine s_putF X16 hx hZ hown (hw _ (List.mem_of_getElem? (i := 35) rfl)) rfl fF17 fE18 (Or.inr ⟨(hw _ (List.mem_of_getElem? (i := 36) rfl)), rfl, hnm⟩) (hw _ (List.mem_of_getElem? (i := 8) rfl)) (ty := (.array .double)) (by decide) rfl rfl (hb hby d2_27) (pc' := 30) rfl ?_
  intro T19 h19 X19 e19 W19
  have N19 := Fr.snoc X19 N16 ga
  have F19 := fF17.same W19
  have H19 : h0.size ≤ h19.size := by rw [W19.size]; exact H16
  have KK20 : Keep h0 h19 [a] := ((((((Keep.refl _ _).wr W2 (Or.inl (List.mem_of_getElem? (i := 0) rfl))).trans K7 all0).wr W10 (Or.inl (List.mem_of_getElem? (i := 0) rfl))).trans K16 all0).wr W19 (Or.inl (List.mem_of_getElem? (i := 0) rfl)))
  have fE21 := (fE18.wr W19)
  have fF22 := ((F10.keep K16 nin0).other W19 (Or.inr (slot_ne (C := "com/example/tesserae/tesserae/data/Example") (t := (.array .long)) (t' := (.array .double)) (Or.inr (hw _ (List.mem_of_getElem? (i := 31) rfl))) (Or.inr (hw _ (List.mem_of_getElem? (i := 36) rfl))) (by decide) (by decide) (by decide))))
  have fV23 := ((fV15.keep K16 nin0).other W19 (Ne.symm ne7_a))
  have fV24 := (V16.other W19 (Ne.symm ne16_a))
  exact s_ret X19 hx hlk hret (hb hby d2_30) (by decide) (by decide) (by rw [e19]; exact ⟨rfl, N19, KK20, fE21, _, _, _, _, fF22, F19, fV23, fV24⟩)
theorem d7_0 : decode prog_13_method_8_code 0 = .ok (.dconst 0, 1) := by decide +kernel
theorem d7_1 : decode prog_13_method_8_code 1 = .ok (.dstore_n 2, 1) := by decide +kernel
theorem d7_2 : decode prog_13_method_8_code 2 = .ok (.iconst 0, 1) := by decide +kernel
theorem d7_3 : decode prog_13_method_8_code 3 = .ok (.istore 4, 2) := by decide +kernel
theorem d7_5 : decode prog_13_method_8_code 5 = .ok (.iload 4, 2) := by decide +kernel
theorem d7_7 : decode prog_13_method_8_code 7 = .ok (.aload_n 0, 1) := by decide +kernel
theorem d7_8 : decode prog_13_method_8_code 8 = .ok (.getfield 26, 3) := by decide +kernel
theorem d7_11 : decode prog_13_method_8_code 11 = .ok (.arraylength, 1) := by decide +kernel
theorem d7_12 : decode prog_13_method_8_code 12 = .ok (.if_icmp .ge 44, 3) := by decide +kernel
theorem d7_15 : decode prog_13_method_8_code 15 = .ok (.aload_n 0, 1) := by decide +kernel
theorem d7_16 : decode prog_13_method_8_code 16 = .ok (.getfield 26, 3) := by decide +kernel
theorem d7_19 : decode prog_13_method_8_code 19 = .ok (.iload 4, 2) := by decide +kernel
theorem d7_21 : decode prog_13_method_8_code 21 = .ok (.laload, 1) := by decide +kernel
theorem d7_22 : decode prog_13_method_8_code 22 = .ok (.aload_n 1, 1) := by decide +kernel
theorem d7_23 : decode prog_13_method_8_code 23 = .ok (.arraylength, 1) := by decide +kernel
theorem d7_24 : decode prog_13_method_8_code 24 = .ok (.i2l, 1) := by decide +kernel
theorem d7_25 : decode prog_13_method_8_code 25 = .ok (.lcmp, 1) := by decide +kernel
theorem d7_26 : decode prog_13_method_8_code 26 = .ok (.ifCond .ge 24, 3) := by decide +kernel
theorem d7_29 : decode prog_13_method_8_code 29 = .ok (.dload_n 2, 1) := by decide +kernel
theorem d7_30 : decode prog_13_method_8_code 30 = .ok (.aload_n 1, 1) := by decide +kernel
theorem d7_31 : decode prog_13_method_8_code 31 = .ok (.aload_n 0, 1) := by decide +kernel
theorem d7_32 : decode prog_13_method_8_code 32 = .ok (.getfield 26, 3) := by decide +kernel
theorem d7_35 : decode prog_13_method_8_code 35 = .ok (.iload 4, 2) := by decide +kernel
theorem d7_37 : decode prog_13_method_8_code 37 = .ok (.laload, 1) := by decide +kernel
theorem d7_38 : decode prog_13_method_8_code 38 = .ok (.l2i, 1) := by decide +kernel
theorem d7_39 : decode prog_13_method_8_code 39 = .ok (.daload, 1) := by decide +kernel
theorem d7_40 : decode prog_13_method_8_code 40 = .ok (.aload_n 0, 1) := by decide +kernel
theorem d7_41 : decode prog_13_method_8_code 41 = .ok (.getfield 33, 3) := by decide +kernel
theorem d7_44 : decode prog_13_method_8_code 44 = .ok (.iload 4, 2) := by decide +kernel
theorem d7_46 : decode prog_13_method_8_code 46 = .ok (.daload, 1) := by decide +kernel
theorem d7_47 : decode prog_13_method_8_code 47 = .ok (.dmul, 1) := by decide +kernel
theorem d7_48 : decode prog_13_method_8_code 48 = .ok (.dadd, 1) := by decide +kernel
theorem d7_49 : decode prog_13_method_8_code 49 = .ok (.dstore_n 2, 1) := by decide +kernel
theorem d7_50 : decode prog_13_method_8_code 50 = .ok (.iinc 4 1, 3) := by decide +kernel
theorem d7_53 : decode prog_13_method_8_code 53 = .ok (.goto (-48), 3) := by decide +kernel
theorem d7_56 : decode prog_13_method_8_code 56 = .ok (.dload_n 2, 1) := by decide +kernel
theorem d7_57 : decode prog_13_method_8_code 57 = .ok (.dreturn, 1) := by decide +kernel
theorem pn_7 : plainName "com/example/tesserae/tesserae/data/Example" = true := by first | (simp [plainName, overriddenIn]; done) | decide +kernel
theorem ef_7 (z0 : Addr) (z1 : Addr) (m : MethodId) : entryFrame m #[.ref z0, .ref z1] 5 = mkF m 0 #[.val (.ref z0), .val (.ref z1), .unset, .unset, .unset] [] := by first | (simp [entryFrame, mkF, argsToLocals, Value.category, maxLocals]; done) | rfl
set_option maxRecDepth 65536 in
set_option maxHeartbeats 40000000 in
theorem rm_7_0 (l : Launch) (Z : State) (a0 : Array Value) (hw : ∀ d ∈ tables_1, d.before a0 Z = true) (ws : List Jvm.Cond) (a : Addr) (aw : Addr) (ai : Addr) (av : Addr) (ki : ClassId) (kv : ClassId) (kw : ClassId) (w0 : Int32) (w1 : Int32) (h0 : Heap) (n0 : Nat) (Z0 : n0 ≤ h0.size) (Gi : (Fld Z h0 a "com/example/tesserae/tesserae/data/Example" "indexes" "[J" (.ref ai))) (Gv : (Fld Z h0 a "com/example/tesserae/tesserae/data/Example" "values" "[D" (.ref av))) (Vi : Arv Z h0 ai ki .long (0 : Int32) [] (.long 0)) (Vv : Arv Z h0 av kv .double (0 : Int32) [] (.double 0)) (Vw : Arv Z h0 aw kw .double (2 : Int32) [.double (FP.i2d w0), .double (FP.i2d w1)] (.double 0)) (hw0 : w0.toInt.natAbs ≤ 128) (hw1 : w1.toInt.natAbs ≤ 128) :
    OwnMet l Z (⟨"com/example/tesserae/tesserae/data/Example", "dot", "([D)D"⟩ : MethodName) prog_13_method_8_code 5 (some .double) ws ({ frames := 0, cells := 0, slots := 0, locals := 0 } : Room) #[.ref a, .ref aw] h0 (fun v h L => ∃ r : UInt64, v = some (.double r) ∧ Fr n0 L ∧ h = h0 ∧ FP.Core.DInt 0 r) := by
  refine own_met (plainFor_of_name pn_7) (ef_7 a aw) ?_
  intro p e s m below meth c s₁ hx hby hml hZ hown hnm hret hlk X0 e0
  have N0 := Fr.nil n0
  have T0_ : ∀ (TT : State) (acc : UInt64) (A : Int), Stand p l e ({ frames := 0, cells := 0, slots := 0, locals := 0 } : Room) s m #[.ref a, .ref aw] below meth c TT [] 0 0 → TT.heap = h0 → FP.Core.DInt A acc → A.natAbs ≤ 0 → A + 0 = 0 → Goes p e below (EndsAs (fun v h L => ∃ r : UInt64, v = some (.double r) ∧ Fr n0 L ∧ h = h0 ∧ FP.Core.DInt 0 r) s ({ frames := 0, cells := 0, slots := 0, locals := 0 } : Room).cells ({ frames := 0, cells := 0, slots := 0, locals := 0 } : Room).slots) (TT.setTop (mkF m 5 #[.val (.ref a), .val (.ref aw), .val (.double acc), .second, .val (.int (0 : Int32))] [])) := by
    intro TT acc A XT eT hA hbd hs
    refine s_iload XT hx (hb hby d7_5) (pc' := 7) rfl rfl ?_
    refine s_aloadN XT hx (hb hby d7_7) (pc' := 8) rfl rfl rfl ?_
    refine s_getF XT hx hZ hown (hw _ (List.mem_of_getElem? (i := 30) rfl)) eT Gi (hb hby d7_8) (pc' := 11) rfl ?_
    intro T1 X1 e1
    refine s_len X1 hx hZ e1 Vi (hb hby d7_11) (pc' := 12) rfl ?_
    refine s_icmpY X1 hx (hb hby d7_12) (by decide) (by decide) (pc' := 56) (by decide) ?_
    refine s_dloadN X1 hx (hb hby d7_56) (pc' := 57) rfl rfl ?_
    exact s_retI X1 hx hlk hret (hb hby d7_57) rfl (Or.inr (Or.inr (Or.inl ⟨rfl, rfl, _, rfl⟩))) (by decide) (by decide) ⟨acc, rfl, N0, e1, by rw [← hs, Int.add_zero]; exact hA⟩
  refine s_dconst0 X0 hx (hb hby d7_0) (pc' := 1) rfl ?_
  refine s_dstoreN X0 hx #[.val (.ref a), .val (.ref aw), .val (.double 0), .second, .unset] (hb hby d7_1) (pc' := 2) rfl rfl ?_
  refine s_iconst X0 hx (0 : Int32) (hb hby d7_2) (pc' := 3) rfl rfl ?_
  refine s_istore X0 hx #[.val (.ref a), .val (.ref aw), .val (.double 0), .second, .val (.int (0 : Int32))] (hb hby d7_3) (pc' := 5) rfl rfl ?_
  exact T0_ _ _ _ X0 e0 own_zero (by decide) (by rw [Int.zero_add])
set_option maxRecDepth 65536 in
set_option maxHeartbeats 40000000 in
theorem rm_7_1 (l : Launch) (Z : State) (a0 : Array Value) (hw : ∀ d ∈ tables_1, d.before a0 Z = true) (ws : List Jvm.Cond) (a : Addr) (aw : Addr) (ai : Addr) (av : Addr) (ki : ClassId) (kv : ClassId) (kw : ClassId) (y0 : Int64) (v0 : Int32) (w0 : Int32) (w1 : Int32) (h0 : Heap) (n0 : Nat) (Z0 : n0 ≤ h0.size) (Gi : (Fld Z h0 a "com/example/tesserae/tesserae/data/Example" "indexes" "[J" (.ref ai))) (Gv : (Fld Z h0 a "com/example/tesserae/tesserae/data/Example" "values" "[D" (.ref av))) (Vi : Arv Z h0 ai ki .long (1 : Int32) [.long y0] (.long 0)) (Vv : Arv Z h0 av kv .double (1 : Int32) [.double (FP.i2d v0)] (.double 0)) (Vw : Arv Z h0 aw kw .double (2 : Int32) [.double (FP.i2d w0), .double (FP.i2d w1)] (.double 0)) (hn0 : 0 ≤ y0.toInt) (hv0 : v0.toInt.natAbs ≤ 128) (hw0 : w0.toInt.natAbs ≤ 128) (hw1 : w1.toInt.natAbs ≤ 128) :
    OwnMet l Z (⟨"com/example/tesserae/tesserae/data/Example", "dot", "([D)D"⟩ : MethodName) prog_13_method_8_code 5 (some .double) ws ({ frames := 0, cells := 0, slots := 0, locals := 0 } : Room) #[.ref a, .ref aw] h0 (fun v h L => ∃ r : UInt64, v = some (.double r) ∧ Fr n0 L ∧ h = h0 ∧ FP.Core.DInt (own_t y0 w0.toInt w1.toInt v0.toInt + 0) r) := by
  refine own_met (plainFor_of_name pn_7) (ef_7 a aw) ?_
  intro p e s m below meth c s₁ hx hby hml hZ hown hnm hret hlk X0 e0
  have N0 := Fr.nil n0
  have T1_ : ∀ (TT : State) (acc : UInt64) (A : Int), Stand p l e ({ frames := 0, cells := 0, slots := 0, locals := 0 } : Room) s m #[.ref a, .ref aw] below meth c TT [] 0 0 → TT.heap = h0 → FP.Core.DInt A acc → A.natAbs ≤ 16384 → A + 0 = (own_t y0 w0.toInt w1.toInt v0.toInt + 0) → Goes p e below (EndsAs (fun v h L => ∃ r : UInt64, v = some (.double r) ∧ Fr n0 L ∧ h = h0 ∧ FP.Core.DInt (own_t y0 w0.toInt w1.toInt v0.toInt + 0) r) s ({ frames := 0, cells := 0, slots := 0, locals := 0 } : Room).cells ({ frames := 0, cells := 0, slots := 0, locals := 0 } : Room).slots) (TT.setTop (mkF m 5 #[.val (.ref a), .val (.ref aw), .val (.double acc), .second, .val (.int (1 : Int32))] [])) := by
    intro TT acc A XT eT hA hbd hs
    refine s_iload XT hx (hb hby d7_5) (pc' := 7) rfl rfl ?_
    refine s_aloadN XT hx (hb hby d7_7) (pc' := 8) rfl rfl rfl ?_
    refine s_getF XT hx hZ hown (hw _ (List.mem_of_getElem? (i := 30) rfl)) eT Gi (hb hby d7_8) (pc' := 11) rfl ?_
    intro T1 X1 e1
    refine s_len X1 hx hZ e1 Vi (hb hby d7_11) (pc' := 12) rfl ?_
    refine s_icmpY X1 hx (hb hby d7_12) (by decide) (by decide) (pc' := 56) (by decide) ?_
    refine s_dloadN X1 hx (hb hby d7_56) (pc' := 57) rfl rfl ?_
    exact s_retI X1 hx hlk hret (hb hby d7_57) rfl (Or.inr (Or.inr (Or.inl ⟨rfl, rfl, _, rfl⟩))) (by decide) (by decide) ⟨acc, rfl, N0, e1, by rw [← hs, Int.add_zero]; exact hA⟩
  have T0_ : ∀ (TT : State) (acc : UInt64) (A : Int), Stand p l e ({ frames := 0, cells := 0, slots := 0, locals := 0 } : Room) s m #[.ref a, .ref aw] below meth c TT [] 0 0 → TT.heap = h0 → FP.Core.DInt A acc → A.natAbs ≤ 0 → A + (own_t y0 w0.toInt w1.toInt v0.toInt + 0) = (own_t y0 w0.toInt w1.toInt v0.toInt + 0) → Goes p e below (EndsAs (fun v h L => ∃ r : UInt64, v = some (.double r) ∧ Fr n0 L ∧ h = h0 ∧ FP.Core.DInt (own_t y0 w0.toInt w1.toInt v0.toInt + 0) r) s ({ frames := 0, cells := 0, slots := 0, locals := 0 } : Room).cells ({ frames := 0, cells := 0, slots := 0, locals := 0 } : Room).slots) (TT.setTop (mkF m 5 #[.val (.ref a), .val (.ref aw), .val (.double acc), .second, .val (.int (0 : Int32))] [])) := by
    intro TT acc A XT eT hA hbd hs
    refine s_iload XT hx (hb hby d7_5) (pc' := 7) rfl rfl ?_
    refine s_aloadN XT hx (hb hby d7_7) (pc' := 8) rfl rfl rfl ?_
    refine s_getF XT hx hZ hown (hw _ (List.mem_of_getElem? (i := 30) rfl)) eT Gi (hb hby d7_8) (pc' := 11) rfl ?_
    intro T2 X2 e2
    refine s_len X2 hx hZ e2 Vi (hb hby d7_11) (pc' := 12) rfl ?_
    refine s_icmpN X2 hx (hb hby d7_12) (pc' := 15) rfl (by decide) ?_
    refine s_aloadN X2 hx (hb hby d7_15) (pc' := 16) rfl rfl rfl ?_
    refine s_getF X2 hx hZ hown (hw _ (List.mem_of_getElem? (i := 30) rfl)) e2 Gi (hb hby d7_16) (pc' := 19) rfl ?_
    intro T3 X3 e3
    refine s_iload X3 hx (hb hby d7_19) (pc' := 21) rfl rfl ?_
    refine s_laload X3 hx hZ e3 Vi (by decide) (v := .long y0) rfl (hb hby d7_21) (pc' := 22) rfl ?_
    refine s_aloadN X3 hx (hb hby d7_22) (pc' := 23) rfl rfl rfl ?_
    refine s_len X3 hx hZ e3 Vw (hb hby d7_23) (pc' := 24) rfl ?_
    refine s_i2l X3 hx (hb hby d7_24) (pc' := 25) rfl ?_
    refine s_lcmp X3 hx (hb hby d7_25) (pc' := 26) rfl ?_
    by_cases hlt : y0 < (2 : Int32).toInt64
    ·
      refine s_ifN X3 hx (hb hby d7_26) (pc' := 29) rfl (in_ge (own_cmpL_lt.mpr hlt)) ?_
      refine s_dloadN X3 hx (hb hby d7_29) (pc' := 30) rfl rfl ?_
      refine s_aloadN X3 hx (hb hby d7_30) (pc' := 31) rfl rfl rfl ?_
      refine s_aloadN X3 hx (hb hby d7_31) (pc' := 32) rfl rfl rfl ?_
      refine s_getF X3 hx hZ hown (hw _ (List.mem_of_getElem? (i := 30) rfl)) e3 Gi (hb hby d7_32) (pc' := 35) rfl ?_
      intro T4 X4 e4
      refine s_iload X4 hx (hb hby d7_35) (pc' := 37) rfl rfl ?_
      rcases own_01 hn0 hlt with q | q
      ·
        subst q
        refine s_laload X4 hx hZ e4 Vi (by decide) (v := .long (0 : Int64)) rfl (hb hby d7_37) (pc' := 38) rfl ?_
        refine s_l2i X4 hx (hb hby d7_38) (pc' := 39) rfl ?_
        refine s_daload X4 hx hZ e4 Vw (by decide) (v := .double (FP.i2d w0)) rfl (hb hby d7_39) (pc' := 40) rfl ?_
        refine s_aloadN X4 hx (hb hby d7_40) (pc' := 41) rfl rfl rfl ?_
        refine s_getF X4 hx hZ hown (hw _ (List.mem_of_getElem? (i := 35) rfl)) e4 Gv (hb hby d7_41) (pc' := 44) rfl ?_
        intro T5 X5 e5
        refine s_iload X5 hx (hb hby d7_44) (pc' := 46) rfl rfl ?_
        refine s_daload X5 hx hZ e5 Vv (by decide) (v := .double (FP.i2d v0)) rfl (hb hby d7_46) (pc' := 47) rfl ?_
        have dp := own_prod hw0 hv0
        have bp := own_mul hw0 hv0
        have dn := FP.Core.dadd_int hA dp (by omega)
        refine s_dmul X5 hx (FP.dmul (FP.i2d w0) (FP.i2d v0)) (hb hby d7_47) (pc' := 48) rfl (own_nn dp) rfl ?_
        refine s_dadd X5 hx (FP.dadd acc (FP.dmul (FP.i2d w0) (FP.i2d v0))) (hb hby d7_48) (pc' := 49) rfl (own_nn dn) rfl ?_
        refine s_dstoreN X5 hx #[.val (.ref a), .val (.ref aw), .val (.double (FP.dadd acc (FP.dmul (FP.i2d w0) (FP.i2d v0)))), .second, .val (.int (0 : Int32))] (hb hby d7_49) (pc' := 50) rfl rfl ?_
        refine s_iinc X5 hx (1 : Int32) #[.val (.ref a), .val (.ref aw), .val (.double (FP.dadd acc (FP.dmul (FP.i2d w0) (FP.i2d v0)))), .second, .val (.int (1 : Int32))] (hb hby d7_50) (pc' := 53) rfl rfl rfl rfl ?_
        refine s_goto X5 hx (hb hby d7_53) (by decide) (pc' := 5) (by decide) ?_
        exact T1_ _ _ _ X5 e5 dn (by omega) (by rw [← hs, own_t0, Int.add_assoc])
      ·
        subst q
        refine s_laload X4 hx hZ e4 Vi (by decide) (v := .long (1 : Int64)) rfl (hb hby d7_37) (pc' := 38) rfl ?_
        refine s_l2i X4 hx (hb hby d7_38) (pc' := 39) rfl ?_
        refine s_daload X4 hx hZ e4 Vw (by decide) (v := .double (FP.i2d w1)) rfl (hb hby d7_39) (pc' := 40) rfl ?_
        refine s_aloadN X4 hx (hb hby d7_40) (pc' := 41) rfl rfl rfl ?_
        refine s_getF X4 hx hZ hown (hw _ (List.mem_of_getElem? (i := 35) rfl)) e4 Gv (hb hby d7_41) (pc' := 44) rfl ?_
        intro T6 X6 e6
        refine s_iload X6 hx (hb hby d7_44) (pc' := 46) rfl rfl ?_
        refine s_daload X6 hx hZ e6 Vv (by decide) (v := .double (FP.i2d v0)) rfl (hb hby d7_46) (pc' := 47) rfl ?_
        have dp := own_prod hw1 hv0
        have bp := own_mul hw1 hv0
        have dn := FP.Core.dadd_int hA dp (by omega)
        refine s_dmul X6 hx (FP.dmul (FP.i2d w1) (FP.i2d v0)) (hb hby d7_47) (pc' := 48) rfl (own_nn dp) rfl ?_
        refine s_dadd X6 hx (FP.dadd acc (FP.dmul (FP.i2d w1) (FP.i2d v0))) (hb hby d7_48) (pc' := 49) rfl (own_nn dn) rfl ?_
        refine s_dstoreN X6 hx #[.val (.ref a), .val (.ref aw), .val (.double (FP.dadd acc (FP.dmul (FP.i2d w1) (FP.i2d v0)))), .second, .val (.int (0 : Int32))] (hb hby d7_49) (pc' := 50) rfl rfl ?_
        refine s_iinc X6 hx (1 : Int32) #[.val (.ref a), .val (.ref aw), .val (.double (FP.dadd acc (FP.dmul (FP.i2d w1) (FP.i2d v0)))), .second, .val (.int (1 : Int32))] (hb hby d7_50) (pc' := 53) rfl rfl rfl rfl ?_
        refine s_goto X6 hx (hb hby d7_53) (by decide) (pc' := 5) (by decide) ?_
        exact T1_ _ _ _ X6 e6 dn (by omega) (by rw [← hs, own_t1, Int.add_assoc])
    ·
      refine s_ifY X3 hx (hb hby d7_26) (iy_ge (fun z => hlt (own_cmpL_lt.mp z))) (by decide) (pc' := 50) (by decide) ?_
      refine s_iinc X3 hx (1 : Int32) #[.val (.ref a), .val (.ref aw), .val (.double acc), .second, .val (.int (1 : Int32))] (hb hby d7_50) (pc' := 53) rfl rfl rfl rfl ?_
      refine s_goto X3 hx (hb hby d7_53) (by decide) (pc' := 5) (by decide) ?_
      exact T1_ _ _ _ X3 e3 hA (by omega) (by rw [← hs, own_t2 hlt, Int.zero_add])
  refine s_dconst0 X0 hx (hb hby d7_0) (pc' := 1) rfl ?_
  refine s_dstoreN X0 hx #[.val (.ref a), .val (.ref aw), .val (.double 0), .second, .unset] (hb hby d7_1) (pc' := 2) rfl rfl ?_
  refine s_iconst X0 hx (0 : Int32) (hb hby d7_2) (pc' := 3) rfl rfl ?_
  refine s_istore X0 hx #[.val (.ref a), .val (.ref aw), .val (.double 0), .second, .val (.int (0 : Int32))] (hb hby d7_3) (pc' := 5) rfl rfl ?_
  exact T0_ _ _ _ X0 e0 own_zero (by decide) (by rw [Int.zero_add])
set_option maxRecDepth 65536 in
set_option maxHeartbeats 40000000 in
theorem rm_7_2 (l : Launch) (Z : State) (a0 : Array Value) (hw : ∀ d ∈ tables_1, d.before a0 Z = true) (ws : List Jvm.Cond) (a : Addr) (aw : Addr) (ai : Addr) (av : Addr) (ki : ClassId) (kv : ClassId) (kw : ClassId) (y0 : Int64) (y1 : Int64) (v0 : Int32) (v1 : Int32) (w0 : Int32) (w1 : Int32) (h0 : Heap) (n0 : Nat) (Z0 : n0 ≤ h0.size) (Gi : (Fld Z h0 a "com/example/tesserae/tesserae/data/Example" "indexes" "[J" (.ref ai))) (Gv : (Fld Z h0 a "com/example/tesserae/tesserae/data/Example" "values" "[D" (.ref av))) (Vi : Arv Z h0 ai ki .long (2 : Int32) [.long y0, .long y1] (.long 0)) (Vv : Arv Z h0 av kv .double (2 : Int32) [.double (FP.i2d v0), .double (FP.i2d v1)] (.double 0)) (Vw : Arv Z h0 aw kw .double (2 : Int32) [.double (FP.i2d w0), .double (FP.i2d w1)] (.double 0)) (hn0 : 0 ≤ y0.toInt) (hn1 : 0 ≤ y1.toInt) (hv0 : v0.toInt.natAbs ≤ 128) (hv1 : v1.toInt.natAbs ≤ 128) (hw0 : w0.toInt.natAbs ≤ 128) (hw1 : w1.toInt.natAbs ≤ 128) :
    OwnMet l Z (⟨"com/example/tesserae/tesserae/data/Example", "dot", "([D)D"⟩ : MethodName) prog_13_method_8_code 5 (some .double) ws ({ frames := 0, cells := 0, slots := 0, locals := 0 } : Room) #[.ref a, .ref aw] h0 (fun v h L => ∃ r : UInt64, v = some (.double r) ∧ Fr n0 L ∧ h = h0 ∧ FP.Core.DInt (own_t y0 w0.toInt w1.toInt v0.toInt + (own_t y1 w0.toInt w1.toInt v1.toInt + 0)) r) := by
  refine own_met (plainFor_of_name pn_7) (ef_7 a aw) ?_
  intro p e s m below meth c s₁ hx hby hml hZ hown hnm hret hlk X0 e0
  have N0 := Fr.nil n0
  have T2_ : ∀ (TT : State) (acc : UInt64) (A : Int), Stand p l e ({ frames := 0, cells := 0, slots := 0, locals := 0 } : Room) s m #[.ref a, .ref aw] below meth c TT [] 0 0 → TT.heap = h0 → FP.Core.DInt A acc → A.natAbs ≤ 32768 → A + 0 = (own_t y0 w0.toInt w1.toInt v0.toInt + (own_t y1 w0.toInt w1.toInt v1.toInt + 0)) → Goes p e below (EndsAs (fun v h L => ∃ r : UInt64, v = some (.double r) ∧ Fr n0 L ∧ h = h0 ∧ FP.Core.DInt (own_t y0 w0.toInt w1.toInt v0.toInt + (own_t y1 w0.toInt w1.toInt v1.toInt + 0)) r) s ({ frames := 0, cells := 0, slots := 0, locals := 0 } : Room).cells ({ frames := 0, cells := 0, slots := 0, locals := 0 } : Room).slots) (TT.setTop (mkF m 5 #[.val (.ref a), .val (.ref aw), .val (.double acc), .second, .val (.int (2 : Int32))] [])) := by
    intro TT acc A XT eT hA hbd hs
    refine s_iload XT hx (hb hby d7_5) (pc' := 7) rfl rfl ?_
    refine s_aloadN XT hx (hb hby d7_7) (pc' := 8) rfl rfl rfl ?_
    refine s_getF XT hx hZ hown (hw _ (List.mem_of_getElem? (i := 30) rfl)) eT Gi (hb hby d7_8) (pc' := 11) rfl ?_
    intro T1 X1 e1
    refine s_len X1 hx hZ e1 Vi (hb hby d7_11) (pc' := 12) rfl ?_
    refine s_icmpY X1 hx (hb hby d7_12) (by decide) (by decide) (pc' := 56) (by decide) ?_
    refine s_dloadN X1 hx (hb hby d7_56) (pc' := 57) rfl rfl ?_
    exact s_retI X1 hx hlk hret (hb hby d7_57) rfl (Or.inr (Or.inr (Or.inl ⟨rfl, rfl, _, rfl⟩))) (by decide) (by decide) ⟨acc, rfl, N0, e1, by rw [← hs, Int.add_zero]; exact hA⟩
  have T1_ : ∀ (TT : State) (acc : UInt64) (A : Int), Stand p l e ({ frames := 0, cells := 0, slots := 0, locals := 0 } : Room) s m #[.ref a, .ref aw] below meth c TT [] 0 0 → TT.heap = h0 → FP.Core.DInt A acc → A.natAbs ≤ 16384 → A + (own_t y1 w0.toInt w1.toInt v1.toInt + 0) = (own_t y0 w0.toInt w1.toInt v0.toInt + (own_t y1 w0.toInt w1.toInt v1.toInt + 0)) → Goes p e below (EndsAs (fun v h L => ∃ r : UInt64, v = some (.double r) ∧ Fr n0 L ∧ h = h0 ∧ FP.Core.DInt (own_t y0 w0.toInt w1.toInt v0.toInt + (own_t y1 w0.toInt w1.toInt v1.toInt + 0)) r) s ({ frames := 0, cells := 0, slots := 0, locals := 0 } : Room).cells ({ frames := 0, cells := 0, slots := 0, locals := 0 } : Room).slots) (TT.setTop (mkF m 5 #[.val (.ref a), .val (.ref aw), .val (.double acc), .second, .val (.int (1 : Int32))] [])) := by
    intro TT acc A XT eT hA hbd hs
    refine s_iload XT hx (hb hby d7_5) (pc' := 7) rfl rfl ?_
    refine s_aloadN XT hx (hb hby d7_7) (pc' := 8) rfl rfl rfl ?_
    refine s_getF XT hx hZ hown (hw _ (List.mem_of_getElem? (i := 30) rfl)) eT Gi (hb hby d7_8) (pc' := 11) rfl ?_
    intro T2 X2 e2
    refine s_len X2 hx hZ e2 Vi (hb hby d7_11) (pc' := 12) rfl ?_
    refine s_icmpN X2 hx (hb hby d7_12) (pc' := 15) rfl (by decide) ?_
    refine s_aloadN X2 hx (hb hby d7_15) (pc' := 16) rfl rfl rfl ?_
    refine s_getF X2 hx hZ hown (hw _ (List.mem_of_getElem? (i := 30) rfl)) e2 Gi (hb hby d7_16) (pc' := 19) rfl ?_
    intro T3 X3 e3
    refine s_iload X3 hx (hb hby d7_19) (pc' := 21) rfl rfl ?_
    refine s_laload X3 hx hZ e3 Vi (by decide) (v := .long y1) rfl (hb hby d7_21) (pc' := 22) rfl ?_
    refine s_aloadN X3 hx (hb hby d7_22) (pc' := 23) rfl rfl rfl ?_
    refine s_len X3 hx hZ e3 Vw (hb hby d7_23) (pc' := 24) rfl ?_
    refine s_i2l X3 hx (hb hby d7_24) (pc' := 25) rfl ?_
    refine s_lcmp X3 hx (hb hby d7_25) (pc' := 26) rfl ?_
    by_cases hlt : y1 < (2 : Int32).toInt64
    ·
      refine s_ifN X3 hx (hb hby d7_26) (pc' := 29) rfl (in_ge (own_cmpL_lt.mpr hlt)) ?_
      refine s_dloadN X3 hx (hb hby d7_29) (pc' := 30) rfl rfl ?_
      refine s_aloadN X3 hx (hb hby d7_30) (pc' := 31) rfl rfl rfl ?_
      refine s_aloadN X3 hx (hb hby d7_31) (pc' := 32) rfl rfl rfl ?_
      refine s_getF X3 hx hZ hown (hw _ (List.mem_of_getElem? (i := 30) rfl)) e3 Gi (hb hby d7_32) (pc' := 35) rfl ?_
      intro T4 X4 e4
      refine s_iload X4 hx (hb hby d7_35) (pc' := 37) rfl rfl ?_
      rcases own_01 hn1 hlt with q | q
      ·
        subst q
        refine s_laload X4 hx hZ e4 Vi (by decide) (v := .long (0 : Int64)) rfl (hb hby d7_37) (pc' := 38) rfl ?_
        refine s_l2i X4 hx (hb hby d7_38) (pc' := 39) rfl ?_
        refine s_daload X4 hx hZ e4 Vw (by decide) (v := .double (FP.i2d w0)) rfl (hb hby d7_39) (pc' := 40) rfl ?_
        refine s_aloadN X4 hx (hb hby d7_40) (pc' := 41) rfl rfl rfl ?_
        refine s_getF X4 hx hZ hown (hw _ (List.mem_of_getElem? (i := 35) rfl)) e4 Gv (hb hby d7_41) (pc' := 44) rfl ?_
        intro T5 X5 e5
        refine s_iload X5 hx (hb hby d7_44) (pc' := 46) rfl rfl ?_
        refine s_daload X5 hx hZ e5 Vv (by decide) (v := .double (FP.i2d v1)) rfl (hb hby d7_46) (pc' := 47) rfl ?_
        have dp := own_prod hw0 hv1
        have bp := own_mul hw0 hv1
        have dn := FP.Core.dadd_int hA dp (by omega)
        refine s_dmul X5 hx (FP.dmul (FP.i2d w0) (FP.i2d v1)) (hb hby d7_47) (pc' := 48) rfl (own_nn dp) rfl ?_
        refine s_dadd X5 hx (FP.dadd acc (FP.dmul (FP.i2d w0) (FP.i2d v1))) (hb hby d7_48) (pc' := 49) rfl (own_nn dn) rfl ?_
        refine s_dstoreN X5 hx #[.val (.ref a), .val (.ref aw), .val (.double (FP.dadd acc (FP.dmul (FP.i2d w0) (FP.i2d v1)))), .second, .val (.int (1 : Int32))] (hb hby d7_49) (pc' := 50) rfl rfl ?_
        refine s_iinc X5 hx (2 : Int32) #[.val (.ref a), .val (.ref aw), .val (.double (FP.dadd acc (FP.dmul (FP.i2d w0) (FP.i2d v1)))), .second, .val (.int (2 : Int32))] (hb hby d7_50) (pc' := 53) rfl rfl rfl rfl ?_
        refine s_goto X5 hx (hb hby d7_53) (by decide) (pc' := 5) (by decide) ?_
        exact T2_ _ _ _ X5 e5 dn (by omega) (by rw [← hs, own_t0, Int.add_assoc])
      ·
        subst q
        refine s_laload X4 hx hZ e4 Vi (by decide) (v := .long (1 : Int64)) rfl (hb hby d7_37) (pc' := 38) rfl ?_
        refine s_l2i X4 hx (hb hby d7_38) (pc' := 39) rfl ?_
        refine s_daload X4 hx hZ e4 Vw (by decide) (v := .double (FP.i2d w1)) rfl (hb hby d7_39) (pc' := 40) rfl ?_
        refine s_aloadN X4 hx (hb hby d7_40) (pc' := 41) rfl rfl rfl ?_
        refine s_getF X4 hx hZ hown (hw _ (List.mem_of_getElem? (i := 35) rfl)) e4 Gv (hb hby d7_41) (pc' := 44) rfl ?_
        intro T6 X6 e6
        refine s_iload X6 hx (hb hby d7_44) (pc' := 46) rfl rfl ?_
        refine s_daload X6 hx hZ e6 Vv (by decide) (v := .double (FP.i2d v1)) rfl (hb hby d7_46) (pc' := 47) rfl ?_
        have dp := own_prod hw1 hv1
        have bp := own_mul hw1 hv1
        have dn := FP.Core.dadd_int hA dp (by omega)
        refine s_dmul X6 hx (FP.dmul (FP.i2d w1) (FP.i2d v1)) (hb hby d7_47) (pc' := 48) rfl (own_nn dp) rfl ?_
        refine s_dadd X6 hx (FP.dadd acc (FP.dmul (FP.i2d w1) (FP.i2d v1))) (hb hby d7_48) (pc' := 49) rfl (own_nn dn) rfl ?_
        refine s_dstoreN X6 hx #[.val (.ref a), .val (.ref aw), .val (.double (FP.dadd acc (FP.dmul (FP.i2d w1) (FP.i2d v1)))), .second, .val (.int (1 : Int32))] (hb hby d7_49) (pc' := 50) rfl rfl ?_
        refine s_iinc X6 hx (2 : Int32) #[.val (.ref a), .val (.ref aw), .val (.double (FP.dadd acc (FP.dmul (FP.i2d w1) (FP.i2d v1)))), .second, .val (.int (2 : Int32))] (hb hby d7_50) (pc' := 53) rfl rfl rfl rfl ?_
        refine s_goto X6 hx (hb hby d7_53) (by decide) (pc' := 5) (by decide) ?_
        exact T2_ _ _ _ X6 e6 dn (by omega) (by rw [← hs, own_t1, Int.add_assoc])
    ·
      refine s_ifY X3 hx (hb hby d7_26) (iy_ge (fun z => hlt (own_cmpL_lt.mp z))) (by decide) (pc' := 50) (by decide) ?_
      refine s_iinc X3 hx (2 : Int32) #[.val (.ref a), .val (.ref aw), .val (.double acc), .second, .val (.int (2 : Int32))] (hb hby d7_50) (pc' := 53) rfl rfl rfl rfl ?_
      refine s_goto X3 hx (hb hby d7_53) (by decide) (pc' := 5) (by decide) ?_
      exact T2_ _ _ _ X3 e3 hA (by omega) (by rw [← hs, own_t2 hlt, Int.zero_add])
  have T0_ : ∀ (TT : State) (acc : UInt64) (A : Int), Stand p l e ({ frames := 0, cells := 0, slots := 0, locals := 0 } : Room) s m #[.ref a, .ref aw] below meth c TT [] 0 0 → TT.heap = h0 → FP.Core.DInt A acc → A.natAbs ≤ 0 → A + (own_t y0 w0.toInt w1.toInt v0.toInt + (own_t y1 w0.toInt w1.toInt v1.toInt + 0)) = (own_t y0 w0.toInt w1.toInt v0.toInt + (own_t y1 w0.toInt w1.toInt v1.toInt + 0)) → Goes p e below (EndsAs (fun v h L => ∃ r : UInt64, v = some (.double r) ∧ Fr n0 L ∧ h = h0 ∧ FP.Core.DInt (own_t y0 w0.toInt w1.toInt v0.toInt + (own_t y1 w0.toInt w1.toInt v1.toInt + 0)) r) s ({ frames := 0, cells := 0, slots := 0, locals := 0 } : Room).cells ({ frames := 0, cells := 0, slots := 0, locals := 0 } : Room).slots) (TT.setTop (mkF m 5 #[.val (.ref a), .val (.ref aw), .val (.double acc), .second, .val (.int (0 : Int32))] [])) := by
    intro TT acc A XT eT hA hbd hs
    refine s_iload XT hx (hb hby d7_5) (pc' := 7) rfl rfl ?_
    refine s_aloadN XT hx (hb hby d7_7) (pc' := 8) rfl rfl rfl ?_
    refine s_getF XT hx hZ hown (hw _ (List.mem_of_getElem? (i := 30) rfl)) eT Gi (hb hby d7_8) (pc' := 11) rfl ?_
    intro T7 X7 e7
    refine s_len X7 hx hZ e7 Vi (hb hby d7_11) (pc' := 12) rfl ?_
    refine s_icmpN X7 hx (hb hby d7_12) (pc' := 15) rfl (by decide) ?_
    refine s_aloadN X7 hx (hb hby d7_15) (pc' := 16) rfl rfl rfl ?_
    refine s_getF X7 hx hZ hown (hw _ (List.mem_of_getElem? (i := 30) rfl)) e7 Gi (hb hby d7_16) (pc' := 19) rfl ?_
    intro T8 X8 e8
    refine s_iload X8 hx (hb hby d7_19) (pc' := 21) rfl rfl ?_
    refine s_laload X8 hx hZ e8 Vi (by decide) (v := .long y0) rfl (hb hby d7_21) (pc' := 22) rfl ?_
    refine s_aloadN X8 hx (hb hby d7_22) (pc' := 23) rfl rfl rfl ?_
    refine s_len X8 hx hZ e8 Vw (hb hby d7_23) (pc' := 24) rfl ?_
    refine s_i2l X8 hx (hb hby d7_24) (pc' := 25) rfl ?_
    refine s_lcmp X8 hx (hb hby d7_25) (pc' := 26) rfl ?_
    by_cases hlt : y0 < (2 : Int32).toInt64
    ·
      refine s_ifN X8 hx (hb hby d7_26) (pc' := 29) rfl (in_ge (own_cmpL_lt.mpr hlt)) ?_
      refine s_dloadN X8 hx (hb hby d7_29) (pc' := 30) rfl rfl ?_
      refine s_aloadN X8 hx (hb hby d7_30) (pc' := 31) rfl rfl rfl ?_
      refine s_aloadN X8 hx (hb hby d7_31) (pc' := 32) rfl rfl rfl ?_
      refine s_getF X8 hx hZ hown (hw _ (List.mem_of_getElem? (i := 30) rfl)) e8 Gi (hb hby d7_32) (pc' := 35) rfl ?_
      intro T9 X9 e9
      refine s_iload X9 hx (hb hby d7_35) (pc' := 37) rfl rfl ?_
      rcases own_01 hn0 hlt with q | q
      ·
        subst q
        refine s_laload X9 hx hZ e9 Vi (by decide) (v := .long (0 : Int64)) rfl (hb hby d7_37) (pc' := 38) rfl ?_
        refine s_l2i X9 hx (hb hby d7_38) (pc' := 39) rfl ?_
        refine s_daload X9 hx hZ e9 Vw (by decide) (v := .double (FP.i2d w0)) rfl (hb hby d7_39) (pc' := 40) rfl ?_
        refine s_aloadN X9 hx (hb hby d7_40) (pc' := 41) rfl rfl rfl ?_
        refine s_getF X9 hx hZ hown (hw _ (List.mem_of_getElem? (i := 35) rfl)) e9 Gv (hb hby d7_41) (pc' := 44) rfl ?_
        intro T10 X10 e10
        refine s_iload X10 hx (hb hby d7_44) (pc' := 46) rfl rfl ?_
        refine s_daload X10 hx hZ e10 Vv (by decide) (v := .double (FP.i2d v0)) rfl (hb hby d7_46) (pc' := 47) rfl ?_
        have dp := own_prod hw0 hv0
        have bp := own_mul hw0 hv0
        have dn := FP.Core.dadd_int hA dp (by omega)
        refine s_dmul X10 hx (FP.dmul (FP.i2d w0) (FP.i2d v0)) (hb hby d7_47) (pc' := 48) rfl (own_nn dp) rfl ?_
        refine s_dadd X10 hx (FP.dadd acc (FP.dmul (FP.i2d w0) (FP.i2d v0))) (hb hby d7_48) (pc' := 49) rfl (own_nn dn) rfl ?_
        refine s_dstoreN X10 hx #[.val (.ref a), .val (.ref aw), .val (.double (FP.dadd acc (FP.dmul (FP.i2d w0) (FP.i2d v0)))), .second, .val (.int (0 : Int32))] (hb hby d7_49) (pc' := 50) rfl rfl ?_
        refine s_iinc X10 hx (1 : Int32) #[.val (.ref a), .val (.ref aw), .val (.double (FP.dadd acc (FP.dmul (FP.i2d w0) (FP.i2d v0)))), .second, .val (.int (1 : Int32))] (hb hby d7_50) (pc' := 53) rfl rfl rfl rfl ?_
        refine s_goto X10 hx (hb hby d7_53) (by decide) (pc' := 5) (by decide) ?_
        exact T1_ _ _ _ X10 e10 dn (by omega) (by rw [← hs, own_t0, Int.add_assoc])
      ·
        subst q
        refine s_laload X9 hx hZ e9 Vi (by decide) (v := .long (1 : Int64)) rfl (hb hby d7_37) (pc' := 38) rfl ?_
        refine s_l2i X9 hx (hb hby d7_38) (pc' := 39) rfl ?_
        refine s_daload X9 hx hZ e9 Vw (by decide) (v := .double (FP.i2d w1)) rfl (hb hby d7_39) (pc' := 40) rfl ?_
        refine s_aloadN X9 hx (hb hby d7_40) (pc' := 41) rfl rfl rfl ?_
        refine s_getF X9 hx hZ hown (hw _ (List.mem_of_getElem? (i := 35) rfl)) e9 Gv (hb hby d7_41) (pc' := 44) rfl ?_
        intro T11 X11 e11
        refine s_iload X11 hx (hb hby d7_44) (pc' := 46) rfl rfl ?_
        refine s_daload X11 hx hZ e11 Vv (by decide) (v := .double (FP.i2d v0)) rfl (hb hby d7_46) (pc' := 47) rfl ?_
        have dp := own_prod hw1 hv0
        have bp := own_mul hw1 hv0
        have dn := FP.Core.dadd_int hA dp (by omega)
        refine s_dmul X11 hx (FP.dmul (FP.i2d w1) (FP.i2d v0)) (hb hby d7_47) (pc' := 48) rfl (own_nn dp) rfl ?_
        refine s_dadd X11 hx (FP.dadd acc (FP.dmul (FP.i2d w1) (FP.i2d v0))) (hb hby d7_48) (pc' := 49) rfl (own_nn dn) rfl ?_
        refine s_dstoreN X11 hx #[.val (.ref a), .val (.ref aw), .val (.double (FP.dadd acc (FP.dmul (FP.i2d w1) (FP.i2d v0)))), .second, .val (.int (0 : Int32))] (hb hby d7_49) (pc' := 50) rfl rfl ?_
        refine s_iinc X11 hx (1 : Int32) #[.val (.ref a), .val (.ref aw), .val (.double (FP.dadd acc (FP.dmul (FP.i2d w1) (FP.i2d v0)))), .second, .val (.int (1 : Int32))] (hb hby d7_50) (pc' := 53) rfl rfl rfl rfl ?_
        refine s_goto X11 hx (hb hby d7_53) (by decide) (pc' := 5) (by decide) ?_
        exact T1_ _ _ _ X11 e11 dn (by omega) (by rw [← hs, own_t1, Int.add_assoc])
    ·
      refine s_ifY X8 hx (hb hby d7_26) (iy_ge (fun z => hlt (own_cmpL_lt.mp z))) (by decide) (pc' := 50) (by decide) ?_
      refine s_iinc X8 hx (1 : Int32) #[.val (.ref a), .val (.ref aw), .val (.double acc), .second, .val (.int (1 : Int32))] (hb hby d7_50) (pc' := 53) rfl rfl rfl rfl ?_
      refine s_goto X8 hx (hb hby d7_53) (by decide) (pc' := 5) (by decide) ?_
      exact T1_ _ _ _ X8 e8 hA (by omega) (by rw [← hs, own_t2 hlt, Int.zero_add])
  refine s_dconst0 X0 hx (hb hby d7_0) (pc' := 1) rfl ?_
  refine s_dstoreN X0 hx #[.val (.ref a), .val (.ref aw), .val (.double 0), .second, .unset] (hb hby d7_1) (pc' := 2) rfl rfl ?_
  refine s_iconst X0 hx (0 : Int32) (hb hby d7_2) (pc' := 3) rfl rfl ?_
  refine s_istore X0 hx #[.val (.ref a), .val (.ref aw), .val (.double 0), .second, .val (.int (0 : Int32))] (hb hby d7_3) (pc' := 5) rfl rfl ?_
  exact T0_ _ _ _ X0 e0 own_zero (by decide) (by rw [Int.zero_add])
set_option maxRecDepth 65536 in
set_option maxHeartbeats 40000000 in
theorem rm_7_3 (l : Launch) (Z : State) (a0 : Array Value) (hw : ∀ d ∈ tables_1, d.before a0 Z = true) (ws : List Jvm.Cond) (a : Addr) (aw : Addr) (ai : Addr) (av : Addr) (ki : ClassId) (kv : ClassId) (kw : ClassId) (y0 : Int64) (y1 : Int64) (y2 : Int64) (v0 : Int32) (v1 : Int32) (v2 : Int32) (w0 : Int32) (w1 : Int32) (h0 : Heap) (n0 : Nat) (Z0 : n0 ≤ h0.size) (Gi : (Fld Z h0 a "com/example/tesserae/tesserae/data/Example" "indexes" "[J" (.ref ai))) (Gv : (Fld Z h0 a "com/example/tesserae/tesserae/data/Example" "values" "[D" (.ref av))) (Vi : Arv Z h0 ai ki .long (3 : Int32) [.long y0, .long y1, .long y2] (.long 0)) (Vv : Arv Z h0 av kv .double (3 : Int32) [.double (FP.i2d v0), .double (FP.i2d v1), .double (FP.i2d v2)] (.double 0)) (Vw : Arv Z h0 aw kw .double (2 : Int32) [.double (FP.i2d w0), .double (FP.i2d w1)] (.double 0)) (hn0 : 0 ≤ y0.toInt) (hn1 : 0 ≤ y1.toInt) (hn2 : 0 ≤ y2.toInt) (hv0 : v0.toInt.natAbs ≤ 128) (hv1 : v1.toInt.natAbs ≤ 128) (hv2 : v2.toInt.natAbs ≤ 128) (hw0 : w0.toInt.natAbs ≤ 128) (hw1 : w1.toInt.natAbs ≤ 128) :
    OwnMet l Z (⟨"com/example/tesserae/tesserae/data/Example", "dot", "([D)D"⟩ : MethodName) prog_13_method_8_code 5 (some .double) ws ({ frames := 0, cells := 0, slots := 0, locals := 0 } : Room) #[.ref a, .ref aw] h0 (fun v h L => ∃ r : UInt64, v = some (.double r) ∧ Fr n0 L ∧ h = h0 ∧ FP.Core.DInt (own_t y0 w0.toInt w1.toInt v0.toInt + (own_t y1 w0.toInt w1.toInt v1.toInt + (own_t y2 w0.toInt w1.toInt v2.toInt + 0))) r) := by
  refine own_met (plainFor_of_name pn_7) (ef_7 a aw) ?_
  intro p e s m below meth c s₁ hx hby hml hZ hown hnm hret hlk X0 e0
  have N0 := Fr.nil n0
  have T3_ : ∀ (TT : State) (acc : UInt64) (A : Int), Stand p l e ({ frames := 0, cells := 0, slots := 0, locals := 0 } : Room) s m #[.ref a, .ref aw] below meth c TT [] 0 0 → TT.heap = h0 → FP.Core.DInt A acc → A.natAbs ≤ 49152 → A + 0 = (own_t y0 w0.toInt w1.toInt v0.toInt + (own_t y1 w0.toInt w1.toInt v1.toInt + (own_t y2 w0.toInt w1.toInt v2.toInt + 0))) → Goes p e below (EndsAs (fun v h L => ∃ r : UInt64, v = some (.double r) ∧ Fr n0 L ∧ h = h0 ∧ FP.Core.DInt (own_t y0 w0.toInt w1.toInt v0.toInt + (own_t y1 w0.toInt w1.toInt v1.toInt + (own_t y2 w0.toInt w1.toInt v2.toInt + 0))) r) s ({ frames := 0, cells := 0, slots := 0, locals := 0 } : Room).cells ({ frames := 0, cells := 0, slots := 0, locals := 0 } : Room).slots) (TT.setTop (mkF m 5 #[.val (.ref a), .val (.ref aw), .val (.double acc), .second, .val (.int (3 : Int32))] [])) := by
    intro TT acc A XT eT hA hbd hs
    refine s_iload XT hx (hb hby d7_5) (pc' := 7) rfl rfl ?_
    refine s_aloadN XT hx (hb hby d7_7) (pc' := 8) rfl rfl rfl ?_
    refine s_getF XT hx hZ hown (hw _ (List.mem_of_getElem? (i := 30) rfl)) eT Gi (hb hby d7_8) (pc' := 11) rfl ?_
    intro T1 X1 e1
    refine s_len X1 hx hZ e1 Vi (hb hby d7_11) (pc' := 12) rfl ?_
    refine s_icmpY X1 hx (hb hby d7_12) (by decide) (by decide) (pc' := 56) (by decide) ?_
    refine s_dloadN X1 hx (hb hby d7_56) (pc' := 57) rfl rfl ?_
    exact s_retI X1 hx hlk hret (hb hby d7_57) rfl (Or.inr (Or.inr (Or.inl ⟨rfl, rfl, _, rfl⟩))) (by decide) (by decide) ⟨acc, rfl, N0, e1, by rw [← hs, Int.add_zero]; exact hA⟩
  have T2_ : ∀ (TT : State) (acc : UInt64) (A : Int), Stand p l e ({ frames := 0, cells := 0, slots := 0, locals := 0 } : Room) s m #[.ref a, .ref aw] below meth c TT [] 0 0 → TT.heap = h0 → FP.Core.DInt A acc → A.natAbs ≤ 32768 → A + (own_t y2 w0.toInt w1.toInt v2.toInt + 0) = (own_t y0 w0.toInt w1.toInt v0.toInt + (own_t y1 w0.toInt w1.toInt v1.toInt + (own_t y2 w0.toInt w1.toInt v2.toInt + 0))) → Goes p e below (EndsAs (fun v h L => ∃ r : UInt64, v = some (.double r) ∧ Fr n0 L ∧ h = h0 ∧ FP.Core.DInt (own_t y0 w0.toInt w1.toInt v0.toInt + (own_t y1 w0.toInt w1.toInt v1.toInt + (own_t y2 w0.toInt w1.toInt v2.toInt + 0))) r) s ({ frames := 0, cells := 0, slots := 0, locals := 0 } : Room).cells ({ frames := 0, cells := 0, slots := 0, locals := 0 } : Room).slots) (TT.setTop (mkF m 5 #[.val (.ref a), .val (.ref aw), .val (.double acc), .second, .val (.int (2 : Int32))] [])) := by
    intro TT acc A XT eT hA hbd hs
    refine s_iload XT hx (hb hby d7_5) (pc' := 7) rfl rfl ?_
    refine s_aloadN XT hx (hb hby d7_7) (pc' := 8) rfl rfl rfl ?_
    refine s_getF XT hx hZ hown (hw _ (List.mem_of_getElem? (i := 30) rfl)) eT Gi (hb hby d7_8) (pc' := 11) rfl ?_
    intro T2 X2 e2
    refine s_len X2 hx hZ e2 Vi (hb hby d7_11) (pc' := 12) rfl ?_
    refine s_icmpN X2 hx (hb hby d7_12) (pc' := 15) rfl (by decide) ?_
    refine s_aloadN X2 hx (hb hby d7_15) (pc' := 16) rfl rfl rfl ?_
    refine s_getF X2 hx hZ hown (hw _ (List.mem_of_getElem? (i := 30) rfl)) e2 Gi (hb hby d7_16) (pc' := 19) rfl ?_
    intro T3 X3 e3
    refine s_iload X3 hx (hb hby d7_19) (pc' := 21) rfl rfl ?_
    refine s_laload X3 hx hZ e3 Vi (by decide) (v := .long y2) rfl (hb hby d7_21) (pc' := 22) rfl ?_
    refine s_aloadN X3 hx (hb hby d7_22) (pc' := 23) rfl rfl rfl ?_
    refine s_len X3 hx hZ e3 Vw (hb hby d7_23) (pc' := 24) rfl ?_
    refine s_i2l X3 hx (hb hby d7_24) (pc' := 25) rfl ?_
    refine s_lcmp X3 hx (hb hby d7_25) (pc' := 26) rfl ?_
    by_cases hlt : y2 < (2 : Int32).toInt64
    ·
      refine s_ifN X3 hx (hb hby d7_26) (pc' := 29) rfl (in_ge (own_cmpL_lt.mpr hlt)) ?_
      refine s_dloadN X3 hx (hb hby d7_29) (pc' := 30) rfl rfl ?_
      refine s_aloadN X3 hx (hb hby d7_30) (pc' := 31) rfl rfl rfl ?_
      refine s_aloadN X3 hx (hb hby d7_31) (pc' := 32) rfl rfl rfl ?_
      refine s_getF X3 hx hZ hown (hw _ (List.mem_of_getElem? (i := 30) rfl)) e3 Gi (hb hby d7_32) (pc' := 35) rfl ?_
      intro T4 X4 e4
      refine s_iload X4 hx (hb hby d7_35) (pc' := 37) rfl rfl ?_
      rcases own_01 hn2 hlt with q | q
      ·
        subst q
        refine s_laload X4 hx hZ e4 Vi (by decide) (v := .long (0 : Int64)) rfl (hb hby d7_37) (pc' := 38) rfl ?_
        refine s_l2i X4 hx (hb hby d7_38) (pc' := 39) rfl ?_
        refine s_daload X4 hx hZ e4 Vw (by decide) (v := .double (FP.i2d w0)) rfl (hb hby d7_39) (pc' := 40) rfl ?_
        refine s_aloadN X4 hx (hb hby d7_40) (pc' := 41) rfl rfl rfl ?_
        refine s_getF X4 hx hZ hown (hw _ (List.mem_of_getElem? (i := 35) rfl)) e4 Gv (hb hby d7_41) (pc' := 44) rfl ?_
        intro T5 X5 e5
        refine s_iload X5 hx (hb hby d7_44) (pc' := 46) rfl rfl ?_
        refine s_daload X5 hx hZ e5 Vv (by decide) (v := .double (FP.i2d v2)) rfl (hb hby d7_46) (pc' := 47) rfl ?_
        have dp := own_prod hw0 hv2
        have bp := own_mul hw0 hv2
        have dn := FP.Core.dadd_int hA dp (by omega)
        refine s_dmul X5 hx (FP.dmul (FP.i2d w0) (FP.i2d v2)) (hb hby d7_47) (pc' := 48) rfl (own_nn dp) rfl ?_
        refine s_dadd X5 hx (FP.dadd acc (FP.dmul (FP.i2d w0) (FP.i2d v2))) (hb hby d7_48) (pc' := 49) rfl (own_nn dn) rfl ?_
        refine s_dstoreN X5 hx #[.val (.ref a), .val (.ref aw), .val (.double (FP.dadd acc (FP.dmul (FP.i2d w0) (FP.i2d v2)))), .second, .val (.int (2 : Int32))] (hb hby d7_49) (pc' := 50) rfl rfl ?_
        refine s_iinc X5 hx (3 : Int32) #[.val (.ref a), .val (.ref aw), .val (.double (FP.dadd acc (FP.dmul (FP.i2d w0) (FP.i2d v2)))), .second, .val (.int (3 : Int32))] (hb hby d7_50) (pc' := 53) rfl rfl rfl rfl ?_
        refine s_goto X5 hx (hb hby d7_53) (by decide) (pc' := 5) (by decide) ?_
        exact T3_ _ _ _ X5 e5 dn (by omega) (by rw [← hs, own_t0, Int.add_assoc])
      ·
        subst q
        refine s_laload X4 hx hZ e4 Vi (by decide) (v := .long (1 : Int64)) rfl (hb hby d7_37) (pc' := 38) rfl ?_
        refine s_l2i X4 hx (hb hby d7_38) (pc' := 39) rfl ?_
        refine s_daload X4 hx hZ e4 Vw (by decide) (v := .double (FP.i2d w1)) rfl (hb hby d7_39) (pc' := 40) rfl ?_
        refine s_aloadN X4 hx (hb hby d7_40) (pc' := 41) rfl rfl rfl ?_
        refine s_getF X4 hx hZ hown (hw _ (List.mem_of_getElem? (i := 35) rfl)) e4 Gv (hb hby d7_41) (pc' := 44) rfl ?_
        intro T6 X6 e6
        refine s_iload X6 hx (hb hby d7_44) (pc' := 46) rfl rfl ?_
        refine s_daload X6 hx hZ e6 Vv (by decide) (v := .double (FP.i2d v2)) rfl (hb hby d7_46) (pc' := 47) rfl ?_
        have dp := own_prod hw1 hv2
        have bp := own_mul hw1 hv2
        have dn := FP.Core.dadd_int hA dp (by omega)
        refine s_dmul X6 hx (FP.dmul (FP.i2d w1) (FP.i2d v2)) (hb hby d7_47) (pc' := 48) rfl (own_nn dp) rfl ?_
        refine s_dadd X6 hx (FP.dadd acc (FP.dmul (FP.i2d w1) (FP.i2d v2))) (hb hby d7_48) (pc' := 49) rfl (own_nn dn) rfl ?_
        refine s_dstoreN X6 hx #[.val (.ref a), .val (.ref aw), .val (.double (FP.dadd acc (FP.dmul (FP.i2d w1) (FP.i2d v2)))), .second, .val (.int (2 : Int32))] (hb hby d7_49) (pc' := 50) rfl rfl ?_
        refine s_iinc X6 hx (3 : Int32) #[.val (.ref a), .val (.ref aw), .val (.double (FP.dadd acc (FP.dmul (FP.i2d w1) (FP.i2d v2)))), .second, .val (.int (3 : Int32))] (hb hby d7_50) (pc' := 53) rfl rfl rfl rfl ?_
        refine s_goto X6 hx (hb hby d7_53) (by decide) (pc' := 5) (by decide) ?_
        exact T3_ _ _ _ X6 e6 dn (by omega) (by rw [← hs, own_t1, Int.add_assoc])
    ·
      refine s_ifY X3 hx (hb hby d7_26) (iy_ge (fun z => hlt (own_cmpL_lt.mp z))) (by decide) (pc' := 50) (by decide) ?_
      refine s_iinc X3 hx (3 : Int32) #[.val (.ref a), .val (.ref aw), .val (.double acc), .second, .val (.int (3 : Int32))] (hb hby d7_50) (pc' := 53) rfl rfl rfl rfl ?_
      refine s_goto X3 hx (hb hby d7_53) (by decide) (pc' := 5) (by decide) ?_
      exact T3_ _ _ _ X3 e3 hA (by omega) (by rw [← hs, own_t2 hlt, Int.zero_add])
  have T1_ : ∀ (TT : State) (acc : UInt64) (A : Int), Stand p l e ({ frames := 0, cells := 0, slots := 0, locals := 0 } : Room) s m #[.ref a, .ref aw] below meth c TT [] 0 0 → TT.heap = h0 → FP.Core.DInt A acc → A.natAbs ≤ 16384 → A + (own_t y1 w0.toInt w1.toInt v1.toInt + (own_t y2 w0.toInt w1.toInt v2.toInt + 0)) = (own_t y0 w0.toInt w1.toInt v0.toInt + (own_t y1 w0.toInt w1.toInt v1.toInt + (own_t y2 w0.toInt w1.toInt v2.toInt + 0))) → Goes p e below (EndsAs (fun v h L => ∃ r : UInt64, v = some (.double r) ∧ Fr n0 L ∧ h = h0 ∧ FP.Core.DInt (own_t y0 w0.toInt w1.toInt v0.toInt + (own_t y1 w0.toInt w1.toInt v1.toInt + (own_t y2 w0.toInt w1.toInt v2.toInt + 0))) r) s ({ frames := 0, cells := 0, slots := 0, locals := 0 } : Room).cells ({ frames := 0, cells := 0, slots := 0, locals := 0 } : Room).slots) (TT.setTop (mkF m 5 #[.val (.ref a), .val (.ref aw), .val (.double acc), .second, .val (.int (1 : Int32))] [])) := by
    intro TT acc A XT eT hA hbd hs
    refine s_iload XT hx (hb hby d7_5) (pc' := 7) rfl rfl ?_
    refine s_aloadN XT hx (hb hby d7_7) (pc' := 8) rfl rfl rfl ?_
    refine s_getF XT hx hZ hown (hw _ (List.mem_of_getElem? (i := 30) rfl)) eT Gi (hb hby d7_8) (pc' := 11) rfl ?_
    intro T7 X7 e7
    refine s_len X7 hx hZ e7 Vi (hb hby d7_11) (pc' := 12) rfl ?_
    refine s_icmpN X7 hx (hb hby d7_12) (pc' := 15) rfl (by decide) ?_
    refine s_aloadN X7 hx (hb hby d7_15) (pc' := 16) rfl rfl rfl ?_
    refine s_getF X7 hx hZ hown (hw _ (List.mem_of_getElem? (i := 30) rfl)) e7 Gi (hb hby d7_16) (pc' := 19) rfl ?_
    intro T8 X8 e8
    refine s_iload X8 hx (hb hby d7_19) (pc' := 21) rfl rfl ?_
    refine s_laload X8 hx hZ e8 Vi (by decide) (v := .long y1) rfl (hb hby d7_21) (pc' := 22) rfl ?_
    refine s_aloadN X8 hx (hb hby d7_22) (pc' := 23) rfl rfl rfl ?_
    refine s_len X8 hx hZ e8 Vw (hb hby d7_23) (pc' := 24) rfl ?_
    refine s_i2l X8 hx (hb hby d7_24) (pc' := 25) rfl ?_
    refine s_lcmp X8 hx (hb hby d7_25) (pc' := 26) rfl ?_
    by_cases hlt : y1 < (2 : Int32).toInt64
    ·
      refine s_ifN X8 hx (hb hby d7_26) (pc' := 29) rfl (in_ge (own_cmpL_lt.mpr hlt)) ?_
      refine s_dloadN X8 hx (hb hby d7_29) (pc' := 30) rfl rfl ?_
      refine s_aloadN X8 hx (hb hby d7_30) (pc' := 31) rfl rfl rfl ?_
      refine s_aloadN X8 hx (hb hby d7_31) (pc' := 32) rfl rfl rfl ?_
      refine s_getF X8 hx hZ hown (hw _ (List.mem_of_getElem? (i := 30) rfl)) e8 Gi (hb hby d7_32) (pc' := 35) rfl ?_
      intro T9 X9 e9
      refine s_iload X9 hx (hb hby d7_35) (pc' := 37) rfl rfl ?_
      rcases own_01 hn1 hlt with q | q
      ·
        subst q
        refine s_laload X9 hx hZ e9 Vi (by decide) (v := .long (0 : Int64)) rfl (hb hby d7_37) (pc' := 38) rfl ?_
        refine s_l2i X9 hx (hb hby d7_38) (pc' := 39) rfl ?_
        refine s_daload X9 hx hZ e9 Vw (by decide) (v := .double (FP.i2d w0)) rfl (hb hby d7_39) (pc' := 40) rfl ?_
        refine s_aloadN X9 hx (hb hby d7_40) (pc' := 41) rfl rfl rfl ?_
        refine s_getF X9 hx hZ hown (hw _ (List.mem_of_getElem? (i := 35) rfl)) e9 Gv (hb hby d7_41) (pc' := 44) rfl ?_
        intro T10 X10 e10
        refine s_iload X10 hx (hb hby d7_44) (pc' := 46) rfl rfl ?_
        refine s_daload X10 hx hZ e10 Vv (by decide) (v := .double (FP.i2d v1)) rfl (hb hby d7_46) (pc' := 47) rfl ?_
        have dp := own_prod hw0 hv1
        have bp := own_mul hw0 hv1
        have dn := FP.Core.dadd_int hA dp (by omega)
        refine s_dmul X10 hx (FP.dmul (FP.i2d w0) (FP.i2d v1)) (hb hby d7_47) (pc' := 48) rfl (own_nn dp) rfl ?_
        refine s_dadd X10 hx (FP.dadd acc (FP.dmul (FP.i2d w0) (FP.i2d v1))) (hb hby d7_48) (pc' := 49) rfl (own_nn dn) rfl ?_
        refine s_dstoreN X10 hx #[.val (.ref a), .val (.ref aw), .val (.double (FP.dadd acc (FP.dmul (FP.i2d w0) (FP.i2d v1)))), .second, .val (.int (1 : Int32))] (hb hby d7_49) (pc' := 50) rfl rfl ?_
        refine s_iinc X10 hx (2 : Int32) #[.val (.ref a), .val (.ref aw), .val (.double (FP.dadd acc (FP.dmul (FP.i2d w0) (FP.i2d v1)))), .second, .val (.int (2 : Int32))] (hb hby d7_50) (pc' := 53) rfl rfl rfl rfl ?_
        refine s_goto X10 hx (hb hby d7_53) (by decide) (pc' := 5) (by decide) ?_
        exact T2_ _ _ _ X10 e10 dn (by omega) (by rw [← hs, own_t0, Int.add_assoc])
      ·
        subst q
        refine s_laload X9 hx hZ e9 Vi (by decide) (v := .long (1 : Int64)) rfl (hb hby d7_37) (pc' := 38) rfl ?_
        refine s_l2i X9 hx (hb hby d7_38) (pc' := 39) rfl ?_
        refine s_daload X9 hx hZ e9 Vw (by decide) (v := .double (FP.i2d w1)) rfl (hb hby d7_39) (pc' := 40) rfl ?_
        refine s_aloadN X9 hx (hb hby d7_40) (pc' := 41) rfl rfl rfl ?_
        refine s_getF X9 hx hZ hown (hw _ (List.mem_of_getElem? (i := 35) rfl)) e9 Gv (hb hby d7_41) (pc' := 44) rfl ?_
        intro T11 X11 e11
        refine s_iload X11 hx (hb hby d7_44) (pc' := 46) rfl rfl ?_
        refine s_daload X11 hx hZ e11 Vv (by decide) (v := .double (FP.i2d v1)) rfl (hb hby d7_46) (pc' := 47) rfl ?_
        have dp := own_prod hw1 hv1
        have bp := own_mul hw1 hv1
        have dn := FP.Core.dadd_int hA dp (by omega)
        refine s_dmul X11 hx (FP.dmul (FP.i2d w1) (FP.i2d v1)) (hb hby d7_47) (pc' := 48) rfl (own_nn dp) rfl ?_
        refine s_dadd X11 hx (FP.dadd acc (FP.dmul (FP.i2d w1) (FP.i2d v1))) (hb hby d7_48) (pc' := 49) rfl (own_nn dn) rfl ?_
        refine s_dstoreN X11 hx #[.val (.ref a), .val (.ref aw), .val (.double (FP.dadd acc (FP.dmul (FP.i2d w1) (FP.i2d v1)))), .second, .val (.int (1 : Int32))] (hb hby d7_49) (pc' := 50) rfl rfl ?_
        refine s_iinc X11 hx (2 : Int32) #[.val (.ref a), .val (.ref aw), .val (.double (FP.dadd acc (FP.dmul (FP.i2d w1) (FP.i2d v1)))), .second, .val (.int (2 : Int32))] (hb hby d7_50) (pc' := 53) rfl rfl rfl rfl ?_
        refine s_goto X11 hx (hb hby d7_53) (by decide) (pc' := 5) (by decide) ?_
        exact T2_ _ _ _ X11 e11 dn (by omega) (by rw [← hs, own_t1, Int.add_assoc])
    ·
      refine s_ifY X8 hx (hb hby d7_26) (iy_ge (fun z => hlt (own_cmpL_lt.mp z))) (by decide) (pc' := 50) (by decide) ?_
      refine s_iinc X8 hx (2 : Int32) #[.val (.ref a), .val (.ref aw), .val (.double acc), .second, .val (.int (2 : Int32))] (hb hby d7_50) (pc' := 53) rfl rfl rfl rfl ?_
      refine s_goto X8 hx (hb hby d7_53) (by decide) (pc' := 5) (by decide) ?_
      exact T2_ _ _ _ X8 e8 hA (by omega) (by rw [← hs, own_t2 hlt, Int.zero_add])
  have T0_ : ∀ (TT : State) (acc : UInt64) (A : Int), Stand p l e ({ frames := 0, cells := 0, slots := 0, locals := 0 } : Room) s m #[.ref a, .ref aw] below meth c TT [] 0 0 → TT.heap = h0 → FP.Core.DInt A acc → A.natAbs ≤ 0 → A + (own_t y0 w0.toInt w1.toInt v0.toInt + (own_t y1 w0.toInt w1.toInt v1.toInt + (own_t y2 w0.toInt w1.toInt v2.toInt + 0))) = (own_t y0 w0.toInt w1.toInt v0.toInt + (own_t y1 w0.toInt w1.toInt v1.toInt + (own_t y2 w0.toInt w1.toInt v2.toInt + 0))) → Goes p e below (EndsAs (fun v h L => ∃ r : UInt64, v = some (.double r) ∧ Fr n0 L ∧ h = h0 ∧ FP.Core.DInt (own_t y0 w0.toInt w1.toInt v0.toInt + (own_t y1 w0.toInt w1.toInt v1.toInt + (own_t y2 w0.toInt w1.toInt v2.toInt + 0))) r) s ({ frames := 0, cells := 0, slots := 0, locals := 0 } : Room).cells ({ frames := 0, cells := 0, slots := 0, locals := 0 } : Room).slots) (TT.setTop (mkF m 5 #[.val (.ref a), .val (.ref aw), .val (.double acc), .second, .val (.int (0 : Int32))] [])) := by
    intro TT acc A XT eT hA hbd hs
    refine s_iload XT hx (hb hby d7_5) (pc' := 7) rfl rfl ?_
    refine s_aloadN XT hx (hb hby d7_7) (pc' := 8) rfl rfl rfl ?_
    refine s_getF XT hx hZ hown (hw _ (List.mem_of_getElem? (i := 30) rfl)) eT Gi (hb hby d7_8) (pc' := 11) rfl ?_
    intro T12 X12 e12
    refine s_len X12 hx hZ e12 Vi (hb hby d7_11) (pc' := 12) rfl ?_
    refine s_icmpN X12 hx (hb hby d7_12) (pc' := 15) rfl (by decide) ?_
    refine s_aloadN X12 hx (hb hby d7_15) (pc' := 16) rfl rfl rfl ?_
    refine s_getF X12 hx hZ hown (hw _ (List.mem_of_getElem? (i := 30) rfl)) e12 Gi (hb hby d7_16) (pc' := 19) rfl ?_
    intro T13 X13 e13
    refine s_iload X13 hx (hb hby d7_19) (pc' := 21) rfl rfl ?_
    refine s_laload X13 hx hZ e13 Vi (by decide) (v := .long y0) rfl (hb hby d7_21) (pc' := 22) rfl ?_
    refine s_aloadN X13 hx (hb hby d7_22) (pc' := 23) rfl rfl rfl ?_
    refine s_len X13 hx hZ e13 Vw (hb hby d7_23) (pc' := 24) rfl ?_
    refine s_i2l X13 hx (hb hby d7_24) (pc' := 25) rfl ?_
    refine s_lcmp X13 hx (hb hby d7_25) (pc' := 26) rfl ?_
    by_cases hlt : y0 < (2 : Int32).toInt64
    ·
      refine s_ifN X13 hx (hb hby d7_26) (pc' := 29) rfl (in_ge (own_cmpL_lt.mpr hlt)) ?_
      refine s_dloadN X13 hx (hb hby d7_29) (pc' := 30) rfl rfl ?_
      refine s_aloadN X13 hx (hb hby d7_30) (pc' := 31) rfl rfl rfl ?_
      refine s_aloadN X13 hx (hb hby d7_31) (pc' := 32) rfl rfl rfl ?_
      refine s_getF X13 hx hZ hown (hw _ (List.mem_of_getElem? (i := 30) rfl)) e13 Gi (hb hby d7_32) (pc' := 35) rfl ?_
      intro T14 X14 e14
      refine s_iload X14 hx (hb hby d7_35) (pc' := 37) rfl rfl ?_
      rcases own_01 hn0 hlt with q | q
      ·
        subst q
        refine s_laload X14 hx hZ e14 Vi (by decide) (v := .long (0 : Int64)) rfl (hb hby d7_37) (pc' := 38) rfl ?_
        refine s_l2i X14 hx (hb hby d7_38) (pc' := 39) rfl ?_
        refine s_daload X14 hx hZ e14 Vw (by decide) (v := .double (FP.i2d w0)) rfl (hb hby d7_39) (pc' := 40) rfl ?_
        refine s_aloadN X14 hx (hb hby d7_40) (pc' := 41) rfl rfl rfl ?_
        refine s_getF X14 hx hZ hown (hw _ (List.mem_of_getElem? (i := 35) rfl)) e14 Gv (hb hby d7_41) (pc' := 44) rfl ?_
        intro T15 X15 e15
        refine s_iload X15 hx (hb hby d7_44) (pc' := 46) rfl rfl ?_
        refine s_daload X15 hx hZ e15 Vv (by decide) (v := .double (FP.i2d v0)) rfl (hb hby d7_46) (pc' := 47) rfl ?_
        have dp := own_prod hw0 hv0
        have bp := own_mul hw0 hv0
        have dn := FP.Core.dadd_int hA dp (by omega)
        refine s_dmul X15 hx (FP.dmul (FP.i2d w0) (FP.i2d v0)) (hb hby d7_47) (pc' := 48) rfl (own_nn dp) rfl ?_
        refine s_dadd X15 hx (FP.dadd acc (FP.dmul (FP.i2d w0) (FP.i2d v0))) (hb hby d7_48) (pc' := 49) rfl (own_nn dn) rfl ?_
        refine s_dstoreN X15 hx #[.val (.ref a), .val (.ref aw), .val (.double (FP.dadd acc (FP.dmul (FP.i2d w0) (FP.i2d v0)))), .second, .val (.int (0 : Int32))] (hb hby d7_49) (pc' := 50) rfl rfl ?_
        refine s_iinc X15 hx (1 : Int32) #[.val (.ref a), .val (.ref aw), .val (.double (FP.dadd acc (FP.dmul (FP.i2d w0) (FP.i2d v0)))), .second, .val (.int (1 : Int32))] (hb hby d7_50) (pc' := 53) rfl rfl rfl rfl ?_
        refine s_goto X15 hx (hb hby d7_53) (by decide) (pc' := 5) (by decide) ?_
        exact T1_ _ _ _ X15 e15 dn (by omega) (by rw [← hs, own_t0, Int.add_assoc])
      ·
        subst q
        refine s_laload X14 hx hZ e14 Vi (by decide) (v := .long (1 : Int64)) rfl (hb hby d7_37) (pc' := 38) rfl ?_
        refine s_l2i X14 hx (hb hby d7_38) (pc' := 39) rfl ?_
        refine s_daload X14 hx hZ e14 Vw (by decide) (v := .double (FP.i2d w1)) rfl (hb hby d7_39) (pc' := 40) rfl ?_
        refine s_aloadN X14 hx (hb hby d7_40) (pc' := 41) rfl rfl rfl ?_
        refine s_getF X14 hx hZ hown (hw _ (List.mem_of_getElem? (i := 35) rfl)) e14 Gv (hb hby d7_41) (pc' := 44) rfl ?_
        intro T16 X16 e16
        refine s_iload X16 hx (hb hby d7_44) (pc' := 46) rfl rfl ?_
        refine s_daload X16 hx hZ e16 Vv (by decide) (v := .double (FP.i2d v0)) rfl (hb hby d7_46) (pc' := 47) rfl ?_
        have dp := own_prod hw1 hv0
        have bp := own_mul hw1 hv0
        have dn := FP.Core.dadd_int hA dp (by omega)
        refine s_dmul X16 hx (FP.dmul (FP.i2d w1) (FP.i2d v0)) (hb hby d7_47) (pc' := 48) rfl (own_nn dp) rfl ?_
        refine s_dadd X16 hx (FP.dadd acc (FP.dmul (FP.i2d w1) (FP.i2d v0))) (hb hby d7_48) (pc' := 49) rfl (own_nn dn) rfl ?_
        refine s_dstoreN X16 hx #[.val (.ref a), .val (.ref aw), .val (.double (FP.dadd acc (FP.dmul (FP.i2d w1) (FP.i2d v0)))), .second, .val (.int (0 : Int32))] (hb hby d7_49) (pc' := 50) rfl rfl ?_
        refine s_iinc X16 hx (1 : Int32) #[.val (.ref a), .val (.ref aw), .val (.double (FP.dadd acc (FP.dmul (FP.i2d w1) (FP.i2d v0)))), .second, .val (.int (1 : Int32))] (hb hby d7_50) (pc' := 53) rfl rfl rfl rfl ?_
        refine s_goto X16 hx (hb hby d7_53) (by decide) (pc' := 5) (by decide) ?_
        exact T1_ _ _ _ X16 e16 dn (by omega) (by rw [← hs, own_t1, Int.add_assoc])
    ·
      refine s_ifY X13 hx (hb hby d7_26) (iy_ge (fun z => hlt (own_cmpL_lt.mp z))) (by decide) (pc' := 50) (by decide) ?_
      refine s_iinc X13 hx (1 : Int32) #[.val (.ref a), .val (.ref aw), .val (.double acc), .second, .val (.int (1 : Int32))] (hb hby d7_50) (pc' := 53) rfl rfl rfl rfl ?_
      refine s_goto X13 hx (hb hby d7_53) (by decide) (pc' := 5) (by decide) ?_
      exact T1_ _ _ _ X13 e13 hA (by omega) (by rw [← hs, own_t2 hlt, Int.zero_add])
  refine s_dconst0 X0 hx (hb hby d7_0) (pc' := 1) rfl ?_
  refine s_dstoreN X0 hx #[.val (.ref a), .val (.ref aw), .val (.double 0), .second, .unset] (hb hby d7_1) (pc' := 2) rfl rfl ?_
  refine s_iconst X0 hx (0 : Int32) (hb hby d7_2) (pc' := 3) rfl rfl ?_
  refine s_istore X0 hx #[.val (.ref a), .val (.ref aw), .val (.double 0), .second, .val (.int (0 : Int32))] (hb hby d7_3) (pc' := 5) rfl rfl ?_
  exact T0_ _ _ _ X0 e0 own_zero (by decide) (by rw [Int.zero_add])
theorem pn_0 : plainName "com/example/tesserae/tesserae/data/ExampleDotPinLaw" = true := by first | (simp [plainName, overriddenIn]; done) | decide +kernel
def Q0 (n0 : Nat) (v : Option Value) (h : Heap) (L : List Loc) : Prop := v = some (.int 1) ∧ Fr n0 L
theorem pd_3 : parseMethodDescriptor "(J)J" = some ⟨[.long], some .long⟩ := by decide +kernel
theorem pd_4 : parseMethodDescriptor "(D[J[DI)V" = some ⟨[.double, (.array .long), (.array .double), .int], none⟩ := by decide +kernel
theorem pd_5 : parseMethodDescriptor "([D)D" = some ⟨[(.array .double)], some .double⟩ := by decide +kernel
theorem pd_6 : parseMethodDescriptor "(JIII)J" = some ⟨[.long, .int, .int, .int], some .long⟩ := by decide +kernel
theorem ef_0 (z0 : Int64) (z1 : Int64) (z2 : Int64) (z3 : Int32) (z4 : Int32) (m : MethodId) : entryFrame m #[.long z0, .long z1, .long z2, .int z3, .int z4] maxLocals = mkF m 0 #[.val (.long z0), .second, .val (.long z1), .second, .val (.long z2), .second, .val (.int z3), .val (.int z4), .unset, .unset, .unset, .unset, .unset, .unset, .unset, .unset, .unset, .unset, .unset, .unset, .unset, .unset, .unset, .unset, .unset, .unset, .unset, .unset] [] := by first | (simp [entryFrame, mkF, argsToLocals, Value.category, maxLocals]; done) | rfl
set_option maxRecDepth 65536 in
set_option maxHeartbeats 40000000 in
theorem rm_0 (l : Launch) (Z : State) (a0 : Array Value) (hw : ∀ d ∈ tables_1, d.before a0 Z = true) (ws : List Jvm.Cond) (p0 : Int64) (p1 : Int64) (p2 : Int64) (p3 : Int32) (p4 : Int32) (h0 : Heap) (n0 : Nat) (Z0 : n0 ≤ h0.size)  :
    OwnMet l Z x code maxLocals ret ws room_1 #[.long p0, .long p1, .long p2, .int p3, .int p4] h0 (Q0 n0) := by
  refine own_met (plainFor_of_name pn_0) (ef_0 p0 p1 p2 p3 p4) ?_
  intro p e s m below meth c s₁ hx hby hml hZ hown hnm hret hlk X0 e0
  have N0 := Fr.nil n0
  refine s_lloadN X0 hx (hb hby at_0) (pc' := 1) rfl rfl ?_
  refine c_static X0 hx hZ hown (hw _ (List.mem_of_getElem? (i := 0) rfl)) (hw _ (List.mem_of_getElem? (i := 1) rfl)) (hw _ (List.mem_of_getElem? (i := 2) rfl)) (hw _ (List.mem_of_getElem? (i := 3) rfl)) (by decide) e0 (rm_1 l Z a0 hw [] p0 h0 n0 Z0) (W := 0) (by decide) (by decide) (by decide) (by decide) (by rw [hml]; rfl) (argsL := [.long p0]) (rest := []) (lenOf pd_3 rfl) rfl rfl (Nat.le_of_eq rfl) (hb hby at_1) (pc' := 4) rfl ?_
  intro T1 v1 L1 X1 hQ1
  obtain ⟨rfl, Nq1, eh1⟩ := hQ1
  have N1 := Fr.app N0 Nq1
  show Goes p e below _ (T1.setTop (mkF m 4 #[.val (.long p0), .second, .val (.long p1), .second, .val (.long p2), .second, .val (.int p3), .val (.int p4), .unset, .unset, .unset, .unset, .unset, .unset, .unset, .unset, .unset, .unset, .unset, .unset, .unset, .unset, .unset, .unset, .unset, .unset, .unset, .unset] [.long (own_idx p0)]))
  have hi0 := own_idx_nn p0
  generalize ey0 : own_idx p0 = y0
  rw [ey0] at hi0
  refine s_lstore X1 hx #[.val (.long p0), .second, .val (.long p1), .second, .val (.long p2), .second, .val (.int p3), .val (.int p4), .val (.long y0), .second, .unset, .unset, .unset, .unset, .unset, .unset, .unset, .unset, .unset, .unset, .unset, .unset, .unset, .unset, .unset, .unset, .unset, .unset] (hb hby at_4) (pc' := 6) rfl rfl ?_
  refine s_lloadN X1 hx (hb hby at_6) (pc' := 7) rfl rfl ?_
  refine c_static X1 hx hZ hown (hw _ (List.mem_of_getElem? (i := 0) rfl)) (hw _ (List.mem_of_getElem? (i := 1) rfl)) (hw _ (List.mem_of_getElem? (i := 2) rfl)) (hw _ (List.mem_of_getElem? (i := 3) rfl)) (by decide) eh1 (rm_1 l Z a0 hw [] p1 h0 n0 Z0) (W := 0) (by decide) (by decide) (by decide) (by decide) (by rw [hml]; rfl) (argsL := [.long p1]) (rest := []) (lenOf pd_3 rfl) rfl rfl (Nat.le_of_eq rfl) (hb hby at_7) (pc' := 10) rfl ?_
  intro T2 v2 L2 X2 hQ2
  obtain ⟨rfl, Nq2, eh2⟩ := hQ2
  have N2 := Fr.app N1 Nq2
  show Goes p e below _ (T2.setTop (mkF m 10 #[.val (.long p0), .second, .val (.long p1), .second, .val (.long p2), .second, .val (.int p3), .val (.int p4), .val (.long y0), .second, .unset, .unset, .unset, .unset, .unset, .unset, .unset, .unset, .unset, .unset, .unset, .unset, .unset, .unset, .unset, .unset, .unset, .unset] [.long (own_idx p1)]))
  have hi1 := own_idx_nn p1
  generalize ey1 : own_idx p1 = y1
  rw [ey1] at hi1
  refine s_lstore X2 hx #[.val (.long p0), .second, .val (.long p1), .second, .val (.long p2), .second, .val (.int p3), .val (.int p4), .val (.long y0), .second, .val (.long y1), .second, .unset, .unset, .unset, .unset, .unset, .unset, .unset, .unset, .unset, .unset, .unset, .unset, .unset, .unset, .unset, .unset] (hb hby at_10) (pc' := 12) rfl rfl ?_
  refine s_lload X2 hx (hb hby at_12) (pc' := 14) rfl rfl ?_
  refine c_static X2 hx hZ hown (hw _ (List.mem_of_getElem? (i := 0) rfl)) (hw _ (List.mem_of_getElem? (i := 1) rfl)) (hw _ (List.mem_of_getElem? (i := 2) rfl)) (hw _ (List.mem_of_getElem? (i := 3) rfl)) (by decide) eh2 (rm_1 l Z a0 hw [] p2 h0 n0 Z0) (W := 0) (by decide) (by decide) (by decide) (by decide) (by rw [hml]; rfl) (argsL := [.long p2]) (rest := []) (lenOf pd_3 rfl) rfl rfl (Nat.le_of_eq rfl) (hb hby at_14) (pc' := 17) rfl ?_
  intro T3 v3 L3 X3 hQ3
  obtain ⟨rfl, Nq3, eh3⟩ := hQ3
  have N3 := Fr.app N2 Nq3
  show Goes p e below _ (T3.setTop (mkF m 17 #[.val (.long p0), .second, .val (.long p1), .second, .val (.long p2), .second, .val (.int p3), .val (.int p4), .val (.long y0), .second, .val (.long y1), .second, .unset, .unset, .unset, .unset, .unset, .unset, .unset, .unset, .unset, .unset, .unset, .unset, .unset, .unset, .unset, .unset] [.long (own_idx p2)]))
  have hi2 := own_idx_nn p2
  generalize ey2 : own_idx p2 = y2
  rw [ey2] at hi2
  refine s_lstore X3 hx #[.val (.long p0), .second, .val (.long p1), .second, .val (.long p2), .second, .val (.int p3), .val (.int p4), .val (.long y0), .second, .val (.long y1), .second, .val (.long y2), .second, .unset, .unset, .unset, .unset, .unset, .unset, .unset, .unset, .unset, .unset, .unset, .unset, .unset, .unset] (hb hby at_17) (pc' := 19) rfl rfl ?_
  refine s_iload X3 hx (hb hby at_19) (pc' := 21) rfl rfl ?_
  refine s_i2b X3 hx (hb hby at_21) (pc' := 22) rfl ?_
  refine s_istore X3 hx #[.val (.long p0), .second, .val (.long p1), .second, .val (.long p2), .second, .val (.int p3), .val (.int p4), .val (.long y0), .second, .val (.long y1), .second, .val (.long y2), .second, .val (.int p3.toInt8.toInt32), .unset, .unset, .unset, .unset, .unset, .unset, .unset, .unset, .unset, .unset, .unset, .unset, .unset] (hb hby at_22) (pc' := 24) rfl rfl ?_
  have bv0 : (p3.toInt8.toInt32).toInt.natAbs ≤ 128 := own_byte _
  generalize ev0 : p3.toInt8.toInt32 = v0
  rw [ev0] at bv0
  refine s_iload X3 hx (hb hby at_24) (pc' := 26) rfl rfl ?_
  refine s_bipush X3 hx (8 : Int32) (hb hby at_26) (pc' := 28) rfl rfl ?_
  refine s_ishr X3 hx (hb hby at_28) (pc' := 29) rfl ?_
  refine s_i2b X3 hx (hb hby at_29) (pc' := 30) rfl ?_
  refine s_istore X3 hx #[.val (.long p0), .second, .val (.long p1), .second, .val (.long p2), .second, .val (.int p3), .val (.int p4), .val (.long y0), .second, .val (.long y1), .second, .val (.long y2), .second, .val (.int v0), .val (.int ((p3 >>> ((8 : Int32) &&& 31)).toInt8.toInt32)), .unset, .unset, .unset, .unset, .unset, .unset, .unset, .unset, .unset, .unset, .unset, .unset] (hb hby at_30) (pc' := 32) rfl rfl ?_
  have bv1 : ((p3 >>> ((8 : Int32) &&& 31)).toInt8.toInt32).toInt.natAbs ≤ 128 := own_byte _
  generalize ev1 : (p3 >>> ((8 : Int32) &&& 31)).toInt8.toInt32 = v1
  rw [ev1] at bv1
  refine s_iload X3 hx (hb hby at_32) (pc' := 34) rfl rfl ?_
  refine s_bipush X3 hx (16 : Int32) (hb hby at_34) (pc' := 36) rfl rfl ?_
  refine s_ishr X3 hx (hb hby at_36) (pc' := 37) rfl ?_
  refine s_i2b X3 hx (hb hby at_37) (pc' := 38) rfl ?_
  refine s_istore X3 hx #[.val (.long p0), .second, .val (.long p1), .second, .val (.long p2), .second, .val (.int p3), .val (.int p4), .val (.long y0), .second, .val (.long y1), .second, .val (.long y2), .second, .val (.int v0), .val (.int v1), .val (.int ((p3 >>> ((16 : Int32) &&& 31)).toInt8.toInt32)), .unset, .unset, .unset, .unset, .unset, .unset, .unset, .unset, .unset, .unset, .unset] (hb hby at_38) (pc' := 40) rfl rfl ?_
  have bv2 : ((p3 >>> ((16 : Int32) &&& 31)).toInt8.toInt32).toInt.natAbs ≤ 128 := own_byte _
  generalize ev2 : (p3 >>> ((16 : Int32) &&& 31)).toInt8.toInt32 = v2
  rw [ev2] at bv2
  refine s_iload X3 hx (hb hby at_40) (pc' := 42) rfl rfl ?_
  refine s_bipush X3 hx (24 : Int32) (hb hby at_42) (pc' := 44) rfl rfl ?_
  refine s_iushr X3 hx (hb hby at_44) (pc' := 45) rfl ?_
  refine s_iconst X3 hx (3 : Int32) (hb hby at_45) (pc' := 46) rfl rfl ?_
  refine s_iand X3 hx (hb hby at_46) (pc' := 47) rfl ?_
  refine s_istore X3 hx #[.val (.long p0), .second, .val (.long p1), .second, .val (.long p2), .second, .val (.int p3), .val (.int p4), .val (.long y0), .second, .val (.long y1), .second, .val (.long y2), .second, .val (.int v0), .val (.int v1), .val (.int v2), .val (.int ((XT.ushr p3 (24 : Int32)) &&& (3 : Int32))), .unset, .unset, .unset, .unset, .unset, .unset, .unset, .unset, .unset, .unset] (hb hby at_47) (pc' := 49) rfl rfl ?_
  have hk := own_size p3
  generalize esz : ((XT.ushr p3 (24 : Int32)) &&& (3 : Int32)) = sz
  simp only [esz] at hk
  refine s_iload X3 hx (hb hby at_49) (pc' := 51) rfl rfl ?_
  refine s_i2b X3 hx (hb hby at_51) (pc' := 52) rfl ?_
  refine s_istore X3 hx #[.val (.long p0), .second, .val (.long p1), .second, .val (.long p2), .second, .val (.int p3), .val (.int p4), .val (.long y0), .second, .val (.long y1), .second, .val (.long y2), .second, .val (.int v0), .val (.int v1), .val (.int v2), .val (.int sz), .val (.int p4.toInt8.toInt32), .unset, .unset, .unset, .unset, .unset, .unset, .unset, .unset, .unset] (hb hby at_52) (pc' := 54) rfl rfl ?_
  have bw0 : (p4.toInt8.toInt32).toInt.natAbs ≤ 128 := own_byte _
  generalize ew0 : p4.toInt8.toInt32 = w0
  rw [ew0] at bw0
  refine s_iload X3 hx (hb hby at_54) (pc' := 56) rfl rfl ?_
  refine s_bipush X3 hx (8 : Int32) (hb hby at_56) (pc' := 58) rfl rfl ?_
  refine s_ishr X3 hx (hb hby at_58) (pc' := 59) rfl ?_
  refine s_i2b X3 hx (hb hby at_59) (pc' := 60) rfl ?_
  refine s_istore X3 hx #[.val (.long p0), .second, .val (.long p1), .second, .val (.long p2), .second, .val (.int p3), .val (.int p4), .val (.long y0), .second, .val (.long y1), .second, .val (.long y2), .second, .val (.int v0), .val (.int v1), .val (.int v2), .val (.int sz), .val (.int w0), .val (.int ((p4 >>> ((8 : Int32) &&& 31)).toInt8.toInt32)), .unset, .unset, .unset, .unset, .unset, .unset, .unset, .unset] (hb hby at_60) (pc' := 62) rfl rfl ?_
  have bw1 : ((p4 >>> ((8 : Int32) &&& 31)).toInt8.toInt32).toInt.natAbs ≤ 128 := own_byte _
  generalize ew1 : (p4 >>> ((8 : Int32) &&& 31)).toInt8.toInt32 = w1
  rw [ew1] at bw1
  rcases hk with rfl | rfl | rfl | rfl
  ·
    refine s_iconst X3 hx (3 : Int32) (hb hby at_62) (pc' := 63) rfl rfl ?_
    refine s_newP X3 hx hZ (hw _ (List.mem_of_getElem? (i := 5) rfl)) eh3 (hb hby at_63) (pc' := 65) rfl (by decide) 3 (by decide) (by decide) (by decide) (by decide) (ad := "[J") (by decide) ?_
    intro T4 h4 c4 o4 X4 e4 E4 g4 V4 Ex4
    have hg4 : h0.size ≤ o4 := by rw [g4]; exact (Nat.le_refl _)
    have H4 : h0.size ≤ h4.size := Nat.le_trans (Nat.le_refl _) E4.1
    have U4 : Arv Z h4 o4 c4 .long (3 : Int32) [.long 0, .long 0, .long 0] (.long 0) := V4.pad (pad_rep [] _ 3)
    refine s_dup X4 hx (hb hby at_65) (pc' := 66) rfl rfl ?_
    refine s_iconst X4 hx (0 : Int32) (hb hby at_66) (pc' := 67) rfl rfl ?_
    refine s_lload X4 hx (hb hby at_67) (pc' := 69) rfl rfl ?_
    refine s_lastore X4 hx hZ e4 U4 (by decide) 0 (by decide) (by simp) (hb hby at_69) (pc' := 70) rfl ?_
    intro T5 h5 X5 e5 W5 V5
    have N5 := Fr.snoc X5 N3 (Nat.le_trans Z0 hg4)
    have U5 : Arv Z h5 o4 c4 .long (3 : Int32) [.long y0, .long 0, .long 0] (.long 0) := V5
    have H5 : h0.size ≤ h5.size := by rw [W5.size]; exact H4
    refine s_dup X5 hx (hb hby at_70) (pc' := 71) rfl rfl ?_
    refine s_iconst X5 hx (1 : Int32) (hb hby at_71) (pc' := 72) rfl rfl ?_
    refine s_lload X5 hx (hb hby at_72) (pc' := 74) rfl rfl ?_
    refine s_lastore X5 hx hZ e5 U5 (by decide) 1 (by decide) (by simp) (hb hby at_74) (pc' := 75) rfl ?_
    intro T6 h6 X6 e6 W6 V6
    have N6 := Fr.snoc X6 N5 (Nat.le_trans Z0 hg4)
    have U6 : Arv Z h6 o4 c4 .long (3 : Int32) [.long y0, .long y1, .long 0] (.long 0) := V6
    have H6 : h0.size ≤ h6.size := by rw [W6.size]; exact H5
    refine s_dup X6 hx (hb hby at_75) (pc' := 76) rfl rfl ?_
    refine s_iconst X6 hx (2 : Int32) (hb hby at_76) (pc' := 77) rfl rfl ?_
    refine s_lload X6 hx (hb hby at_77) (pc' := 79) rfl rfl ?_
    refine s_lastore X6 hx hZ e6 U6 (by decide) 2 (by decide) (by simp) (hb hby at_79) (pc' := 80) rfl ?_
    intro T7 h7 X7 e7 W7 V7
    have N7 := Fr.snoc X7 N6 (Nat.le_trans Z0 hg4)
    have U7 : Arv Z h7 o4 c4 .long (3 : Int32) [.long y0, .long y1, .long y2] (.long 0) := V7
    have H7 : h0.size ≤ h7.size := by rw [W7.size]; exact H6
    refine s_astore X7 hx #[.val (.long p0), .second, .val (.long p1), .second, .val (.long p2), .second, .val (.int p3), .val (.int p4), .val (.long y0), .second, .val (.long y1), .second, .val (.long y2), .second, .val (.int v0), .val (.int v1), .val (.int v2), .val (.int (0 : Int32)), .val (.int w0), .val (.int w1), .val (.ref o4), .unset, .unset, .unset, .unset, .unset, .unset, .unset] (hb hby at_80) (pc' := 82) rfl rfl rfl ?_
    refine s_iconst X7 hx (3 : Int32) (hb hby at_82) (pc' := 83) rfl rfl ?_
    refine s_newP X7 hx hZ (hw _ (List.mem_of_getElem? (i := 6) rfl)) e7 (hb hby at_83) (pc' := 85) rfl (by decide) 3 (by decide) (by decide) (by decide) (by decide) (ad := "[D") (by decide) ?_
    intro T8 h8 c8 o8 X8 e8 E8 g8 V8 Ex8
    have fE9 := (((Ex4.wr W5).wr W6).wr W7)
    have ne8_o4 : o4 ≠ o8 := Nat.ne_of_lt (by rw [g8]; exact fE9.lt)
    have hg8 : h0.size ≤ o8 := by rw [g8]; exact H7
    have H8 : h0.size ≤ h8.size := Nat.le_trans H7 E8.1
    have U8 : Arv Z h8 o8 c8 .double (3 : Int32) [.double 0, .double 0, .double 0] (.double 0) := V8.pad (pad_rep [] _ 3)
    refine s_dup X8 hx (hb hby at_85) (pc' := 86) rfl rfl ?_
    refine s_iconst X8 hx (0 : Int32) (hb hby at_86) (pc' := 87) rfl rfl ?_
    refine s_iload X8 hx (hb hby at_87) (pc' := 89) rfl rfl ?_
    refine s_i2d X8 hx (hb hby at_89) (pc' := 90) rfl ?_
    refine s_dastore X8 hx hZ e8 U8 (by decide) 0 (by decide) (by simp) (hb hby at_90) (pc' := 91) rfl ?_
    intro T10 h10 X10 e10 W10 V10
    have N10 := Fr.snoc X10 N7 (Nat.le_trans Z0 hg8)
    have U10 : Arv Z h10 o8 c8 .double (3 : Int32) [.double (FP.i2d v0), .double 0, .double 0] (.double 0) := V10
    have H10 : h0.size ≤ h10.size := by rw [W10.size]; exact H8
    refine s_dup X10 hx (hb hby at_91) (pc' := 92) rfl rfl ?_
    refine s_iconst X10 hx (1 : Int32) (hb hby at_92) (pc' := 93) rfl rfl ?_
    refine s_iload X10 hx (hb hby at_93) (pc' := 95) rfl rfl ?_
    refine s_i2d X10 hx (hb hby at_95) (pc' := 96) rfl ?_
    refine s_dastore X10 hx hZ e10 U10 (by decide) 1 (by decide) (by simp) (hb hby at_96) (pc' := 97) rfl ?_
    intro T11 h11 X11 e11 W11 V11
    have N11 := Fr.snoc X11 N10 (Nat.le_trans Z0 hg8)
    have U11 : Arv Z h11 o8 c8 .double (3 : Int32) [.double (FP.i2d v0), .double (FP.i2d v1), .double 0] (.double 0) := V11
    have H11 : h0.size ≤ h11.size := by rw [W11.size]; exact H10
    refine s_dup X11 hx (hb hby at_97) (pc' := 98) rfl rfl ?_
    refine s_iconst X11 hx (2 : Int32) (hb hby at_98) (pc' := 99) rfl rfl ?_
    refine s_iload X11 hx (hb hby at_99) (pc' := 101) rfl rfl ?_
    refine s_i2d X11 hx (hb hby at_101) (pc' := 102) rfl ?_
    refine s_dastore X11 hx hZ e11 U11 (by decide) 2 (by decide) (by simp) (hb hby at_102) (pc' := 103) rfl ?_
    intro T12 h12 X12 e12 W12 V12
    have N12 := Fr.snoc X12 N11 (Nat.le_trans Z0 hg8)
    have U12 : Arv Z h12 o8 c8 .double (3 : Int32) [.double (FP.i2d v0), .double (FP.i2d v1), .double (FP.i2d v2)] (.double 0) := V12
    have H12 : h0.size ≤ h12.size := by rw [W12.size]; exact H11
    refine s_astore X12 hx #[.val (.long p0), .second, .val (.long p1), .second, .val (.long p2), .second, .val (.int p3), .val (.int p4), .val (.long y0), .second, .val (.long y1), .second, .val (.long y2), .second, .val (.int v0), .val (.int v1), .val (.int v2), .val (.int (0 : Int32)), .val (.int w0), .val (.int w1), .val (.ref o4), .val (.ref o8), .unset, .unset, .unset, .unset, .unset, .unset] (hb hby at_103) (pc' := 105) rfl rfl rfl ?_
    refine s_iconst X12 hx (2 : Int32) (hb hby at_105) (pc' := 106) rfl rfl ?_
    refine s_newP X12 hx hZ (hw _ (List.mem_of_getElem? (i := 6) rfl)) e12 (hb hby at_106) (pc' := 108) rfl (by decide) 2 (by decide) (by decide) (by decide) (by decide) (ad := "[D") (by decide) ?_
    intro T13 h13 c13 o13 X13 e13 E13 g13 V13 Ex13
    have fE14 := ((((fE9.ext E8).wr W10).wr W11).wr W12)
    have ne13_o4 : o4 ≠ o13 := Nat.ne_of_lt (by rw [g13]; exact fE14.lt)
    have fE15 := (((Ex8.wr W10).wr W11).wr W12)
    have ne13_o8 : o8 ≠ o13 := Nat.ne_of_lt (by rw [g13]; exact fE15.lt)
    have hg13 : h0.size ≤ o13 := by rw [g13]; exact H12
    have H13 : h0.size ≤ h13.size := Nat.le_trans H12 E13.1
    have U13 : Arv Z h13 o13 c13 .double (2 : Int32) [.double 0, .double 0] (.double 0) := V13.pad (pad_rep [] _ 2)
    refine s_dup X13 hx (hb hby at_108) (pc' := 109) rfl rfl ?_
    refine s_iconst X13 hx (0 : Int32) (hb hby at_109) (pc' := 110) rfl rfl ?_
    refine s_iload X13 hx (hb hby at_110) (pc' := 112) rfl rfl ?_
    refine s_i2d X13 hx (hb hby at_112) (pc' := 113) rfl ?_
    refine s_dastore X13 hx hZ e13 U13 (by decide) 0 (by decide) (by simp) (hb hby at_113) (pc' := 114) rfl ?_
    intro T16 h16 X16 e16 W16 V16
    have N16 := Fr.snoc X16 N12 (Nat.le_trans Z0 hg13)
    have U16 : Arv Z h16 o13 c13 .double (2 : Int32) [.double (FP.i2d w0), .double 0] (.double 0) := V16
    have H16 : h0.size ≤ h16.size := by rw [W16.size]; exact H13
    refine s_dup X16 hx (hb hby at_114) (pc' := 115) rfl rfl ?_
    refine s_iconst X16 hx (1 : Int32) (hb hby at_115) (pc' := 116) rfl rfl ?_
    refine s_iload X16 hx (hb hby at_116) (pc' := 118) rfl rfl ?_
    refine s_i2d X16 hx (hb hby at_118) (pc' := 119) rfl ?_
    refine s_dastore X16 hx hZ e16 U16 (by decide) 1 (by decide) (by simp) (hb hby at_119) (pc' := 120) rfl ?_
    intro T17 h17 X17 e17 W17 V17
    have N17 := Fr.snoc X17 N16 (Nat.le_trans Z0 hg13)
    have U17 : Arv Z h17 o13 c13 .double (2 : Int32) [.double (FP.i2d w0), .double (FP.i2d w1)] (.double 0) := V17
    have H17 : h0.size ≤ h17.size := by rw [W17.size]; exact H16
    refine s_astore X17 hx #[.val (.long p0), .second, .val (.long p1), .second, .val (.long p2), .second, .val (.int p3), .val (.int p4), .val (.long y0), .second, .val (.long y1), .second, .val (.long y2), .second, .val (.int v0), .val (.int v1), .val (.int v2), .val (.int (0 : Int32)), .val (.int w0), .val (.int w1), .val (.ref o4), .val (.ref o8), .val (.ref o13), .unset, .unset, .unset, .unset, .unset] (hb hby at_120) (pc' := 122) rfl rfl rfl ?_
    refine s_new X17 hx hZ hown (hw _ (List.mem_of_getElem? (i := 7) rfl)) (hw _ (List.mem_of_getElem? (i := 8) rfl)) (hw _ (List.mem_of_getElem? (i := 9) rfl)) e17 (hb hby at_122) (pc' := 125) rfl (by decide) (by decide) ?_
    intro T18 h18 o18 X18 e18 E18 g18 A18 D18
    have fE19 := (((fE14.ext E13).wr W16).wr W17)
    have ne18_o4 : o4 ≠ o18 := Nat.ne_of_lt (by rw [g18]; exact fE19.lt)
    have fE20 := (((fE15.ext E13).wr W16).wr W17)
    have ne18_o8 : o8 ≠ o18 := Nat.ne_of_lt (by rw [g18]; exact fE20.lt)
    have fE21 := ((Ex13.wr W16).wr W17)
    have ne18_o13 : o13 ≠ o18 := Nat.ne_of_lt (by rw [g18]; exact fE21.lt)
    have hg18 : h0.size ≤ o18 := by rw [g18]; exact H17
    have H18 : h0.size ≤ h18.size := Nat.le_trans H17 E18.1
    have F18_label := D18 (O := "com/example/tesserae/tesserae/data/Example") (nm := "label") (d := "D") (Or.inr (hw _ (List.mem_of_getElem? (i := 17) rfl))) (ty := .double) (by decide)
    have F18_indexes := D18 (O := "com/example/tesserae/tesserae/data/Example") (nm := "indexes") (d := "[J") (Or.inr (hw _ (List.mem_of_getElem? (i := 31) rfl))) (ty := (.array .long)) (by decide)
    have F18_values := D18 (O := "com/example/tesserae/tesserae/data/Example") (nm := "values") (d := "[D") (Or.inr (hw _ (List.mem_of_getElem? (i := 36) rfl))) (ty := (.array .double)) (by decide)
    refine s_dup X18 hx (hb hby at_125) (pc' := 126) rfl rfl ?_
    refine s_iload X18 hx (hb hby at_126) (pc' := 128) rfl rfl ?_
    refine s_bipush X18 hx (16 : Int32) (hb hby at_128) (pc' := 130) rfl rfl ?_
    refine s_ishr X18 hx (hb hby at_130) (pc' := 131) rfl ?_
    refine s_i2d X18 hx (hb hby at_131) (pc' := 132) rfl ?_
    refine s_aload X18 hx (hb hby at_132) (pc' := 134) rfl rfl rfl ?_
    refine s_aload X18 hx (hb hby at_134) (pc' := 136) rfl rfl rfl ?_
    refine s_iload X18 hx (hb hby at_136) (pc' := 138) rfl rfl ?_
    have fV22 := ((((((((U7.ext E8).other W10 ne8_o4).other W11 ne8_o4).other W12 ne8_o4).ext E13).other W16 ne13_o4).other W17 ne13_o4).ext E18)
    have fE23 := (fE19.ext E18)
    have fV24 := ((((U12.ext E13).other W16 ne13_o8).other W17 ne13_o8).ext E18)
    have fE25 := (fE20.ext E18)
    have fV26 := (U17.ext E18)
    refine c_special X18 hx hZ rfl hown (hw _ (List.mem_of_getElem? (i := 10) rfl)) (hw _ (List.mem_of_getElem? (i := 11) rfl)) (hw _ (List.mem_of_getElem? (i := 9) rfl)) (hw _ (List.mem_of_getElem? (i := 12) rfl)) (by decide) e18 (rm_2_0 l Z a0 hw [] o18 (FP.i2d (p4 >>> ((16 : Int32) &&& 31))) o4 o8 c4 c8 y0 y1 y2 (FP.i2d v0) (FP.i2d v1) (FP.i2d v2) _ _ _ h18 n0 (Nat.le_trans Z0 H18) A18 F18_label F18_indexes F18_values fV22 fE23 fV24 fE25 ne18_o4 ne18_o8 (Nat.le_trans Z0 hg18)) (W := 1) (by decide) (by decide) (by decide) (by decide) (by rw [hml]; rfl) (argsL := [.double (FP.i2d (p4 >>> ((16 : Int32) &&& 31))), .ref o4, .ref o8, .int (0 : Int32)]) (rest := [.ref o18]) (a := o18) (lenOf pd_4 rfl) rfl rfl (Nat.le_of_eq rfl) (hb hby at_138) (pc' := 141) rfl ?_
    intro T27 v27 L27 X27 hQ27
    obtain ⟨rfl, Nq27, K27, E27, ra27, rb27, ka27, kb27, Fi27, Fv27, Va27, Vb27⟩ := hQ27
    have N27 := Fr.app N17 Nq27
    have H27 : h0.size ≤ T27.heap.size := Nat.le_trans H18 K27.1
    show Goes p e below _ (T27.setTop (mkF m 141 #[.val (.long p0), .second, .val (.long p1), .second, .val (.long p2), .second, .val (.int p3), .val (.int p4), .val (.long y0), .second, .val (.long y1), .second, .val (.long y2), .second, .val (.int v0), .val (.int v1), .val (.int v2), .val (.int (0 : Int32)), .val (.int w0), .val (.int w1), .val (.ref o4), .val (.ref o8), .val (.ref o13), .unset, .unset, .unset, .unset, .unset] [.ref o18]))
    refine s_astore X27 hx #[.val (.long p0), .second, .val (.long p1), .second, .val (.long p2), .second, .val (.int p3), .val (.int p4), .val (.long y0), .second, .val (.long y1), .second, .val (.long y2), .second, .val (.int v0), .val (.int v1), .val (.int v2), .val (.int (0 : Int32)), .val (.int w0), .val (.int w1), .val (.ref o4), .val (.ref o8), .val (.ref o13), .val (.ref o18), .unset, .unset, .unset, .unset] (hb hby at_141) (pc' := 143) rfl rfl rfl ?_
    refine s_aload X27 hx (hb hby at_143) (pc' := 145) rfl rfl rfl ?_
    refine s_aload X27 hx (hb hby at_145) (pc' := 147) rfl rfl rfl ?_
    have fV28 := (fV26.keep K27 (ninS ne18_o13 nin0))
    refine c_virtual X27 hx hZ hown (hw _ (List.mem_of_getElem? (i := 37) rfl)) (hw _ (List.mem_of_getElem? (i := 38) rfl)) (hw _ (List.mem_of_getElem? (i := 40) rfl)) (hw _ (List.mem_of_getElem? (i := 39) rfl)) (hw _ (List.mem_of_getElem? (i := 9) rfl)) (hw _ (List.mem_of_getElem? (i := 41) rfl)) (by decide) rfl E27 (rm_7_0 l Z a0 hw [] o18 o13 ra27 rb27 ka27 kb27 c13   w0 w1 T27.heap n0 (Nat.le_trans Z0 H27) Fi27 Fv27 Va27 Vb27 fV28   bw0 bw1) (W := 0) (by decide) (by decide) (by decide) (by decide) (by rw [hml]; rfl) (argsL := [.ref o13]) (rest := []) (lenOf pd_5 rfl) rfl rfl (Nat.le_of_eq rfl) (hb hby at_147) (pc' := 150) rfl ?_
    intro T29 v29 L29 X29 hQ29
    obtain ⟨gt29, rfl, Nq29, eh29, dg29⟩ := hQ29
    have N29 := Fr.app N27 Nq29
    show Goes p e below _ (T29.setTop (mkF m 150 #[.val (.long p0), .second, .val (.long p1), .second, .val (.long p2), .second, .val (.int p3), .val (.int p4), .val (.long y0), .second, .val (.long y1), .second, .val (.long y2), .second, .val (.int v0), .val (.int v1), .val (.int v2), .val (.int (0 : Int32)), .val (.int w0), .val (.int w1), .val (.ref o4), .val (.ref o8), .val (.ref o13), .val (.ref o18), .unset, .unset, .unset, .unset] [.double gt29]))
    refine s_dstore X29 hx #[.val (.long p0), .second, .val (.long p1), .second, .val (.long p2), .second, .val (.int p3), .val (.int p4), .val (.long y0), .second, .val (.long y1), .second, .val (.long y2), .second, .val (.int v0), .val (.int v1), .val (.int v2), .val (.int (0 : Int32)), .val (.int w0), .val (.int w1), .val (.ref o4), .val (.ref o8), .val (.ref o13), .val (.ref o18), .val (.double gt29), .second, .unset, .unset] (hb hby at_150) (pc' := 152) rfl rfl ?_
    refine s_lconst X29 hx (0 : Int64) (hb hby at_152) (pc' := 153) rfl rfl ?_
    refine s_lstore X29 hx #[.val (.long p0), .second, .val (.long p1), .second, .val (.long p2), .second, .val (.int p3), .val (.int p4), .val (.long y0), .second, .val (.long y1), .second, .val (.long y2), .second, .val (.int v0), .val (.int v1), .val (.int v2), .val (.int (0 : Int32)), .val (.int w0), .val (.int w1), .val (.ref o4), .val (.ref o8), .val (.ref o13), .val (.ref o18), .val (.double gt29), .second, .val (.long (0 : Int64)), .second] (hb hby at_153) (pc' := 155) rfl rfl ?_
    refine s_iload X29 hx (hb hby at_155) (pc' := 157) rfl rfl ?_
    refine s_ifY X29 hx (hb hby at_157) (by decide) (by decide) (pc' := 176) (by decide) ?_
    refine s_iload X29 hx (hb hby at_176) (pc' := 178) rfl rfl ?_
    refine s_iconst X29 hx (1 : Int32) (hb hby at_178) (pc' := 179) rfl rfl ?_
    refine s_icmpY X29 hx (hb hby at_179) (by decide) (by decide) (pc' := 198) (by decide) ?_
    refine s_iload X29 hx (hb hby at_198) (pc' := 200) rfl rfl ?_
    refine s_iconst X29 hx (2 : Int32) (hb hby at_200) (pc' := 201) rfl rfl ?_
    refine s_icmpY X29 hx (hb hby at_201) (by decide) (by decide) (pc' := 220) (by decide) ?_
    refine s_dload X29 hx (hb hby at_220) (pc' := 222) rfl rfl ?_
    refine s_lload X29 hx (hb hby at_222) (pc' := 224) rfl rfl ?_
    refine s_l2d X29 hx (hb hby at_224) (pc' := 225) rfl ?_
    have s0_ : (0 : Int64).toInt = 0 := rfl
    have de : FP.Core.DInt 0 (FP.l2d (0 : Int64)) := by
      have h := FP.Core.l2d_int (a := (0 : Int64)) (by omega)
      rw [show (0 : Int64).toInt = 0 by omega] at h; exact h
    refine s_dcmp X29 hx (0 : Int32) (hb hby at_225) (pc' := 226) rfl (own_same dg29 de _) ?_
    refine s_ifN X29 hx (hb hby at_226) (pc' := 229) rfl (by decide) ?_
    refine s_iconst X29 hx (1 : Int32) (hb hby at_229) (pc' := 230) rfl rfl ?_
    refine s_goto X29 hx (hb hby at_230) (by decide) (pc' := 234) (by decide) ?_
    exact s_retI X29 hx hlk hret (hb hby at_234) rfl (Or.inl ⟨rfl, by simp, _, rfl⟩) (by decide) (by decide) ⟨rfl, N29⟩
  ·
    refine s_iconst X3 hx (3 : Int32) (hb hby at_62) (pc' := 63) rfl rfl ?_
    refine s_newP X3 hx hZ (hw _ (List.mem_of_getElem? (i := 5) rfl)) eh3 (hb hby at_63) (pc' := 65) rfl (by decide) 3 (by decide) (by decide) (by decide) (by decide) (ad := "[J") (by decide) ?_
    intro T30 h30 c30 o30 X30 e30 E30 g30 V30 Ex30
    have hg30 : h0.size ≤ o30 := by rw [g30]; exact (Nat.le_refl _)
    have H30 : h0.size ≤ h30.size := Nat.le_trans (Nat.le_refl _) E30.1
    have U30 : Arv Z h30 o30 c30 .long (3 : Int32) [.long 0, .long 0, .long 0] (.long 0) := V30.pad (pad_rep [] _ 3)
    refine s_dup X30 hx (hb hby at_65) (pc' := 66) rfl rfl ?_
    refine s_iconst X30 hx (0 : Int32) (hb hby at_66) (pc' := 67) rfl rfl ?_
    refine s_lload X30 hx (hb hby at_67) (pc' := 69) rfl rfl ?_
    refine s_lastore X30 hx hZ e30 U30 (by decide) 0 (by decide) (by simp) (hb hby at_69) (pc' := 70) rfl ?_
    intro T31 h31 X31 e31 W31 V31
    have N31 := Fr.snoc X31 N3 (Nat.le_trans Z0 hg30)
    have U31 : Arv Z h31 o30 c30 .long (3 : Int32) [.long y0, .long 0, .long 0] (.long 0) := V31
    have H31 : h0.size ≤ h31.size := by rw [W31.size]; exact H30
    refine s_dup X31 hx (hb hby at_70) (pc' := 71) rfl rfl ?_
    refine s_iconst X31 hx (1 : Int32) (hb hby at_71) (pc' := 72) rfl rfl ?_
    refine s_lload X31 hx (hb hby at_72) (pc' := 74) rfl rfl ?_
    refine s_lastore X31 hx hZ e31 U31 (by decide) 1 (by decide) (by simp) (hb hby at_74) (pc' := 75) rfl ?_
    intro T32 h32 X32 e32 W32 V32
    have N32 := Fr.snoc X32 N31 (Nat.le_trans Z0 hg30)
    have U32 : Arv Z h32 o30 c30 .long (3 : Int32) [.long y0, .long y1, .long 0] (.long 0) := V32
    have H32 : h0.size ≤ h32.size := by rw [W32.size]; exact H31
    refine s_dup X32 hx (hb hby at_75) (pc' := 76) rfl rfl ?_
    refine s_iconst X32 hx (2 : Int32) (hb hby at_76) (pc' := 77) rfl rfl ?_
    refine s_lload X32 hx (hb hby at_77) (pc' := 79) rfl rfl ?_
    refine s_lastore X32 hx hZ e32 U32 (by decide) 2 (by decide) (by simp) (hb hby at_79) (pc' := 80) rfl ?_
    intro T33 h33 X33 e33 W33 V33
    have N33 := Fr.snoc X33 N32 (Nat.le_trans Z0 hg30)
    have U33 : Arv Z h33 o30 c30 .long (3 : Int32) [.long y0, .long y1, .long y2] (.long 0) := V33
    have H33 : h0.size ≤ h33.size := by rw [W33.size]; exact H32
    refine s_astore X33 hx #[.val (.long p0), .second, .val (.long p1), .second, .val (.long p2), .second, .val (.int p3), .val (.int p4), .val (.long y0), .second, .val (.long y1), .second, .val (.long y2), .second, .val (.int v0), .val (.int v1), .val (.int v2), .val (.int (1 : Int32)), .val (.int w0), .val (.int w1), .val (.ref o30), .unset, .unset, .unset, .unset, .unset, .unset, .unset] (hb hby at_80) (pc' := 82) rfl rfl rfl ?_
    refine s_iconst X33 hx (3 : Int32) (hb hby at_82) (pc' := 83) rfl rfl ?_
    refine s_newP X33 hx hZ (hw _ (List.mem_of_getElem? (i := 6) rfl)) e33 (hb hby at_83) (pc' := 85) rfl (by decide) 3 (by decide) (by decide) (by decide) (by decide) (ad := "[D") (by decide) ?_
    intro T34 h34 c34 o34 X34 e34 E34 g34 V34 Ex34
    have fE35 := (((Ex30.wr W31).wr W32).wr W33)
    have ne34_o30 : o30 ≠ o34 := Nat.ne_of_lt (by rw [g34]; exact fE35.lt)
    have hg34 : h0.size ≤ o34 := by rw [g34]; exact H33
    have H34 : h0.size ≤ h34.size := Nat.le_trans H33 E34.1
    have U34 : Arv Z h34 o34 c34 .double (3 : Int32) [.double 0, .double 0, .double 0] (.double 0) := V34.pad (pad_rep [] _ 3)
    refine s_dup X34 hx (hb hby at_85) (pc' := 86) rfl rfl ?_
    refine s_iconst X34 hx (0 : Int32) (hb hby at_86) (pc' := 87) rfl rfl ?_
    refine s_iload X34 hx (hb hby at_87) (pc' := 89) rfl rfl ?_
    refine s_i2d X34 hx (hb hby at_89) (pc' := 90) rfl ?_
    refine s_dastore X34 hx hZ e34 U34 (by decide) 0 (by decide) (by simp) (hb hby at_90) (pc' := 91) rfl ?_
    intro T36 h36 X36 e36 W36 V36
    have N36 := Fr.snoc X36 N33 (Nat.le_trans Z0 hg34)
    have U36 : Arv Z h36 o34 c34 .double (3 : Int32) [.double (FP.i2d v0), .double 0, .double 0] (.double 0) := V36
    have H36 : h0.size ≤ h36.size := by rw [W36.size]; exact H34
    refine s_dup X36 hx (hb hby at_91) (pc' := 92) rfl rfl ?_
    refine s_iconst X36 hx (1 : Int32) (hb hby at_92) (pc' := 93) rfl rfl ?_
    refine s_iload X36 hx (hb hby at_93) (pc' := 95) rfl rfl ?_
    refine s_i2d X36 hx (hb hby at_95) (pc' := 96) rfl ?_
    refine s_dastore X36 hx hZ e36 U36 (by decide) 1 (by decide) (by simp) (hb hby at_96) (pc' := 97) rfl ?_
    intro T37 h37 X37 e37 W37 V37
    have N37 := Fr.snoc X37 N36 (Nat.le_trans Z0 hg34)
    have U37 : Arv Z h37 o34 c34 .double (3 : Int32) [.double (FP.i2d v0), .double (FP.i2d v1), .double 0] (.double 0) := V37
    have H37 : h0.size ≤ h37.size := by rw [W37.size]; exact H36
    refine s_dup X37 hx (hb hby at_97) (pc' := 98) rfl rfl ?_
    refine s_iconst X37 hx (2 : Int32) (hb hby at_98) (pc' := 99) rfl rfl ?_
    refine s_iload X37 hx (hb hby at_99) (pc' := 101) rfl rfl ?_
    refine s_i2d X37 hx (hb hby at_101) (pc' := 102) rfl ?_
    refine s_dastore X37 hx hZ e37 U37 (by decide) 2 (by decide) (by simp) (hb hby at_102) (pc' := 103) rfl ?_
    intro T38 h38 X38 e38 W38 V38
    have N38 := Fr.snoc X38 N37 (Nat.le_trans Z0 hg34)
    have U38 : Arv Z h38 o34 c34 .double (3 : Int32) [.double (FP.i2d v0), .double (FP.i2d v1), .double (FP.i2d v2)] (.double 0) := V38
    have H38 : h0.size ≤ h38.size := by rw [W38.size]; exact H37
    refine s_astore X38 hx #[.val (.long p0), .second, .val (.long p1), .second, .val (.long p2), .second, .val (.int p3), .val (.int p4), .val (.long y0), .second, .val (.long y1), .second, .val (.long y2), .second, .val (.int v0), .val (.int v1), .val (.int v2), .val (.int (1 : Int32)), .val (.int w0), .val (.int w1), .val (.ref o30), .val (.ref o34), .unset, .unset, .unset, .unset, .unset, .unset] (hb hby at_103) (pc' := 105) rfl rfl rfl ?_
    refine s_iconst X38 hx (2 : Int32) (hb hby at_105) (pc' := 106) rfl rfl ?_
    refine s_newP X38 hx hZ (hw _ (List.mem_of_getElem? (i := 6) rfl)) e38 (hb hby at_106) (pc' := 108) rfl (by decide) 2 (by decide) (by decide) (by decide) (by decide) (ad := "[D") (by decide) ?_
    intro T39 h39 c39 o39 X39 e39 E39 g39 V39 Ex39
    have fE40 := ((((fE35.ext E34).wr W36).wr W37).wr W38)
    have ne39_o30 : o30 ≠ o39 := Nat.ne_of_lt (by rw [g39]; exact fE40.lt)
    have fE41 := (((Ex34.wr W36).wr W37).wr W38)
    have ne39_o34 : o34 ≠ o39 := Nat.ne_of_lt (by rw [g39]; exact fE41.lt)
    have hg39 : h0.size ≤ o39 := by rw [g39]; exact H38
    have H39 : h0.size ≤ h39.size := Nat.le_trans H38 E39.1
    have U39 : Arv Z h39 o39 c39 .double (2 : Int32) [.double 0, .double 0] (.double 0) := V39.pad (pad_rep [] _ 2)
    refine s_dup X39 hx (hb hby at_108) (pc' := 109) rfl rfl ?_
    refine s_iconst X39 hx (0 : Int32) (hb hby at_109) (pc' := 110) rfl rfl ?_
    refine s_iload X39 hx (hb hby at_110) (pc' := 112) rfl rfl ?_
    refine s_i2d X39 hx (hb hby at_112) (pc' := 113) rfl ?_
    refine s_dastore X39 hx hZ e39 U39 (by decide) 0 (by decide) (by simp) (hb hby at_113) (pc' := 114) rfl ?_
    intro T42 h42 X42 e42 W42 V42
    have N42 := Fr.snoc X42 N38 (Nat.le_trans Z0 hg39)
    have U42 : Arv Z h42 o39 c39 .double (2 : Int32) [.double (FP.i2d w0), .double 0] (.double 0) := V42
    have H42 : h0.size ≤ h42.size := by rw [W42.size]; exact H39
    refine s_dup X42 hx (hb hby at_114) (pc' := 115) rfl rfl ?_
    refine s_iconst X42 hx (1 : Int32) (hb hby at_115) (pc' := 116) rfl rfl ?_
    refine s_iload X42 hx (hb hby at_116) (pc' := 118) rfl rfl ?_
    refine s_i2d X42 hx (hb hby at_118) (pc' := 119) rfl ?_
    refine s_dastore X42 hx hZ e42 U42 (by decide) 1 (by decide) (by simp) (hb hby at_119) (pc' := 120) rfl ?_
    intro T43 h43 X43 e43 W43 V43
    have N43 := Fr.snoc X43 N42 (Nat.le_trans Z0 hg39)
    have U43 : Arv Z h43 o39 c39 .double (2 : Int32) [.double (FP.i2d w0), .double (FP.i2d w1)] (.double 0) := V43
    have H43 : h0.size ≤ h43.size := by rw [W43.size]; exact H42
    refine s_astore X43 hx #[.val (.long p0), .second, .val (.long p1), .second, .val (.long p2), .second, .val (.int p3), .val (.int p4), .val (.long y0), .second, .val (.long y1), .second, .val (.long y2), .second, .val (.int v0), .val (.int v1), .val (.int v2), .val (.int (1 : Int32)), .val (.int w0), .val (.int w1), .val (.ref o30), .val (.ref o34), .val (.ref o39), .unset, .unset, .unset, .unset, .unset] (hb hby at_120) (pc' := 122) rfl rfl rfl ?_
    refine s_new X43 hx hZ hown (hw _ (List.mem_of_getElem? (i := 7) rfl)) (hw _ (List.mem_of_getElem? (i := 8) rfl)) (hw _ (List.mem_of_getElem? (i := 9) rfl)) e43 (hb hby at_122) (pc' := 125) rfl (by decide) (by decide) ?_
    intro T44 h44 o44 X44 e44 E44 g44 A44 D44
    have fE45 := (((fE40.ext E39).wr W42).wr W43)
    have ne44_o30 : o30 ≠ o44 := Nat.ne_of_lt (by rw [g44]; exact fE45.lt)
    have fE46 := (((fE41.ext E39).wr W42).wr W43)
    have ne44_o34 : o34 ≠ o44 := Nat.ne_of_lt (by rw [g44]; exact fE46.lt)
    have fE47 := ((Ex39.wr W42).wr W43)
    have ne44_o39 : o39 ≠ o44 := Nat.ne_of_lt (by rw [g44]; exact fE47.lt)
    have hg44 : h0.size ≤ o44 := by rw [g44]; exact H43
    have H44 : h0.size ≤ h44.size := Nat.le_trans H43 E44.1
    have F44_label := D44 (O := "com/example/tesserae/tesserae/data/Example") (nm := "label") (d := "D") (Or.inr (hw _ (List.mem_of_getElem? (i := 17) rfl))) (ty := .double) (by decide)
    have F44_indexes := D44 (O := "com/example/tesserae/tesserae/data/Example") (nm := "indexes") (d := "[J") (Or.inr (hw _ (List.mem_of_getElem? (i := 31) rfl))) (ty := (.array .long)) (by decide)
    have F44_values := D44 (O := "com/example/tesserae/tesserae/data/Example") (nm := "values") (d := "[D") (Or.inr (hw _ (List.mem_of_getElem? (i := 36) rfl))) (ty := (.array .double)) (by decide)
    refine s_dup X44 hx (hb hby at_125) (pc' := 126) rfl rfl ?_
    refine s_iload X44 hx (hb hby at_126) (pc' := 128) rfl rfl ?_
    refine s_bipush X44 hx (16 : Int32) (hb hby at_128) (pc' := 130) rfl rfl ?_
    refine s_ishr X44 hx (hb hby at_130) (pc' := 131) rfl ?_
    refine s_i2d X44 hx (hb hby at_131) (pc' := 132) rfl ?_
    refine s_aload X44 hx (hb hby at_132) (pc' := 134) rfl rfl rfl ?_
    refine s_aload X44 hx (hb hby at_134) (pc' := 136) rfl rfl rfl ?_
    refine s_iload X44 hx (hb hby at_136) (pc' := 138) rfl rfl ?_
    have fV48 := ((((((((U33.ext E34).other W36 ne34_o30).other W37 ne34_o30).other W38 ne34_o30).ext E39).other W42 ne39_o30).other W43 ne39_o30).ext E44)
    have fE49 := (fE45.ext E44)
    have fV50 := ((((U38.ext E39).other W42 ne39_o34).other W43 ne39_o34).ext E44)
    have fE51 := (fE46.ext E44)
    have fV52 := (U43.ext E44)
    refine c_special X44 hx hZ rfl hown (hw _ (List.mem_of_getElem? (i := 10) rfl)) (hw _ (List.mem_of_getElem? (i := 11) rfl)) (hw _ (List.mem_of_getElem? (i := 9) rfl)) (hw _ (List.mem_of_getElem? (i := 12) rfl)) (by decide) e44 (rm_2_1 l Z a0 hw [] o44 (FP.i2d (p4 >>> ((16 : Int32) &&& 31))) o30 o34 c30 c34 y0 y1 y2 (FP.i2d v0) (FP.i2d v1) (FP.i2d v2) _ _ _ h44 n0 (Nat.le_trans Z0 H44) A44 F44_label F44_indexes F44_values fV48 fE49 fV50 fE51 ne44_o30 ne44_o34 (Nat.le_trans Z0 hg44)) (W := 1) (by decide) (by decide) (by decide) (by decide) (by rw [hml]; rfl) (argsL := [.double (FP.i2d (p4 >>> ((16 : Int32) &&& 31))), .ref o30, .ref o34, .int (1 : Int32)]) (rest := [.ref o44]) (a := o44) (lenOf pd_4 rfl) rfl rfl (Nat.le_of_eq rfl) (hb hby at_138) (pc' := 141) rfl ?_
    intro T53 v53 L53 X53 hQ53
    obtain ⟨rfl, Nq53, K53, E53, ra53, rb53, ka53, kb53, Fi53, Fv53, Va53, Vb53⟩ := hQ53
    have N53 := Fr.app N43 Nq53
    have H53 : h0.size ≤ T53.heap.size := Nat.le_trans H44 K53.1
    show Goes p e below _ (T53.setTop (mkF m 141 #[.val (.long p0), .second, .val (.long p1), .second, .val (.long p2), .second, .val (.int p3), .val (.int p4), .val (.long y0), .second, .val (.long y1), .second, .val (.long y2), .second, .val (.int v0), .val (.int v1), .val (.int v2), .val (.int (1 : Int32)), .val (.int w0), .val (.int w1), .val (.ref o30), .val (.ref o34), .val (.ref o39), .unset, .unset, .unset, .unset, .unset] [.ref o44]))
    refine s_astore X53 hx #[.val (.long p0), .second, .val (.long p1), .second, .val (.long p2), .second, .val (.int p3), .val (.int p4), .val (.long y0), .second, .val (.long y1), .second, .val (.long y2), .second, .val (.int v0), .val (.int v1), .val (.int v2), .val (.int (1 : Int32)), .val (.int w0), .val (.int w1), .val (.ref o30), .val (.ref o34), .val (.ref o39), .val (.ref o44), .unset, .unset, .unset, .unset] (hb hby at_141) (pc' := 143) rfl rfl rfl ?_
    refine s_aload X53 hx (hb hby at_143) (pc' := 145) rfl rfl rfl ?_
    refine s_aload X53 hx (hb hby at_145) (pc' := 147) rfl rfl rfl ?_
    have fV54 := (fV52.keep K53 (ninS ne44_o39 nin0))
    refine c_virtual X53 hx hZ hown (hw _ (List.mem_of_getElem? (i := 37) rfl)) (hw _ (List.mem_of_getElem? (i := 38) rfl)) (hw _ (List.mem_of_getElem? (i := 40) rfl)) (hw _ (List.mem_of_getElem? (i := 39) rfl)) (hw _ (List.mem_of_getElem? (i := 9) rfl)) (hw _ (List.mem_of_getElem? (i := 41) rfl)) (by decide) rfl E53 (rm_7_1 l Z a0 hw [] o44 o39 ra53 rb53 ka53 kb53 c39 y0 v0 w0 w1 T53.heap n0 (Nat.le_trans Z0 H53) Fi53 Fv53 Va53 Vb53 fV54 hi0 bv0 bw0 bw1) (W := 0) (by decide) (by decide) (by decide) (by decide) (by rw [hml]; rfl) (argsL := [.ref o39]) (rest := []) (lenOf pd_5 rfl) rfl rfl (Nat.le_of_eq rfl) (hb hby at_147) (pc' := 150) rfl ?_
    intro T55 v55 L55 X55 hQ55
    obtain ⟨gt55, rfl, Nq55, eh55, dg55⟩ := hQ55
    have N55 := Fr.app N53 Nq55
    show Goes p e below _ (T55.setTop (mkF m 150 #[.val (.long p0), .second, .val (.long p1), .second, .val (.long p2), .second, .val (.int p3), .val (.int p4), .val (.long y0), .second, .val (.long y1), .second, .val (.long y2), .second, .val (.int v0), .val (.int v1), .val (.int v2), .val (.int (1 : Int32)), .val (.int w0), .val (.int w1), .val (.ref o30), .val (.ref o34), .val (.ref o39), .val (.ref o44), .unset, .unset, .unset, .unset] [.double gt55]))
    refine s_dstore X55 hx #[.val (.long p0), .second, .val (.long p1), .second, .val (.long p2), .second, .val (.int p3), .val (.int p4), .val (.long y0), .second, .val (.long y1), .second, .val (.long y2), .second, .val (.int v0), .val (.int v1), .val (.int v2), .val (.int (1 : Int32)), .val (.int w0), .val (.int w1), .val (.ref o30), .val (.ref o34), .val (.ref o39), .val (.ref o44), .val (.double gt55), .second, .unset, .unset] (hb hby at_150) (pc' := 152) rfl rfl ?_
    refine s_lconst X55 hx (0 : Int64) (hb hby at_152) (pc' := 153) rfl rfl ?_
    refine s_lstore X55 hx #[.val (.long p0), .second, .val (.long p1), .second, .val (.long p2), .second, .val (.int p3), .val (.int p4), .val (.long y0), .second, .val (.long y1), .second, .val (.long y2), .second, .val (.int v0), .val (.int v1), .val (.int v2), .val (.int (1 : Int32)), .val (.int w0), .val (.int w1), .val (.ref o30), .val (.ref o34), .val (.ref o39), .val (.ref o44), .val (.double gt55), .second, .val (.long (0 : Int64)), .second] (hb hby at_153) (pc' := 155) rfl rfl ?_
    refine s_iload X55 hx (hb hby at_155) (pc' := 157) rfl rfl ?_
    refine s_ifN X55 hx (hb hby at_157) (pc' := 160) rfl (by decide) ?_
    refine s_lload X55 hx (hb hby at_160) (pc' := 162) rfl rfl ?_
    refine s_lload X55 hx (hb hby at_162) (pc' := 164) rfl rfl ?_
    refine s_iload X55 hx (hb hby at_164) (pc' := 166) rfl rfl ?_
    refine s_iload X55 hx (hb hby at_166) (pc' := 168) rfl rfl ?_
    refine s_iload X55 hx (hb hby at_168) (pc' := 170) rfl rfl ?_
    refine c_static X55 hx hZ hown (hw _ (List.mem_of_getElem? (i := 42) rfl)) (hw _ (List.mem_of_getElem? (i := 43) rfl)) (hw _ (List.mem_of_getElem? (i := 2) rfl)) (hw _ (List.mem_of_getElem? (i := 44) rfl)) (by decide) eh55 (rm_8 l Z a0 hw [] y0 w0 w1 v0 T53.heap n0 (Nat.le_trans Z0 H53)) (W := 2) (by decide) (by decide) (by decide) (by decide) (by rw [hml]; rfl) (argsL := [.long y0, .int w0, .int w1, .int v0]) (rest := [.long (0 : Int64)]) (lenOf pd_6 rfl) rfl rfl (Nat.le_of_eq rfl) (hb hby at_170) (pc' := 173) rfl ?_
    intro T56 v56 L56 X56 hQ56
    obtain ⟨rfl, Nq56, eh56⟩ := hQ56
    have N56 := Fr.app N55 Nq56
    show Goes p e below _ (T56.setTop (mkF m 173 #[.val (.long p0), .second, .val (.long p1), .second, .val (.long p2), .second, .val (.int p3), .val (.int p4), .val (.long y0), .second, .val (.long y1), .second, .val (.long y2), .second, .val (.int v0), .val (.int v1), .val (.int v2), .val (.int (1 : Int32)), .val (.int w0), .val (.int w1), .val (.ref o30), .val (.ref o34), .val (.ref o39), .val (.ref o44), .val (.double gt55), .second, .val (.long (0 : Int64)), .second] [.long (own_term y0 w0 w1 v0), .long (0 : Int64)]))
    refine s_ladd X56 hx (hb hby at_173) (pc' := 174) rfl ?_
    refine s_lstore X56 hx #[.val (.long p0), .second, .val (.long p1), .second, .val (.long p2), .second, .val (.int p3), .val (.int p4), .val (.long y0), .second, .val (.long y1), .second, .val (.long y2), .second, .val (.int v0), .val (.int v1), .val (.int v2), .val (.int (1 : Int32)), .val (.int w0), .val (.int w1), .val (.ref o30), .val (.ref o34), .val (.ref o39), .val (.ref o44), .val (.double gt55), .second, .val (.long ((0 : Int64) + (own_term y0 w0 w1 v0))), .second] (hb hby at_174) (pc' := 176) rfl rfl ?_
    refine s_iload X56 hx (hb hby at_176) (pc' := 178) rfl rfl ?_
    refine s_iconst X56 hx (1 : Int32) (hb hby at_178) (pc' := 179) rfl rfl ?_
    refine s_icmpY X56 hx (hb hby at_179) (by decide) (by decide) (pc' := 198) (by decide) ?_
    refine s_iload X56 hx (hb hby at_198) (pc' := 200) rfl rfl ?_
    refine s_iconst X56 hx (2 : Int32) (hb hby at_200) (pc' := 201) rfl rfl ?_
    refine s_icmpY X56 hx (hb hby at_201) (by decide) (by decide) (pc' := 220) (by decide) ?_
    refine s_dload X56 hx (hb hby at_220) (pc' := 222) rfl rfl ?_
    refine s_lload X56 hx (hb hby at_222) (pc' := 224) rfl rfl ?_
    refine s_l2d X56 hx (hb hby at_224) (pc' := 225) rfl ?_
    have tt0 := own_term_t (i := y0) bw0 bw1 bv0
    have tb0 := own_t_le (i := y0) bw0 bw1 bv0
    have s0_ : (0 : Int64).toInt = 0 := rfl
    have s1_ : ((0 : Int64) + own_term y0 w0 w1 v0).toInt = (0 : Int64).toInt + own_t y0 w0.toInt w1.toInt v0.toInt := by rw [own_ladd (by omega) (by omega), tt0]
    have de : FP.Core.DInt (own_t y0 w0.toInt w1.toInt v0.toInt + 0) (FP.l2d ((0 : Int64) + own_term y0 w0 w1 v0)) := by
      have h := FP.Core.l2d_int (a := ((0 : Int64) + own_term y0 w0 w1 v0)) (by omega)
      rw [show ((0 : Int64) + own_term y0 w0 w1 v0).toInt = (own_t y0 w0.toInt w1.toInt v0.toInt + 0) by omega] at h; exact h
    refine s_dcmp X56 hx (0 : Int32) (hb hby at_225) (pc' := 226) rfl (own_same dg55 de _) ?_
    refine s_ifN X56 hx (hb hby at_226) (pc' := 229) rfl (by decide) ?_
    refine s_iconst X56 hx (1 : Int32) (hb hby at_229) (pc' := 230) rfl rfl ?_
    refine s_goto X56 hx (hb hby at_230) (by decide) (pc' := 234) (by decide) ?_
    exact s_retI X56 hx hlk hret (hb hby at_234) rfl (Or.inl ⟨rfl, by simp, _, rfl⟩) (by decide) (by decide) ⟨rfl, N56⟩
  ·
    refine s_iconst X3 hx (3 : Int32) (hb hby at_62) (pc' := 63) rfl rfl ?_
    refine s_newP X3 hx hZ (hw _ (List.mem_of_getElem? (i := 5) rfl)) eh3 (hb hby at_63) (pc' := 65) rfl (by decide) 3 (by decide) (by decide) (by decide) (by decide) (ad := "[J") (by decide) ?_
    intro T57 h57 c57 o57 X57 e57 E57 g57 V57 Ex57
    have hg57 : h0.size ≤ o57 := by rw [g57]; exact (Nat.le_refl _)
    have H57 : h0.size ≤ h57.size := Nat.le_trans (Nat.le_refl _) E57.1
    have U57 : Arv Z h57 o57 c57 .long (3 : Int32) [.long 0, .long 0, .long 0] (.long 0) := V57.pad (pad_rep [] _ 3)
    refine s_dup X57 hx (hb hby at_65) (pc' := 66) rfl rfl ?_
    refine s_iconst X57 hx (0 : Int32) (hb hby at_66) (pc' := 67) rfl rfl ?_
    refine s_lload X57 hx (hb hby at_67) (pc' := 69) rfl rfl ?_
    refine s_lastore X57 hx hZ e57 U57 (by decide) 0 (by decide) (by simp) (hb hby at_69) (pc' := 70) rfl ?_
    intro T58 h58 X58 e58 W58 V58
    have N58 := Fr.snoc X58 N3 (Nat.le_trans Z0 hg57)
    have U58 : Arv Z h58 o57 c57 .long (3 : Int32) [.long y0, .long 0, .long 0] (.long 0) := V58
    have H58 : h0.size ≤ h58.size := by rw [W58.size]; exact H57
    refine s_dup X58 hx (hb hby at_70) (pc' := 71) rfl rfl ?_
    refine s_iconst X58 hx (1 : Int32) (hb hby at_71) (pc' := 72) rfl rfl ?_
    refine s_lload X58 hx (hb hby at_72) (pc' := 74) rfl rfl ?_
    refine s_lastore X58 hx hZ e58 U58 (by decide) 1 (by decide) (by simp) (hb hby at_74) (pc' := 75) rfl ?_
    intro T59 h59 X59 e59 W59 V59
    have N59 := Fr.snoc X59 N58 (Nat.le_trans Z0 hg57)
    have U59 : Arv Z h59 o57 c57 .long (3 : Int32) [.long y0, .long y1, .long 0] (.long 0) := V59
    have H59 : h0.size ≤ h59.size := by rw [W59.size]; exact H58
    refine s_dup X59 hx (hb hby at_75) (pc' := 76) rfl rfl ?_
    refine s_iconst X59 hx (2 : Int32) (hb hby at_76) (pc' := 77) rfl rfl ?_
    refine s_lload X59 hx (hb hby at_77) (pc' := 79) rfl rfl ?_
    refine s_lastore X59 hx hZ e59 U59 (by decide) 2 (by decide) (by simp) (hb hby at_79) (pc' := 80) rfl ?_
    intro T60 h60 X60 e60 W60 V60
    have N60 := Fr.snoc X60 N59 (Nat.le_trans Z0 hg57)
    have U60 : Arv Z h60 o57 c57 .long (3 : Int32) [.long y0, .long y1, .long y2] (.long 0) := V60
    have H60 : h0.size ≤ h60.size := by rw [W60.size]; exact H59
    refine s_astore X60 hx #[.val (.long p0), .second, .val (.long p1), .second, .val (.long p2), .second, .val (.int p3), .val (.int p4), .val (.long y0), .second, .val (.long y1), .second, .val (.long y2), .second, .val (.int v0), .val (.int v1), .val (.int v2), .val (.int (2 : Int32)), .val (.int w0), .val (.int w1), .val (.ref o57), .unset, .unset, .unset, .unset, .unset, .unset, .unset] (hb hby at_80) (pc' := 82) rfl rfl rfl ?_
    refine s_iconst X60 hx (3 : Int32) (hb hby at_82) (pc' := 83) rfl rfl ?_
    refine s_newP X60 hx hZ (hw _ (List.mem_of_getElem? (i := 6) rfl)) e60 (hb hby at_83) (pc' := 85) rfl (by decide) 3 (by decide) (by decide) (by decide) (by decide) (ad := "[D") (by decide) ?_
    intro T61 h61 c61 o61 X61 e61 E61 g61 V61 Ex61
    have fE62 := (((Ex57.wr W58).wr W59).wr W60)
    have ne61_o57 : o57 ≠ o61 := Nat.ne_of_lt (by rw [g61]; exact fE62.lt)
    have hg61 : h0.size ≤ o61 := by rw [g61]; exact H60
    have H61 : h0.size ≤ h61.size := Nat.le_trans H60 E61.1
    have U61 : Arv Z h61 o61 c61 .double (3 : Int32) [.double 0, .double 0, .double 0] (.double 0) := V61.pad (pad_rep [] _ 3)
    refine s_dup X61 hx (hb hby at_85) (pc' := 86) rfl rfl ?_
    refine s_iconst X61 hx (0 : Int32) (hb hby at_86) (pc' := 87) rfl rfl ?_
    refine s_iload X61 hx (hb hby at_87) (pc' := 89) rfl rfl ?_
    refine s_i2d X61 hx (hb hby at_89) (pc' := 90) rfl ?_
    refine s_dastore X61 hx hZ e61 U61 (by decide) 0 (by decide) (by simp) (hb hby at_90) (pc' := 91) rfl ?_
    intro T63 h63 X63 e63 W63 V63
    have N63 := Fr.snoc X63 N60 (Nat.le_trans Z0 hg61)
    have U63 : Arv Z h63 o61 c61 .double (3 : Int32) [.double (FP.i2d v0), .double 0, .double 0] (.double 0) := V63
    have H63 : h0.size ≤ h63.size := by rw [W63.size]; exact H61
    refine s_dup X63 hx (hb hby at_91) (pc' := 92) rfl rfl ?_
    refine s_iconst X63 hx (1 : Int32) (hb hby at_92) (pc' := 93) rfl rfl ?_
    refine s_iload X63 hx (hb hby at_93) (pc' := 95) rfl rfl ?_
    refine s_i2d X63 hx (hb hby at_95) (pc' := 96) rfl ?_
    refine s_dastore X63 hx hZ e63 U63 (by decide) 1 (by decide) (by simp) (hb hby at_96) (pc' := 97) rfl ?_
    intro T64 h64 X64 e64 W64 V64
    have N64 := Fr.snoc X64 N63 (Nat.le_trans Z0 hg61)
    have U64 : Arv Z h64 o61 c61 .double (3 : Int32) [.double (FP.i2d v0), .double (FP.i2d v1), .double 0] (.double 0) := V64
    have H64 : h0.size ≤ h64.size := by rw [W64.size]; exact H63
    refine s_dup X64 hx (hb hby at_97) (pc' := 98) rfl rfl ?_
    refine s_iconst X64 hx (2 : Int32) (hb hby at_98) (pc' := 99) rfl rfl ?_
    refine s_iload X64 hx (hb hby at_99) (pc' := 101) rfl rfl ?_
    refine s_i2d X64 hx (hb hby at_101) (pc' := 102) rfl ?_
    refine s_dastore X64 hx hZ e64 U64 (by decide) 2 (by decide) (by simp) (hb hby at_102) (pc' := 103) rfl ?_
    intro T65 h65 X65 e65 W65 V65
    have N65 := Fr.snoc X65 N64 (Nat.le_trans Z0 hg61)
    have U65 : Arv Z h65 o61 c61 .double (3 : Int32) [.double (FP.i2d v0), .double (FP.i2d v1), .double (FP.i2d v2)] (.double 0) := V65
    have H65 : h0.size ≤ h65.size := by rw [W65.size]; exact H64
    refine s_astore X65 hx #[.val (.long p0), .second, .val (.long p1), .second, .val (.long p2), .second, .val (.int p3), .val (.int p4), .val (.long y0), .second, .val (.long y1), .second, .val (.long y2), .second, .val (.int v0), .val (.int v1), .val (.int v2), .val (.int (2 : Int32)), .val (.int w0), .val (.int w1), .val (.ref o57), .val (.ref o61), .unset, .unset, .unset, .unset, .unset, .unset] (hb hby at_103) (pc' := 105) rfl rfl rfl ?_
    refine s_iconst X65 hx (2 : Int32) (hb hby at_105) (pc' := 106) rfl rfl ?_
    refine s_newP X65 hx hZ (hw _ (List.mem_of_getElem? (i := 6) rfl)) e65 (hb hby at_106) (pc' := 108) rfl (by decide) 2 (by decide) (by decide) (by decide) (by decide) (ad := "[D") (by decide) ?_
    intro T66 h66 c66 o66 X66 e66 E66 g66 V66 Ex66
    have fE67 := ((((fE62.ext E61).wr W63).wr W64).wr W65)
    have ne66_o57 : o57 ≠ o66 := Nat.ne_of_lt (by rw [g66]; exact fE67.lt)
    have fE68 := (((Ex61.wr W63).wr W64).wr W65)
    have ne66_o61 : o61 ≠ o66 := Nat.ne_of_lt (by rw [g66]; exact fE68.lt)
    have hg66 : h0.size ≤ o66 := by rw [g66]; exact H65
    have H66 : h0.size ≤ h66.size := Nat.le_trans H65 E66.1
    have U66 : Arv Z h66 o66 c66 .double (2 : Int32) [.double 0, .double 0] (.double 0) := V66.pad (pad_rep [] _ 2)
    refine s_dup X66 hx (hb hby at_108) (pc' := 109) rfl rfl ?_
    refine s_iconst X66 hx (0 : Int32) (hb hby at_109) (pc' := 110) rfl rfl ?_
    refine s_iload X66 hx (hb hby at_110) (pc' := 112) rfl rfl ?_
    refine s_i2d X66 hx (hb hby at_112) (pc' := 113) rfl ?_
    refine s_dastore X66 hx hZ e66 U66 (by decide) 0 (by decide) (by simp) (hb hby at_113) (pc' := 114) rfl ?_
    intro T69 h69 X69 e69 W69 V69
    have N69 := Fr.snoc X69 N65 (Nat.le_trans Z0 hg66)
    have U69 : Arv Z h69 o66 c66 .double (2 : Int32) [.double (FP.i2d w0), .double 0] (.double 0) := V69
    have H69 : h0.size ≤ h69.size := by rw [W69.size]; exact H66
    refine s_dup X69 hx (hb hby at_114) (pc' := 115) rfl rfl ?_
    refine s_iconst X69 hx (1 : Int32) (hb hby at_115) (pc' := 116) rfl rfl ?_
    refine s_iload X69 hx (hb hby at_116) (pc' := 118) rfl rfl ?_
    refine s_i2d X69 hx (hb hby at_118) (pc' := 119) rfl ?_
    refine s_dastore X69 hx hZ e69 U69 (by decide) 1 (by decide) (by simp) (hb hby at_119) (pc' := 120) rfl ?_
    intro T70 h70 X70 e70 W70 V70
    have N70 := Fr.snoc X70 N69 (Nat.le_trans Z0 hg66)
    have U70 : Arv Z h70 o66 c66 .double (2 : Int32) [.double (FP.i2d w0), .double (FP.i2d w1)] (.double 0) := V70
    have H70 : h0.size ≤ h70.size := by rw [W70.size]; exact H69
    refine s_astore X70 hx #[.val (.long p0), .second, .val (.long p1), .second, .val (.long p2), .second, .val (.int p3), .val (.int p4), .val (.long y0), .second, .val (.long y1), .second, .val (.long y2), .second, .val (.int v0), .val (.int v1), .val (.int v2), .val (.int (2 : Int32)), .val (.int w0), .val (.int w1), .val (.ref o57), .val (.ref o61), .val (.ref o66), .unset, .unset, .unset, .unset, .unset] (hb hby at_120) (pc' := 122) rfl rfl rfl ?_
    refine s_new X70 hx hZ hown (hw _ (List.mem_of_getElem? (i := 7) rfl)) (hw _ (List.mem_of_getElem? (i := 8) rfl)) (hw _ (List.mem_of_getElem? (i := 9) rfl)) e70 (hb hby at_122) (pc' := 125) rfl (by decide) (by decide) ?_
    intro T71 h71 o71 X71 e71 E71 g71 A71 D71
    have fE72 := (((fE67.ext E66).wr W69).wr W70)
    have ne71_o57 : o57 ≠ o71 := Nat.ne_of_lt (by rw [g71]; exact fE72.lt)
    have fE73 := (((fE68.ext E66).wr W69).wr W70)
    have ne71_o61 : o61 ≠ o71 := Nat.ne_of_lt (by rw [g71]; exact fE73.lt)
    have fE74 := ((Ex66.wr W69).wr W70)
    have ne71_o66 : o66 ≠ o71 := Nat.ne_of_lt (by rw [g71]; exact fE74.lt)
    have hg71 : h0.size ≤ o71 := by rw [g71]; exact H70
    have H71 : h0.size ≤ h71.size := Nat.le_trans H70 E71.1
    have F71_label := D71 (O := "com/example/tesserae/tesserae/data/Example") (nm := "label") (d := "D") (Or.inr (hw _ (List.mem_of_getElem? (i := 17) rfl))) (ty := .double) (by decide)
    have F71_indexes := D71 (O := "com/example/tesserae/tesserae/data/Example") (nm := "indexes") (d := "[J") (Or.inr (hw _ (List.mem_of_getElem? (i := 31) rfl))) (ty := (.array .long)) (by decide)
    have F71_values := D71 (O := "com/example/tesserae/tesserae/data/Example") (nm := "values") (d := "[D") (Or.inr (hw _ (List.mem_of_getElem? (i := 36) rfl))) (ty := (.array .double)) (by decide)
    refine s_dup X71 hx (hb hby at_125) (pc' := 126) rfl rfl ?_
    refine s_iload X71 hx (hb hby at_126) (pc' := 128) rfl rfl ?_
    refine s_bipush X71 hx (16 : Int32) (hb hby at_128) (pc' := 130) rfl rfl ?_
    refine s_ishr X71 hx (hb hby at_130) (pc' := 131) rfl ?_
    refine s_i2d X71 hx (hb hby at_131) (pc' := 132) rfl ?_
    refine s_aload X71 hx (hb hby at_132) (pc' := 134) rfl rfl rfl ?_
    refine s_aload X71 hx (hb hby at_134) (pc' := 136) rfl rfl rfl ?_
    refine s_iload X71 hx (hb hby at_136) (pc' := 138) rfl rfl ?_
    have fV75 := ((((((((U60.ext E61).other W63 ne61_o57).other W64 ne61_o57).other W65 ne61_o57).ext E66).other W69 ne66_o57).other W70 ne66_o57).ext E71)
    have fE76 := (fE72.ext E71)
    have fV77 := ((((U65.ext E66).other W69 ne66_o61).other W70 ne66_o61).ext E71)
    have fE78 := (fE73.ext E71)
    have fV79 := (U70.ext E71)
    refine c_special X71 hx hZ rfl hown (hw _ (List.mem_of_getElem? (i := 10) rfl)) (hw _ (List.mem_of_getElem? (i := 11) rfl)) (hw _ (List.mem_of_getElem? (i := 9) rfl)) (hw _ (List.mem_of_getElem? (i := 12) rfl)) (by decide) e71 (rm_2_2 l Z a0 hw [] o71 (FP.i2d (p4 >>> ((16 : Int32) &&& 31))) o57 o61 c57 c61 y0 y1 y2 (FP.i2d v0) (FP.i2d v1) (FP.i2d v2) _ _ _ h71 n0 (Nat.le_trans Z0 H71) A71 F71_label F71_indexes F71_values fV75 fE76 fV77 fE78 ne71_o57 ne71_o61 (Nat.le_trans Z0 hg71)) (W := 1) (by decide) (by decide) (by decide) (by decide) (by rw [hml]; rfl) (argsL := [.double (FP.i2d (p4 >>> ((16 : Int32) &&& 31))), .ref o57, .ref o61, .int (2 : Int32)]) (rest := [.ref o71]) (a := o71) (lenOf pd_4 rfl) rfl rfl (Nat.le_of_eq rfl) (hb hby at_138) (pc' := 141) rfl ?_
    intro T80 v80 L80 X80 hQ80
    obtain ⟨rfl, Nq80, K80, E80, ra80, rb80, ka80, kb80, Fi80, Fv80, Va80, Vb80⟩ := hQ80
    have N80 := Fr.app N70 Nq80
    have H80 : h0.size ≤ T80.heap.size := Nat.le_trans H71 K80.1
    show Goes p e below _ (T80.setTop (mkF m 141 #[.val (.long p0), .second, .val (.long p1), .second, .val (.long p2), .second, .val (.int p3), .val (.int p4), .val (.long y0), .second, .val (.long y1), .second, .val (.long y2), .second, .val (.int v0), .val (.int v1), .val (.int v2), .val (.int (2 : Int32)), .val (.int w0), .val (.int w1), .val (.ref o57), .val (.ref o61), .val (.ref o66), .unset, .unset, .unset, .unset, .unset] [.ref o71]))
    refine s_astore X80 hx #[.val (.long p0), .second, .val (.long p1), .second, .val (.long p2), .second, .val (.int p3), .val (.int p4), .val (.long y0), .second, .val (.long y1), .second, .val (.long y2), .second, .val (.int v0), .val (.int v1), .val (.int v2), .val (.int (2 : Int32)), .val (.int w0), .val (.int w1), .val (.ref o57), .val (.ref o61), .val (.ref o66), .val (.ref o71), .unset, .unset, .unset, .unset] (hb hby at_141) (pc' := 143) rfl rfl rfl ?_
    refine s_aload X80 hx (hb hby at_143) (pc' := 145) rfl rfl rfl ?_
    refine s_aload X80 hx (hb hby at_145) (pc' := 147) rfl rfl rfl ?_
    have fV81 := (fV79.keep K80 (ninS ne71_o66 nin0))
    refine c_virtual X80 hx hZ hown (hw _ (List.mem_of_getElem? (i := 37) rfl)) (hw _ (List.mem_of_getElem? (i := 38) rfl)) (hw _ (List.mem_of_getElem? (i := 40) rfl)) (hw _ (List.mem_of_getElem? (i := 39) rfl)) (hw _ (List.mem_of_getElem? (i := 9) rfl)) (hw _ (List.mem_of_getElem? (i := 41) rfl)) (by decide) rfl E80 (rm_7_2 l Z a0 hw [] o71 o66 ra80 rb80 ka80 kb80 c66 y0 y1 v0 v1 w0 w1 T80.heap n0 (Nat.le_trans Z0 H80) Fi80 Fv80 Va80 Vb80 fV81 hi0 hi1 bv0 bv1 bw0 bw1) (W := 0) (by decide) (by decide) (by decide) (by decide) (by rw [hml]; rfl) (argsL := [.ref o66]) (rest := []) (lenOf pd_5 rfl) rfl rfl (Nat.le_of_eq rfl) (hb hby at_147) (pc' := 150) rfl ?_
    intro T82 v82 L82 X82 hQ82
    obtain ⟨gt82, rfl, Nq82, eh82, dg82⟩ := hQ82
    have N82 := Fr.app N80 Nq82
    show Goes p e below _ (T82.setTop (mkF m 150 #[.val (.long p0), .second, .val (.long p1), .second, .val (.long p2), .second, .val (.int p3), .val (.int p4), .val (.long y0), .second, .val (.long y1), .second, .val (.long y2), .second, .val (.int v0), .val (.int v1), .val (.int v2), .val (.int (2 : Int32)), .val (.int w0), .val (.int w1), .val (.ref o57), .val (.ref o61), .val (.ref o66), .val (.ref o71), .unset, .unset, .unset, .unset] [.double gt82]))
    refine s_dstore X82 hx #[.val (.long p0), .second, .val (.long p1), .second, .val (.long p2), .second, .val (.int p3), .val (.int p4), .val (.long y0), .second, .val (.long y1), .second, .val (.long y2), .second, .val (.int v0), .val (.int v1), .val (.int v2), .val (.int (2 : Int32)), .val (.int w0), .val (.int w1), .val (.ref o57), .val (.ref o61), .val (.ref o66), .val (.ref o71), .val (.double gt82), .second, .unset, .unset] (hb hby at_150) (pc' := 152) rfl rfl ?_
    refine s_lconst X82 hx (0 : Int64) (hb hby at_152) (pc' := 153) rfl rfl ?_
    refine s_lstore X82 hx #[.val (.long p0), .second, .val (.long p1), .second, .val (.long p2), .second, .val (.int p3), .val (.int p4), .val (.long y0), .second, .val (.long y1), .second, .val (.long y2), .second, .val (.int v0), .val (.int v1), .val (.int v2), .val (.int (2 : Int32)), .val (.int w0), .val (.int w1), .val (.ref o57), .val (.ref o61), .val (.ref o66), .val (.ref o71), .val (.double gt82), .second, .val (.long (0 : Int64)), .second] (hb hby at_153) (pc' := 155) rfl rfl ?_
    refine s_iload X82 hx (hb hby at_155) (pc' := 157) rfl rfl ?_
    refine s_ifN X82 hx (hb hby at_157) (pc' := 160) rfl (by decide) ?_
    refine s_lload X82 hx (hb hby at_160) (pc' := 162) rfl rfl ?_
    refine s_lload X82 hx (hb hby at_162) (pc' := 164) rfl rfl ?_
    refine s_iload X82 hx (hb hby at_164) (pc' := 166) rfl rfl ?_
    refine s_iload X82 hx (hb hby at_166) (pc' := 168) rfl rfl ?_
    refine s_iload X82 hx (hb hby at_168) (pc' := 170) rfl rfl ?_
    refine c_static X82 hx hZ hown (hw _ (List.mem_of_getElem? (i := 42) rfl)) (hw _ (List.mem_of_getElem? (i := 43) rfl)) (hw _ (List.mem_of_getElem? (i := 2) rfl)) (hw _ (List.mem_of_getElem? (i := 44) rfl)) (by decide) eh82 (rm_8 l Z a0 hw [] y0 w0 w1 v0 T80.heap n0 (Nat.le_trans Z0 H80)) (W := 2) (by decide) (by decide) (by decide) (by decide) (by rw [hml]; rfl) (argsL := [.long y0, .int w0, .int w1, .int v0]) (rest := [.long (0 : Int64)]) (lenOf pd_6 rfl) rfl rfl (Nat.le_of_eq rfl) (hb hby at_170) (pc' := 173) rfl ?_
    intro T83 v83 L83 X83 hQ83
    obtain ⟨rfl, Nq83, eh83⟩ := hQ83
    have N83 := Fr.app N82 Nq83
    show Goes p e below _ (T83.setTop (mkF m 173 #[.val (.long p0), .second, .val (.long p1), .second, .val (.long p2), .second, .val (.int p3), .val (.int p4), .val (.long y0), .second, .val (.long y1), .second, .val (.long y2), .second, .val (.int v0), .val (.int v1), .val (.int v2), .val (.int (2 : Int32)), .val (.int w0), .val (.int w1), .val (.ref o57), .val (.ref o61), .val (.ref o66), .val (.ref o71), .val (.double gt82), .second, .val (.long (0 : Int64)), .second] [.long (own_term y0 w0 w1 v0), .long (0 : Int64)]))
    refine s_ladd X83 hx (hb hby at_173) (pc' := 174) rfl ?_
    refine s_lstore X83 hx #[.val (.long p0), .second, .val (.long p1), .second, .val (.long p2), .second, .val (.int p3), .val (.int p4), .val (.long y0), .second, .val (.long y1), .second, .val (.long y2), .second, .val (.int v0), .val (.int v1), .val (.int v2), .val (.int (2 : Int32)), .val (.int w0), .val (.int w1), .val (.ref o57), .val (.ref o61), .val (.ref o66), .val (.ref o71), .val (.double gt82), .second, .val (.long ((0 : Int64) + (own_term y0 w0 w1 v0))), .second] (hb hby at_174) (pc' := 176) rfl rfl ?_
    refine s_iload X83 hx (hb hby at_176) (pc' := 178) rfl rfl ?_
    refine s_iconst X83 hx (1 : Int32) (hb hby at_178) (pc' := 179) rfl rfl ?_
    refine s_icmpN X83 hx (hb hby at_179) (pc' := 182) rfl (by decide) ?_
    refine s_lload X83 hx (hb hby at_182) (pc' := 184) rfl rfl ?_
    refine s_lload X83 hx (hb hby at_184) (pc' := 186) rfl rfl ?_
    refine s_iload X83 hx (hb hby at_186) (pc' := 188) rfl rfl ?_
    refine s_iload X83 hx (hb hby at_188) (pc' := 190) rfl rfl ?_
    refine s_iload X83 hx (hb hby at_190) (pc' := 192) rfl rfl ?_
    refine c_static X83 hx hZ hown (hw _ (List.mem_of_getElem? (i := 42) rfl)) (hw _ (List.mem_of_getElem? (i := 43) rfl)) (hw _ (List.mem_of_getElem? (i := 2) rfl)) (hw _ (List.mem_of_getElem? (i := 44) rfl)) (by decide) eh83 (rm_8 l Z a0 hw [] y1 w0 w1 v1 T80.heap n0 (Nat.le_trans Z0 H80)) (W := 2) (by decide) (by decide) (by decide) (by decide) (by rw [hml]; rfl) (argsL := [.long y1, .int w0, .int w1, .int v1]) (rest := [.long ((0 : Int64) + (own_term y0 w0 w1 v0))]) (lenOf pd_6 rfl) rfl rfl (Nat.le_of_eq rfl) (hb hby at_192) (pc' := 195) rfl ?_
    intro T84 v84 L84 X84 hQ84
    obtain ⟨rfl, Nq84, eh84⟩ := hQ84
    have N84 := Fr.app N83 Nq84
    show Goes p e below _ (T84.setTop (mkF m 195 #[.val (.long p0), .second, .val (.long p1), .second, .val (.long p2), .second, .val (.int p3), .val (.int p4), .val (.long y0), .second, .val (.long y1), .second, .val (.long y2), .second, .val (.int v0), .val (.int v1), .val (.int v2), .val (.int (2 : Int32)), .val (.int w0), .val (.int w1), .val (.ref o57), .val (.ref o61), .val (.ref o66), .val (.ref o71), .val (.double gt82), .second, .val (.long ((0 : Int64) + (own_term y0 w0 w1 v0))), .second] [.long (own_term y1 w0 w1 v1), .long ((0 : Int64) + (own_term y0 w0 w1 v0))]))
    refine s_ladd X84 hx (hb hby at_195) (pc' := 196) rfl ?_
    refine s_lstore X84 hx #[.val (.long p0), .second, .val (.long p1), .second, .val (.long p2), .second, .val (.int p3), .val (.int p4), .val (.long y0), .second, .val (.long y1), .second, .val (.long y2), .second, .val (.int v0), .val (.int v1), .val (.int v2), .val (.int (2 : Int32)), .val (.int w0), .val (.int w1), .val (.ref o57), .val (.ref o61), .val (.ref o66), .val (.ref o71), .val (.double gt82), .second, .val (.long (((0 : Int64) + (own_term y0 w0 w1 v0)) + (own_term y1 w0 w1 v1))), .second] (hb hby at_196) (pc' := 198) rfl rfl ?_
    refine s_iload X84 hx (hb hby at_198) (pc' := 200) rfl rfl ?_
    refine s_iconst X84 hx (2 : Int32) (hb hby at_200) (pc' := 201) rfl rfl ?_
    refine s_icmpY X84 hx (hb hby at_201) (by decide) (by decide) (pc' := 220) (by decide) ?_
    refine s_dload X84 hx (hb hby at_220) (pc' := 222) rfl rfl ?_
    refine s_lload X84 hx (hb hby at_222) (pc' := 224) rfl rfl ?_
    refine s_l2d X84 hx (hb hby at_224) (pc' := 225) rfl ?_
    have tt0 := own_term_t (i := y0) bw0 bw1 bv0
    have tb0 := own_t_le (i := y0) bw0 bw1 bv0
    have tt1 := own_term_t (i := y1) bw0 bw1 bv1
    have tb1 := own_t_le (i := y1) bw0 bw1 bv1
    have s0_ : (0 : Int64).toInt = 0 := rfl
    have s1_ : ((0 : Int64) + own_term y0 w0 w1 v0).toInt = (0 : Int64).toInt + own_t y0 w0.toInt w1.toInt v0.toInt := by rw [own_ladd (by omega) (by omega), tt0]
    have s2_ : (((0 : Int64) + own_term y0 w0 w1 v0) + own_term y1 w0 w1 v1).toInt = ((0 : Int64) + own_term y0 w0 w1 v0).toInt + own_t y1 w0.toInt w1.toInt v1.toInt := by rw [own_ladd (by omega) (by omega), tt1]
    have de : FP.Core.DInt (own_t y0 w0.toInt w1.toInt v0.toInt + (own_t y1 w0.toInt w1.toInt v1.toInt + 0)) (FP.l2d (((0 : Int64) + own_term y0 w0 w1 v0) + own_term y1 w0 w1 v1)) := by
      have h := FP.Core.l2d_int (a := (((0 : Int64) + own_term y0 w0 w1 v0) + own_term y1 w0 w1 v1)) (by omega)
      rw [show (((0 : Int64) + own_term y0 w0 w1 v0) + own_term y1 w0 w1 v1).toInt = (own_t y0 w0.toInt w1.toInt v0.toInt + (own_t y1 w0.toInt w1.toInt v1.toInt + 0)) by omega] at h; exact h
    refine s_dcmp X84 hx (0 : Int32) (hb hby at_225) (pc' := 226) rfl (own_same dg82 de _) ?_
    refine s_ifN X84 hx (hb hby at_226) (pc' := 229) rfl (by decide) ?_
    refine s_iconst X84 hx (1 : Int32) (hb hby at_229) (pc' := 230) rfl rfl ?_
    refine s_goto X84 hx (hb hby at_230) (by decide) (pc' := 234) (by decide) ?_
    exact s_retI X84 hx hlk hret (hb hby at_234) rfl (Or.inl ⟨rfl, by simp, _, rfl⟩) (by decide) (by decide) ⟨rfl, N84⟩
  ·
    refine s_iconst X3 hx (3 : Int32) (hb hby at_62) (pc' := 63) rfl rfl ?_
    refine s_newP X3 hx hZ (hw _ (List.mem_of_getElem? (i := 5) rfl)) eh3 (hb hby at_63) (pc' := 65) rfl (by decide) 3 (by decide) (by decide) (by decide) (by decide) (ad := "[J") (by decide) ?_
    intro T85 h85 c85 o85 X85 e85 E85 g85 V85 Ex85
    have hg85 : h0.size ≤ o85 := by rw [g85]; exact (Nat.le_refl _)
    have H85 : h0.size ≤ h85.size := Nat.le_trans (Nat.le_refl _) E85.1
    have U85 : Arv Z h85 o85 c85 .long (3 : Int32) [.long 0, .long 0, .long 0] (.long 0) := V85.pad (pad_rep [] _ 3)
    refine s_dup X85 hx (hb hby at_65) (pc' := 66) rfl rfl ?_
    refine s_iconst X85 hx (0 : Int32) (hb hby at_66) (pc' := 67) rfl rfl ?_
    refine s_lload X85 hx (hb hby at_67) (pc' := 69) rfl rfl ?_
    refine s_lastore X85 hx hZ e85 U85 (by decide) 0 (by decide) (by simp) (hb hby at_69) (pc' := 70) rfl ?_
    intro T86 h86 X86 e86 W86 V86
    have N86 := Fr.snoc X86 N3 (Nat.le_trans Z0 hg85)
    have U86 : Arv Z h86 o85 c85 .long (3 : Int32) [.long y0, .long 0, .long 0] (.long 0) := V86
    have H86 : h0.size ≤ h86.size := by rw [W86.size]; exact H85
    refine s_dup X86 hx (hb hby at_70) (pc' := 71) rfl rfl ?_
    refine s_iconst X86 hx (1 : Int32) (hb hby at_71) (pc' := 72) rfl rfl ?_
    refine s_lload X86 hx (hb hby at_72) (pc' := 74) rfl rfl ?_
    refine s_lastore X86 hx hZ e86 U86 (by decide) 1 (by decide) (by simp) (hb hby at_74) (pc' := 75) rfl ?_
    intro T87 h87 X87 e87 W87 V87
    have N87 := Fr.snoc X87 N86 (Nat.le_trans Z0 hg85)
    have U87 : Arv Z h87 o85 c85 .long (3 : Int32) [.long y0, .long y1, .long 0] (.long 0) := V87
    have H87 : h0.size ≤ h87.size := by rw [W87.size]; exact H86
    refine s_dup X87 hx (hb hby at_75) (pc' := 76) rfl rfl ?_
    refine s_iconst X87 hx (2 : Int32) (hb hby at_76) (pc' := 77) rfl rfl ?_
    refine s_lload X87 hx (hb hby at_77) (pc' := 79) rfl rfl ?_
    refine s_lastore X87 hx hZ e87 U87 (by decide) 2 (by decide) (by simp) (hb hby at_79) (pc' := 80) rfl ?_
    intro T88 h88 X88 e88 W88 V88
    have N88 := Fr.snoc X88 N87 (Nat.le_trans Z0 hg85)
    have U88 : Arv Z h88 o85 c85 .long (3 : Int32) [.long y0, .long y1, .long y2] (.long 0) := V88
    have H88 : h0.size ≤ h88.size := by rw [W88.size]; exact H87
    refine s_astore X88 hx #[.val (.long p0), .second, .val (.long p1), .second, .val (.long p2), .second, .val (.int p3), .val (.int p4), .val (.long y0), .second, .val (.long y1), .second, .val (.long y2), .second, .val (.int v0), .val (.int v1), .val (.int v2), .val (.int (3 : Int32)), .val (.int w0), .val (.int w1), .val (.ref o85), .unset, .unset, .unset, .unset, .unset, .unset, .unset] (hb hby at_80) (pc' := 82) rfl rfl rfl ?_
    refine s_iconst X88 hx (3 : Int32) (hb hby at_82) (pc' := 83) rfl rfl ?_
    refine s_newP X88 hx hZ (hw _ (List.mem_of_getElem? (i := 6) rfl)) e88 (hb hby at_83) (pc' := 85) rfl (by decide) 3 (by decide) (by decide) (by decide) (by decide) (ad := "[D") (by decide) ?_
    intro T89 h89 c89 o89 X89 e89 E89 g89 V89 Ex89
    have fE90 := (((Ex85.wr W86).wr W87).wr W88)
    have ne89_o85 : o85 ≠ o89 := Nat.ne_of_lt (by rw [g89]; exact fE90.lt)
    have hg89 : h0.size ≤ o89 := by rw [g89]; exact H88
    have H89 : h0.size ≤ h89.size := Nat.le_trans H88 E89.1
    have U89 : Arv Z h89 o89 c89 .double (3 : Int32) [.double 0, .double 0, .double 0] (.double 0) := V89.pad (pad_rep [] _ 3)
    refine s_dup X89 hx (hb hby at_85) (pc' := 86) rfl rfl ?_
    refine s_iconst X89 hx (0 : Int32) (hb hby at_86) (pc' := 87) rfl rfl ?_
    refine s_iload X89 hx (hb hby at_87) (pc' := 89) rfl rfl ?_
    refine s_i2d X89 hx (hb hby at_89) (pc' := 90) rfl ?_
    refine s_dastore X89 hx hZ e89 U89 (by decide) 0 (by decide) (by simp) (hb hby at_90) (pc' := 91) rfl ?_
    intro T91 h91 X91 e91 W91 V91
    have N91 := Fr.snoc X91 N88 (Nat.le_trans Z0 hg89)
    have U91 : Arv Z h91 o89 c89 .double (3 : Int32) [.double (FP.i2d v0), .double 0, .double 0] (.double 0) := V91
    have H91 : h0.size ≤ h91.size := by rw [W91.size]; exact H89
    refine s_dup X91 hx (hb hby at_91) (pc' := 92) rfl rfl ?_
    refine s_iconst X91 hx (1 : Int32) (hb hby at_92) (pc' := 93) rfl rfl ?_
    refine s_iload X91 hx (hb hby at_93) (pc' := 95) rfl rfl ?_
    refine s_i2d X91 hx (hb hby at_95) (pc' := 96) rfl ?_
    refine s_dastore X91 hx hZ e91 U91 (by decide) 1 (by decide) (by simp) (hb hby at_96) (pc' := 97) rfl ?_
    intro T92 h92 X92 e92 W92 V92
    have N92 := Fr.snoc X92 N91 (Nat.le_trans Z0 hg89)
    have U92 : Arv Z h92 o89 c89 .double (3 : Int32) [.double (FP.i2d v0), .double (FP.i2d v1), .double 0] (.double 0) := V92
    have H92 : h0.size ≤ h92.size := by rw [W92.size]; exact H91
    refine s_dup X92 hx (hb hby at_97) (pc' := 98) rfl rfl ?_
    refine s_iconst X92 hx (2 : Int32) (hb hby at_98) (pc' := 99) rfl rfl ?_
    refine s_iload X92 hx (hb hby at_99) (pc' := 101) rfl rfl ?_
    refine s_i2d X92 hx (hb hby at_101) (pc' := 102) rfl ?_
    refine s_dastore X92 hx hZ e92 U92 (by decide) 2 (by decide) (by simp) (hb hby at_102) (pc' := 103) rfl ?_
    intro T93 h93 X93 e93 W93 V93
    have N93 := Fr.snoc X93 N92 (Nat.le_trans Z0 hg89)
    have U93 : Arv Z h93 o89 c89 .double (3 : Int32) [.double (FP.i2d v0), .double (FP.i2d v1), .double (FP.i2d v2)] (.double 0) := V93
    have H93 : h0.size ≤ h93.size := by rw [W93.size]; exact H92
    refine s_astore X93 hx #[.val (.long p0), .second, .val (.long p1), .second, .val (.long p2), .second, .val (.int p3), .val (.int p4), .val (.long y0), .second, .val (.long y1), .second, .val (.long y2), .second, .val (.int v0), .val (.int v1), .val (.int v2), .val (.int (3 : Int32)), .val (.int w0), .val (.int w1), .val (.ref o85), .val (.ref o89), .unset, .unset, .unset, .unset, .unset, .unset] (hb hby at_103) (pc' := 105) rfl rfl rfl ?_
    refine s_iconst X93 hx (2 : Int32) (hb hby at_105) (pc' := 106) rfl rfl ?_
    refine s_newP X93 hx hZ (hw _ (List.mem_of_getElem? (i := 6) rfl)) e93 (hb hby at_106) (pc' := 108) rfl (by decide) 2 (by decide) (by decide) (by decide) (by decide) (ad := "[D") (by decide) ?_
    intro T94 h94 c94 o94 X94 e94 E94 g94 V94 Ex94
    have fE95 := ((((fE90.ext E89).wr W91).wr W92).wr W93)
    have ne94_o85 : o85 ≠ o94 := Nat.ne_of_lt (by rw [g94]; exact fE95.lt)
    have fE96 := (((Ex89.wr W91).wr W92).wr W93)
    have ne94_o89 : o89 ≠ o94 := Nat.ne_of_lt (by rw [g94]; exact fE96.lt)
    have hg94 : h0.size ≤ o94 := by rw [g94]; exact H93
    have H94 : h0.size ≤ h94.size := Nat.le_trans H93 E94.1
    have U94 : Arv Z h94 o94 c94 .double (2 : Int32) [.double 0, .double 0] (.double 0) := V94.pad (pad_rep [] _ 2)
    refine s_dup X94 hx (hb hby at_108) (pc' := 109) rfl rfl ?_
    refine s_iconst X94 hx (0 : Int32) (hb hby at_109) (pc' := 110) rfl rfl ?_
    refine s_iload X94 hx (hb hby at_110) (pc' := 112) rfl rfl ?_
    refine s_i2d X94 hx (hb hby at_112) (pc' := 113) rfl ?_
    refine s_dastore X94 hx hZ e94 U94 (by decide) 0 (by decide) (by simp) (hb hby at_113) (pc' := 114) rfl ?_
    intro T97 h97 X97 e97 W97 V97
    have N97 := Fr.snoc X97 N93 (Nat.le_trans Z0 hg94)
    have U97 : Arv Z h97 o94 c94 .double (2 : Int32) [.double (FP.i2d w0), .double 0] (.double 0) := V97
    have H97 : h0.size ≤ h97.size := by rw [W97.size]; exact H94
    refine s_dup X97 hx (hb hby at_114) (pc' := 115) rfl rfl ?_
    refine s_iconst X97 hx (1 : Int32) (hb hby at_115) (pc' := 116) rfl rfl ?_
    refine s_iload X97 hx (hb hby at_116) (pc' := 118) rfl rfl ?_
    refine s_i2d X97 hx (hb hby at_118) (pc' := 119) rfl ?_
    refine s_dastore X97 hx hZ e97 U97 (by decide) 1 (by decide) (by simp) (hb hby at_119) (pc' := 120) rfl ?_
    intro T98 h98 X98 e98 W98 V98
    have N98 := Fr.snoc X98 N97 (Nat.le_trans Z0 hg94)
    have U98 : Arv Z h98 o94 c94 .double (2 : Int32) [.double (FP.i2d w0), .double (FP.i2d w1)] (.double 0) := V98
    have H98 : h0.size ≤ h98.size := by rw [W98.size]; exact H97
    refine s_astore X98 hx #[.val (.long p0), .second, .val (.long p1), .second, .val (.long p2), .second, .val (.int p3), .val (.int p4), .val (.long y0), .second, .val (.long y1), .second, .val (.long y2), .second, .val (.int v0), .val (.int v1), .val (.int v2), .val (.int (3 : Int32)), .val (.int w0), .val (.int w1), .val (.ref o85), .val (.ref o89), .val (.ref o94), .unset, .unset, .unset, .unset, .unset] (hb hby at_120) (pc' := 122) rfl rfl rfl ?_
    refine s_new X98 hx hZ hown (hw _ (List.mem_of_getElem? (i := 7) rfl)) (hw _ (List.mem_of_getElem? (i := 8) rfl)) (hw _ (List.mem_of_getElem? (i := 9) rfl)) e98 (hb hby at_122) (pc' := 125) rfl (by decide) (by decide) ?_
    intro T99 h99 o99 X99 e99 E99 g99 A99 D99
    have fE100 := (((fE95.ext E94).wr W97).wr W98)
    have ne99_o85 : o85 ≠ o99 := Nat.ne_of_lt (by rw [g99]; exact fE100.lt)
    have fE101 := (((fE96.ext E94).wr W97).wr W98)
    have ne99_o89 : o89 ≠ o99 := Nat.ne_of_lt (by rw [g99]; exact fE101.lt)
    have fE102 := ((Ex94.wr W97).wr W98)
    have ne99_o94 : o94 ≠ o99 := Nat.ne_of_lt (by rw [g99]; exact fE102.lt)
    have hg99 : h0.size ≤ o99 := by rw [g99]; exact H98
    have H99 : h0.size ≤ h99.size := Nat.le_trans H98 E99.1
    have F99_label := D99 (O := "com/example/tesserae/tesserae/data/Example") (nm := "label") (d := "D") (Or.inr (hw _ (List.mem_of_getElem? (i := 17) rfl))) (ty := .double) (by decide)
    have F99_indexes := D99 (O := "com/example/tesserae/tesserae/data/Example") (nm := "indexes") (d := "[J") (Or.inr (hw _ (List.mem_of_getElem? (i := 31) rfl))) (ty := (.array .long)) (by decide)
    have F99_values := D99 (O := "com/example/tesserae/tesserae/data/Example") (nm := "values") (d := "[D") (Or.inr (hw _ (List.mem_of_getElem? (i := 36) rfl))) (ty := (.array .double)) (by decide)
    refine s_dup X99 hx (hb hby at_125) (pc' := 126) rfl rfl ?_
    refine s_iload X99 hx (hb hby at_126) (pc' := 128) rfl rfl ?_
    refine s_bipush X99 hx (16 : Int32) (hb hby at_128) (pc' := 130) rfl rfl ?_
    refine s_ishr X99 hx (hb hby at_130) (pc' := 131) rfl ?_
    refine s_i2d X99 hx (hb hby at_131) (pc' := 132) rfl ?_
    refine s_aload X99 hx (hb hby at_132) (pc' := 134) rfl rfl rfl ?_
    refine s_aload X99 hx (hb hby at_134) (pc' := 136) rfl rfl rfl ?_
    refine s_iload X99 hx (hb hby at_136) (pc' := 138) rfl rfl ?_
    have fV103 := ((((((((U88.ext E89).other W91 ne89_o85).other W92 ne89_o85).other W93 ne89_o85).ext E94).other W97 ne94_o85).other W98 ne94_o85).ext E99)
    have fE104 := (fE100.ext E99)
    have fV105 := ((((U93.ext E94).other W97 ne94_o89).other W98 ne94_o89).ext E99)
    have fE106 := (fE101.ext E99)
    have fV107 := (U98.ext E99)
    refine c_special X99 hx hZ rfl hown (hw _ (List.mem_of_getElem? (i := 10) rfl)) (hw _ (List.mem_of_getElem? (i := 11) rfl)) (hw _ (List.mem_of_getElem? (i := 9) rfl)) (hw _ (List.mem_of_getElem? (i := 12) rfl)) (by decide) e99 (rm_2_3 l Z a0 hw [] o99 (FP.i2d (p4 >>> ((16 : Int32) &&& 31))) o85 o89 c85 c89 y0 y1 y2 (FP.i2d v0) (FP.i2d v1) (FP.i2d v2) _ _ _ h99 n0 (Nat.le_trans Z0 H99) A99 F99_label F99_indexes F99_values fV103 fE104 fV105 fE106 ne99_o85 ne99_o89 (Nat.le_trans Z0 hg99)) (W := 1) (by decide) (by decide) (by decide) (by decide) (by rw [hml]; rfl) (argsL := [.double (FP.i2d (p4 >>> ((16 : Int32) &&& 31))), .ref o85, .ref o89, .int (3 : Int32)]) (rest := [.ref o99]) (a := o99) (lenOf pd_4 rfl) rfl rfl (Nat.le_of_eq rfl) (hb hby at_138) (pc' := 141) rfl ?_
    intro T108 v108 L108 X108 hQ108
    obtain ⟨rfl, Nq108, K108, E108, ra108, rb108, ka108, kb108, Fi108, Fv108, Va108, Vb108⟩ := hQ108
    have N108 := Fr.app N98 Nq108
    have H108 : h0.size ≤ T108.heap.size := Nat.le_trans H99 K108.1
    show Goes p e below _ (T108.setTop (mkF m 141 #[.val (.long p0), .second, .val (.long p1), .second, .val (.long p2), .second, .val (.int p3), .val (.int p4), .val (.long y0), .second, .val (.long y1), .second, .val (.long y2), .second, .val (.int v0), .val (.int v1), .val (.int v2), .val (.int (3 : Int32)), .val (.int w0), .val (.int w1), .val (.ref o85), .val (.ref o89), .val (.ref o94), .unset, .unset, .unset, .unset, .unset] [.ref o99]))
    refine s_astore X108 hx #[.val (.long p0), .second, .val (.long p1), .second, .val (.long p2), .second, .val (.int p3), .val (.int p4), .val (.long y0), .second, .val (.long y1), .second, .val (.long y2), .second, .val (.int v0), .val (.int v1), .val (.int v2), .val (.int (3 : Int32)), .val (.int w0), .val (.int w1), .val (.ref o85), .val (.ref o89), .val (.ref o94), .val (.ref o99), .unset, .unset, .unset, .unset] (hb hby at_141) (pc' := 143) rfl rfl rfl ?_
    refine s_aload X108 hx (hb hby at_143) (pc' := 145) rfl rfl rfl ?_
    refine s_aload X108 hx (hb hby at_145) (pc' := 147) rfl rfl rfl ?_
    have fV109 := (fV107.keep K108 (ninS ne99_o94 nin0))
    refine c_virtual X108 hx hZ hown (hw _ (List.mem_of_getElem? (i := 37) rfl)) (hw _ (List.mem_of_getElem? (i := 38) rfl)) (hw _ (List.mem_of_getElem? (i := 40) rfl)) (hw _ (List.mem_of_getElem? (i := 39) rfl)) (hw _ (List.mem_of_getElem? (i := 9) rfl)) (hw _ (List.mem_of_getElem? (i := 41) rfl)) (by decide) rfl E108 (rm_7_3 l Z a0 hw [] o99 o94 ra108 rb108 ka108 kb108 c94 y0 y1 y2 v0 v1 v2 w0 w1 T108.heap n0 (Nat.le_trans Z0 H108) Fi108 Fv108 Va108 Vb108 fV109 hi0 hi1 hi2 bv0 bv1 bv2 bw0 bw1) (W := 0) (by decide) (by decide) (by decide) (by decide) (by rw [hml]; rfl) (argsL := [.ref o94]) (rest := []) (lenOf pd_5 rfl) rfl rfl (Nat.le_of_eq rfl) (hb hby at_147) (pc' := 150) rfl ?_
    intro T110 v110 L110 X110 hQ110
    obtain ⟨gt110, rfl, Nq110, eh110, dg110⟩ := hQ110
    have N110 := Fr.app N108 Nq110
    show Goes p e below _ (T110.setTop (mkF m 150 #[.val (.long p0), .second, .val (.long p1), .second, .val (.long p2), .second, .val (.int p3), .val (.int p4), .val (.long y0), .second, .val (.long y1), .second, .val (.long y2), .second, .val (.int v0), .val (.int v1), .val (.int v2), .val (.int (3 : Int32)), .val (.int w0), .val (.int w1), .val (.ref o85), .val (.ref o89), .val (.ref o94), .val (.ref o99), .unset, .unset, .unset, .unset] [.double gt110]))
    refine s_dstore X110 hx #[.val (.long p0), .second, .val (.long p1), .second, .val (.long p2), .second, .val (.int p3), .val (.int p4), .val (.long y0), .second, .val (.long y1), .second, .val (.long y2), .second, .val (.int v0), .val (.int v1), .val (.int v2), .val (.int (3 : Int32)), .val (.int w0), .val (.int w1), .val (.ref o85), .val (.ref o89), .val (.ref o94), .val (.ref o99), .val (.double gt110), .second, .unset, .unset] (hb hby at_150) (pc' := 152) rfl rfl ?_
    refine s_lconst X110 hx (0 : Int64) (hb hby at_152) (pc' := 153) rfl rfl ?_
    refine s_lstore X110 hx #[.val (.long p0), .second, .val (.long p1), .second, .val (.long p2), .second, .val (.int p3), .val (.int p4), .val (.long y0), .second, .val (.long y1), .second, .val (.long y2), .second, .val (.int v0), .val (.int v1), .val (.int v2), .val (.int (3 : Int32)), .val (.int w0), .val (.int w1), .val (.ref o85), .val (.ref o89), .val (.ref o94), .val (.ref o99), .val (.double gt110), .second, .val (.long (0 : Int64)), .second] (hb hby at_153) (pc' := 155) rfl rfl ?_
    refine s_iload X110 hx (hb hby at_155) (pc' := 157) rfl rfl ?_
    refine s_ifN X110 hx (hb hby at_157) (pc' := 160) rfl (by decide) ?_
    refine s_lload X110 hx (hb hby at_160) (pc' := 162) rfl rfl ?_
    refine s_lload X110 hx (hb hby at_162) (pc' := 164) rfl rfl ?_
    refine s_iload X110 hx (hb hby at_164) (pc' := 166) rfl rfl ?_
    refine s_iload X110 hx (hb hby at_166) (pc' := 168) rfl rfl ?_
    refine s_iload X110 hx (hb hby at_168) (pc' := 170) rfl rfl ?_
    refine c_static X110 hx hZ hown (hw _ (List.mem_of_getElem? (i := 42) rfl)) (hw _ (List.mem_of_getElem? (i := 43) rfl)) (hw _ (List.mem_of_getElem? (i := 2) rfl)) (hw _ (List.mem_of_getElem? (i := 44) rfl)) (by decide) eh110 (rm_8 l Z a0 hw [] y0 w0 w1 v0 T108.heap n0 (Nat.le_trans Z0 H108)) (W := 2) (by decide) (by decide) (by decide) (by decide) (by rw [hml]; rfl) (argsL := [.long y0, .int w0, .int w1, .int v0]) (rest := [.long (0 : Int64)]) (lenOf pd_6 rfl) rfl rfl (Nat.le_of_eq rfl) (hb hby at_170) (pc' := 173) rfl ?_
    intro T111 v111 L111 X111 hQ111
    obtain ⟨rfl, Nq111, eh111⟩ := hQ111
    have N111 := Fr.app N110 Nq111
    show Goes p e below _ (T111.setTop (mkF m 173 #[.val (.long p0), .second, .val (.long p1), .second, .val (.long p2), .second, .val (.int p3), .val (.int p4), .val (.long y0), .second, .val (.long y1), .second, .val (.long y2), .second, .val (.int v0), .val (.int v1), .val (.int v2), .val (.int (3 : Int32)), .val (.int w0), .val (.int w1), .val (.ref o85), .val (.ref o89), .val (.ref o94), .val (.ref o99), .val (.double gt110), .second, .val (.long (0 : Int64)), .second] [.long (own_term y0 w0 w1 v0), .long (0 : Int64)]))
    refine s_ladd X111 hx (hb hby at_173) (pc' := 174) rfl ?_
    refine s_lstore X111 hx #[.val (.long p0), .second, .val (.long p1), .second, .val (.long p2), .second, .val (.int p3), .val (.int p4), .val (.long y0), .second, .val (.long y1), .second, .val (.long y2), .second, .val (.int v0), .val (.int v1), .val (.int v2), .val (.int (3 : Int32)), .val (.int w0), .val (.int w1), .val (.ref o85), .val (.ref o89), .val (.ref o94), .val (.ref o99), .val (.double gt110), .second, .val (.long ((0 : Int64) + (own_term y0 w0 w1 v0))), .second] (hb hby at_174) (pc' := 176) rfl rfl ?_
    refine s_iload X111 hx (hb hby at_176) (pc' := 178) rfl rfl ?_
    refine s_iconst X111 hx (1 : Int32) (hb hby at_178) (pc' := 179) rfl rfl ?_
    refine s_icmpN X111 hx (hb hby at_179) (pc' := 182) rfl (by decide) ?_
    refine s_lload X111 hx (hb hby at_182) (pc' := 184) rfl rfl ?_
    refine s_lload X111 hx (hb hby at_184) (pc' := 186) rfl rfl ?_
    refine s_iload X111 hx (hb hby at_186) (pc' := 188) rfl rfl ?_
    refine s_iload X111 hx (hb hby at_188) (pc' := 190) rfl rfl ?_
    refine s_iload X111 hx (hb hby at_190) (pc' := 192) rfl rfl ?_
    refine c_static X111 hx hZ hown (hw _ (List.mem_of_getElem? (i := 42) rfl)) (hw _ (List.mem_of_getElem? (i := 43) rfl)) (hw _ (List.mem_of_getElem? (i := 2) rfl)) (hw _ (List.mem_of_getElem? (i := 44) rfl)) (by decide) eh111 (rm_8 l Z a0 hw [] y1 w0 w1 v1 T108.heap n0 (Nat.le_trans Z0 H108)) (W := 2) (by decide) (by decide) (by decide) (by decide) (by rw [hml]; rfl) (argsL := [.long y1, .int w0, .int w1, .int v1]) (rest := [.long ((0 : Int64) + (own_term y0 w0 w1 v0))]) (lenOf pd_6 rfl) rfl rfl (Nat.le_of_eq rfl) (hb hby at_192) (pc' := 195) rfl ?_
    intro T112 v112 L112 X112 hQ112
    obtain ⟨rfl, Nq112, eh112⟩ := hQ112
    have N112 := Fr.app N111 Nq112
    show Goes p e below _ (T112.setTop (mkF m 195 #[.val (.long p0), .second, .val (.long p1), .second, .val (.long p2), .second, .val (.int p3), .val (.int p4), .val (.long y0), .second, .val (.long y1), .second, .val (.long y2), .second, .val (.int v0), .val (.int v1), .val (.int v2), .val (.int (3 : Int32)), .val (.int w0), .val (.int w1), .val (.ref o85), .val (.ref o89), .val (.ref o94), .val (.ref o99), .val (.double gt110), .second, .val (.long ((0 : Int64) + (own_term y0 w0 w1 v0))), .second] [.long (own_term y1 w0 w1 v1), .long ((0 : Int64) + (own_term y0 w0 w1 v0))]))
    refine s_ladd X112 hx (hb hby at_195) (pc' := 196) rfl ?_
    refine s_lstore X112 hx #[.val (.long p0), .second, .val (.long p1), .second, .val (.long p2), .second, .val (.int p3), .val (.int p4), .val (.long y0), .second, .val (.long y1), .second, .val (.long y2), .second, .val (.int v0), .val (.int v1), .val (.int v2), .val (.int (3 : Int32)), .val (.int w0), .val (.int w1), .val (.ref o85), .val (.ref o89), .val (.ref o94), .val (.ref o99), .val (.double gt110), .second, .val (.long (((0 : Int64) + (own_term y0 w0 w1 v0)) + (own_term y1 w0 w1 v1))), .second] (hb hby at_196) (pc' := 198) rfl rfl ?_
    refine s_iload X112 hx (hb hby at_198) (pc' := 200) rfl rfl ?_
    refine s_iconst X112 hx (2 : Int32) (hb hby at_200) (pc' := 201) rfl rfl ?_
    refine s_icmpN X112 hx (hb hby at_201) (pc' := 204) rfl (by decide) ?_
    refine s_lload X112 hx (hb hby at_204) (pc' := 206) rfl rfl ?_
    refine s_lload X112 hx (hb hby at_206) (pc' := 208) rfl rfl ?_
    refine s_iload X112 hx (hb hby at_208) (pc' := 210) rfl rfl ?_
    refine s_iload X112 hx (hb hby at_210) (pc' := 212) rfl rfl ?_
    refine s_iload X112 hx (hb hby at_212) (pc' := 214) rfl rfl ?_
    refine c_static X112 hx hZ hown (hw _ (List.mem_of_getElem? (i := 42) rfl)) (hw _ (List.mem_of_getElem? (i := 43) rfl)) (hw _ (List.mem_of_getElem? (i := 2) rfl)) (hw _ (List.mem_of_getElem? (i := 44) rfl)) (by decide) eh112 (rm_8 l Z a0 hw [] y2 w0 w1 v2 T108.heap n0 (Nat.le_trans Z0 H108)) (W := 2) (by decide) (by decide) (by decide) (by decide) (by rw [hml]; rfl) (argsL := [.long y2, .int w0, .int w1, .int v2]) (rest := [.long (((0 : Int64) + (own_term y0 w0 w1 v0)) + (own_term y1 w0 w1 v1))]) (lenOf pd_6 rfl) rfl rfl (Nat.le_of_eq rfl) (hb hby at_214) (pc' := 217) rfl ?_
    intro T113 v113 L113 X113 hQ113
    obtain ⟨rfl, Nq113, eh113⟩ := hQ113
    have N113 := Fr.app N112 Nq113
    show Goes p e below _ (T113.setTop (mkF m 217 #[.val (.long p0), .second, .val (.long p1), .second, .val (.long p2), .second, .val (.int p3), .val (.int p4), .val (.long y0), .second, .val (.long y1), .second, .val (.long y2), .second, .val (.int v0), .val (.int v1), .val (.int v2), .val (.int (3 : Int32)), .val (.int w0), .val (.int w1), .val (.ref o85), .val (.ref o89), .val (.ref o94), .val (.ref o99), .val (.double gt110), .second, .val (.long (((0 : Int64) + (own_term y0 w0 w1 v0)) + (own_term y1 w0 w1 v1))), .second] [.long (own_term y2 w0 w1 v2), .long (((0 : Int64) + (own_term y0 w0 w1 v0)) + (own_term y1 w0 w1 v1))]))
    refine s_ladd X113 hx (hb hby at_217) (pc' := 218) rfl ?_
    refine s_lstore X113 hx #[.val (.long p0), .second, .val (.long p1), .second, .val (.long p2), .second, .val (.int p3), .val (.int p4), .val (.long y0), .second, .val (.long y1), .second, .val (.long y2), .second, .val (.int v0), .val (.int v1), .val (.int v2), .val (.int (3 : Int32)), .val (.int w0), .val (.int w1), .val (.ref o85), .val (.ref o89), .val (.ref o94), .val (.ref o99), .val (.double gt110), .second, .val (.long ((((0 : Int64) + (own_term y0 w0 w1 v0)) + (own_term y1 w0 w1 v1)) + (own_term y2 w0 w1 v2))), .second] (hb hby at_218) (pc' := 220) rfl rfl ?_
    refine s_dload X113 hx (hb hby at_220) (pc' := 222) rfl rfl ?_
    refine s_lload X113 hx (hb hby at_222) (pc' := 224) rfl rfl ?_
    refine s_l2d X113 hx (hb hby at_224) (pc' := 225) rfl ?_
    have tt0 := own_term_t (i := y0) bw0 bw1 bv0
    have tb0 := own_t_le (i := y0) bw0 bw1 bv0
    have tt1 := own_term_t (i := y1) bw0 bw1 bv1
    have tb1 := own_t_le (i := y1) bw0 bw1 bv1
    have tt2 := own_term_t (i := y2) bw0 bw1 bv2
    have tb2 := own_t_le (i := y2) bw0 bw1 bv2
    have s0_ : (0 : Int64).toInt = 0 := rfl
    have s1_ : ((0 : Int64) + own_term y0 w0 w1 v0).toInt = (0 : Int64).toInt + own_t y0 w0.toInt w1.toInt v0.toInt := by rw [own_ladd (by omega) (by omega), tt0]
    have s2_ : (((0 : Int64) + own_term y0 w0 w1 v0) + own_term y1 w0 w1 v1).toInt = ((0 : Int64) + own_term y0 w0 w1 v0).toInt + own_t y1 w0.toInt w1.toInt v1.toInt := by rw [own_ladd (by omega) (by omega), tt1]
    have s3_ : ((((0 : Int64) + own_term y0 w0 w1 v0) + own_term y1 w0 w1 v1) + own_term y2 w0 w1 v2).toInt = (((0 : Int64) + own_term y0 w0 w1 v0) + own_term y1 w0 w1 v1).toInt + own_t y2 w0.toInt w1.toInt v2.toInt := by rw [own_ladd (by omega) (by omega), tt2]
    have de : FP.Core.DInt (own_t y0 w0.toInt w1.toInt v0.toInt + (own_t y1 w0.toInt w1.toInt v1.toInt + (own_t y2 w0.toInt w1.toInt v2.toInt + 0))) (FP.l2d ((((0 : Int64) + own_term y0 w0 w1 v0) + own_term y1 w0 w1 v1) + own_term y2 w0 w1 v2)) := by
      have h := FP.Core.l2d_int (a := ((((0 : Int64) + own_term y0 w0 w1 v0) + own_term y1 w0 w1 v1) + own_term y2 w0 w1 v2)) (by omega)
      rw [show ((((0 : Int64) + own_term y0 w0 w1 v0) + own_term y1 w0 w1 v1) + own_term y2 w0 w1 v2).toInt = (own_t y0 w0.toInt w1.toInt v0.toInt + (own_t y1 w0.toInt w1.toInt v1.toInt + (own_t y2 w0.toInt w1.toInt v2.toInt + 0))) by omega] at h; exact h
    refine s_dcmp X113 hx (0 : Int32) (hb hby at_225) (pc' := 226) rfl (own_same dg110 de _) ?_
    refine s_ifN X113 hx (hb hby at_226) (pc' := 229) rfl (by decide) ?_
    refine s_iconst X113 hx (1 : Int32) (hb hby at_229) (pc' := 230) rfl rfl ?_
    refine s_goto X113 hx (hb hby at_230) (by decide) (pc' := 234) (by decide) ?_
    exact s_retI X113 hx hlk hret (hb hby at_234) rfl (Or.inl ⟨rfl, by simp, _, rfl⟩) (by decide) (by decide) ⟨rfl, N113⟩
set_option maxRecDepth 65536 in
set_option maxHeartbeats 40000000 in
theorem comes_1 {Post : Tables → Env → Array Value → State → Outcome → State → Prop} (hpost : ∀ tb e args s v u, (limb_1_1.after args s (.returned v) u = true ∧ limb_1_2.after args s (.returned v) u = true ∧ True) → FrameEnd s (.returned v) u (Jvm.fieldLocs frame_1_writes args s ++ Jvm.arrayLocs frame_1_arrays args s ++ Jvm.staticLocs frame_1_statics s) 24 128 → Post tb e args s (.returned v) u) :
    ArmFor flags0 classFile x code maxLocals ret World_1 tables_1 room_1 Calls_1 rest_1 Pre_1 Post := by
  intro l hfl _ _ p e ha hc hk s m args below hf hA hF happ hP
  obtain ⟨hcalls, hrest, hpre⟩ := hP
  obtain ⟨-, -, -, hnamed, -, -, -, hat⟩ := (Spec.applies_iff hf).mp happ
  obtain ⟨hg, hn⟩ := and_e (Cond.before_iff.mp (show (Jvm.Cond.and given_1 narrow_1).before args s = true from hpre))
  obtain ⟨g0, gr0⟩ := and_e hg
  obtain ⟨g1, gr1⟩ := and_e gr0
  obtain ⟨g2, gr2⟩ := and_e gr1
  obtain ⟨g3, gr3⟩ := and_e gr2
  obtain ⟨g4, gr4⟩ := and_e gr3
  obtain ⟨w0, w1, w2, w3, w4, rfl⟩ : ∃ w0 w1 w2 w3 w4 : Value, args = #[w0, w1, w2, w3, w4] := by
    have hs : args.size = 5 := by simpa [Cond.value, given_1] using g0
    obtain ⟨L⟩ := args
    match L, hs with
    | [w0, w1, w2, w3, w4], _ => exact ⟨w0, w1, w2, w3, w4, rfl⟩
  have hw := fun d (hd : d ∈ tables_1) => atoms_spec (ws := Jvm.Cond.code x code maxLocals ret :: tables_1) hat d (List.mem_cons_of_mem _ hd)
  have hfit : Fit s := fun {y c} hc i hi => by
    obtain ⟨ha, rfl⟩ := Array.getElem?_eq_some_iff.mp hc
    have q := List.all_eq_true.mp ((Array.all_eq_true_iff_forall_mem.mp hF) _ (Array.getElem_mem ha)) i (List.mem_range.mpr hi)
    simpa [Array.getElem?_eq_getElem hi] using q
  obtain ⟨i0, q0⟩ := isL_v g1
  obtain rfl : w0 = (.long i0) := Option.some.inj q0
  obtain ⟨i1, q1⟩ := isL_v g2
  obtain rfl : w1 = (.long i1) := Option.some.inj q1
  obtain ⟨i2, q2⟩ := isL_v g3
  obtain rfl : w2 = (.long i2) := Option.some.inj q2
  obtain ⟨i3, q3⟩ := is_v g4
  obtain rfl : w3 = (.int i3) := Option.some.inj q3
  obtain ⟨i4, q4⟩ := is_v gr4
  obtain rfl : w4 = (.int i4) := Option.some.inj q4
  obtain ⟨n, o, h1, h2, h3, _, L, rfl, ⟨rfl, N⟩, hq⟩ := rm_0 l s _ hw tables_1 i0 i1 i2 i3 i4 s.heap s.heap.size (Nat.le_refl _)  p e ha hc hk s m _ below hf ((Spec.applies_iff_loose hf).mp happ).1 ⟨rfl, State.Warmed39.refl s, rfl⟩ trivial
  refine ⟨n, _, h1, h2, h3, hpost _ _ _ _ _ _ ⟨Cond.after_iff.mpr rfl, Cond.after_iff.mpr (eq_i res_at (Term.int_eval (1)) rfl), trivial⟩ ⟨hq.1, hq.2.1, (hq.2.2.sift fun y hy => Or.inr (N y hy)).mono (by decide) (by decide)⟩⟩
theorem main_1_1 : Claimed_1_1 := comes_1 fun _ _ _ _ _ _ h hF => ⟨h.1, hF⟩
theorem main_1_2 : Claimed_1_2 := comes_1 fun _ _ _ _ _ _ h hF => ⟨h.2.1, hF⟩
end Jvm.Pilot.@@N@@
namespace Jvm.Pilot.@@N@@
open Jvm Jvm.ClassFile Sem Op Lib Jvm.Free Jvm.Stand Jvm.Pilot.@@N@@.Jvm.D
/-! MADE BY PROGRAM (witnessworld.py) out of the Statement's table words and the real class files: 16 classes; the members and pool entries that the words name. The judged class is class 1, her method 3. -/
namespace start1
open Jvm.ClassFile
def u (s : String) : CpInfo := .utf8 (stringToUtf16 s)
/-- a pool by its gaps: so many unusable entries, then the entry; so many at the end -/
def gap : Nat → List CpInfo → List CpInfo
  | 0, r => r
  | n + 1, r => .unusable :: gap n r
def poolList (es : List (Nat × CpInfo)) (last : Nat) : List CpInfo := es.foldr (fun e r => gap e.1 (e.2 :: r)) (gap last [])
def pool (es : List (Nat × CpInfo)) (last : Nat) : Array CpInfo := ⟨poolList es last⟩
def fileOf (pool : Array CpInfo) (this : Nat) (attrs : Array Attribute := #[]) (ms : Array MethodInfo := #[]) (fl : Nat := 33) (sup : Nat := 0) (ifs : Array Nat := #[]) (fds : Array FieldInfo := #[]) : ClassFile where
  minorVersion := 0
  majorVersion := 65
  constantPool := pool
  accessFlags := fl
  thisClass := this
  superClass := sup
  interfaces := ifs
  fields := fds
  methods := ms
  attributes := attrs
def plain (name : String) (sup : Option ClassId) : Class where
  name := name
  kind := .ordinary
  loader := none
  accessFlags := 33
  super := sup
  interfaces := #[]
  cf := none
  fields := #[]
  methods := #[]
  instanceTypes := #[]
  staticTypes := #[]
  resolved := #[]
  callSites := []
  init := .initialized
  statics := none
  mirror := none

def pool0 : Array CpInfo := pool [(5, u "<init>"), (0, u "()V"), (1, .class_ 10), (1, u "java/lang/Object"), (85, u "clone"), (0, u "()Ljava/lang/Object;")] 26

def k0c0 : Code := { maxStack := 0, maxLocals := 1, code := object_method_1_code, exceptionTable := #[], attributes := #[] }
def k0m0 : Method := { name := "<init>", desc := "()V", sig := { parameters := [], returnType := none }, accessFlags := 1, code := some k0c0 }
def k0m1 : Method := { name := "clone", desc := "()Ljava/lang/Object;", sig := { parameters := [], returnType := some (.object "java/lang/Object") }, accessFlags := 260, code := none }
/-- java/lang/Object -/
def k0 : Class := { plain "java/lang/Object" none with
  accessFlags := 33
  interfaces := #[]
  cf := some (fileOf pool0 8 #[] #[{ accessFlags := 1, nameIndex := 5, descriptorIndex := 6, attributes := #[] }, { accessFlags := 260, nameIndex := 96, descriptorIndex := 97, attributes := #[] }] 33 0 #[] #[])
  fields := #[]
  methods := #[k0m0, k0m1]
  instanceTypes := #[]
  staticTypes := #[]
  resolved := Array.replicate 124 none
  statics := none }

def pool1 : Array CpInfo := pool [(2, .class_ 4), (1, u "java/lang/Object"), (0, u "<init>"), (0, u "()V"), (0, .long 3), (1, .methodref 10 11), (0, .class_ 12), (0, .nameAndType 13 14), (0, u "com/example/tesserae/tesserae/data/ExampleDotPinLaw"), (0, u "idx"), (0, u "(J)J"), (0, .class_ 16), (0, u "com/example/tesserae/tesserae/data/Example"), (0, .methodref 15 18), (0, .nameAndType 5 19), (0, u "(D[J[DI)V"), (0, .methodref 15 21), (0, .nameAndType 22 23), (0, u "dot"), (0, u "([D)D"), (0, .methodref 10 25), (0, .nameAndType 26 27), (0, u "term"), (0, u "(JIII)J"), (3, u "law"), (0, u "(JJJII)Z")] 6

def k1m0 : Method := { name := "<init>", desc := "()V", sig := { parameters := [], returnType := none }, accessFlags := 1, code := none }
def k1c1 : Code := { maxStack := 4, maxLocals := 2, code := method_2_code, exceptionTable := #[], attributes := #[] }
def k1m1 : Method := { name := "idx", desc := "(J)J", sig := { parameters := [.long], returnType := some .long }, accessFlags := 10, code := some k1c1 }
def k1c2 : Code := { maxStack := 4, maxLocals := 5, code := method_3_code, exceptionTable := #[], attributes := #[] }
def k1m2 : Method := { name := "term", desc := "(JIII)J", sig := { parameters := [.long, .int, .int, .int], returnType := some .long }, accessFlags := 10, code := some k1c2 }
def k1c3 : Code := { maxStack := 7, maxLocals := 28, code := code, exceptionTable := #[], attributes := #[] }
def k1m3 : Method := { name := "law", desc := "(JJJII)Z", sig := { parameters := [.long, .long, .long, .int, .int], returnType := some .boolean }, accessFlags := 9, code := some k1c3 }
/-- com/example/tesserae/tesserae/data/ExampleDotPinLaw -/
def k1 : Class := { plain "com/example/tesserae/tesserae/data/ExampleDotPinLaw" (some 0) with
  accessFlags := 49
  interfaces := #[]
  cf := some (fileOf pool1 10 #[] #[{ accessFlags := 1, nameIndex := 5, descriptorIndex := 6, attributes := #[] }, { accessFlags := 10, nameIndex := 13, descriptorIndex := 14, attributes := #[] }, { accessFlags := 10, nameIndex := 26, descriptorIndex := 27, attributes := #[] }, { accessFlags := 9, nameIndex := 31, descriptorIndex := 32, attributes := #[] }] 49 2 #[] #[])
  fields := #[]
  methods := #[k1m0, k1m1, k1m2, k1m3]
  instanceTypes := #[]
  staticTypes := #[]
  resolved := Array.replicate 39 none
  statics := none }

def pool2 : Array CpInfo := pool [(2, .class_ 4), (1, u "com/example/tesserae/tesserae/data/Example"), (4, u "<init>"), (0, u "(D[J[DI)V"), (0, .methodref 12 13), (0, .class_ 14), (0, .nameAndType 9 15), (0, u "java/lang/Object"), (0, u "()V"), (0, .fieldref 2 17), (0, .nameAndType 18 19), (0, u "label"), (0, u "D"), (0, .methodref 21 22), (0, .class_ 23), (0, .nameAndType 24 25), (0, u "java/util/Arrays"), (0, u "copyOf"), (0, u "([JI)[J"), (0, .fieldref 2 27), (0, .nameAndType 28 29), (0, u "indexes"), (0, u "[J"), (0, .methodref 21 31), (0, .nameAndType 24 32), (0, u "([DI)[D"), (0, .fieldref 2 34), (0, .nameAndType 35 36), (0, u "values"), (0, u "[D"), (63, u "dot"), (0, u "([D)D")] 19

def k2c0 : Code := { maxStack := 3, maxLocals := 6, code := prog_13_method_2_code, exceptionTable := #[], attributes := #[] }
def k2m0 : Method := { name := "<init>", desc := "(D[J[DI)V", sig := { parameters := [.double, (.array .long), (.array .double), .int], returnType := none }, accessFlags := 0, code := some k2c0 }
def k2c1 : Code := { maxStack := 6, maxLocals := 5, code := prog_13_method_8_code, exceptionTable := #[], attributes := #[] }
def k2m1 : Method := { name := "dot", desc := "([D)D", sig := { parameters := [(.array .double)], returnType := some .double }, accessFlags := 1, code := some k2c1 }
/-- com/example/tesserae/tesserae/data/Example -/
def k2 : Class := { plain "com/example/tesserae/tesserae/data/Example" (some 0) with
  accessFlags := 33
  interfaces := #[]
  cf := some (fileOf pool2 2 #[] #[{ accessFlags := 0, nameIndex := 9, descriptorIndex := 10, attributes := #[] }, { accessFlags := 1, nameIndex := 100, descriptorIndex := 101, attributes := #[] }] 33 12 #[] #[{ accessFlags := 18, nameIndex := 18, descriptorIndex := 19, attributes := #[] }, { accessFlags := 18, nameIndex := 28, descriptorIndex := 29, attributes := #[] }, { accessFlags := 18, nameIndex := 35, descriptorIndex := 36, attributes := #[] }])
  fields := #[{ name := "label", type := .double, accessFlags := 18, slot := 0, constantValue := 0 }, { name := "indexes", type := (.array .long), accessFlags := 18, slot := 1, constantValue := 0 }, { name := "values", type := (.array .double), accessFlags := 18, slot := 2, constantValue := 0 }]
  methods := #[k2m0, k2m1]
  instanceTypes := #[.double, (.array .long), (.array .double)]
  staticTypes := #[]
  resolved := Array.replicate 121 none
  statics := none }

def pool3 : Array CpInfo := pool [(2, .class_ 4), (1, u "java/lang/Object"), (0, u "<init>"), (0, u "()V"), (7, .class_ 16), (1, u "java/util/Arrays"), (57, .class_ 76), (1, u "java/util/Arrays$NaturalOrder"), (32, u "()Ljava/lang/Object;"), (3, .class_ 115), (1, u "java/util/Arrays$LegacyMergeSort"), (1, u "Z"), (10, .nameAndType 129 109), (0, u "clone"), (20, .methodref 151 152), (0, .class_ 153), (0, .nameAndType 154 155), (0, u "java/lang/System"), (0, u "arraycopy"), (0, u "(Ljava/lang/Object;ILjava/lang/Object;II)V"), (146, u "copyOf"), (1, .methodref 305 306), (0, .class_ 307), (0, .nameAndType 308 309), (0, u "java/lang/Math"), (0, u "min"), (0, u "(II)I"), (9, .methodref 320 128), (0, .class_ 321), (0, u "[J"), (6, .methodref 329 128), (0, .class_ 330), (0, u "[D"), (44, .class_ 376), (0, u "java/util/Arrays$ArrayList"), (68, u "$assertionsDisabled"), (269, u "MIN_ARRAY_SORT_GRAN"), (0, u "I"), (2, u "INSERTIONSORT_THRESHOLD"), (152, u "([JI)[J"), (2, u "([DI)[D"), (99, .class_ 976), (0, u "java/util/Arrays$ArrayItr")] 52

def k3m0 : Method := { name := "<init>", desc := "()V", sig := { parameters := [], returnType := none }, accessFlags := 2, code := none }
def k3c1 : Code := { maxStack := 6, maxLocals := 3, code := jdk_65_method_124_code, exceptionTable := #[], attributes := #[] }
def k3m1 : Method := { name := "copyOf", desc := "([JI)[J", sig := { parameters := [(.array .long), .int], returnType := some (.array .long) }, accessFlags := 9, code := some k3c1 }
def k3c2 : Code := { maxStack := 6, maxLocals := 3, code := jdk_65_method_127_code, exceptionTable := #[], attributes := #[] }
def k3m2 : Method := { name := "copyOf", desc := "([DI)[D", sig := { parameters := [(.array .double), .int], returnType := some (.array .double) }, accessFlags := 9, code := some k3c2 }
/-- java/util/Arrays -/
def k3 : Class := { plain "java/util/Arrays" (some 0) with
  accessFlags := 49
  interfaces := #[]
  cf := some (fileOf pool3 14 #[.nestMembers #[975, 375, 113, 74]] #[{ accessFlags := 2, nameIndex := 5, descriptorIndex := 6, attributes := #[] }, { accessFlags := 9, nameIndex := 302, descriptorIndex := 872, attributes := #[] }, { accessFlags := 9, nameIndex := 302, descriptorIndex := 875, attributes := #[] }] 49 2 #[] #[{ accessFlags := 26, nameIndex := 715, descriptorIndex := 716, attributes := #[] }, { accessFlags := 26, nameIndex := 719, descriptorIndex := 716, attributes := #[] }, { accessFlags := 4120, nameIndex := 445, descriptorIndex := 117, attributes := #[] }])
  fields := #[{ name := "MIN_ARRAY_SORT_GRAN", type := .int, accessFlags := 26, slot := 0, constantValue := 0 }, { name := "INSERTIONSORT_THRESHOLD", type := .int, accessFlags := 26, slot := 1, constantValue := 0 }, { name := "$assertionsDisabled", type := .boolean, accessFlags := 4120, slot := 2, constantValue := 0 }]
  methods := #[k3m0, k3m1, k3m2]
  instanceTypes := #[]
  staticTypes := #[.int, .int, .boolean]
  resolved := Array.replicate 1029 none
  statics := none }

def pool4 : Array CpInfo := pool [(1, .class_ 2), (0, u "java/lang/Math"), (1, .class_ 6), (1, u "java/lang/Object"), (0, u "<init>"), (0, u "()V"), (89, .class_ 100), (1, u "java/lang/Math$RandomNumberGeneratorHolder"), (71, u "negativeZeroFloatBits"), (0, u "J"), (2, u "negativeZeroDoubleBits"), (24, u "min"), (43, u "$assertionsDisabled"), (0, u "Z"), (88, u "(II)I"), (2, u "twoToTheDoubleScaleDown"), (0, u "D"), (4, u "twoToTheDoubleScaleUp"), (9, u "E"), (3, u "PI"), (2, u "TAU"), (2, u "DEGREES_TO_RADIANS"), (0, u "RADIANS_TO_DEGREES")] 94

def k4m0 : Method := { name := "<init>", desc := "()V", sig := { parameters := [], returnType := none }, accessFlags := 2, code := none }
def k4c1 : Code := { maxStack := 2, maxLocals := 2, code := jdk_29_method_69_code, exceptionTable := #[], attributes := #[] }
def k4m1 : Method := { name := "min", desc := "(II)I", sig := { parameters := [.int, .int], returnType := some .int }, accessFlags := 9, code := some k4c1 }
/-- java/lang/Math -/
def k4 : Class := { plain "java/lang/Math" (some 0) with
  accessFlags := 49
  interfaces := #[]
  cf := some (fileOf pool4 1 #[.nestMembers #[98]] #[{ accessFlags := 2, nameIndex := 7, descriptorIndex := 8, attributes := #[] }, { accessFlags := 9, nameIndex := 201, descriptorIndex := 335, attributes := #[] }] 49 4 #[] #[{ accessFlags := 25, nameIndex := 354, descriptorIndex := 339, attributes := #[] }, { accessFlags := 25, nameIndex := 358, descriptorIndex := 339, attributes := #[] }, { accessFlags := 25, nameIndex := 361, descriptorIndex := 339, attributes := #[] }, { accessFlags := 26, nameIndex := 364, descriptorIndex := 339, attributes := #[] }, { accessFlags := 26, nameIndex := 365, descriptorIndex := 339, attributes := #[] }, { accessFlags := 26, nameIndex := 172, descriptorIndex := 173, attributes := #[] }, { accessFlags := 26, nameIndex := 176, descriptorIndex := 173, attributes := #[] }, { accessFlags := 8, nameIndex := 344, descriptorIndex := 339, attributes := #[] }, { accessFlags := 8, nameIndex := 338, descriptorIndex := 339, attributes := #[] }, { accessFlags := 4120, nameIndex := 245, descriptorIndex := 246, attributes := #[] }])
  fields := #[{ name := "E", type := .double, accessFlags := 25, slot := 0, constantValue := 0 }, { name := "PI", type := .double, accessFlags := 25, slot := 1, constantValue := 0 }, { name := "TAU", type := .double, accessFlags := 25, slot := 2, constantValue := 0 }, { name := "DEGREES_TO_RADIANS", type := .double, accessFlags := 26, slot := 3, constantValue := 0 }, { name := "RADIANS_TO_DEGREES", type := .double, accessFlags := 26, slot := 4, constantValue := 0 }, { name := "negativeZeroFloatBits", type := .long, accessFlags := 26, slot := 5, constantValue := 0 }, { name := "negativeZeroDoubleBits", type := .long, accessFlags := 26, slot := 6, constantValue := 0 }, { name := "twoToTheDoubleScaleUp", type := .double, accessFlags := 8, slot := 7, constantValue := 0 }, { name := "twoToTheDoubleScaleDown", type := .double, accessFlags := 8, slot := 8, constantValue := 0 }, { name := "$assertionsDisabled", type := .boolean, accessFlags := 4120, slot := 9, constantValue := 0 }]
  methods := #[k4m0, k4m1]
  instanceTypes := #[]
  staticTypes := #[.double, .double, .double, .double, .double, .long, .long, .double, .double, .boolean]
  resolved := Array.replicate 460 none
  statics := none }

def pool5 : Array CpInfo := pool [(2, .class_ 4), (1, u "java/lang/Object"), (0, u "<init>"), (0, u "()V"), (1, .class_ 10), (1, u "java/lang/System"), (0, u "allowSecurityManager"), (0, u "I"), (16, u "cons"), (0, u "Ljava/io/Console;"), (77, .class_ 110), (1, u "java/lang/System$CallersHolder"), (43, u "initialErrStream"), (0, u "Ljava/io/PrintStream;"), (19, u "security"), (0, u "Ljava/lang/SecurityManager;"), (31, .class_ 209), (0, u "java/lang/System$1"), (7, u "props"), (0, u "Ljava/util/Properties;"), (2, u "lineSeparator"), (0, u "Ljava/lang/String;"), (96, .class_ 321), (1, u "java/lang/System$LoggerFinder"), (5, .class_ 328), (0, u "java/lang/System$Logger"), (67, u "err"), (2, u "out"), (91, u "notSupportedJnuEncoding"), (15, u "in"), (17, u "initialIn"), (0, u "Ljava/io/InputStream;"), (35, u "bootLayer"), (0, u "Ljava/lang/ModuleLayer;"), (99, .class_ 664), (0, u "java/lang/System$2"), (9, u "NEVER"), (2, u "MAYBE"), (49, u "arraycopy"), (0, u "(Ljava/lang/Object;ILjava/lang/Object;II)V"), (72, .class_ 802), (0, u "java/lang/System$Logger$Level")] 31

def k5m0 : Method := { name := "<init>", desc := "()V", sig := { parameters := [], returnType := none }, accessFlags := 2, code := none }
def k5m1 : Method := { name := "arraycopy", desc := "(Ljava/lang/Object;ILjava/lang/Object;II)V", sig := { parameters := [(.object "java/lang/Object"), .int, (.object "java/lang/Object"), .int, .int], returnType := none }, accessFlags := 265, code := none }
/-- java/lang/System -/
def k5 : Class := { plain "java/lang/System" (some 0) with
  accessFlags := 49
  interfaces := #[]
  cf := some (fileOf pool5 8 #[.nestMembers #[319, 327, 801, 108, 663, 208]] #[{ accessFlags := 2, nameIndex := 5, descriptorIndex := 6, attributes := #[] }, { accessFlags := 265, nameIndex := 727, descriptorIndex := 728, attributes := #[] }] 49 2 #[] #[{ accessFlags := 25, nameIndex := 507, descriptorIndex := 526, attributes := #[] }, { accessFlags := 25, nameIndex := 399, descriptorIndex := 155, attributes := #[] }, { accessFlags := 25, nameIndex := 396, descriptorIndex := 155, attributes := #[] }, { accessFlags := 10, nameIndex := 525, descriptorIndex := 526, attributes := #[] }, { accessFlags := 26, nameIndex := 674, descriptorIndex := 12, attributes := #[] }, { accessFlags := 26, nameIndex := 677, descriptorIndex := 12, attributes := #[] }, { accessFlags := 10, nameIndex := 11, descriptorIndex := 12, attributes := #[] }, { accessFlags := 74, nameIndex := 175, descriptorIndex := 176, attributes := #[] }, { accessFlags := 10, nameIndex := 491, descriptorIndex := 222, attributes := #[] }, { accessFlags := 74, nameIndex := 29, descriptorIndex := 30, attributes := #[] }, { accessFlags := 74, nameIndex := 154, descriptorIndex := 155, attributes := #[] }, { accessFlags := 10, nameIndex := 217, descriptorIndex := 218, attributes := #[] }, { accessFlags := 10, nameIndex := 221, descriptorIndex := 222, attributes := #[] }, { accessFlags := 8, nameIndex := 562, descriptorIndex := 563, attributes := #[] }])
  fields := #[{ name := "in", type := (.object "java/io/InputStream"), accessFlags := 25, slot := 0, constantValue := 0 }, { name := "out", type := (.object "java/io/PrintStream"), accessFlags := 25, slot := 1, constantValue := 0 }, { name := "err", type := (.object "java/io/PrintStream"), accessFlags := 25, slot := 2, constantValue := 0 }, { name := "initialIn", type := (.object "java/io/InputStream"), accessFlags := 10, slot := 3, constantValue := 0 }, { name := "NEVER", type := .int, accessFlags := 26, slot := 4, constantValue := 0 }, { name := "MAYBE", type := .int, accessFlags := 26, slot := 5, constantValue := 0 }, { name := "allowSecurityManager", type := .int, accessFlags := 10, slot := 6, constantValue := 0 }, { name := "security", type := (.object "java/lang/SecurityManager"), accessFlags := 74, slot := 7, constantValue := 0 }, { name := "notSupportedJnuEncoding", type := (.object "java/lang/String"), accessFlags := 10, slot := 8, constantValue := 0 }, { name := "cons", type := (.object "java/io/Console"), accessFlags := 74, slot := 9, constantValue := 0 }, { name := "initialErrStream", type := (.object "java/io/PrintStream"), accessFlags := 74, slot := 10, constantValue := 0 }, { name := "props", type := (.object "java/util/Properties"), accessFlags := 10, slot := 11, constantValue := 0 }, { name := "lineSeparator", type := (.object "java/lang/String"), accessFlags := 10, slot := 12, constantValue := 0 }, { name := "bootLayer", type := (.object "java/lang/ModuleLayer"), accessFlags := 8, slot := 13, constantValue := 0 }]
  methods := #[k5m0, k5m1]
  instanceTypes := #[]
  staticTypes := #[(.object "java/io/InputStream"), (.object "java/io/PrintStream"), (.object "java/io/PrintStream"), (.object "java/io/InputStream"), .int, .int, .int, (.object "java/lang/SecurityManager"), (.object "java/lang/String"), (.object "java/io/Console"), (.object "java/io/PrintStream"), (.object "java/util/Properties"), (.object "java/lang/String"), (.object "java/lang/ModuleLayer")]
  resolved := Array.replicate 834 none
  statics := none }

def pool6 : Array CpInfo := pool [(1, .class_ 2), (0, u "java/lang/Cloneable"), (0, .class_ 4), (0, u "java/lang/Object")] 2

/-- java/lang/Cloneable -/
def k6 : Class := { plain "java/lang/Cloneable" (some 0) with
  accessFlags := 1537
  interfaces := #[]
  cf := some (fileOf pool6 1 #[] #[] 1537 3 #[] #[])
  fields := #[]
  methods := #[]
  instanceTypes := #[]
  staticTypes := #[]
  resolved := Array.replicate 7 none
  statics := none }

def pool7 : Array CpInfo := pool [(1, u "java/io/Serializable"), (0, .class_ 1), (0, u "java/lang/Object"), (0, .class_ 3)] 3

/-- java/io/Serializable -/
def k7 : Class := { plain "java/io/Serializable" (some 0) with
  accessFlags := 1537
  interfaces := #[]
  cf := some (fileOf pool7 2 #[] #[] 1537 4 #[] #[])
  fields := #[]
  methods := #[]
  instanceTypes := #[]
  staticTypes := #[]
  resolved := Array.replicate 8 none
  statics := none }

/-- the primitive byte -/
def k8 : Class := { plain "byte" none with kind := .primitive 'B', accessFlags := 0x411 }
/-- [B -/
def k9 : Class := { plain "[B" (some 0) with kind := .array 8 .byte, interfaces := #[6, 7], accessFlags := 1041 }

/-- the primitive double -/
def k10 : Class := { plain "double" none with kind := .primitive 'D', accessFlags := 0x411 }
/-- [D -/
def k11 : Class := { plain "[D" (some 0) with kind := .array 10 .double, interfaces := #[6, 7], accessFlags := 1041 }

/-- the primitive int -/
def k12 : Class := { plain "int" none with kind := .primitive 'I', accessFlags := 0x411 }
/-- [I -/
def k13 : Class := { plain "[I" (some 0) with kind := .array 12 .int, interfaces := #[6, 7], accessFlags := 1041 }

/-- the primitive long -/
def k14 : Class := { plain "long" none with kind := .primitive 'J', accessFlags := 0x411 }
/-- [J -/
def k15 : Class := { plain "[J" (some 0) with kind := .array 14 .long, interfaces := #[6, 7], accessFlags := 1041 }

def heap : Heap := #[]
def classes : Array Class := #[k0, k1, k2, k3, k4, k5, k6, k7, k8, k9, k10, k11, k12, k13, k14, k15]
def interned : List (Array UInt16 × Addr) := []
def slotsUsed : Nat := 0
def theMethod : MethodId := ⟨1, 3⟩
def args0 : Array Value := #[.long 5, .long 6, .long 7, .int 8, .int 9]
def aboutOver (below : List Frame) : State where
  vm := { classes := classes, interned := interned.toArray }
  heap := heap
  slotsUsed := slotsUsed
  threads := #[{ frames := .invoking theMethod args0 :: below }]
def below0 : List Frame := [.native { method := ⟨0, 0⟩, args := #[] }]
def about1 : State := aboutOver below0
def p0 : Program := .bare "" "" ""
def e0 : Env := launch0.env 0 0 0
theorem w_frames : about1.frames = Frame.invoking theMethod args0 :: below0 := rfl
set_option maxRecDepth 65536 in
theorem w_args : argsFit about1.vm theMethod args0 = true := by decide +kernel
set_option maxRecDepth 65536 in
theorem w_heap : heapFits about1 = true := by decide +kernel
set_option maxRecDepth 65536 in
theorem w_runnable : about1.curStatus? = some .runnable := by decide +kernel
set_option maxRecDepth 65536 in
theorem w_alone : about1.alone = true := by decide +kernel
set_option maxRecDepth 65536 in
theorem w_named : about1.methodNamed? x = some theMethod := by decide +kernel
set_option maxRecDepth 65536 in
theorem w_hears : about1.hears theMethod below0 = true := by decide +kernel
set_option maxRecDepth 65536 in
theorem w_ripe : about1.ripe theMethod args0 below0 = true := by decide +kernel
theorem w_running : about1.status = .running := rfl
set_option maxRecDepth 65536 in
theorem w_room : about1.hasRoom e0.platform room_1 = true :=
  launch0.hasRoom_least _ room_1 (by decide +kernel) (by decide +kernel) (by decide +kernel) (by decide +kernel) (by decide +kernel) (by decide +kernel)
theorem allAtoms_all (ts : List Jvm.Cond) (a : Array Jvm.Value) (st : Jvm.State) : (allAtoms ts).before a st = ts.all (fun c => c.before a st) := by
  induction ts with
  | nil => rfl
  | cons c t ih =>
    show (Jvm.Cond.and c (allAtoms t)).before a st = _
    rw [Jvm.Cond.before_and, ih, List.all_cons]
def words1 : List Jvm.Cond := Jvm.Cond.code x code maxLocals ret :: tables_1
/-- a 'code' word, met by the world's own term for the bytes: nothing is compared byte by byte -/
theorem code_word {y : MethodName} {bytes : ByteArray} {mx : Nat} {rt : Option FieldType} {a : Array Value} {s : State} {m : MethodId} {meth : Method} {c : Code} (h1 : s.methodNamed? y = some m) (h2 : s.vm.method? m = some meth) (h3 : meth.code = some c) (h4 : c.code = bytes)
    (h5 : (c.maxLocals == mx && c.exceptionTable.isEmpty && decide (c.maxStack ≤ mostOperands) && decide (meth.sig.returnType = rt) && !meth.locks && decide (parseMethodDescriptor y.desc = some meth.sig)) = true) : (Jvm.Cond.code y bytes mx rt).before a s = true := by
  simp only [Bool.and_eq_true, beq_iff_eq, Bool.not_eq_true', decide_eq_true_eq] at h5
  obtain ⟨⟨⟨⟨⟨g1, g2⟩, g3⟩, g4⟩, g5⟩, g6⟩ := h5
  simp [Cond.before, Cond.holds, Cond.value, h1, h2, h3, h4, g1, g2, g3, g4, g5, g6]
def isCode : Jvm.Cond → Bool
  | .code _ _ _ _ => true
  | _ => false
theorem all_split {L : List Jvm.Cond} {P : Jvm.Cond → Bool} (h1 : L.all (fun c => isCode c || P c) = true) (h2 : ∀ c ∈ L.filter isCode, P c = true) : L.all P = true := by
  refine List.all_eq_true.mpr fun c hc => ?_
  have h := List.all_eq_true.mp h1 c hc
  rcases Bool.eq_false_or_eq_true (isCode c) with hi | hi
  · exact h2 c (List.mem_filter.mpr ⟨hc, hi⟩)
  · simpa [hi] using h
set_option maxRecDepth 65536 in
theorem w_c0 : (Jvm.Cond.code x code maxLocals ret).before args0 about1 = true := code_word (m := ⟨1, 3⟩) (meth := k1m3) (c := k1c3) (by decide +kernel) rfl rfl rfl (by decide +kernel)
set_option maxRecDepth 65536 in
theorem w_c1 : (Jvm.Cond.code ({ cls := "com/example/tesserae/tesserae/data/ExampleDotPinLaw", name := "idx", desc := "(J)J" } : Jvm.MethodName) method_2_code (2 : Nat) (Option.some Jvm.ClassFile.FieldType.long)).before args0 about1 = true := code_word (m := ⟨1, 1⟩) (meth := k1m1) (c := k1c1) (by decide +kernel) rfl rfl rfl (by decide +kernel)
set_option maxRecDepth 65536 in
theorem w_c2 : (Jvm.Cond.code ({ cls := "com/example/tesserae/tesserae/data/Example", name := "<init>", desc := "(D[J[DI)V" } : Jvm.MethodName) prog_13_method_2_code (6 : Nat) (Option.none : Option Jvm.ClassFile.FieldType)).before args0 about1 = true := code_word (m := ⟨2, 0⟩) (meth := k2m0) (c := k2c0) (by decide +kernel) rfl rfl rfl (by decide +kernel)
set_option maxRecDepth 65536 in
theorem w_c3 : (Jvm.Cond.code ({ cls := "java/lang/Object", name := "<init>", desc := "()V" } : Jvm.MethodName) object_method_1_code (1 : Nat) (Option.none : Option Jvm.ClassFile.FieldType)).before args0 about1 = true := code_word (m := ⟨0, 0⟩) (meth := k0m0) (c := k0c0) (by decide +kernel) rfl rfl rfl (by decide +kernel)
set_option maxRecDepth 65536 in
theorem w_c4 : (Jvm.Cond.code ({ cls := "java/util/Arrays", name := "copyOf", desc := "([JI)[J" } : Jvm.MethodName) jdk_65_method_124_code (3 : Nat) (Option.some (Jvm.ClassFile.FieldType.array Jvm.ClassFile.FieldType.long))).before args0 about1 = true := code_word (m := ⟨3, 1⟩) (meth := k3m1) (c := k3c1) (by decide +kernel) rfl rfl rfl (by decide +kernel)
set_option maxRecDepth 65536 in
theorem w_c5 : (Jvm.Cond.code ({ cls := "java/lang/Math", name := "min", desc := "(II)I" } : Jvm.MethodName) jdk_29_method_69_code (2 : Nat) (Option.some Jvm.ClassFile.FieldType.int)).before args0 about1 = true := code_word (m := ⟨4, 1⟩) (meth := k4m1) (c := k4c1) (by decide +kernel) rfl rfl rfl (by decide +kernel)
set_option maxRecDepth 65536 in
theorem w_c6 : (Jvm.Cond.code ({ cls := "java/util/Arrays", name := "copyOf", desc := "([DI)[D" } : Jvm.MethodName) jdk_65_method_127_code (3 : Nat) (Option.some (Jvm.ClassFile.FieldType.array Jvm.ClassFile.FieldType.double))).before args0 about1 = true := code_word (m := ⟨3, 2⟩) (meth := k3m2) (c := k3c2) (by decide +kernel) rfl rfl rfl (by decide +kernel)
set_option maxRecDepth 65536 in
theorem w_c7 : (Jvm.Cond.code ({ cls := "com/example/tesserae/tesserae/data/Example", name := "dot", desc := "([D)D" } : Jvm.MethodName) prog_13_method_8_code (5 : Nat) (Option.some Jvm.ClassFile.FieldType.double)).before args0 about1 = true := code_word (m := ⟨2, 1⟩) (meth := k2m1) (c := k2c1) (by decide +kernel) rfl rfl rfl (by decide +kernel)
set_option maxRecDepth 65536 in
theorem w_c8 : (Jvm.Cond.code ({ cls := "com/example/tesserae/tesserae/data/ExampleDotPinLaw", name := "term", desc := "(JIII)J" } : Jvm.MethodName) method_3_code (5 : Nat) (Option.some Jvm.ClassFile.FieldType.long)).before args0 about1 = true := code_word (m := ⟨1, 2⟩) (meth := k1m2) (c := k1c2) (by decide +kernel) rfl rfl rfl (by decide +kernel)
def codes1 : List Jvm.Cond := [Jvm.Cond.code x code maxLocals ret, Jvm.Cond.code ({ cls := "com/example/tesserae/tesserae/data/ExampleDotPinLaw", name := "idx", desc := "(J)J" } : Jvm.MethodName) method_2_code (2 : Nat) (Option.some Jvm.ClassFile.FieldType.long), Jvm.Cond.code ({ cls := "com/example/tesserae/tesserae/data/Example", name := "<init>", desc := "(D[J[DI)V" } : Jvm.MethodName) prog_13_method_2_code (6 : Nat) (Option.none : Option Jvm.ClassFile.FieldType), Jvm.Cond.code ({ cls := "java/lang/Object", name := "<init>", desc := "()V" } : Jvm.MethodName) object_method_1_code (1 : Nat) (Option.none : Option Jvm.ClassFile.FieldType), Jvm.Cond.code ({ cls := "java/util/Arrays", name := "copyOf", desc := "([JI)[J" } : Jvm.MethodName) jdk_65_method_124_code (3 : Nat) (Option.some (Jvm.ClassFile.FieldType.array Jvm.ClassFile.FieldType.long)), Jvm.Cond.code ({ cls := "java/lang/Math", name := "min", desc := "(II)I" } : Jvm.MethodName) jdk_29_method_69_code (2 : Nat) (Option.some Jvm.ClassFile.FieldType.int), Jvm.Cond.code ({ cls := "java/util/Arrays", name := "copyOf", desc := "([DI)[D" } : Jvm.MethodName) jdk_65_method_127_code (3 : Nat) (Option.some (Jvm.ClassFile.FieldType.array Jvm.ClassFile.FieldType.double)), Jvm.Cond.code ({ cls := "com/example/tesserae/tesserae/data/Example", name := "dot", desc := "([D)D" } : Jvm.MethodName) prog_13_method_8_code (5 : Nat) (Option.some Jvm.ClassFile.FieldType.double), Jvm.Cond.code ({ cls := "com/example/tesserae/tesserae/data/ExampleDotPinLaw", name := "term", desc := "(JIII)J" } : Jvm.MethodName) method_3_code (5 : Nat) (Option.some Jvm.ClassFile.FieldType.long)]
set_option maxRecDepth 65536 in
theorem codes_eq : words1.filter isCode = codes1 := rfl
theorem w_codes : ∀ c ∈ words1.filter isCode, c.before args0 about1 = true := by
  rw [codes_eq]
  intro c hc
  simp only [codes1, List.mem_cons, List.not_mem_nil, or_false] at hc
  rcases hc with rfl | rfl | rfl | rfl | rfl | rfl | rfl | rfl | rfl
  · exact w_c0
  · exact w_c1
  · exact w_c2
  · exact w_c3
  · exact w_c4
  · exact w_c5
  · exact w_c6
  · exact w_c7
  · exact w_c8
set_option maxRecDepth 65536 in
theorem w_t1 : (words1.take 24).all (fun c => isCode c || c.before args0 about1) = true := by decide +kernel
set_option maxRecDepth 65536 in
theorem w_t2 : ((words1.drop 24).take 24).all (fun c => isCode c || c.before args0 about1) = true := by decide +kernel
set_option maxRecDepth 65536 in
theorem w_t3 : ((words1.drop 24).drop 24).all (fun c => isCode c || c.before args0 about1) = true := by decide +kernel
theorem w_tables : (allAtoms (Jvm.Cond.code x code maxLocals ret :: tables_1)).before args0 about1 = true := by
  rw [allAtoms_all]
  show words1.all (fun c => c.before args0 about1) = true
  refine all_split ?_ w_codes
  rw [← List.take_append_drop 24 words1, List.all_append, w_t1, ← List.take_append_drop 24 (words1.drop 24), List.all_append, w_t2, w_t3]
  rfl
set_option maxRecDepth 65536 in
theorem w_case : (Jvm.Cond.and given_1 narrow_1).before args0 about1 = true := by decide +kernel
theorem w_applies : (headSpec (Jvm.Cond.code x code maxLocals ret :: tables_1) room_1).applies x e0.platform about1 = true :=
  (Spec.applies_iff w_frames).mpr ⟨w_running, w_runnable, w_alone, w_named, w_hears, w_ripe, w_room, w_tables⟩
theorem atStart : AtStart classFile x code maxLocals ret World_1 tables_1 room_1 Calls_1 rest_1 Pre_1 launch0 p0 e0 about1 theMethod args0 below0 :=
  ⟨lists_1, trivial, launch0.admits_env _ _ _, launch0.least_env, fairChoices_fair.cas, fairChoices_fair.clock, w_frames, w_args, w_heap, w_applies, trivial, trivial, w_case⟩
end start1
theorem witness_1 : WitnessClaimed_1 := ⟨start1.p0, start1.e0, start1.about1, start1.theMethod, start1.args0, start1.below0, start1.atStart⟩
end Jvm.Pilot.@@N@@
