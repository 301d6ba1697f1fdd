import JvmDerived
import JvmDerived.Pilot.@@N@@Statement
import JvmDerived.Pilot.@@N@@Code
set_option linter.unusedVariables false
set_option linter.unusedSimpArgs false
namespace Jvm.Pilot.@@N@@
open Jvm Jvm.ClassFile Sem Op Lib Jvm.Free Jvm.Stand Jvm.LawKit Jvm.RoadKit Bundle Jvm.Pilot.@@N@@.Jvm.D Jvm.Free.Fl
section Own
variable {p : Program} {l : Launch} {e : Env} {R : Room} {s : State} {m : MethodId} {args : Array Value} {below : List Frame} {meth : Method} {c : Code} {T : State} {locs : List Loc} {cells slots : Nat} {Z : State} {a0 : Array Value} {h : Heap} {G : Outcome → State → Prop}
/-- from S the body comes to its end, and the end is as asked -/
def Goes (p : Program) (e : Env) (below : List Frame) (G : Outcome → State → Prop) (S : State) : Prop :=
  ∃ s₂ o, Steps p.tables e below S s₂ ∧ s₂.status = .running ∧ Ended s₂ below o ∧ G o s₂
theorem own_go {S S' : State} (st : ∀ t, Steps p.tables e below S' t → Steps p.tables e below S t) (k : Goes p e below G S') : Goes p e below G S := by
  obtain ⟨s₂, o, h1, h2⟩ := k
  exact ⟨s₂, o, st _ h1, h2⟩
/-- what a contract says of the end -/
def EndsAs (Q : Option Value → Heap → List Loc → Prop) (s : State) (rc rs : Nat) (o : Outcome) (U : State) : Prop :=
  ∃ v L, o = .returned v ∧ Q v U.heap L ∧ FrameEnd s o U L rc rs
abbrev OwnMet (l : Launch) (Z : State) (y : MethodName) (bytes : ByteArray) (maxL : Nat) (ret : Option FieldType) (ws : List Jvm.Cond) (rm : Room) (as' : Array Value) (h : Heap) (Q : Option Value → Heap → List Loc → Prop) : Prop :=
  MetFree l y (head1 (Jvm.Cond.code y bytes maxL ret :: ws) rm) (fun a U => a = as' ∧ Z.Warmed39 U.vm ∧ U.heap = h) (fun _ _ _ _ _ => True) (fun _ U o U' => ∃ v L, o = .returned v ∧ Q v U'.heap L ∧ FrameEnd U o U' L rm.cells rm.slots)
theorem own_met {y : MethodName} {bytes : ByteArray} {maxL : Nat} {ret : Option FieldType} {ws : List Jvm.Cond} {rm : Room} {as' : Array Value} {h : Heap} {Q : Option Value → Heap → List Loc → Prop} {Ls : Array Slot}
    (hpn : plainFor y = true) (hef : ∀ m, entryFrame m as' maxL = mkF m 0 Ls [])
    (body : ∀ (p : Program) (e : Env) (s : State) (m : MethodId) (below : List Frame) (meth : Method) (c : Code) (s₁ : State), p.tables.exec = Jvm.exec → c.code = bytes → c.maxLocals = maxL → Z.Warmed39 s.vm → s.vm.findClass y.cls = some m.cls → meth.name = y.name → meth.sig.returnType = ret → meth.locks = false →
      Stand p l e rm s m as' below meth c s₁ [] 0 0 → s₁.heap = h → Goes p e below (EndsAs Q s rm.cells rm.slots) (s₁.setTop (mkF m 0 Ls []))) :
    OwnMet l Z y bytes maxL ret ws rm as' h Q := by
  refine MetFree.of_bodySF hpn hisR ?_
  intro p e s m args below meth c s₁ Bd hml0 hP hK
  obtain ⟨rfl, hZ, hh⟩ := hP
  obtain ⟨s₂, o, h1, h2, h3, h4⟩ := body p e s m below meth c s₁ Bd.exec Bd.bytes hml0 hZ (findClass_of_methodNamed Bd.named) (name_of_methodNamed Bd.named Bd.method).1 Bd.returns Bd.notSynchronized (Stand.of_body Bd) (by rw [← hh, Bd.state]; rfl)
  exact ⟨s₂, o, castTop (hef m) h1, h2, h3, h4⟩
theorem s_retI (X : Stand p l e R s m args below meth c T locs cells slots) (hx : p.tables.exec = Jvm.exec) (hlk : meth.locks = false) {Q : Option Value → Heap → List Loc → Prop} {pc rc rs : Nat} {Ls : Array Slot} {st : List Value} {t : FieldType} {w : Value} {i : Instr} (hret : meth.sig.returnType = some t)
    (hd : decode c.code pc = .ok (i, 1)) (hn : narrow t w = w) (hi : (i = .ireturn ∧ (t = .int ∨ t = .boolean ∨ t = .byte ∨ t = .char ∨ t = .short) ∧ ∃ z, w = .int z) ∨ (i = .lreturn ∧ t = .long ∧ ∃ z, w = .long z) ∨ (i = .dreturn ∧ t = .double ∧ ∃ z, w = .double z) ∨ (i = .freturn ∧ t = .float ∧ ∃ z, w = .float z) ∨ (i = .areturn ∧ t.isReference = true ∧ w.isRef = true))
    (hc : cells ≤ rc) (hs : slots ≤ rs) (hq : Q (some w) T.heap locs) : Goes p e below (EndsAs Q s rc rs) (T.setTop (mkF m pc Ls (w :: st))) := by
  obtain ⟨fs, hr, hrun, hended, hW, hsame⟩ := X.leave (v := some w) (fun h => by rw [hret] at h; cases h) hlk
  exact ⟨_, _, retOut X hx hret hn hi hd hr, hrun, hended, _, _, rfl, hq, ⟨_, rfl⟩, hW, hsame.mono hc hs⟩
theorem s_ret (X : Stand p l e R s m args below meth c T locs cells slots) (hx : p.tables.exec = Jvm.exec) (hlk : meth.locks = false) {Q : Option Value → Heap → List Loc → Prop} {pc rc rs : Nat} {Ls : Array Slot} (hret : meth.sig.returnType = none)
    (hd : decode c.code pc = .ok (.return_, 1)) (hc : cells ≤ rc) (hs : slots ≤ rs) (hq : Q none T.heap locs) : Goes p e below (EndsAs Q s rc rs) (T.setTop (mkF m pc Ls [])) := by
  obtain ⟨fs, hr, hrun, hended, hW, hsame⟩ := X.leave (v := none) (fun _ => rfl) hlk
  exact ⟨_, _, X.returnOut hx hret hd hr, hrun, hended, _, _, rfl, hq, ⟨_, rfl⟩, hW, hsame.mono hc hs⟩
theorem c_static (X : Stand p l e R s m args below meth c T locs cells slots) (hx : p.tables.exec = Jvm.exec) (hZ : Z.Warmed39 s.vm) {own : String} {index : Nat} {y : MethodName} (hown : s.vm.findClass own = some m.cls)
    {bytes : ByteArray} {maxL : Nat} {ret : Option FieldType} (w1 : (Jvm.Cond.methodLink own index y).before a0 Z = true) (w2 : (Jvm.Cond.static y).before a0 Z = true) (w3 : (Jvm.Cond.initialized y.cls).before a0 Z = true) (w4 : (Jvm.Cond.code y bytes maxL ret).before a0 Z = true) (hy : y.cls ≠ "java/lang/invoke/MethodHandle" ∧ y.cls ≠ "java/lang/invoke/VarHandle")
    {rm : Room} {as' : Array Value} {Q : Option Value → Heap → List Loc → Prop} (eT : T.heap = h) (hM : OwnMet l Z y bytes maxL ret [] rm as' h Q) {W : Nat} (hf : rm.frames + 1 ≤ R.frames) (hl : W + (maxL + 11) + rm.locals ≤ R.locals) (hc : cells + rm.cells ≤ R.cells) (hs : slots + rm.slots ≤ R.slots)
    {pc pc' : Nat} {Ls : Array Slot} {st : List Value} (hsize : Ls.size = c.maxLocals) {argsL rest : List Value} (hlen : ∀ sig, parseMethodDescriptor y.desc = some sig → argsL.length = sig.parameters.length) (has : argsL.toArray = as') (hst : st = argsL.reverse ++ rest) (hW : (rest.map fun v => v.category).sum ≤ W)
    (hd : decode c.code pc = .ok (.invokestatic index, 3)) (hp : pc + 3 = pc')
    (k : ∀ (T' : State) (v : Option Value) (L : List Loc), Stand p l e R s m args below meth c T' (locs ++ L) (cells + rm.cells) (slots + rm.slots) → Q v T'.heap L → Goes p e below G (T'.setTop (mkF m pc' Ls (v.toList ++ rest)))) :
    Goes p e below G (T.setTop (mkF m pc Ls st)) := by
  subst hp
  obtain ⟨v, _, ⟨T', L', k', n'⟩, -, X', ⟨Lc, hQ, l1, y1, z1⟩, stp⟩ := Jvm.LawKit.callS X hx (y := y) hown (mvT hZ w1) (mvT hZ w2) (mvT hZ w3) (mvT hZ w4) hy (backOf (W := W) hM hZ w4 w3 hf hl) (g := mkF m pc Ls st) rfl hsize (argsL := argsL) (rest := rest) hlen hst (by show 2 * 0 + _ ≤ _; omega) hd (fun _ _ => ⟨has, eT, hc, hs⟩)
  dsimp only [Pt.U, Pt.locs, Pt.cells, Pt.slots] at X' l1 y1 z1 stp hQ
  subst l1 y1 z1
  exact own_go stp (k T' v Lc X' hQ)
theorem c_special (X : Stand p l e R s m args below meth c T locs cells slots) (hx : p.tables.exec = Jvm.exec) (hZ : Z.Warmed39 s.vm) {own : String} {index : Nat} {y : MethodName} (hy1 : y.name = "<init>") (hown : s.vm.findClass own = some m.cls)
    {bytes : ByteArray} {maxL : Nat} (w1 : (Jvm.Cond.methodLink own index y).before a0 Z = true) (w2 : (Jvm.Cond.instanceMethod y).before a0 Z = true) (w3 : (Jvm.Cond.initialized y.cls).before a0 Z = true) (w4 : (Jvm.Cond.code y bytes maxL none).before a0 Z = true) (hy : y.cls ≠ "java/lang/invoke/MethodHandle" ∧ y.cls ≠ "java/lang/invoke/VarHandle")
    {rm : Room} {as' : Array Value} {Q : Option Value → Heap → List Loc → Prop} (eT : T.heap = h) (hM : OwnMet l Z y bytes maxL none [] rm as' h Q) {W : Nat} (hf : rm.frames + 1 ≤ R.frames) (hl : W + (maxL + 11) + rm.locals ≤ R.locals) (hc : cells + rm.cells ≤ R.cells) (hs : slots + rm.slots ≤ R.slots)
    {pc pc' : Nat} {Ls : Array Slot} {st : List Value} (hsize : Ls.size = c.maxLocals) {a : Addr} {argsL rest : List Value} (hlen : ∀ sig, parseMethodDescriptor y.desc = some sig → argsL.length = sig.parameters.length) (has : (.ref a :: argsL).toArray = as') (hst : st = argsL.reverse ++ .ref a :: rest) (hW : (rest.map fun v => v.category).sum ≤ W)
    (hd : decode c.code pc = .ok (.invokespecial index, 3)) (hp : pc + 3 = pc')
    (k : ∀ (T' : State) (v : Option Value) (L : List Loc), Stand p l e R s m args below meth c T' (locs ++ L) (cells + rm.cells) (slots + rm.slots) → Q v T'.heap L → Goes p e below G (T'.setTop (mkF m pc' Ls (v.toList ++ rest)))) :
    Goes p e below G (T.setTop (mkF m pc Ls st)) := by
  subst hp
  obtain ⟨v, _, ⟨T', L', k', n'⟩, -, X', ⟨Lc, hQ, l1, y1, z1⟩, stp⟩ := X.specialBack hx (y := y) hy1 hown (mvT hZ w1) (mvT hZ w2) (mvT hZ w4) hy (backOf (W := W) hM hZ w4 w3 hf hl) (g := mkF m pc Ls st) rfl hsize (Steps.refl _) (a := a) (argsL := argsL) (rest := rest) hlen hst (by show 2 * 0 + _ ≤ _; omega) hd (fun _ _ => ⟨has, eT, hc, hs⟩)
  dsimp only [Pt.U, Pt.locs, Pt.cells, Pt.slots] at X' l1 y1 z1 stp hQ
  subst l1 y1 z1
  exact own_go (fun _ q => stp.trans q) (k T' v Lc X' hQ)
theorem c_virtual (X : Stand p l e R s m args below meth c T locs cells slots) (hx : p.tables.exec = Jvm.exec) (hZ : Z.Warmed39 s.vm) {own C : String} {index : Nat} {y : MethodName} (hown : s.vm.findClass own = some m.cls)
    {bytes : ByteArray} {maxL : Nat} {ret : Option FieldType} (w1 : (Jvm.Cond.methodLink own index y).before a0 Z = true) (w2 : (Jvm.Cond.declares y).before a0 Z = true) (w5 : (Jvm.Cond.selects C y y).before a0 Z = true) (w6 : (Jvm.Cond.instanceMethod y).before a0 Z = true) (w3 : (Jvm.Cond.initialized y.cls).before a0 Z = true) (w4 : (Jvm.Cond.code y bytes maxL ret).before a0 Z = true) (hy : y.cls ≠ "java/lang/invoke/MethodHandle" ∧ y.cls ≠ "java/lang/invoke/VarHandle")
    {rm : Room} {as' : Array Value} {Q : Option Value → Heap → List Loc → Prop} (eT : T.heap = h) {a : Addr} (E : Exa Z h a C) (hM : OwnMet l Z y bytes maxL ret [] rm as' h Q) {W : Nat} (hf : rm.frames + 1 ≤ R.frames) (hl : W + (maxL + 11) + rm.locals ≤ R.locals) (hc : cells + rm.cells ≤ R.cells) (hs : slots + rm.slots ≤ R.slots)
    {pc pc' : Nat} {Ls : Array Slot} {st : List Value} (hsize : Ls.size = c.maxLocals) {argsL rest : List Value} (hlen : ∀ sig, parseMethodDescriptor y.desc = some sig → argsL.length = sig.parameters.length) (has : (.ref a :: argsL).toArray = as') (hst : st = argsL.reverse ++ .ref a :: rest) (hW : (rest.map fun v => v.category).sum ≤ W)
    (hd : decode c.code pc = .ok (.invokevirtual index, 3)) (hp : pc + 3 = pc')
    (k : ∀ (T' : State) (v : Option Value) (L : List Loc), Stand p l e R s m args below meth c T' (locs ++ L) (cells + rm.cells) (slots + rm.slots) → Q v T'.heap L → Goes p e below G (T'.setTop (mkF m pc' Ls (v.toList ++ rest)))) :
    Goes p e below G (T.setTop (mkF m pc Ls st)) := by
  subst hp
  obtain ⟨cq, kq, qa, qb, qc⟩ := isOf hZ eT E
  obtain ⟨v, _, ⟨T', L', k', n'⟩, -, X', ⟨Lc, hQ, l1, y1, z1⟩, stp⟩ := X.virtualBack hx (y := y) (z := y) hown (mvT hZ w1) (mvT hZ w2) (notFace_of_selects (args := #[]) (mvT hZ w5)) (mvT hZ w5) (mvT hZ w6) hy (backOf (W := W) hM hZ w4 w3 hf hl) qa qc (g := mkF m pc Ls st) rfl hsize (Steps.refl _) (argsL := argsL) (rest := rest) hlen hst (by show 2 * 0 + _ ≤ _; omega) hd (fun _ _ => ⟨has, eT, hc, hs⟩)
  dsimp only [Pt.U, Pt.locs, Pt.cells, Pt.slots] at X' l1 y1 z1 stp hQ
  subst l1 y1 z1
  exact own_go (fun _ q => stp.trans q) (k T' v Lc X' hQ)
theorem s_new (X : Stand p l e R s m args below meth c T locs cells slots) (hx : p.tables.exec = Jvm.exec) (hZ : Z.Warmed39 s.vm) {own C : String} {index n : Nat} (hown : s.vm.findClass own = some m.cls) (w : (Jvm.Cond.classLink own index C).before a0 Z = true) (wi : (Jvm.Cond.instantiable C n).before a0 Z = true) (wz : (Jvm.Cond.initialized C).before a0 Z = true) (eT : T.heap = h)
    {pc pc' : Nat} {Ls : Array Slot} {st : List Value} (hd : decode c.code pc = .ok (.new index, 3)) (hp : pc + 3 = pc') (hc : cells + 1 ≤ R.cells) (hl : slots + n ≤ R.slots)
    (k : ∀ (T' : State) (h' : Heap) (a : Addr), Stand p l e R s m args below meth c T' locs (cells + 1) (slots + n) → T'.heap = h' → Ext h h' → a = h.size → Exa Z h' a C → (∀ {O nm d : String} {ty : FieldType}, Laid Z a0 C O nm d → parseFieldDescriptor d = some ty → Fld Z h' a O nm d (defaultValue ty)) → Goes p e below G (T'.setTop (mkF m pc' Ls (.ref a :: st)))) :
    Goes p e below G (T.setTop (mkF m pc Ls st)) := by
  subst hp
  obtain ⟨T', h', X', e', E, A, D, -, stp⟩ := newO X hx hZ hown w wi wz eT (g := mkF m pc Ls st) rfl hd hc hl
  exact own_go stp (k T' h' _ X' e' E rfl A D)
theorem s_initO (X : Stand p l e R s m args below meth c T locs cells slots) (hx : p.tables.exec = Jvm.exec) (hZ : Z.Warmed39 s.vm) {own : String} {index : Nat} (hown : s.vm.findClass own = some m.cls) (w1 : (Jvm.Cond.methodLink own index Lib.objectInit).before a0 Z = true) (w2 : (Jvm.Cond.instanceMethod Lib.objectInit).before a0 Z = true)
    (w3 : (Jvm.Cond.code Lib.objectInit ⟨#[0xb1]⟩ 1 none).before a0 Z = true) (eT : T.heap = h) {pc pc' : Nat} {Ls : Array Slot} {st : List Value} {a : Addr} (hd : decode c.code pc = .ok (.invokespecial index, 3)) (hp : pc + 3 = pc') (hsize : Ls.size = c.maxLocals)
    (hf : 1 ≤ R.frames) {W : Nat} (hW : (st.map fun v => v.category).sum ≤ W) (hl : W + 12 ≤ R.locals)
    (k : ∀ T' : State, Stand p l e R s m args below meth c T' locs cells slots → T'.heap = h → Goes p e below G (T'.setTop (mkF m pc' Ls st))) :
    Goes p e below G (T.setTop (mkF m pc Ls (.ref a :: st))) := by
  subst hp
  obtain ⟨T', X', e', stp⟩ := initO X hx hZ hown w1 w2 w3 eT (g := mkF m pc Ls (.ref a :: st)) rfl hsize rfl hd hf (W := W) (by show 2 * 0 + _ ≤ _; omega) hl
  exact own_go stp (k T' X' e')
theorem s_getF (X : Stand p l e R s m args below meth c T locs cells slots) (hx : p.tables.exec = Jvm.exec) (hZ : Z.Warmed39 s.vm) {own O n d : String} {index : Nat} (hown : s.vm.findClass own = some m.cls) (w : (Jvm.Cond.fieldLink own index O n d).before a0 Z = true)
    (eT : T.heap = h) {a : Addr} {v : Value} (F : Fld Z h a O n d v) {pc pc' : Nat} {Ls : Array Slot} {st : List Value} (hd : decode c.code pc = .ok (.getfield index, 3)) (hp : pc + 3 = pc')
    (k : ∀ T' : State, Stand p l e R s m args below meth c T' locs cells slots → T'.heap = h → Goes p e below G (T'.setTop (mkF m pc' Ls (v :: st)))) :
    Goes p e below G (T.setTop (mkF m pc Ls (.ref a :: st))) := by
  subst hp
  obtain ⟨T', X', e', stp⟩ := getF X hx hZ hown (host := "") (Or.inl w) Via.refl eT F (g := mkF m pc Ls (.ref a :: st)) rfl rfl hd
  exact own_go stp (k T' X' e')
theorem s_getS (X : Stand p l e R s m args below meth c T locs cells slots) (hx : p.tables.exec = Jvm.exec) (hZ : Z.Warmed39 s.vm) {own O n d : String} {index : Nat} (hown : s.vm.findClass own = some m.cls) (w : (Jvm.Cond.fieldLink own index O n d).before a0 Z = true)
    (eT : T.heap = h) {v : Value} (F : Sta Z h O n d v) {pc pc' : Nat} {Ls : Array Slot} {st : List Value} (hd : decode c.code pc = .ok (.getstatic index, 3)) (hp : pc + 3 = pc')
    (k : ∀ T' : State, Stand p l e R s m args below meth c T' locs cells slots → T'.heap = h → Goes p e below G (T'.setTop (mkF m pc' Ls (v :: st)))) :
    Goes p e below G (T.setTop (mkF m pc Ls st)) := by
  subst hp
  obtain ⟨T', X', e', stp⟩ := getS X hx hZ hown (host := "") w Via.refl eT F (g := mkF m pc Ls st) rfl hd
  exact own_go stp (k T' X' e')
theorem s_instY (X : Stand p l e R s m args below meth c T locs cells slots) (hx : p.tables.exec = Jvm.exec) (hZ : Z.Warmed39 s.vm) {own K : String} {index : Nat} (hown : s.vm.findClass own = some m.cls) (w : (Jvm.Cond.classLink own index K).before a0 Z = true)
    (eT : T.heap = h) {a : Addr} (F : Ins Z h a K true) {pc pc' : Nat} {Ls : Array Slot} {st : List Value} (hd : decode c.code pc = .ok (.instanceof index, 3)) (hp : pc + 3 = pc')
    (k : ∀ T' : State, Stand p l e R s m args below meth c T' locs cells slots → T'.heap = h → Goes p e below G (T'.setTop (mkF m pc' Ls (.int 1 :: st)))) :
    Goes p e below G (T.setTop (mkF m pc Ls (.ref a :: st))) := by
  subst hp
  obtain ⟨T', X', e', stp⟩ := instY X hx hZ hown w eT F (g := mkF m pc Ls (.ref a :: st)) rfl rfl hd
  exact own_go stp (k T' X' e')
theorem s_castY (X : Stand p l e R s m args below meth c T locs cells slots) (hx : p.tables.exec = Jvm.exec) (hZ : Z.Warmed39 s.vm) {own K : String} {index : Nat} (hown : s.vm.findClass own = some m.cls) (w : (Jvm.Cond.classLink own index K).before a0 Z = true)
    (eT : T.heap = h) {a : Addr} (F : Ins Z h a K true) {pc pc' : Nat} {Ls : Array Slot} {st : List Value} (hd : decode c.code pc = .ok (.checkcast index, 3)) (hp : pc + 3 = pc')
    (k : ∀ T' : State, Stand p l e R s m args below meth c T' locs cells slots → T'.heap = h → Goes p e below G (T'.setTop (mkF m pc' Ls (.ref a :: st)))) :
    Goes p e below G (T.setTop (mkF m pc Ls (.ref a :: st))) := by
  subst hp
  obtain ⟨T', X', e', stp⟩ := castY X hx hZ hown w eT F (g := mkF m pc Ls (.ref a :: st)) rfl rfl hd
  exact own_go stp (k T' X' e')
theorem s_putF (X : Stand p l e R s m args below meth c T locs cells slots) (hx : p.tables.exec = Jvm.exec) (hZ : Z.Warmed39 s.vm) {own O n d C : String} {index kk : Nat} {ty : FieldType} (hown : s.vm.findClass own = some m.cls) (w : (Jvm.Cond.fieldLink own index O n d).before a0 Z = true)
    (eT : T.heap = h) {a : Addr} {v old : Value} (F : Fld Z h a O n d old) (E : Exa Z h a C) (L : (Jvm.Cond.lays C O n d).before a0 Z = true ∨ ((Jvm.Cond.laysFinal C O n d).before a0 Z = true ∧ own = O ∧ meth.name = "<init>")) (wi : (Jvm.Cond.instantiable C kk).before a0 Z = true)
    (hty : parseFieldDescriptor d = some ty) (hn : narrow ty v = v) (hf : fits ty v = true) {pc pc' : Nat} {Ls : Array Slot} {st : List Value} (hd : decode c.code pc = .ok (.putfield index, 3)) (hp : pc + 3 = pc')
    (k : ∀ (T' : State) (h' : Heap), Stand p l e R s m args below meth c T' (locs ++ [⟨a, Jvm.RoadKit.slotOf Z O n d⟩]) cells slots → T'.heap = h' → Wr h h' a (Jvm.RoadKit.slotOf Z O n d) v → Goes p e below G (T'.setTop (mkF m pc' Ls st))) :
    Goes p e below G (T.setTop (mkF m pc Ls (v :: .ref a :: st))) := by
  subst hp
  obtain ⟨T', h', X', e', W, stp⟩ := putF X hx hZ hown (host := "") (Or.inl w) Via.refl eT F E L wi hty hn hf (g := mkF m pc Ls (v :: .ref a :: st)) rfl rfl hd
  exact own_go stp (k T' h' X' e' W)
theorem s_newP (X : Stand p l e R s m args below meth c T locs cells slots) (hx : p.tables.exec = Jvm.exec) (hZ : Z.Warmed39 s.vm) {aty : ArrayType} (w : (Jvm.Cond.arrayClass (newarray.typeOf aty)).before a0 Z = true) (eT : T.heap = h)
    {pc pc' : Nat} {Ls : Array Slot} {st : List Value} {n : Int32} (hd : decode c.code pc = .ok (.newarray aty, 2)) (hp : pc + 2 = pc') (hn : ¬ n < 0) (cap : Nat) (hcap : n.toNatClampNeg ≤ cap) (hb : cap * 8 ≤ 536870912) (hc : cells + 1 ≤ R.cells) (hl : slots + cap ≤ R.slots)
    {ad : String} (had : "[" ++ (newarray.typeOf aty).toString = ad)
    (k : ∀ (T' : State) (h' : Heap) (cA : ClassId) (a : Addr), Stand p l e R s m args below meth c T' locs (cells + 1) (slots + cap) → T'.heap = h' → Ext h h' → a = h.size → Arv Z h' a cA (newarray.typeOf aty) n [] (defaultValue (newarray.typeOf aty)) → Exa Z h' a ad → Goes p e below G (T'.setTop (mkF m pc' Ls (.ref a :: st)))) :
    Goes p e below G (T.setTop (mkF m pc Ls (.int n :: st))) := by
  subst hp
  obtain ⟨T', h', cA, X', e', E, A, Ex, stp⟩ := newPE X hx hZ w eT (g := mkF m pc Ls (.int n :: st)) rfl hd rfl hn hcap hb hc hl had
  exact own_go stp (k T' h' cA _ X' e' E rfl (Arv.new A hn) Ex)
theorem s_len (X : Stand p l e R s m args below meth c T locs cells slots) (hx : p.tables.exec = Jvm.exec) (hZ : Z.Warmed39 s.vm) (eT : T.heap = h) {a : Addr} {kk : ClassId} {ty : FieldType} {z : Int32} {vs : List Value} {dv : Value} (F : Arv Z h a kk ty z vs dv)
    {pc pc' : Nat} {Ls : Array Slot} {st : List Value} (hd : decode c.code pc = .ok (.arraylength, 1)) (hp : pc + 1 = pc')
    (k : Goes p e below G (T.setTop (mkF m pc' Ls (.int z :: st)))) : Goes p e below G (T.setTop (mkF m pc Ls (.ref a :: st))) := by
  subst hp
  obtain ⟨cl, A, q1, S, q3, H, K⟩ := F
  refine own_go (fun t q => X.arraylength hx (by rw [eT]; exact A.1) (State.isArrayOf_alike hZ.alike A.2.1) (g := mkF m pc Ls (.ref a :: st)) rfl rfl hd t ?_) k
  rw [len_of S q3]; exact q
theorem own_fitD {v : Value} (h : fits .double v = true) : ∃ x, v = .double x := fit_D h
theorem s_daload (X : Stand p l e R s m args below meth c T locs cells slots) (hx : p.tables.exec = Jvm.exec) (hZ : Z.Warmed39 s.vm) (eT : T.heap = h) {a : Addr} {kk : ClassId} {z j : Int32} {vs : List Value} {dv : Value} (F : Arv Z h a kk .double z vs dv) (hj : ¬ j < 0 ∧ j < z) {v : Value} (hv : vs.getD j.toNatClampNeg dv = v)
    {pc pc' : Nat} {Ls : Array Slot} {st : List Value} (hd : decode c.code pc = .ok (.daload, 1)) (hp : pc + 1 = pc')
    (k : Goes p e below G (T.setTop (mkF m pc' Ls (v :: st)))) : Goes p e below G (T.setTop (mkF m pc Ls (.int j :: .ref a :: st))) := by
  subst hp
  obtain ⟨cl, A, q1, S, q3, H, K⟩ := F
  exact own_go (fun t q => X.daload hx (by rw [eT]; exact A.1) (State.isArrayOf_alike hZ.alike A.2.1) A.2.2 (inb_of S hj) (H.at (inb_of S hj) hv) (g := mkF m pc Ls (.int j :: .ref a :: st)) rfl rfl hd t q) k
theorem s_laload (X : Stand p l e R s m args below meth c T locs cells slots) (hx : p.tables.exec = Jvm.exec) (hZ : Z.Warmed39 s.vm) (eT : T.heap = h) {a : Addr} {kk : ClassId} {z j : Int32} {vs : List Value} {dv : Value} (F : Arv Z h a kk .long z vs dv) (hj : ¬ j < 0 ∧ j < z) {v : Value} (hv : vs.getD j.toNatClampNeg dv = v)
    {pc pc' : Nat} {Ls : Array Slot} {st : List Value} (hd : decode c.code pc = .ok (.laload, 1)) (hp : pc + 1 = pc')
    (k : Goes p e below G (T.setTop (mkF m pc' Ls (v :: st)))) : Goes p e below G (T.setTop (mkF m pc Ls (.int j :: .ref a :: st))) := by
  subst hp
  obtain ⟨cl, A, q1, S, q3, H, K⟩ := F
  exact own_go (fun t q => X.laload hx (by rw [eT]; exact A.1) (State.isArrayOf_alike hZ.alike A.2.1) A.2.2 (inb_of S hj) (H.at (inb_of S hj) hv) (g := mkF m pc Ls (.int j :: .ref a :: st)) rfl rfl hd t q) k
theorem s_iaload (X : Stand p l e R s m args below meth c T locs cells slots) (hx : p.tables.exec = Jvm.exec) (hZ : Z.Warmed39 s.vm) (eT : T.heap = h) {a : Addr} {kk : ClassId} {z j : Int32} {vs : List Value} {dv : Value} (F : Arv Z h a kk .int z vs dv) (hj : ¬ j < 0 ∧ j < z) {v : Value} (hv : vs.getD j.toNatClampNeg dv = v)
    {pc pc' : Nat} {Ls : Array Slot} {st : List Value} (hd : decode c.code pc = .ok (.iaload, 1)) (hp : pc + 1 = pc')
    (k : Goes p e below G (T.setTop (mkF m pc' Ls (v :: st)))) : Goes p e below G (T.setTop (mkF m pc Ls (.int j :: .ref a :: st))) := by
  subst hp
  obtain ⟨cl, A, q1, S, q3, H, K⟩ := F
  exact own_go (fun t q => X.iaload hx (by rw [eT]; exact A.1) (State.isArrayOf_alike hZ.alike A.2.1) A.2.2 (inb_of S hj) (H.at (inb_of S hj) hv) (g := mkF m pc Ls (.int j :: .ref a :: st)) rfl rfl hd t q) k
theorem s_aaload (X : Stand p l e R s m args below meth c T locs cells slots) (hx : p.tables.exec = Jvm.exec) (hZ : Z.Warmed39 s.vm) (eT : T.heap = h) {a : Addr} {kk : ClassId} {ty : FieldType} {z j : Int32} {vs : List Value} {dv : Value} (F : Arv Z h a kk ty z vs dv) (hty : ty.isReference = true) (hj : ¬ j < 0 ∧ j < z) {v : Value} (hv : vs.getD j.toNatClampNeg dv = v)
    {pc pc' : Nat} {Ls : Array Slot} {st : List Value} (hd : decode c.code pc = .ok (.aaload, 1)) (hp : pc + 1 = pc')
    (k : Goes p e below G (T.setTop (mkF m pc' Ls (v :: st)))) : Goes p e below G (T.setTop (mkF m pc Ls (.int j :: .ref a :: st))) := by
  subst hp
  obtain ⟨cl, A, q1, S, q3, H, K⟩ := F
  exact own_go (fun t q => X.aaload hx (by rw [eT]; exact A.1) (State.isArrayOf_alike hZ.alike A.2.1) hty A.2.2 (inb_of S hj) (H.at (inb_of S hj) hv) (g := mkF m pc Ls (.int j :: .ref a :: st)) rfl rfl hd t q) k
theorem s_dastore (X : Stand p l e R s m args below meth c T locs cells slots) (hx : p.tables.exec = Jvm.exec) (hZ : Z.Warmed39 s.vm) (eT : T.heap = h) {a : Addr} {kk : ClassId} {z j : Int32} {vs : List Value} {dv : Value} (F : Arv Z h a kk .double z vs dv) (hj : ¬ j < 0 ∧ j < z) (i : Nat) (hi : j.toNatClampNeg = i) (hl : i < vs.length) {x : UInt64}
    {pc pc' : Nat} {Ls : Array Slot} {st : List Value} (hd : decode c.code pc = .ok (.dastore, 1)) (hp : pc + 1 = pc')
    (k : ∀ (T' : State) (h' : Heap), Stand p l e R s m args below meth c T' (locs ++ [⟨a, j.toNatClampNeg⟩]) cells slots → T'.heap = h' → Wr h h' a j.toNatClampNeg (.double x) → Arv Z h' a kk .double z (vs.set i (.double x)) dv → Goes p e below G (T'.setTop (mkF m pc' Ls st))) :
    Goes p e below G (T.setTop (mkF m pc Ls (.double x :: .int j :: .ref a :: st))) := by
  subst hp
  obtain ⟨cl, A, q1, S, q3, H, K⟩ := F
  obtain ⟨T', h', X', e', W, stp⟩ := stD X hx hZ eT A (inb_of S hj) (g := mkF m pc Ls (.double x :: .int j :: .ref a :: st)) rfl rfl hd
  exact own_go stp (k T' h' X' e' W (Arv.set A q1 S q3 H K rfl W i hi hl))
theorem s_lastore (X : Stand p l e R s m args below meth c T locs cells slots) (hx : p.tables.exec = Jvm.exec) (hZ : Z.Warmed39 s.vm) (eT : T.heap = h) {a : Addr} {kk : ClassId} {z j : Int32} {vs : List Value} {dv : Value} (F : Arv Z h a kk .long z vs dv) (hj : ¬ j < 0 ∧ j < z) (i : Nat) (hi : j.toNatClampNeg = i) (hl : i < vs.length) {x : Int64}
    {pc pc' : Nat} {Ls : Array Slot} {st : List Value} (hd : decode c.code pc = .ok (.lastore, 1)) (hp : pc + 1 = pc')
    (k : ∀ (T' : State) (h' : Heap), Stand p l e R s m args below meth c T' (locs ++ [⟨a, j.toNatClampNeg⟩]) cells slots → T'.heap = h' → Wr h h' a j.toNatClampNeg (.long x) → Arv Z h' a kk .long z (vs.set i (.long x)) dv → Goes p e below G (T'.setTop (mkF m pc' Ls st))) :
    Goes p e below G (T.setTop (mkF m pc Ls (.long x :: .int j :: .ref a :: st))) := by
  subst hp
  obtain ⟨cl, A, q1, S, q3, H, K⟩ := F
  obtain ⟨T', h', X', e', W, stp⟩ := stJ X hx hZ eT A (inb_of S hj) (g := mkF m pc Ls (.long x :: .int j :: .ref a :: st)) rfl rfl hd
  exact own_go stp (k T' h' X' e' W (Arv.set A q1 S q3 H K rfl W i hi hl))
theorem s_iload (X : Stand p l e R s m args below meth c T locs cells slots) (hx : p.tables.exec = Jvm.exec) {pc pc' : Nat} {Ls : Array Slot} {st : List Value} {j : Nat} {v : Int32} (hd : decode c.code pc = .ok (.iload j, 2)) (hp : pc + 2 = pc') (hl : Ls[j]? = some (.val (.int v)))
    (k : Goes p e below G (T.setTop (mkF m pc' Ls (.int v :: st)))) : Goes p e below G (T.setTop (mkF m pc Ls (st))) := by
  subst hp
  exact own_go (fun _ k => XS.iload X.here hx rfl hd hl k) k
theorem s_iloadN (X : Stand p l e R s m args below meth c T locs cells slots) (hx : p.tables.exec = Jvm.exec) {pc pc' : Nat} {Ls : Array Slot} {st : List Value} {j : Fin 4} {v : Int32} (hd : decode c.code pc = .ok (.iload_n j, 1)) (hp : pc + 1 = pc') (hl : Ls[j.val]? = some (.val (.int v)))
    (k : Goes p e below G (T.setTop (mkF m pc' Ls (.int v :: st)))) : Goes p e below G (T.setTop (mkF m pc Ls (st))) := by
  subst hp
  exact own_go (fun _ k => XS.iloadN X.here hx rfl hd hl k) k
theorem s_istore (X : Stand p l e R s m args below meth c T locs cells slots) (hx : p.tables.exec = Jvm.exec) {pc pc' : Nat} {Ls : Array Slot} {st : List Value} {j : Nat} {v : Int32} (l' : Array Slot) (hd : decode c.code pc = .ok (.istore j, 2)) (hp : pc + 2 = pc') (hl : storeLocals Ls j (.int v) = some l')
    (k : Goes p e below G (T.setTop (mkF m pc' l' (st)))) : Goes p e below G (T.setTop (mkF m pc Ls (.int v :: st))) := by
  subst hp
  exact own_go (fun _ k => XS.istore X.here hx rfl hd rfl hl k) k
theorem s_istoreN (X : Stand p l e R s m args below meth c T locs cells slots) (hx : p.tables.exec = Jvm.exec) {pc pc' : Nat} {Ls : Array Slot} {st : List Value} {j : Fin 4} {v : Int32} (l' : Array Slot) (hd : decode c.code pc = .ok (.istore_n j, 1)) (hp : pc + 1 = pc') (hl : storeLocals Ls j.val (.int v) = some l')
    (k : Goes p e below G (T.setTop (mkF m pc' l' (st)))) : Goes p e below G (T.setTop (mkF m pc Ls (.int v :: st))) := by
  subst hp
  exact own_go (fun _ k => XS.istoreN X.here hx rfl hd rfl hl k) k
theorem s_lload (X : Stand p l e R s m args below meth c T locs cells slots) (hx : p.tables.exec = Jvm.exec) {pc pc' : Nat} {Ls : Array Slot} {st : List Value} {j : Nat} {v : Int64} (hd : decode c.code pc = .ok (.lload j, 2)) (hp : pc + 2 = pc') (hl : Ls[j]? = some (.val (.long v)))
    (k : Goes p e below G (T.setTop (mkF m pc' Ls (.long v :: st)))) : Goes p e below G (T.setTop (mkF m pc Ls (st))) := by
  subst hp
  exact own_go (fun _ k => XT.lload X.here hx rfl hd hl k) k
theorem s_lloadN (X : Stand p l e R s m args below meth c T locs cells slots) (hx : p.tables.exec = Jvm.exec) {pc pc' : Nat} {Ls : Array Slot} {st : List Value} {j : Fin 4} {v : Int64} (hd : decode c.code pc = .ok (.lload_n j, 1)) (hp : pc + 1 = pc') (hl : Ls[j.val]? = some (.val (.long v)))
    (k : Goes p e below G (T.setTop (mkF m pc' Ls (.long v :: st)))) : Goes p e below G (T.setTop (mkF m pc Ls (st))) := by
  subst hp
  exact own_go (fun _ k => XT.lloadN X.here hx rfl hd hl k) k
theorem s_lstore (X : Stand p l e R s m args below meth c T locs cells slots) (hx : p.tables.exec = Jvm.exec) {pc pc' : Nat} {Ls : Array Slot} {st : List Value} {j : Nat} {v : Int64} (l' : Array Slot) (hd : decode c.code pc = .ok (.lstore j, 2)) (hp : pc + 2 = pc') (hl : storeLocals Ls j (.long v) = some l')
    (k : Goes p e below G (T.setTop (mkF m pc' l' (st)))) : Goes p e below G (T.setTop (mkF m pc Ls (.long v :: st))) := by
  subst hp
  exact own_go (fun _ k => XT.lstore X.here hx rfl hd rfl hl k) k
theorem s_lstoreN (X : Stand p l e R s m args below meth c T locs cells slots) (hx : p.tables.exec = Jvm.exec) {pc pc' : Nat} {Ls : Array Slot} {st : List Value} {j : Fin 4} {v : Int64} (l' : Array Slot) (hd : decode c.code pc = .ok (.lstore_n j, 1)) (hp : pc + 1 = pc') (hl : storeLocals Ls j.val (.long v) = some l')
    (k : Goes p e below G (T.setTop (mkF m pc' l' (st)))) : Goes p e below G (T.setTop (mkF m pc Ls (.long v :: st))) := by
  subst hp
  exact own_go (fun _ k => XT.lstoreN X.here hx rfl hd rfl hl k) k
theorem s_dload (X : Stand p l e R s m args below meth c T locs cells slots) (hx : p.tables.exec = Jvm.exec) {pc pc' : Nat} {Ls : Array Slot} {st : List Value} {j : Nat} {v : UInt64} (hd : decode c.code pc = .ok (.dload j, 2)) (hp : pc + 2 = pc') (hl : Ls[j]? = some (.val (.double v)))
    (k : Goes p e below G (T.setTop (mkF m pc' Ls (.double v :: st)))) : Goes p e below G (T.setTop (mkF m pc Ls (st))) := by
  subst hp
  exact own_go (fun _ k => XS.dload X.here hx rfl hd hl k) k
theorem s_dloadN (X : Stand p l e R s m args below meth c T locs cells slots) (hx : p.tables.exec = Jvm.exec) {pc pc' : Nat} {Ls : Array Slot} {st : List Value} {j : Fin 4} {v : UInt64} (hd : decode c.code pc = .ok (.dload_n j, 1)) (hp : pc + 1 = pc') (hl : Ls[j.val]? = some (.val (.double v)))
    (k : Goes p e below G (T.setTop (mkF m pc' Ls (.double v :: st)))) : Goes p e below G (T.setTop (mkF m pc Ls (st))) := by
  subst hp
  exact own_go (fun _ k => XS.dloadN X.here hx rfl hd hl k) k
theorem s_dstore (X : Stand p l e R s m args below meth c T locs cells slots) (hx : p.tables.exec = Jvm.exec) {pc pc' : Nat} {Ls : Array Slot} {st : List Value} {j : Nat} {v : UInt64} (l' : Array Slot) (hd : decode c.code pc = .ok (.dstore j, 2)) (hp : pc + 2 = pc') (hl : storeLocals Ls j (.double v) = some l')
    (k : Goes p e below G (T.setTop (mkF m pc' l' (st)))) : Goes p e below G (T.setTop (mkF m pc Ls (.double v :: st))) := by
  subst hp
  exact own_go (fun _ k => XS.dstore X.here hx rfl hd rfl hl k) k
theorem s_dstoreN (X : Stand p l e R s m args below meth c T locs cells slots) (hx : p.tables.exec = Jvm.exec) {pc pc' : Nat} {Ls : Array Slot} {st : List Value} {j : Fin 4} {v : UInt64} (l' : Array Slot) (hd : decode c.code pc = .ok (.dstore_n j, 1)) (hp : pc + 1 = pc') (hl : storeLocals Ls j.val (.double v) = some l')
    (k : Goes p e below G (T.setTop (mkF m pc' l' (st)))) : Goes p e below G (T.setTop (mkF m pc Ls (.double v :: st))) := by
  subst hp
  exact own_go (fun _ k => XS.dstoreN X.here hx rfl hd rfl hl k) k
theorem s_aload (X : Stand p l e R s m args below meth c T locs cells slots) (hx : p.tables.exec = Jvm.exec) {pc pc' : Nat} {Ls : Array Slot} {st : List Value} {j : Nat} {v : Value} (hd : decode c.code pc = .ok (.aload j, 2)) (hp : pc + 2 = pc') (hl : Ls[j]? = some (.val v)) (hv : v.isRef = true)
    (k : Goes p e below G (T.setTop (mkF m pc' Ls (v :: st)))) : Goes p e below G (T.setTop (mkF m pc Ls (st))) := by
  subst hp
  exact own_go (fun _ k => XS.aload X.here hx rfl hd hl hv k) k
theorem s_aloadN (X : Stand p l e R s m args below meth c T locs cells slots) (hx : p.tables.exec = Jvm.exec) {pc pc' : Nat} {Ls : Array Slot} {st : List Value} {j : Fin 4} {v : Value} (hd : decode c.code pc = .ok (.aload_n j, 1)) (hp : pc + 1 = pc') (hl : Ls[j.val]? = some (.val v)) (hv : v.isRef = true)
    (k : Goes p e below G (T.setTop (mkF m pc' Ls (v :: st)))) : Goes p e below G (T.setTop (mkF m pc Ls (st))) := by
  subst hp
  exact own_go (fun _ k => XS.aloadN X.here hx rfl hd hl hv k) k
theorem s_astore (X : Stand p l e R s m args below meth c T locs cells slots) (hx : p.tables.exec = Jvm.exec) {pc pc' : Nat} {Ls : Array Slot} {st : List Value} {j : Nat} {v : Value} (l' : Array Slot) (hd : decode c.code pc = .ok (.astore j, 2)) (hp : pc + 2 = pc') (hv : v.isRef = true) (hl : storeLocals Ls j v = some l')
    (k : Goes p e below G (T.setTop (mkF m pc' l' (st)))) : Goes p e below G (T.setTop (mkF m pc Ls (v :: st))) := by
  subst hp
  exact own_go (fun _ k => XS.astore X.here hx rfl hd rfl hv hl k) k
theorem s_astoreN (X : Stand p l e R s m args below meth c T locs cells slots) (hx : p.tables.exec = Jvm.exec) {pc pc' : Nat} {Ls : Array Slot} {st : List Value} {j : Fin 4} {v : Value} (l' : Array Slot) (hd : decode c.code pc = .ok (.astore_n j, 1)) (hp : pc + 1 = pc') (hv : v.isRef = true) (hl : storeLocals Ls j.val v = some l')
    (k : Goes p e below G (T.setTop (mkF m pc' l' (st)))) : Goes p e below G (T.setTop (mkF m pc Ls (v :: st))) := by
  subst hp
  exact own_go (fun _ k => XS.astoreN X.here hx rfl hd rfl hv hl k) k
theorem s_iconst (X : Stand p l e R s m args below meth c T locs cells slots) (hx : p.tables.exec = Jvm.exec) {pc pc' : Nat} {Ls : Array Slot} {st : List Value} {i : Int} (v : Int32) (hd : decode c.code pc = .ok (.iconst i, 1)) (hp : pc + 1 = pc') (hv : Int32.ofInt i = v)
    (k : Goes p e below G (T.setTop (mkF m pc' Ls (.int v :: st)))) : Goes p e below G (T.setTop (mkF m pc Ls (st))) := by
  subst hp
  exact own_go (fun _ k => XS.iconst X.here hx rfl hd (by rw [hv]; exact k)) k
theorem s_bipush (X : Stand p l e R s m args below meth c T locs cells slots) (hx : p.tables.exec = Jvm.exec) {pc pc' : Nat} {Ls : Array Slot} {st : List Value} {i : Int} (v : Int32) (hd : decode c.code pc = .ok (.bipush i, 2)) (hp : pc + 2 = pc') (hv : (Int8.ofInt i).toInt32 = v)
    (k : Goes p e below G (T.setTop (mkF m pc' Ls (.int v :: st)))) : Goes p e below G (T.setTop (mkF m pc Ls (st))) := by
  subst hp
  exact own_go (fun _ k => XS.bipush X.here hx rfl hd (by rw [hv]; exact k)) k
theorem s_sipush (X : Stand p l e R s m args below meth c T locs cells slots) (hx : p.tables.exec = Jvm.exec) {pc pc' : Nat} {Ls : Array Slot} {st : List Value} {i : Int} (v : Int32) (hd : decode c.code pc = .ok (.sipush i, 3)) (hp : pc + 3 = pc') (hv : (Int16.ofInt i).toInt32 = v)
    (k : Goes p e below G (T.setTop (mkF m pc' Ls (.int v :: st)))) : Goes p e below G (T.setTop (mkF m pc Ls (st))) := by
  subst hp
  exact own_go (fun _ k => XS.sipush X.here hx rfl hd (by rw [hv]; exact k)) k
theorem s_lconst (X : Stand p l e R s m args below meth c T locs cells slots) (hx : p.tables.exec = Jvm.exec) {pc pc' : Nat} {Ls : Array Slot} {st : List Value} {i : Fin 2} (v : Int64) (hd : decode c.code pc = .ok (.lconst i, 1)) (hp : pc + 1 = pc') (hv : Int64.ofNat i = v)
    (k : Goes p e below G (T.setTop (mkF m pc' Ls (.long v :: st)))) : Goes p e below G (T.setTop (mkF m pc Ls (st))) := by
  subst hp
  exact own_go (fun _ k => XT.lconst X.here hx rfl hd (by rw [hv]; exact k)) k
theorem s_dconst0 (X : Stand p l e R s m args below meth c T locs cells slots) (hx : p.tables.exec = Jvm.exec) {pc pc' : Nat} {Ls : Array Slot} {st : List Value}  (hd : decode c.code pc = .ok (.dconst 0, 1)) (hp : pc + 1 = pc') 
    (k : Goes p e below G (T.setTop (mkF m pc' Ls (.double 0 :: st)))) : Goes p e below G (T.setTop (mkF m pc Ls (st))) := by
  subst hp
  exact own_go (fun _ k => XS.dconst0 X.here hx rfl hd rfl k) k
theorem s_dconst1 (X : Stand p l e R s m args below meth c T locs cells slots) (hx : p.tables.exec = Jvm.exec) {pc pc' : Nat} {Ls : Array Slot} {st : List Value}  (hd : decode c.code pc = .ok (.dconst 1, 1)) (hp : pc + 1 = pc') 
    (k : Goes p e below G (T.setTop (mkF m pc' Ls (.double 4607182418800017408 :: st)))) : Goes p e below G (T.setTop (mkF m pc Ls (st))) := by
  subst hp
  exact own_go (fun _ k => XS.dconst1 X.here hx rfl hd rfl k) k
theorem s_aconstNull (X : Stand p l e R s m args below meth c T locs cells slots) (hx : p.tables.exec = Jvm.exec) {pc pc' : Nat} {Ls : Array Slot} {st : List Value}  (hd : decode c.code pc = .ok (.aconst_null, 1)) (hp : pc + 1 = pc') 
    (k : Goes p e below G (T.setTop (mkF m pc' Ls (.null :: st)))) : Goes p e below G (T.setTop (mkF m pc Ls (st))) := by
  subst hp
  exact own_go (fun _ k => XS.aconstNull X.here hx rfl hd k) k
theorem s_ldcI (X : Stand p l e R s m args below meth c T locs cells slots) (hx : p.tables.exec = Jvm.exec) {pc pc' : Nat} {Ls : Array Slot} {st : List Value} (hZ : Z.Warmed39 s.vm) {own : String} {j : Nat} {v : Int32} (hown : s.vm.findClass own = some m.cls) (w : (Jvm.Cond.constant own j v).before a0 Z = true) (hd : decode c.code pc = .ok (.ldc j, 2)) (hp : pc + 2 = pc') 
    (k : Goes p e below G (T.setTop (mkF m pc' Ls (.int v :: st)))) : Goes p e below G (T.setTop (mkF m pc Ls (st))) := by
  subst hp
  exact own_go (fun _ k => X.ldcInt hx hown (mvT hZ w) (g := mkF m pc Ls st) rfl hd _ k) k
theorem s_ldcJ (X : Stand p l e R s m args below meth c T locs cells slots) (hx : p.tables.exec = Jvm.exec) {pc pc' : Nat} {Ls : Array Slot} {st : List Value} (hZ : Z.Warmed39 s.vm) {own : String} {j : Nat} {v : Int64} (hown : s.vm.findClass own = some m.cls) (w : (Jvm.Cond.constantLong own j v).before a0 Z = true) (hd : decode c.code pc = .ok (.ldc2_w j, 3)) (hp : pc + 3 = pc') 
    (k : Goes p e below G (T.setTop (mkF m pc' Ls (.long v :: st)))) : Goes p e below G (T.setTop (mkF m pc Ls (st))) := by
  subst hp
  exact own_go (fun _ k => X.ldc2Long hx hown (mvT hZ w) (g := mkF m pc Ls st) rfl hd _ k) k
theorem s_ldcD (X : Stand p l e R s m args below meth c T locs cells slots) (hx : p.tables.exec = Jvm.exec) {pc pc' : Nat} {Ls : Array Slot} {st : List Value} (hZ : Z.Warmed39 s.vm) {own : String} {j : Nat} {v : UInt64} (hown : s.vm.findClass own = some m.cls) (w : (Jvm.Cond.constantDouble own j v).before a0 Z = true) (hd : decode c.code pc = .ok (.ldc2_w j, 3)) (hp : pc + 3 = pc') 
    (k : Goes p e below G (T.setTop (mkF m pc' Ls (.double v :: st)))) : Goes p e below G (T.setTop (mkF m pc Ls (st))) := by
  subst hp
  exact own_go (fun _ k => X.ldc2DoubleC hx hown (mvT hZ w) (g := mkF m pc Ls st) rfl hd _ k) k
theorem s_iadd (X : Stand p l e R s m args below meth c T locs cells slots) (hx : p.tables.exec = Jvm.exec) {pc pc' : Nat} {Ls : Array Slot} {st : List Value} {x y : Int32} (hd : decode c.code pc = .ok (.iadd, 1)) (hp : pc + 1 = pc') 
    (k : Goes p e below G (T.setTop (mkF m pc' Ls (.int (x + y) :: st)))) : Goes p e below G (T.setTop (mkF m pc Ls (.int y :: .int x :: st))) := by
  subst hp
  exact own_go (fun _ k => XS.iadd X.here hx rfl hd rfl k) k
theorem s_isub (X : Stand p l e R s m args below meth c T locs cells slots) (hx : p.tables.exec = Jvm.exec) {pc pc' : Nat} {Ls : Array Slot} {st : List Value} {x y : Int32} (hd : decode c.code pc = .ok (.isub, 1)) (hp : pc + 1 = pc') 
    (k : Goes p e below G (T.setTop (mkF m pc' Ls (.int (x - y) :: st)))) : Goes p e below G (T.setTop (mkF m pc Ls (.int y :: .int x :: st))) := by
  subst hp
  exact own_go (fun _ k => XS.isub X.here hx rfl hd rfl k) k
theorem s_imul (X : Stand p l e R s m args below meth c T locs cells slots) (hx : p.tables.exec = Jvm.exec) {pc pc' : Nat} {Ls : Array Slot} {st : List Value} {x y : Int32} (hd : decode c.code pc = .ok (.imul, 1)) (hp : pc + 1 = pc') 
    (k : Goes p e below G (T.setTop (mkF m pc' Ls (.int (x * y) :: st)))) : Goes p e below G (T.setTop (mkF m pc Ls (.int y :: .int x :: st))) := by
  subst hp
  exact own_go (fun _ k => XS.imul X.here hx rfl hd rfl k) k
theorem s_iand (X : Stand p l e R s m args below meth c T locs cells slots) (hx : p.tables.exec = Jvm.exec) {pc pc' : Nat} {Ls : Array Slot} {st : List Value} {x y : Int32} (hd : decode c.code pc = .ok (.iand, 1)) (hp : pc + 1 = pc') 
    (k : Goes p e below G (T.setTop (mkF m pc' Ls (.int (x &&& y) :: st)))) : Goes p e below G (T.setTop (mkF m pc Ls (.int y :: .int x :: st))) := by
  subst hp
  exact own_go (fun _ k => XS.iand X.here hx rfl hd rfl k) k
theorem s_ixor (X : Stand p l e R s m args below meth c T locs cells slots) (hx : p.tables.exec = Jvm.exec) {pc pc' : Nat} {Ls : Array Slot} {st : List Value} {x y : Int32} (hd : decode c.code pc = .ok (.ixor, 1)) (hp : pc + 1 = pc') 
    (k : Goes p e below G (T.setTop (mkF m pc' Ls (.int (x ^^^ y) :: st)))) : Goes p e below G (T.setTop (mkF m pc Ls (.int y :: .int x :: st))) := by
  subst hp
  exact own_go (fun _ k => XT.ixor X.here hx rfl hd rfl k) k
theorem s_ior (X : Stand p l e R s m args below meth c T locs cells slots) (hx : p.tables.exec = Jvm.exec) {pc pc' : Nat} {Ls : Array Slot} {st : List Value} {x y : Int32} (hd : decode c.code pc = .ok (.ior, 1)) (hp : pc + 1 = pc') 
    (k : Goes p e below G (T.setTop (mkF m pc' Ls (.int (x ||| y) :: st)))) : Goes p e below G (T.setTop (mkF m pc Ls (.int y :: .int x :: st))) := by
  subst hp
  exact own_go (fun _ k => XT.ior X.here hx rfl hd rfl k) k
theorem s_ishl (X : Stand p l e R s m args below meth c T locs cells slots) (hx : p.tables.exec = Jvm.exec) {pc pc' : Nat} {Ls : Array Slot} {st : List Value} {x y : Int32} (hd : decode c.code pc = .ok (.ishl, 1)) (hp : pc + 1 = pc') 
    (k : Goes p e below G (T.setTop (mkF m pc' Ls (.int (x <<< (y &&& 31)) :: st)))) : Goes p e below G (T.setTop (mkF m pc Ls (.int y :: .int x :: st))) := by
  subst hp
  exact own_go (fun _ k => XT.ishl X.here hx rfl hd rfl k) k
theorem s_ishr (X : Stand p l e R s m args below meth c T locs cells slots) (hx : p.tables.exec = Jvm.exec) {pc pc' : Nat} {Ls : Array Slot} {st : List Value} {x y : Int32} (hd : decode c.code pc = .ok (.ishr, 1)) (hp : pc + 1 = pc') 
    (k : Goes p e below G (T.setTop (mkF m pc' Ls (.int (x >>> (y &&& 31)) :: st)))) : Goes p e below G (T.setTop (mkF m pc Ls (.int y :: .int x :: st))) := by
  subst hp
  exact own_go (fun _ k => XT.ishr X.here hx rfl hd rfl k) k
theorem s_iushr (X : Stand p l e R s m args below meth c T locs cells slots) (hx : p.tables.exec = Jvm.exec) {pc pc' : Nat} {Ls : Array Slot} {st : List Value} {x y : Int32} (hd : decode c.code pc = .ok (.iushr, 1)) (hp : pc + 1 = pc') 
    (k : Goes p e below G (T.setTop (mkF m pc' Ls (.int (XT.ushr x y) :: st)))) : Goes p e below G (T.setTop (mkF m pc Ls (.int y :: .int x :: st))) := by
  subst hp
  exact own_go (fun _ k => XT.iushr X.here hx rfl hd rfl k) k
theorem s_irem (X : Stand p l e R s m args below meth c T locs cells slots) (hx : p.tables.exec = Jvm.exec) {pc pc' : Nat} {Ls : Array Slot} {st : List Value} {x y : Int32} (hd : decode c.code pc = .ok (.irem, 1)) (hp : pc + 1 = pc') (hy : y ≠ 0)
    (k : Goes p e below G (T.setTop (mkF m pc' Ls (.int (x % y) :: st)))) : Goes p e below G (T.setTop (mkF m pc Ls (.int y :: .int x :: st))) := by
  subst hp
  exact own_go (fun _ k => iremM X hx rfl hd rfl hy k) k
theorem s_ineg (X : Stand p l e R s m args below meth c T locs cells slots) (hx : p.tables.exec = Jvm.exec) {pc pc' : Nat} {Ls : Array Slot} {st : List Value} {x : Int32} (hd : decode c.code pc = .ok (.ineg, 1)) (hp : pc + 1 = pc') 
    (k : Goes p e below G (T.setTop (mkF m pc' Ls (.int (-x) :: st)))) : Goes p e below G (T.setTop (mkF m pc Ls (.int x :: st))) := by
  subst hp
  exact own_go (fun _ k => XS.ineg X.here hx rfl hd rfl k) k
theorem s_ladd (X : Stand p l e R s m args below meth c T locs cells slots) (hx : p.tables.exec = Jvm.exec) {pc pc' : Nat} {Ls : Array Slot} {st : List Value} {x y : Int64} (hd : decode c.code pc = .ok (.ladd, 1)) (hp : pc + 1 = pc') 
    (k : Goes p e below G (T.setTop (mkF m pc' Ls (.long (x + y) :: st)))) : Goes p e below G (T.setTop (mkF m pc Ls (.long y :: .long x :: st))) := by
  subst hp
  exact own_go (fun _ k => XT.ladd X.here hx rfl hd rfl k) k
theorem s_lsub (X : Stand p l e R s m args below meth c T locs cells slots) (hx : p.tables.exec = Jvm.exec) {pc pc' : Nat} {Ls : Array Slot} {st : List Value} {x y : Int64} (hd : decode c.code pc = .ok (.lsub, 1)) (hp : pc + 1 = pc') 
    (k : Goes p e below G (T.setTop (mkF m pc' Ls (.long (x - y) :: st)))) : Goes p e below G (T.setTop (mkF m pc Ls (.long y :: .long x :: st))) := by
  subst hp
  exact own_go (fun _ k => XT.lsub X.here hx rfl hd rfl k) k
theorem s_lmul (X : Stand p l e R s m args below meth c T locs cells slots) (hx : p.tables.exec = Jvm.exec) {pc pc' : Nat} {Ls : Array Slot} {st : List Value} {x y : Int64} (hd : decode c.code pc = .ok (.lmul, 1)) (hp : pc + 1 = pc') 
    (k : Goes p e below G (T.setTop (mkF m pc' Ls (.long (x * y) :: st)))) : Goes p e below G (T.setTop (mkF m pc Ls (.long y :: .long x :: st))) := by
  subst hp
  exact own_go (fun _ k => XT.lmul X.here hx rfl hd rfl k) k
theorem s_land (X : Stand p l e R s m args below meth c T locs cells slots) (hx : p.tables.exec = Jvm.exec) {pc pc' : Nat} {Ls : Array Slot} {st : List Value} {x y : Int64} (hd : decode c.code pc = .ok (.land, 1)) (hp : pc + 1 = pc') 
    (k : Goes p e below G (T.setTop (mkF m pc' Ls (.long (x &&& y) :: st)))) : Goes p e below G (T.setTop (mkF m pc Ls (.long y :: .long x :: st))) := by
  subst hp
  exact own_go (fun _ k => XT.land X.here hx rfl hd rfl k) k
theorem s_lor (X : Stand p l e R s m args below meth c T locs cells slots) (hx : p.tables.exec = Jvm.exec) {pc pc' : Nat} {Ls : Array Slot} {st : List Value} {x y : Int64} (hd : decode c.code pc = .ok (.lor, 1)) (hp : pc + 1 = pc') 
    (k : Goes p e below G (T.setTop (mkF m pc' Ls (.long (x ||| y) :: st)))) : Goes p e below G (T.setTop (mkF m pc Ls (.long y :: .long x :: st))) := by
  subst hp
  exact own_go (fun _ k => XT.lor X.here hx rfl hd rfl k) k
theorem s_lxor (X : Stand p l e R s m args below meth c T locs cells slots) (hx : p.tables.exec = Jvm.exec) {pc pc' : Nat} {Ls : Array Slot} {st : List Value} {x y : Int64} (hd : decode c.code pc = .ok (.lxor, 1)) (hp : pc + 1 = pc') 
    (k : Goes p e below G (T.setTop (mkF m pc' Ls (.long (x ^^^ y) :: st)))) : Goes p e below G (T.setTop (mkF m pc Ls (.long y :: .long x :: st))) := by
  subst hp
  exact own_go (fun _ k => XT.lxor X.here hx rfl hd rfl k) k
theorem s_lshl (X : Stand p l e R s m args below meth c T locs cells slots) (hx : p.tables.exec = Jvm.exec) {pc pc' : Nat} {Ls : Array Slot} {st : List Value} {x : Int64} {y : Int32} (hd : decode c.code pc = .ok (.lshl, 1)) (hp : pc + 1 = pc') 
    (k : Goes p e below G (T.setTop (mkF m pc' Ls (.long (x <<< (y.toInt64 &&& 63)) :: st)))) : Goes p e below G (T.setTop (mkF m pc Ls (.int y :: .long x :: st))) := by
  subst hp
  exact own_go (fun _ k => XT.lshl X.here hx rfl hd rfl k) k
theorem s_lshr (X : Stand p l e R s m args below meth c T locs cells slots) (hx : p.tables.exec = Jvm.exec) {pc pc' : Nat} {Ls : Array Slot} {st : List Value} {x : Int64} {y : Int32} (hd : decode c.code pc = .ok (.lshr, 1)) (hp : pc + 1 = pc') 
    (k : Goes p e below G (T.setTop (mkF m pc' Ls (.long (x >>> (y.toInt64 &&& 63)) :: st)))) : Goes p e below G (T.setTop (mkF m pc Ls (.int y :: .long x :: st))) := by
  subst hp
  exact own_go (fun _ k => XT.lshr X.here hx rfl hd rfl k) k
theorem s_lushr (X : Stand p l e R s m args below meth c T locs cells slots) (hx : p.tables.exec = Jvm.exec) {pc pc' : Nat} {Ls : Array Slot} {st : List Value} {x : Int64} {y : Int32} (hd : decode c.code pc = .ok (.lushr, 1)) (hp : pc + 1 = pc') 
    (k : Goes p e below G (T.setTop (mkF m pc' Ls (.long (XT.ushrL x y) :: st)))) : Goes p e below G (T.setTop (mkF m pc Ls (.int y :: .long x :: st))) := by
  subst hp
  exact own_go (fun _ k => XT.lushr X.here hx rfl hd rfl k) k
theorem s_i2l (X : Stand p l e R s m args below meth c T locs cells slots) (hx : p.tables.exec = Jvm.exec) {pc pc' : Nat} {Ls : Array Slot} {st : List Value} {x : Int32} (hd : decode c.code pc = .ok (.i2l, 1)) (hp : pc + 1 = pc') 
    (k : Goes p e below G (T.setTop (mkF m pc' Ls ((.long x.toInt64) :: st)))) : Goes p e below G (T.setTop (mkF m pc Ls (.int x :: st))) := by
  subst hp
  exact own_go (fun _ k => XT.i2l X.here hx rfl hd rfl k) k
theorem s_i2b (X : Stand p l e R s m args below meth c T locs cells slots) (hx : p.tables.exec = Jvm.exec) {pc pc' : Nat} {Ls : Array Slot} {st : List Value} {x : Int32} (hd : decode c.code pc = .ok (.i2b, 1)) (hp : pc + 1 = pc') 
    (k : Goes p e below G (T.setTop (mkF m pc' Ls ((.int x.toInt8.toInt32) :: st)))) : Goes p e below G (T.setTop (mkF m pc Ls (.int x :: st))) := by
  subst hp
  exact own_go (fun _ k => XT.i2b X.here hx rfl hd rfl k) k
theorem s_l2i (X : Stand p l e R s m args below meth c T locs cells slots) (hx : p.tables.exec = Jvm.exec) {pc pc' : Nat} {Ls : Array Slot} {st : List Value} {x : Int64} (hd : decode c.code pc = .ok (.l2i, 1)) (hp : pc + 1 = pc') 
    (k : Goes p e below G (T.setTop (mkF m pc' Ls (.int x.toInt32 :: st)))) : Goes p e below G (T.setTop (mkF m pc Ls (.long x :: st))) := by
  subst hp
  exact own_go (fun _ k => XT.l2i X.here hx rfl hd rfl k) k
theorem s_i2d (X : Stand p l e R s m args below meth c T locs cells slots) (hx : p.tables.exec = Jvm.exec) {pc pc' : Nat} {Ls : Array Slot} {st : List Value} {x : Int32} (hd : decode c.code pc = .ok (.i2d, 1)) (hp : pc + 1 = pc') 
    (k : Goes p e below G (T.setTop (mkF m pc' Ls (.double (FP.i2d x) :: st)))) : Goes p e below G (T.setTop (mkF m pc Ls (.int x :: st))) := by
  subst hp
  exact own_go (fun _ k => XS.i2dS X.here hx rfl hd rfl rfl k) k
theorem s_l2d (X : Stand p l e R s m args below meth c T locs cells slots) (hx : p.tables.exec = Jvm.exec) {pc pc' : Nat} {Ls : Array Slot} {st : List Value} {x : Int64} (hd : decode c.code pc = .ok (.l2d, 1)) (hp : pc + 1 = pc') 
    (k : Goes p e below G (T.setTop (mkF m pc' Ls (.double (FP.l2d x) :: st)))) : Goes p e below G (T.setTop (mkF m pc Ls (.long x :: st))) := by
  subst hp
  exact own_go (fun _ k => XS.l2dS X.here hx rfl hd rfl rfl k) k
theorem s_dneg (X : Stand p l e R s m args below meth c T locs cells slots) (hx : p.tables.exec = Jvm.exec) {pc pc' : Nat} {Ls : Array Slot} {st : List Value} {x : UInt64} (hd : decode c.code pc = .ok (.dneg, 1)) (hp : pc + 1 = pc') 
    (k : Goes p e below G (T.setTop (mkF m pc' Ls (.double (FP.dneg x) :: st)))) : Goes p e below G (T.setTop (mkF m pc Ls (.double x :: st))) := by
  subst hp
  exact own_go (fun _ k => XS.dnegS X.here hx rfl hd rfl rfl k) k
theorem s_dadd (X : Stand p l e R s m args below meth c T locs cells slots) (hx : p.tables.exec = Jvm.exec) {pc pc' : Nat} {Ls : Array Slot} {st : List Value} {x y : UInt64} (v : UInt64) (hd : decode c.code pc = .ok (.dadd, 1)) (hp : pc + 1 = pc') (hn : NoNaN64 (FP.dadd x y)) (hv : FP.dadd x y = v)
    (k : Goes p e below G (T.setTop (mkF m pc' Ls (.double v :: st)))) : Goes p e below G (T.setTop (mkF m pc Ls (.double y :: .double x :: st))) := by
  subst hp
  exact own_go (fun _ k => XS.daddS X.here hx rfl hd rfl hn hv k) k
theorem s_dsub (X : Stand p l e R s m args below meth c T locs cells slots) (hx : p.tables.exec = Jvm.exec) {pc pc' : Nat} {Ls : Array Slot} {st : List Value} {x y : UInt64} (v : UInt64) (hd : decode c.code pc = .ok (.dsub, 1)) (hp : pc + 1 = pc') (hn : NoNaN64 (FP.dsub x y)) (hv : FP.dsub x y = v)
    (k : Goes p e below G (T.setTop (mkF m pc' Ls (.double v :: st)))) : Goes p e below G (T.setTop (mkF m pc Ls (.double y :: .double x :: st))) := by
  subst hp
  exact own_go (fun _ k => XS.dsubS X.here hx rfl hd rfl hn hv k) k
theorem s_dmul (X : Stand p l e R s m args below meth c T locs cells slots) (hx : p.tables.exec = Jvm.exec) {pc pc' : Nat} {Ls : Array Slot} {st : List Value} {x y : UInt64} (v : UInt64) (hd : decode c.code pc = .ok (.dmul, 1)) (hp : pc + 1 = pc') (hn : NoNaN64 (FP.dmul x y)) (hv : FP.dmul x y = v)
    (k : Goes p e below G (T.setTop (mkF m pc' Ls (.double v :: st)))) : Goes p e below G (T.setTop (mkF m pc Ls (.double y :: .double x :: st))) := by
  subst hp
  exact own_go (fun _ k => XS.dmulS X.here hx rfl hd rfl hn hv k) k
theorem s_ddiv (X : Stand p l e R s m args below meth c T locs cells slots) (hx : p.tables.exec = Jvm.exec) {pc pc' : Nat} {Ls : Array Slot} {st : List Value} {x y : UInt64} (v : UInt64) (hd : decode c.code pc = .ok (.ddiv, 1)) (hp : pc + 1 = pc') (hn : NoNaN64 (FP.ddiv x y)) (hv : FP.ddiv x y = v)
    (k : Goes p e below G (T.setTop (mkF m pc' Ls (.double v :: st)))) : Goes p e below G (T.setTop (mkF m pc Ls (.double y :: .double x :: st))) := by
  subst hp
  exact own_go (fun _ k => XS.ddivS X.here hx rfl hd rfl hn hv k) k
theorem s_lcmp (X : Stand p l e R s m args below meth c T locs cells slots) (hx : p.tables.exec = Jvm.exec) {pc pc' : Nat} {Ls : Array Slot} {st : List Value} {x y : Int64} (hd : decode c.code pc = .ok (.lcmp, 1)) (hp : pc + 1 = pc') 
    (k : Goes p e below G (T.setTop (mkF m pc' Ls (.int (XT.cmpL x y) :: st)))) : Goes p e below G (T.setTop (mkF m pc Ls (.long y :: .long x :: st))) := by
  subst hp
  exact own_go (fun _ k => XT.lcmp X.here hx rfl hd rfl k) k
theorem s_dcmp (X : Stand p l e R s m args below meth c T locs cells slots) (hx : p.tables.exec = Jvm.exec) {pc pc' : Nat} {Ls : Array Slot} {st : List Value} {x y : UInt64} {o : CmpOp} (v : Int32) (hd : decode c.code pc = .ok (.dcmp o, 1)) (hp : pc + 1 = pc') (hv : cmpValue (FP.dcmp x y) o = v)
    (k : Goes p e below G (T.setTop (mkF m pc' Ls (.int v :: st)))) : Goes p e below G (T.setTop (mkF m pc Ls (.double y :: .double x :: st))) := by
  subst hp
  exact own_go (fun _ k => XS.dcmpS X.here hx rfl hd rfl hv k) k
theorem s_dup (X : Stand p l e R s m args below meth c T locs cells slots) (hx : p.tables.exec = Jvm.exec) {pc pc' : Nat} {Ls : Array Slot} {st : List Value} {x : Value} (hd : decode c.code pc = .ok (.dup, 1)) (hp : pc + 1 = pc') (hc : x.category = 1)
    (k : Goes p e below G (T.setTop (mkF m pc' Ls (x :: x :: st)))) : Goes p e below G (T.setTop (mkF m pc Ls (x :: st))) := by
  subst hp
  exact own_go (fun _ k => XS.dup X.here hx rfl hd rfl hc k) k
theorem s_pop (X : Stand p l e R s m args below meth c T locs cells slots) (hx : p.tables.exec = Jvm.exec) {pc pc' : Nat} {Ls : Array Slot} {st : List Value} {x : Value} (hd : decode c.code pc = .ok (.pop, 1)) (hp : pc + 1 = pc') (hc : x.category = 1)
    (k : Goes p e below G (T.setTop (mkF m pc' Ls (st)))) : Goes p e below G (T.setTop (mkF m pc Ls (x :: st))) := by
  subst hp
  exact own_go (fun _ k => XT.pop X.here hx rfl hd rfl hc k) k
theorem s_pop2D (X : Stand p l e R s m args below meth c T locs cells slots) (hx : p.tables.exec = Jvm.exec) {pc pc' : Nat} {Ls : Array Slot} {st : List Value} {x : UInt64} (hd : decode c.code pc = .ok (.pop2, 1)) (hp : pc + 1 = pc')
    (k : Goes p e below G (T.setTop (mkF m pc' Ls st))) : Goes p e below G (T.setTop (mkF m pc Ls (.double x :: st))) := by
  subst hp
  refine own_go (fun _ k => ?_) k
  jvm_step X.here [X.here.top, hx, hd, Value.category]
  exact k
theorem s_dup2 (X : Stand p l e R s m args below meth c T locs cells slots) (hx : p.tables.exec = Jvm.exec) {pc pc' : Nat} {Ls : Array Slot} {st : List Value} {x y : Value} (hd : decode c.code pc = .ok (.dup2, 1)) (hp : pc + 1 = pc') (hc : x.category = 1) (hc' : y.category = 1)
    (k : Goes p e below G (T.setTop (mkF m pc' Ls (x :: y :: x :: y :: st)))) : Goes p e below G (T.setTop (mkF m pc Ls (x :: y :: st))) := by
  subst hp
  exact own_go (fun _ k => XT.dup2 X.here hx rfl hd rfl hc hc' k) k
theorem s_iinc (X : Stand p l e R s m args below meth c T locs cells slots) (hx : p.tables.exec = Jvm.exec) {pc pc' : Nat} {Ls : Array Slot} {st : List Value} {j : Nat} {i : Int} {x : Int32} (v : Int32) (l' : Array Slot) (hd : decode c.code pc = .ok (.iinc j i, 3)) (hp : pc + 3 = pc') (hl : Ls[j]? = some (.val (.int x))) (hv : x + Int32.ofInt i = v) (hl' : storeLocals Ls j (.int v) = some l')
    (k : Goes p e below G (T.setTop (mkF m pc' l' (st)))) : Goes p e below G (T.setTop (mkF m pc Ls (st))) := by
  subst hp
  exact own_go (fun _ k => XS.iinc X.here hx rfl hd hl (by rw [hv]; exact hl') k) k
theorem s_goto (X : Stand p l e R s m args below meth c T locs cells slots) (hx : p.tables.exec = Jvm.exec) {pc pc' : Nat} {Ls : Array Slot} {st : List Value}  {o : Int} (hd : decode c.code pc = .ok (.goto o, 3))  (ho : 0 ≤ (pc : Int) + o) (hp : ((pc : Int) + o).toNat = pc')
    (k : Goes p e below G (T.setTop (mkF m pc' Ls (st)))) : Goes p e below G (T.setTop (mkF m pc Ls (st))) := own_go (fun _ k => XS.goto X.here hx rfl rfl hd ho hp k) k
theorem s_ifY (X : Stand p l e R s m args below meth c T locs cells slots) (hx : p.tables.exec = Jvm.exec) {pc pc' : Nat} {Ls : Array Slot} {st : List Value} {cd : ClassFile.Cond} {x : Int32} {o : Int} (hd : decode c.code pc = .ok (.ifCond cd o, 3)) (hc : ifCond.holds cd x = true) (ho : 0 ≤ (pc : Int) + o) (hp : ((pc : Int) + o).toNat = pc')
    (k : Goes p e below G (T.setTop (mkF m pc' Ls (st)))) : Goes p e below G (T.setTop (mkF m pc Ls (.int x :: st))) := own_go (fun _ k => XS.ifYes X.here hx rfl rfl hd rfl hc ho hp k) k
theorem s_icmpY (X : Stand p l e R s m args below meth c T locs cells slots) (hx : p.tables.exec = Jvm.exec) {pc pc' : Nat} {Ls : Array Slot} {st : List Value} {cd : ClassFile.Cond} {x y : Int32} {o : Int} (hd : decode c.code pc = .ok (.if_icmp cd o, 3)) (hc : if_icmp.holds cd x y = true) (ho : 0 ≤ (pc : Int) + o) (hp : ((pc : Int) + o).toNat = pc')
    (k : Goes p e below G (T.setTop (mkF m pc' Ls (st)))) : Goes p e below G (T.setTop (mkF m pc Ls (.int y :: .int x :: st))) := own_go (fun _ k => XS.icmpYes X.here hx rfl rfl hd rfl hc ho hp k) k
theorem s_acmpY (X : Stand p l e R s m args below meth c T locs cells slots) (hx : p.tables.exec = Jvm.exec) {pc pc' : Nat} {Ls : Array Slot} {st : List Value} {cd : ClassFile.ACond} {x y : Value} {o : Int} (hd : decode c.code pc = .ok (.if_acmp cd o, 3)) (h1 : x.isRef = true) (h2 : y.isRef = true) (hc : XT.acmp cd x y = true) (ho : 0 ≤ (pc : Int) + o) (hp : ((pc : Int) + o).toNat = pc')
    (k : Goes p e below G (T.setTop (mkF m pc' Ls (st)))) : Goes p e below G (T.setTop (mkF m pc Ls (y :: x :: st))) := own_go (fun _ k => XT.acmpYes X.here hx rfl rfl hd rfl h1 h2 hc ho hp k) k
theorem s_nonnullY (X : Stand p l e R s m args below meth c T locs cells slots) (hx : p.tables.exec = Jvm.exec) {pc pc' : Nat} {Ls : Array Slot} {st : List Value} {b : Addr} {o : Int} (hd : decode c.code pc = .ok (.ifnonnull o, 3))  (ho : 0 ≤ (pc : Int) + o) (hp : ((pc : Int) + o).toNat = pc')
    (k : Goes p e below G (T.setTop (mkF m pc' Ls (st)))) : Goes p e below G (T.setTop (mkF m pc Ls (.ref b :: st))) := own_go (fun _ k => XT.ifnonnullYes X.here hx rfl rfl hd rfl ho hp k) k
theorem s_ifN (X : Stand p l e R s m args below meth c T locs cells slots) (hx : p.tables.exec = Jvm.exec) {pc pc' : Nat} {Ls : Array Slot} {st : List Value} {cd : ClassFile.Cond} {x : Int32} {o : Int} (hd : decode c.code pc = .ok (.ifCond cd o, 3)) (hp : pc + 3 = pc') (hc : ifCond.holds cd x = false)
    (k : Goes p e below G (T.setTop (mkF m pc' Ls (st)))) : Goes p e below G (T.setTop (mkF m pc Ls (.int x :: st))) := by
  subst hp
  exact own_go (fun _ k => XS.ifNo X.here hx rfl hd rfl hc k) k
theorem s_icmpN (X : Stand p l e R s m args below meth c T locs cells slots) (hx : p.tables.exec = Jvm.exec) {pc pc' : Nat} {Ls : Array Slot} {st : List Value} {cd : ClassFile.Cond} {x y : Int32} {o : Int} (hd : decode c.code pc = .ok (.if_icmp cd o, 3)) (hp : pc + 3 = pc') (hc : if_icmp.holds cd x y = false)
    (k : Goes p e below G (T.setTop (mkF m pc' Ls (st)))) : Goes p e below G (T.setTop (mkF m pc Ls (.int y :: .int x :: st))) := by
  subst hp
  exact own_go (fun _ k => XS.icmpNo X.here hx rfl hd rfl hc k) k
theorem s_acmpN (X : Stand p l e R s m args below meth c T locs cells slots) (hx : p.tables.exec = Jvm.exec) {pc pc' : Nat} {Ls : Array Slot} {st : List Value} {cd : ClassFile.ACond} {x y : Value} {o : Int} (hd : decode c.code pc = .ok (.if_acmp cd o, 3)) (hp : pc + 3 = pc') (h1 : x.isRef = true) (h2 : y.isRef = true) (hc : XT.acmp cd x y = false)
    (k : Goes p e below G (T.setTop (mkF m pc' Ls (st)))) : Goes p e below G (T.setTop (mkF m pc Ls (y :: x :: st))) := by
  subst hp
  exact own_go (fun _ k => XT.acmpNo X.here hx rfl hd rfl h1 h2 hc k) k
theorem s_nullN (X : Stand p l e R s m args below meth c T locs cells slots) (hx : p.tables.exec = Jvm.exec) {pc pc' : Nat} {Ls : Array Slot} {st : List Value} {b : Addr} {o : Int} (hd : decode c.code pc = .ok (.ifnull o, 3)) (hp : pc + 3 = pc') 
    (k : Goes p e below G (T.setTop (mkF m pc' Ls (st)))) : Goes p e below G (T.setTop (mkF m pc Ls (.ref b :: st))) := by
  subst hp
  exact own_go (fun _ k => XS.ifnullNo X.here hx rfl hd rfl k) k
end Own
theorem iy_lt {x : Int32} (h : x < 0) : ifCond.holds .lt x = true := by rw [if0]; exact (tlt h).1
theorem in_lt {x : Int32} (h : ¬ x < 0) : ifCond.holds .lt x = false := by rw [if0]; exact (flt h).1
theorem iy_ge {x : Int32} (h : ¬ x < 0) : ifCond.holds .ge x = true := by rw [if0]; exact (flt h).2.1
theorem in_ge {x : Int32} (h : x < 0) : ifCond.holds .ge x = false := by rw [if0]; exact (tlt h).2.1
theorem iy_gt {x : Int32} (h : 0 < x) : ifCond.holds .gt x = true := by rw [if0]; exact (tlt h).2.2.1
theorem in_gt {x : Int32} (h : ¬ 0 < x) : ifCond.holds .gt x = false := by rw [if0]; exact (flt h).2.2.1
theorem iy_le {x : Int32} (h : ¬ 0 < x) : ifCond.holds .le x = true := by rw [if0]; exact (flt h).2.2.2
theorem in_le {x : Int32} (h : 0 < x) : ifCond.holds .le x = false := by rw [if0]; exact (tlt h).2.2.2
theorem iy_eq {x : Int32} (h : x = 0) : ifCond.holds .eq x = true := by rw [if0]; exact (teq h).1
theorem in_eq {x : Int32} (h : ¬ x = 0) : ifCond.holds .eq x = false := by rw [if0]; exact (feq h).1
theorem iy_ne {x : Int32} (h : ¬ x = 0) : ifCond.holds .ne x = true := by rw [if0]; exact (feq h).2
theorem in_ne {x : Int32} (h : x = 0) : ifCond.holds .ne x = false := by rw [if0]; exact (teq h).2
theorem cy_lt {x y : Int32} (h : x < y) : if_icmp.holds .lt x y = true := (tlt h).1
theorem cn_lt {x y : Int32} (h : ¬ x < y) : if_icmp.holds .lt x y = false := (flt h).1
theorem cy_ge {x y : Int32} (h : ¬ x < y) : if_icmp.holds .ge x y = true := (flt h).2.1
theorem cn_ge {x y : Int32} (h : x < y) : if_icmp.holds .ge x y = false := (tlt h).2.1
theorem cy_gt {x y : Int32} (h : y < x) : if_icmp.holds .gt x y = true := (tlt h).2.2.1
theorem cn_gt {x y : Int32} (h : ¬ y < x) : if_icmp.holds .gt x y = false := (flt h).2.2.1
theorem cy_le {x y : Int32} (h : ¬ y < x) : if_icmp.holds .le x y = true := (flt h).2.2.2
theorem cn_le {x y : Int32} (h : y < x) : if_icmp.holds .le x y = false := (tlt h).2.2.2
theorem cy_eq {x y : Int32} (h : x = y) : if_icmp.holds .eq x y = true := (teq h).1
theorem cn_eq {x y : Int32} (h : ¬ x = y) : if_icmp.holds .eq x y = false := (feq h).1
theorem cy_ne {x y : Int32} (h : ¬ x = y) : if_icmp.holds .ne x y = true := (feq h).2
theorem cn_ne {x y : Int32} (h : x = y) : if_icmp.holds .ne x y = false := (teq h).2
def own_mix1 (z c : Int64) (n : Int32) : Int64 := (z ^^^ XT.ushrL z n) * c
def own_mix (z : Int64) : Int64 := own_mix1 (own_mix1 z (-4658895280553007687) 30) (-7723592293110705685) 27 ^^^ XT.ushrL (own_mix1 (own_mix1 z (-4658895280553007687) 30) (-7723592293110705685) 27) 31
def own_rot (x : Int64) (n : Int32) : Int64 := (x <<< (n.toInt64 &&& 63)) ||| XT.ushrL x (-n)
def own_next (s1 : Int64) : Int64 := own_rot (s1 * 5) 7 * 9
def own_nd (s1 : Int64) : UInt64 := FP.dmul (FP.l2d (XT.ushrL (own_next s1) 11)) 4368491638549381120
def own_lim (x cap : UInt64) : UInt64 := if cmpValue (FP.dcmp x 4602678819172646912) .g < 0 then FP.dmul 4609434218613702656 cap else cap
def own_fits (b a lim : UInt64) : Int32 := if 0 < cmpValue (FP.dcmp a b) .g then (if 0 < cmpValue (FP.dcmp a lim) .g then 0 else 1) else 1
theorem own_cmpL_gt {x y : Int64} : 0 < XT.cmpL x y ↔ y < x := by
  have : XT.cmpL x y = lcmpW x y := rfl
  rw [this]; exact lw_gt x y
theorem own_pos_cmp (a b : Int) (o : CmpOp) : 0 < cmpValue (some (compare a b)) o ↔ b < a := by
  rw [FP.Core.compare_ite]
  by_cases h1 : a < b
  · rw [if_pos h1]; exact ⟨fun h => absurd h (by cases o <;> decide), fun h => by omega⟩
  · rw [if_neg h1]
    by_cases h2 : a = b
    · rw [if_pos h2]; exact ⟨fun h => absurd h (by cases o <;> decide), fun h => by omega⟩
    · rw [if_neg h2]; exact ⟨fun _ => by omega, fun _ => by cases o <;> decide⟩
theorem own_cmp_i (a b : Int32) (o : CmpOp) : 0 < cmpValue (FP.dcmp (FP.i2d a) (FP.i2d b)) o ↔ b.toInt < a.toInt := by
  rw [show FP.dcmp (FP.i2d a) (FP.i2d b) = some (compare a.toInt b.toInt) from FP.Core.dcmp_int (FP.Core.i2d_int a) (FP.Core.i2d_int b)]
  exact own_pos_cmp _ _ o
theorem own_order_up (s t : Bool) (c d : Nat) (q r : Int) : FP.Core.order (.fin s c q) (.fin t d r) = FP.Core.order (.fin s c (q + 1)) (.fin t d (r + 1)) := by
  show some (compare (FP.Core.signed s (c * 2 ^ (q - min q r).toNat)) (FP.Core.signed t (d * 2 ^ (r - min q r).toNat))) = some (compare (FP.Core.signed s (c * 2 ^ (q + 1 - min (q + 1) (r + 1)).toNat)) (FP.Core.signed t (d * 2 ^ (r + 1 - min (q + 1) (r + 1)).toNat)))
  rw [show q + 1 - min (q + 1) (r + 1) = q - min q r by omega, show r + 1 - min (q + 1) (r + 1) = r - min q r by omega]
theorem own_whole_up {i : Int} {s : Bool} {c : Nat} {q : Int} (h : FP.Core.Whole i (.fin s c q)) : FP.Core.Whole (2 * i) (.fin s c (q + 1)) := by
  have h1 : FP.Core.signed s (c * 2 ^ q.toNat) = i * ((2 ^ (-q).toNat : Nat) : Int) := h
  show FP.Core.signed s (c * 2 ^ (q + 1).toNat) = 2 * i * ((2 ^ (-(q + 1)).toNat : Nat) : Int)
  by_cases hq : 0 ≤ q
  · rw [show (q + 1).toNat = q.toNat + 1 by omega, show (-(q + 1)).toNat = 0 by omega, Nat.pow_succ, ← Nat.mul_assoc, FP.Core.signed_mul, h1, show (-q).toNat = 0 by omega]
    simp; omega
  · rw [show (q + 1).toNat = q.toNat by omega, show (-q).toNat = (-(q + 1)).toNat + 1 by omega, Nat.pow_succ] at *
    rw [h1]
    push_cast
    rw [show i * ((2 : Int) ^ (-(q + 1)).toNat * 2) = 2 * i * (2 : Int) ^ (-(q + 1)).toNat by rw [Int.mul_comm 2 i, Int.mul_assoc, Int.mul_comm 2]]
theorem own_half {n : Int32} : ∃ (s : Bool) (c : Nat) (q : Int), FP.Core.val64 (FP.dmul 4609434218613702656 (FP.i2d n)) = .fin s c q ∧ FP.Core.Whole (3 * n.toInt) (.fin s c (q + 1)) := by
  have hi := FP.Core.i2d_int n
  unfold FP.Core.DInt at hi
  have e := FP.Core.val64_dmul 4609434218613702656 (FP.Core.i2d n)
  have v15 : FP.Core.val64 4609434218613702656 = .fin false (3 * 2 ^ 51) (-52) := by decide +kernel
  cases va : FP.Core.val64 (FP.Core.i2d n) with
  | nan => rw [va] at hi; exact hi.elim
  | inf s => rw [va] at hi; exact hi.elim
  | fin s c q =>
    rw [va] at hi
    have e1 := FP.Core.whole_natAbs hi
    have r1 := rng32 n
    rw [v15, va] at e
    have e2 : FP.Core.round FP.Core.b64 (FP.Core.exactProduct (.fin false (3 * 2 ^ 51) (-52)) (.fin s c q)) = FP.Core.round FP.Core.b64 (.fin s (3 * n.toInt.natAbs) (-1)) := by
      show FP.Core.roundRatio FP.Core.b64 (false != s) (3 * 2 ^ 51 * c) 1 (-52 + q) = FP.Core.roundRatio FP.Core.b64 s (3 * n.toInt.natAbs) 1 (-1)
      rw [show (false != s) = s by cases s <;> rfl]
      refine FP.Core.roundRatio_congr (by decide) (by decide) ?_
      rw [show (-52 + q - -1) = q - 51 by omega, show (-1 - (-52 + q)) = 51 - q by omega]
      by_cases hq : 0 ≤ q
      · rw [show (-q).toNat = 0 by omega, Nat.pow_zero, Nat.mul_one] at e1
        by_cases hq2 : 51 ≤ q
        · rw [show (51 - q).toNat = 0 by omega, ← e1, show q.toNat = 51 + (q - 51).toNat by omega, Nat.pow_add]
          simp only [Nat.pow_zero, Nat.mul_one]; ac_rfl
        · rw [show (q - 51).toNat = 0 by omega, ← e1]
          have : (2 : Nat) ^ 51 = 2 ^ q.toNat * 2 ^ (51 - q).toNat := by rw [← Nat.pow_add]; congr 1; omega
          rw [this]; simp only [Nat.pow_zero, Nat.mul_one]; ac_rfl
      · rw [show q.toNat = 0 by omega, Nat.pow_zero, Nat.mul_one] at e1
        rw [show (q - 51).toNat = 0 by omega, e1, show (51 - q).toNat = 51 + (-q).toNat by omega, Nat.pow_add]
        simp only [Nat.pow_zero, Nat.mul_one]; ac_rfl
    obtain ⟨c', q', f1, f2⟩ := FP.Core.round_exact FP.Core.good_b64 s (c := 3 * n.toInt.natAbs) (q := -1) (show _ < 2 ^ 53 by omega) (by decide +kernel) (by decide +kernel)
    refine ⟨s, c', q', ?_, ?_⟩
    · show FP.Core.val64 (FP.Core.dmul 4609434218613702656 (FP.Core.i2d n)) = _
      rw [e, e2, f1]
    · have hf : FP.Core.fits FP.Core.b64 (.fin s c' q') := by rw [← f1]; exact FP.Core.round_fits FP.Core.good_b64 _
      have hq' : -1074 ≤ q' := hf.2.1
      have f3 : c' * 2 ^ (q' - -1074).toNat = 3 * n.toInt.natAbs * 2 ^ ((-1 : Int) - -1074).toNat := f2
      have sg : FP.Core.signed s (3 * n.toInt.natAbs) = 3 * n.toInt := by
        by_cases hz : n.toInt = 0
        · rw [hz]; cases s <;> rfl
        · have := FP.Core.whole_sign hi hz
          rw [this]; unfold FP.Core.signed
          by_cases h : n.toInt < 0 <;> simp [h] <;> omega
      show FP.Core.signed s (c' * 2 ^ (q' + 1).toNat) = 3 * n.toInt * ((2 ^ (-(q' + 1)).toNat : Nat) : Int)
      rw [← sg, ← FP.Core.signed_mul]
      congr 1
      rw [show ((-1 : Int) - -1074).toNat = 1073 by decide] at f3
      by_cases hq : 0 ≤ q' + 1
      · rw [show (-(q' + 1)).toNat = 0 by omega, Nat.pow_zero, Nat.mul_one]
        rw [show (q' - -1074).toNat = (q' + 1).toNat + 1073 by omega, Nat.pow_add, ← Nat.mul_assoc] at f3
        exact Nat.eq_of_mul_eq_mul_right (Nat.two_pow_pos 1073) f3
      · rw [show (q' + 1).toNat = 0 by omega, Nat.pow_zero, Nat.mul_one]
        rw [show 1073 = (-(q' + 1)).toNat + (q' - -1074).toNat by omega, Nat.pow_add, ← Nat.mul_assoc] at f3
        exact Nat.eq_of_mul_eq_mul_right (Nat.two_pow_pos _) f3
theorem own_half_nn (n : Int32) : NoNaN64 (FP.dmul 4609434218613702656 (FP.i2d n)) := by
  obtain ⟨s, c, q, h, -⟩ := own_half (n := n)
  exact val64_no.mpr (by rw [h]; intro z; cases z)
theorem own_cmp_r (a n : Int32) (o : CmpOp) : 0 < cmpValue (FP.dcmp (FP.i2d a) (FP.dmul 4609434218613702656 (FP.i2d n))) o ↔ 3 * n.toInt < 2 * a.toInt := by
  obtain ⟨s, c, q, h1, h2⟩ := own_half (n := n)
  have ha := FP.Core.i2d_int a
  unfold FP.Core.DInt at ha
  cases va : FP.Core.val64 (FP.Core.i2d a) with
  | nan => rw [va] at ha; exact ha.elim
  | inf s => rw [va] at ha; exact ha.elim
  | fin s' c' q' =>
    rw [va] at ha
    have e : FP.dcmp (FP.i2d a) (FP.dmul 4609434218613702656 (FP.i2d n)) = some (compare (2 * a.toInt) (3 * n.toInt)) := by
      show FP.Core.order (FP.Core.val64 (FP.Core.i2d a)) (FP.Core.val64 (FP.dmul 4609434218613702656 (FP.i2d n))) = _
      rw [va, h1, own_order_up]
      exact FP.Core.order_whole (own_whole_up ha) h2
    rw [e]; exact own_pos_cmp _ _ o
theorem own_l2 (a c : Int32) : ((3 : Int64) * c.toInt64 < (2 : Int64) * a.toInt64) ↔ 3 * c.toInt < 2 * a.toInt := by
  have r3 := rng32 c; have r4 := rng32 a
  have e1 : ((3 : Int64) * c.toInt64).toInt = 3 * c.toInt := by
    rw [FP.Core.int64_mul (by rw [c_i2l, show (3 : Int64).toInt = 3 from rfl]; omega) (by rw [c_i2l, show (3 : Int64).toInt = 3 from rfl]; omega), c_i2l]; rfl
  have e2 : ((2 : Int64) * a.toInt64).toInt = 2 * a.toInt := by
    rw [FP.Core.int64_mul (by rw [c_i2l, show (2 : Int64).toInt = 2 from rfl]; omega) (by rw [c_i2l, show (2 : Int64).toInt = 2 from rfl]; omega), c_i2l]; rfl
  rw [Int64.lt_iff_toInt_lt, e1, e2]
theorem own_l1 (a c : Int32) : (c.toInt64 < a.toInt64) ↔ c.toInt < a.toInt := by rw [Int64.lt_iff_toInt_lt, c_i2l, c_i2l]
theorem d4_0 : decode prog_66_method_7_code 0 = .ok (.lload_n 0, 1) := by decide +kernel
theorem d4_1 : decode prog_66_method_7_code 1 = .ok (.lstore_n 2, 1) := by decide +kernel
theorem d4_2 : decode prog_66_method_7_code 2 = .ok (.lload_n 2, 1) := by decide +kernel
theorem d4_3 : decode prog_66_method_7_code 3 = .ok (.lload_n 2, 1) := by decide +kernel
theorem d4_4 : decode prog_66_method_7_code 4 = .ok (.bipush 30, 2) := by decide +kernel
theorem d4_6 : decode prog_66_method_7_code 6 = .ok (.lushr, 1) := by decide +kernel
theorem d4_7 : decode prog_66_method_7_code 7 = .ok (.lxor, 1) := by decide +kernel
theorem d4_8 : decode prog_66_method_7_code 8 = .ok (.ldc2_w 97, 3) := by decide +kernel
theorem d4_11 : decode prog_66_method_7_code 11 = .ok (.lmul, 1) := by decide +kernel
theorem d4_12 : decode prog_66_method_7_code 12 = .ok (.lstore_n 2, 1) := by decide +kernel
theorem d4_13 : decode prog_66_method_7_code 13 = .ok (.lload_n 2, 1) := by decide +kernel
theorem d4_14 : decode prog_66_method_7_code 14 = .ok (.lload_n 2, 1) := by decide +kernel
theorem d4_15 : decode prog_66_method_7_code 15 = .ok (.bipush 27, 2) := by decide +kernel
theorem d4_17 : decode prog_66_method_7_code 17 = .ok (.lushr, 1) := by decide +kernel
theorem d4_18 : decode prog_66_method_7_code 18 = .ok (.lxor, 1) := by decide +kernel
theorem d4_19 : decode prog_66_method_7_code 19 = .ok (.ldc2_w 99, 3) := by decide +kernel
theorem d4_22 : decode prog_66_method_7_code 22 = .ok (.lmul, 1) := by decide +kernel
theorem d4_23 : decode prog_66_method_7_code 23 = .ok (.lstore_n 2, 1) := by decide +kernel
theorem d4_24 : decode prog_66_method_7_code 24 = .ok (.lload_n 2, 1) := by decide +kernel
theorem d4_25 : decode prog_66_method_7_code 25 = .ok (.lload_n 2, 1) := by decide +kernel
theorem d4_26 : decode prog_66_method_7_code 26 = .ok (.bipush 31, 2) := by decide +kernel
theorem d4_28 : decode prog_66_method_7_code 28 = .ok (.lushr, 1) := by decide +kernel
theorem d4_29 : decode prog_66_method_7_code 29 = .ok (.lxor, 1) := by decide +kernel
theorem d4_30 : decode prog_66_method_7_code 30 = .ok (.lreturn, 1) := by decide +kernel
theorem pn_4 : plainName "com/example/vicinity/vicinity/simulation/RandomStream" = true := by first | (simp [plainName, overriddenIn]; done) | decide +kernel
theorem ef_4 (z0 : Int64) (m : MethodId) : entryFrame m #[.long z0] 4 = mkF m 0 #[.val (.long z0), .second, .unset, .unset] [] := by first | (simp [entryFrame, mkF, argsToLocals, Value.category, maxLocals]; done) | rfl
set_option maxRecDepth 65536 in
set_option maxHeartbeats 40000000 in
theorem rm_4 (l : Launch) (Z : State) (a0 : Array Value) (hw : ∀ d ∈ tables_1, d.before a0 Z = true) (ws : List Jvm.Cond) (z1 : Int64) (h0 : Heap) (n0 : Nat) (Z0 : n0 ≤ h0.size)  :
    OwnMet l Z (⟨"com/example/vicinity/vicinity/simulation/RandomStream", "mix", "(J)J"⟩ : MethodName) prog_66_method_7_code 4 (some .long) ws ({ frames := 0, cells := 0, slots := 0, locals := 0 } : Room) #[.long z1] h0 (fun v h L => v = some (.long (own_mix z1)) ∧ Fr n0 L ∧ h = h0) := by
  refine own_met (plainFor_of_name pn_4) (ef_4 z1) ?_
  intro p e s m below meth c s₁ hx hby hml hZ hown hnm hret hlk X0 e0
  have N0 := Fr.nil n0
  refine s_lloadN X0 hx (hb hby d4_0) (pc' := 1) rfl rfl ?_
  refine s_lstoreN X0 hx #[.val (.long z1), .second, .val (.long z1), .second] (hb hby d4_1) (pc' := 2) rfl rfl ?_
  refine s_lloadN X0 hx (hb hby d4_2) (pc' := 3) rfl rfl ?_
  refine s_lloadN X0 hx (hb hby d4_3) (pc' := 4) rfl rfl ?_
  refine s_bipush X0 hx (30 : Int32) (hb hby d4_4) (pc' := 6) rfl rfl ?_
  refine s_lushr X0 hx (hb hby d4_6) (pc' := 7) rfl ?_
  refine s_lxor X0 hx (hb hby d4_7) (pc' := 8) rfl ?_
  refine s_ldcJ X0 hx hZ hown (hw _ (List.mem_of_getElem? (i := 24) rfl)) (hb hby d4_8) (pc' := 11) rfl ?_
  refine s_lmul X0 hx (hb hby d4_11) (pc' := 12) rfl ?_
  refine s_lstoreN X0 hx #[.val (.long z1), .second, .val (.long ((z1 ^^^ (XT.ushrL z1 (30 : Int32))) * (-4658895280553007687 : Int64))), .second] (hb hby d4_12) (pc' := 13) rfl rfl ?_
  refine s_lloadN X0 hx (hb hby d4_13) (pc' := 14) rfl rfl ?_
  refine s_lloadN X0 hx (hb hby d4_14) (pc' := 15) rfl rfl ?_
  refine s_bipush X0 hx (27 : Int32) (hb hby d4_15) (pc' := 17) rfl rfl ?_
  refine s_lushr X0 hx (hb hby d4_17) (pc' := 18) rfl ?_
  refine s_lxor X0 hx (hb hby d4_18) (pc' := 19) rfl ?_
  refine s_ldcJ X0 hx hZ hown (hw _ (List.mem_of_getElem? (i := 25) rfl)) (hb hby d4_19) (pc' := 22) rfl ?_
  refine s_lmul X0 hx (hb hby d4_22) (pc' := 23) rfl ?_
  refine s_lstoreN X0 hx #[.val (.long z1), .second, .val (.long ((((z1 ^^^ (XT.ushrL z1 (30 : Int32))) * (-4658895280553007687 : Int64)) ^^^ (XT.ushrL ((z1 ^^^ (XT.ushrL z1 (30 : Int32))) * (-4658895280553007687 : Int64)) (27 : Int32))) * (-7723592293110705685 : Int64))), .second] (hb hby d4_23) (pc' := 24) rfl rfl ?_
  refine s_lloadN X0 hx (hb hby d4_24) (pc' := 25) rfl rfl ?_
  refine s_lloadN X0 hx (hb hby d4_25) (pc' := 26) rfl rfl ?_
  refine s_bipush X0 hx (31 : Int32) (hb hby d4_26) (pc' := 28) rfl rfl ?_
  refine s_lushr X0 hx (hb hby d4_28) (pc' := 29) rfl ?_
  refine s_lxor X0 hx (hb hby d4_29) (pc' := 30) rfl ?_
  exact s_retI X0 hx hlk hret (hb hby d4_30) rfl (Or.inr (Or.inl ⟨rfl, rfl, _, rfl⟩)) (by decide) (by decide) ⟨rfl, N0, e0⟩
theorem d9_0 : decode jdk_35_method_51_code 0 = .ok (.lload_n 0, 1) := by decide +kernel
theorem d9_1 : decode jdk_35_method_51_code 1 = .ok (.iload_n 2, 1) := by decide +kernel
theorem d9_2 : decode jdk_35_method_51_code 2 = .ok (.lshl, 1) := by decide +kernel
theorem d9_3 : decode jdk_35_method_51_code 3 = .ok (.lload_n 0, 1) := by decide +kernel
theorem d9_4 : decode jdk_35_method_51_code 4 = .ok (.iload_n 2, 1) := by decide +kernel
theorem d9_5 : decode jdk_35_method_51_code 5 = .ok (.ineg, 1) := by decide +kernel
theorem d9_6 : decode jdk_35_method_51_code 6 = .ok (.lushr, 1) := by decide +kernel
theorem d9_7 : decode jdk_35_method_51_code 7 = .ok (.lor, 1) := by decide +kernel
theorem d9_8 : decode jdk_35_method_51_code 8 = .ok (.lreturn, 1) := by decide +kernel
theorem pn_9 : plainName "java/lang/Long" = true := by first | (simp [plainName, overriddenIn]; done) | decide +kernel
theorem ef_9 (z0 : Int64) (z1 : Int32) (m : MethodId) : entryFrame m #[.long z0, .int z1] 3 = mkF m 0 #[.val (.long z0), .second, .val (.int z1)] [] := by first | (simp [entryFrame, mkF, argsToLocals, Value.category, maxLocals]; done) | rfl
set_option maxRecDepth 65536 in
set_option maxHeartbeats 40000000 in
theorem rm_9 (l : Launch) (Z : State) (a0 : Array Value) (hw : ∀ d ∈ tables_1, d.before a0 Z = true) (ws : List Jvm.Cond) (z1 : Int64) (k1 : Int32) (h0 : Heap) (n0 : Nat) (Z0 : n0 ≤ h0.size)  :
    OwnMet l Z (⟨"java/lang/Long", "rotateLeft", "(JI)J"⟩ : MethodName) jdk_35_method_51_code 3 (some .long) ws ({ frames := 0, cells := 0, slots := 0, locals := 0 } : Room) #[.long z1, .int k1] h0 (fun v h L => v = some (.long (own_rot z1 k1)) ∧ Fr n0 L ∧ h = h0) := by
  refine own_met (plainFor_of_name pn_9) (ef_9 z1 k1) ?_
  intro p e s m below meth c s₁ hx hby hml hZ hown hnm hret hlk X0 e0
  have N0 := Fr.nil n0
  refine s_lloadN X0 hx (hb hby d9_0) (pc' := 1) rfl rfl ?_
  refine s_iloadN X0 hx (hb hby d9_1) (pc' := 2) rfl rfl ?_
  refine s_lshl X0 hx (hb hby d9_2) (pc' := 3) rfl ?_
  refine s_lloadN X0 hx (hb hby d9_3) (pc' := 4) rfl rfl ?_
  refine s_iloadN X0 hx (hb hby d9_4) (pc' := 5) rfl rfl ?_
  refine s_ineg X0 hx (hb hby d9_5) (pc' := 6) rfl ?_
  refine s_lushr X0 hx (hb hby d9_6) (pc' := 7) rfl ?_
  refine s_lor X0 hx (hb hby d9_7) (pc' := 8) rfl ?_
  exact s_retI X0 hx hlk hret (hb hby d9_8) rfl (Or.inr (Or.inl ⟨rfl, rfl, _, rfl⟩)) (by decide) (by decide) ⟨rfl, N0, e0⟩
theorem d1_0 : decode prog_57_method_1_code 0 = .ok (.aload_n 0, 1) := by decide +kernel
theorem d1_1 : decode prog_57_method_1_code 1 = .ok (.invokespecial 1, 3) := by decide +kernel
theorem d1_4 : decode prog_57_method_1_code 4 = .ok (.aload_n 0, 1) := by decide +kernel
theorem d1_5 : decode prog_57_method_1_code 5 = .ok (.dload_n 1, 1) := by decide +kernel
theorem d1_6 : decode prog_57_method_1_code 6 = .ok (.putfield 7, 3) := by decide +kernel
theorem d1_9 : decode prog_57_method_1_code 9 = .ok (.aload_n 0, 1) := by decide +kernel
theorem d1_10 : decode prog_57_method_1_code 10 = .ok (.dload_n 3, 1) := by decide +kernel
theorem d1_11 : decode prog_57_method_1_code 11 = .ok (.putfield 13, 3) := by decide +kernel
theorem d1_14 : decode prog_57_method_1_code 14 = .ok (.aload_n 0, 1) := by decide +kernel
theorem d1_15 : decode prog_57_method_1_code 15 = .ok (.dload_n 1, 1) := by decide +kernel
theorem d1_16 : decode prog_57_method_1_code 16 = .ok (.putfield 16, 3) := by decide +kernel
theorem d1_19 : decode prog_57_method_1_code 19 = .ok (.return_, 1) := by decide +kernel
theorem pn_1 : plainName "com/example/vicinity/vicinity/routes/Overload" = true := by first | (simp [plainName, overriddenIn]; done) | decide +kernel
theorem ef_1 (z0 : Addr) (z1 : UInt64) (z2 : UInt64) (m : MethodId) : entryFrame m #[.ref z0, .double z1, .double z2] 5 = mkF m 0 #[.val (.ref z0), .val (.double z1), .second, .val (.double z2), .second] [] := by first | (simp [entryFrame, mkF, argsToLocals, Value.category, maxLocals]; done) | rfl
set_option maxRecDepth 65536 in
set_option maxHeartbeats 40000000 in
theorem rm_1 (l : Launch) (Z : State) (a0 : Array Value) (hw : ∀ d ∈ tables_1, d.before a0 Z = true) (ws : List Jvm.Cond) (a : Addr) (x0 : UInt64) (x1 : UInt64) (vo0 : Value) (vo1 : Value) (vo2 : Value) (h0 : Heap) (n0 : Nat) (Z0 : n0 ≤ h0.size) (Ea : Exa Z h0 a "com/example/vicinity/vicinity/routes/Overload") (Gcapacity : (Fld Z h0 a "com/example/vicinity/vicinity/routes/Overload" "capacity" "D" vo0)) (Gprice : (Fld Z h0 a "com/example/vicinity/vicinity/routes/Overload" "price" "D" vo1)) (Glimit : (Fld Z h0 a "com/example/vicinity/vicinity/routes/Overload" "limit" "D" vo2)) (ga : n0 ≤ a) :
    OwnMet l Z (⟨"com/example/vicinity/vicinity/routes/Overload", "<init>", "(DD)V"⟩ : MethodName) prog_57_method_1_code 5 none ws ({ frames := 1, cells := 0, slots := 0, locals := 12 } : Room) #[.ref a, .double x0, .double x1] h0 (fun v h L => v = none ∧ Fr n0 L ∧ Keep h0 h [a] ∧ Exa Z h a "com/example/vicinity/vicinity/routes/Overload" ∧ (Fld Z h a "com/example/vicinity/vicinity/routes/Overload" "capacity" "D" (.double x0)) ∧ (Fld Z h a "com/example/vicinity/vicinity/routes/Overload" "limit" "D" (.double x0))) := by
  refine own_met (plainFor_of_name pn_1) (ef_1 a x0 x1) ?_
  intro p e s m below meth c s₁ hx hby hml hZ hown hnm hret hlk X0 e0
  have N0 := Fr.nil n0
  refine s_aloadN X0 hx (hb hby d1_0) (pc' := 1) rfl rfl rfl ?_
  refine s_initO X0 hx hZ hown (hw _ (List.mem_of_getElem? (i := 6) rfl)) (hw _ (List.mem_of_getElem? (i := 7) rfl)) (hw _ (List.mem_of_getElem? (i := 8) rfl)) e0 (hb hby d1_1) (pc' := 4) rfl (by rw [hml]; rfl) (by decide) (W := 0) (Nat.le_of_eq rfl) (by decide) ?_
  intro T1 X1 e1
  refine s_aloadN X1 hx (hb hby d1_4) (pc' := 5) rfl rfl rfl ?_
  refine s_dloadN X1 hx (hb hby d1_5) (pc' := 6) rfl rfl ?_
  refine s_putF X1 hx hZ hown (hw _ (List.mem_of_getElem? (i := 9) rfl)) e1 Gcapacity Ea (Or.inr ⟨(hw _ (List.mem_of_getElem? (i := 10) rfl)), rfl, hnm⟩) (hw _ (List.mem_of_getElem? (i := 1) rfl)) (ty := .double) (by decide) rfl rfl (hb hby d1_6) (pc' := 9) rfl ?_
  intro T2 h2 X2 e2 W2
  have N2 := Fr.snoc X2 N0 ga
  have F2 := Gcapacity.same W2
  have H2 : h0.size ≤ h2.size := by rw [W2.size]; exact (Nat.le_refl _)
  refine s_aloadN X2 hx (hb hby d1_9) (pc' := 10) rfl rfl rfl ?_
  refine s_dloadN X2 hx (hb hby d1_10) (pc' := 11) rfl rfl ?_
  have fF3 := (Gprice.other W2 (Or.inr (slot_ne (C := "com/example/vicinity/vicinity/routes/Overload") (t := .double) (t' := .double) (Or.inl (hw _ (List.mem_of_getElem? (i := 12) rfl))) (Or.inr (hw _ (List.mem_of_getElem? (i := 10) rfl))) (by decide) (by decide) (by decide))))
  have fE4 := (Ea.wr W2)
  refine s_putF X2 hx hZ hown (hw _ (List.mem_of_getElem? (i := 11) rfl)) e2 fF3 fE4 (Or.inl (hw _ (List.mem_of_getElem? (i := 12) rfl))) (hw _ (List.mem_of_getElem? (i := 1) rfl)) (ty := .double) (by decide) rfl rfl (hb hby d1_11) (pc' := 14) rfl ?_
  intro T5 h5 X5 e5 W5
  have N5 := Fr.snoc X5 N2 ga
  have F5 := fF3.same W5
  have H5 : h0.size ≤ h5.size := by rw [W5.size]; exact H2
  refine s_aloadN X5 hx (hb hby d1_14) (pc' := 15) rfl rfl rfl ?_
  refine s_dloadN X5 hx (hb hby d1_15) (pc' := 16) rfl rfl ?_
  have fF6 := ((Glimit.other W2 (Or.inr (slot_ne (C := "com/example/vicinity/vicinity/routes/Overload") (t := .double) (t' := .double) (Or.inl (hw _ (List.mem_of_getElem? (i := 14) rfl))) (Or.inr (hw _ (List.mem_of_getElem? (i := 10) rfl))) (by decide) (by decide) (by decide)))).other W5 (Or.inr (slot_ne (C := "com/example/vicinity/vicinity/routes/Overload") (t := .double) (t' := .double) (Or.inl (hw _ (List.mem_of_getElem? (i := 14) rfl))) (Or.inl (hw _ (List.mem_of_getElem? (i := 12) rfl))) (by decide) (by decide) (by decide))))
  have fE7 := (fE4.wr W5)
  refine s_putF X5 hx hZ hown (hw _ (List.mem_of_getElem? (i := 13) rfl)) e5 fF6 fE7 (Or.inl (hw _ (List.mem_of_getElem? (i := 14) rfl))) (hw _ (List.mem_of_getElem? (i := 1) rfl)) (ty := .double) (by decide) rfl rfl (hb hby d1_16) (pc' := 19) rfl ?_
  intro T8 h8 X8 e8 W8
  have N8 := Fr.snoc X8 N5 ga
  have F8 := fF6.same W8
  have H8 : h0.size ≤ h8.size := by rw [W8.size]; exact H5
  have KK9 : Keep h0 h8 [a] := ((((Keep.refl _ _).wr W2 (Or.inl (List.mem_of_getElem? (i := 0) rfl))).wr W5 (Or.inl (List.mem_of_getElem? (i := 0) rfl))).wr W8 (Or.inl (List.mem_of_getElem? (i := 0) rfl)))
  have fE10 := (fE7.wr W8)
  have fF11 := ((F2.other W5 (Or.inr (slot_ne (C := "com/example/vicinity/vicinity/routes/Overload") (t := .double) (t' := .double) (Or.inr (hw _ (List.mem_of_getElem? (i := 10) rfl))) (Or.inl (hw _ (List.mem_of_getElem? (i := 12) rfl))) (by decide) (by decide) (by decide)))).other W8 (Or.inr (slot_ne (C := "com/example/vicinity/vicinity/routes/Overload") (t := .double) (t' := .double) (Or.inr (hw _ (List.mem_of_getElem? (i := 10) rfl))) (Or.inl (hw _ (List.mem_of_getElem? (i := 14) rfl))) (by decide) (by decide) (by decide))))
  have fF12 := (F5.other W8 (Or.inr (slot_ne (C := "com/example/vicinity/vicinity/routes/Overload") (t := .double) (t' := .double) (Or.inl (hw _ (List.mem_of_getElem? (i := 12) rfl))) (Or.inl (hw _ (List.mem_of_getElem? (i := 14) rfl))) (by decide) (by decide) (by decide))))
  exact s_ret X8 hx hlk hret (hb hby d1_19) (by decide) (by decide) (by rw [e8]; exact ⟨rfl, N8, KK9, fE10, fF11, F8⟩)
theorem d5_0 : decode prog_66_method_1_code 0 = .ok (.aload_n 0, 1) := by decide +kernel
theorem d5_1 : decode prog_66_method_1_code 1 = .ok (.invokespecial 1, 3) := by decide +kernel
theorem d5_4 : decode prog_66_method_1_code 4 = .ok (.aload_n 0, 1) := by decide +kernel
theorem d5_5 : decode prog_66_method_1_code 5 = .ok (.lload_n 1, 1) := by decide +kernel
theorem d5_6 : decode prog_66_method_1_code 6 = .ok (.ldc2_w 9, 3) := by decide +kernel
theorem d5_9 : decode prog_66_method_1_code 9 = .ok (.ladd, 1) := by decide +kernel
theorem d5_10 : decode prog_66_method_1_code 10 = .ok (.invokestatic 11, 3) := by decide +kernel
theorem d5_13 : decode prog_66_method_1_code 13 = .ok (.putfield 15, 3) := by decide +kernel
theorem d5_16 : decode prog_66_method_1_code 16 = .ok (.aload_n 0, 1) := by decide +kernel
theorem d5_17 : decode prog_66_method_1_code 17 = .ok (.lload_n 1, 1) := by decide +kernel
theorem d5_18 : decode prog_66_method_1_code 18 = .ok (.ldc2_w 19, 3) := by decide +kernel
theorem d5_21 : decode prog_66_method_1_code 21 = .ok (.ladd, 1) := by decide +kernel
theorem d5_22 : decode prog_66_method_1_code 22 = .ok (.invokestatic 11, 3) := by decide +kernel
theorem d5_25 : decode prog_66_method_1_code 25 = .ok (.putfield 21, 3) := by decide +kernel
theorem d5_28 : decode prog_66_method_1_code 28 = .ok (.aload_n 0, 1) := by decide +kernel
theorem d5_29 : decode prog_66_method_1_code 29 = .ok (.lload_n 1, 1) := by decide +kernel
theorem d5_30 : decode prog_66_method_1_code 30 = .ok (.ldc2_w 24, 3) := by decide +kernel
theorem d5_33 : decode prog_66_method_1_code 33 = .ok (.ladd, 1) := by decide +kernel
theorem d5_34 : decode prog_66_method_1_code 34 = .ok (.invokestatic 11, 3) := by decide +kernel
theorem d5_37 : decode prog_66_method_1_code 37 = .ok (.putfield 26, 3) := by decide +kernel
theorem d5_40 : decode prog_66_method_1_code 40 = .ok (.aload_n 0, 1) := by decide +kernel
theorem d5_41 : decode prog_66_method_1_code 41 = .ok (.lload_n 1, 1) := by decide +kernel
theorem d5_42 : decode prog_66_method_1_code 42 = .ok (.ldc2_w 29, 3) := by decide +kernel
theorem d5_45 : decode prog_66_method_1_code 45 = .ok (.ladd, 1) := by decide +kernel
theorem d5_46 : decode prog_66_method_1_code 46 = .ok (.invokestatic 11, 3) := by decide +kernel
theorem d5_49 : decode prog_66_method_1_code 49 = .ok (.putfield 31, 3) := by decide +kernel
theorem d5_52 : decode prog_66_method_1_code 52 = .ok (.return_, 1) := by decide +kernel
theorem pn_5 : plainName "com/example/vicinity/vicinity/simulation/RandomStream" = true := by first | (simp [plainName, overriddenIn]; done) | decide +kernel
theorem pd_0 : parseMethodDescriptor "(J)J" = some ⟨[.long], some .long⟩ := by decide +kernel
theorem ef_5 (z0 : Addr) (z1 : Int64) (m : MethodId) : entryFrame m #[.ref z0, .long z1] 3 = mkF m 0 #[.val (.ref z0), .val (.long z1), .second] [] := by first | (simp [entryFrame, mkF, argsToLocals, Value.category, maxLocals]; done) | rfl
set_option maxRecDepth 65536 in
set_option maxHeartbeats 40000000 in
theorem rm_5 (l : Launch) (Z : State) (a0 : Array Value) (hw : ∀ d ∈ tables_1, d.before a0 Z = true) (ws : List Jvm.Cond) (a : Addr) (z1 : Int64) (vo0 : Value) (vo1 : Value) (vo2 : Value) (vo3 : Value) (h0 : Heap) (n0 : Nat) (Z0 : n0 ≤ h0.size) (Ea : Exa Z h0 a "com/example/vicinity/vicinity/simulation/RandomStream") (Gs0 : (Fld Z h0 a "com/example/vicinity/vicinity/simulation/RandomStream" "s0" "J" vo0)) (Gs1 : (Fld Z h0 a "com/example/vicinity/vicinity/simulation/RandomStream" "s1" "J" vo1)) (Gs2 : (Fld Z h0 a "com/example/vicinity/vicinity/simulation/RandomStream" "s2" "J" vo2)) (Gs3 : (Fld Z h0 a "com/example/vicinity/vicinity/simulation/RandomStream" "s3" "J" vo3)) (ga : n0 ≤ a) :
    OwnMet l Z (⟨"com/example/vicinity/vicinity/simulation/RandomStream", "<init>", "(J)V"⟩ : MethodName) prog_66_method_1_code 3 none ws ({ frames := 1, cells := 0, slots := 0, locals := 16 } : Room) #[.ref a, .long z1] h0 (fun v h L => v = none ∧ Fr n0 L ∧ Keep h0 h [a] ∧ Exa Z h a "com/example/vicinity/vicinity/simulation/RandomStream" ∧ (Fld Z h a "com/example/vicinity/vicinity/simulation/RandomStream" "s0" "J" (.long (own_mix (z1 + (-7046029254386353131 : Int64))))) ∧ (Fld Z h a "com/example/vicinity/vicinity/simulation/RandomStream" "s1" "J" (.long (own_mix (z1 + (4354685564936845354 : Int64))))) ∧ (Fld Z h a "com/example/vicinity/vicinity/simulation/RandomStream" "s2" "J" (.long (own_mix (z1 + (-2691343689449507777 : Int64))))) ∧ (Fld Z h a "com/example/vicinity/vicinity/simulation/RandomStream" "s3" "J" (.long (own_mix (z1 + (8709371129873690708 : Int64)))))) := by
  refine own_met (plainFor_of_name pn_5) (ef_5 a z1) ?_
  intro p e s m below meth c s₁ hx hby hml hZ hown hnm hret hlk X0 e0
  have N0 := Fr.nil n0
  refine s_aloadN X0 hx (hb hby d5_0) (pc' := 1) rfl rfl rfl ?_
  refine s_initO X0 hx hZ hown (hw _ (List.mem_of_getElem? (i := 29) rfl)) (hw _ (List.mem_of_getElem? (i := 7) rfl)) (hw _ (List.mem_of_getElem? (i := 8) rfl)) e0 (hb hby d5_1) (pc' := 4) rfl (by rw [hml]; rfl) (by decide) (W := 0) (Nat.le_of_eq rfl) (by decide) ?_
  intro T1 X1 e1
  refine s_aloadN X1 hx (hb hby d5_4) (pc' := 5) rfl rfl rfl ?_
  refine s_lloadN X1 hx (hb hby d5_5) (pc' := 6) rfl rfl ?_
  refine s_ldcJ X1 hx hZ hown (hw _ (List.mem_of_getElem? (i := 30) rfl)) (hb hby d5_6) (pc' := 9) rfl ?_
  refine s_ladd X1 hx (hb hby d5_9) (pc' := 10) rfl ?_
  refine c_static X1 hx hZ hown (hw _ (List.mem_of_getElem? (i := 21) rfl)) (hw _ (List.mem_of_getElem? (i := 22) rfl)) (hw _ (List.mem_of_getElem? (i := 17) rfl)) (hw _ (List.mem_of_getElem? (i := 23) rfl)) (by decide) e1 (rm_4 l Z a0 hw [] (z1 + (-7046029254386353131 : Int64)) h0 n0 (Nat.le_trans Z0 (Nat.le_refl _))) (W := 1) (by decide) (by decide) (by decide) (by decide) (by rw [hml]; rfl) (argsL := [.long (z1 + (-7046029254386353131 : Int64))]) (rest := [.ref a]) (lenOf pd_0 rfl) rfl rfl (Nat.le_of_eq rfl) (hb hby d5_10) (pc' := 13) rfl ?_
  intro T2 v2 L2 X2 hQ2
  obtain ⟨rfl, Nq2, eh2⟩ := hQ2
  have N2 := Fr.app N0 Nq2
  show Goes p e below _ (T2.setTop (mkF m 13 #[.val (.ref a), .val (.long z1), .second] [.long (own_mix (z1 + (-7046029254386353131 : Int64))), .ref a]))
  refine s_putF X2 hx hZ hown (hw _ (List.mem_of_getElem? (i := 31) rfl)) eh2 Gs0 Ea (Or.inl (hw _ (List.mem_of_getElem? (i := 32) rfl))) (hw _ (List.mem_of_getElem? (i := 20) rfl)) (ty := .long) (by decide) rfl rfl (hb hby d5_13) (pc' := 16) rfl ?_
  intro T3 h3 X3 e3 W3
  have N3 := Fr.snoc X3 N2 ga
  have F3 := Gs0.same W3
  have H3 : h0.size ≤ h3.size := by rw [W3.size]; exact (Nat.le_refl _)
  refine s_aloadN X3 hx (hb hby d5_16) (pc' := 17) rfl rfl rfl ?_
  refine s_lloadN X3 hx (hb hby d5_17) (pc' := 18) rfl rfl ?_
  refine s_ldcJ X3 hx hZ hown (hw _ (List.mem_of_getElem? (i := 33) rfl)) (hb hby d5_18) (pc' := 21) rfl ?_
  refine s_ladd X3 hx (hb hby d5_21) (pc' := 22) rfl ?_
  refine c_static X3 hx hZ hown (hw _ (List.mem_of_getElem? (i := 21) rfl)) (hw _ (List.mem_of_getElem? (i := 22) rfl)) (hw _ (List.mem_of_getElem? (i := 17) rfl)) (hw _ (List.mem_of_getElem? (i := 23) rfl)) (by decide) e3 (rm_4 l Z a0 hw [] (z1 + (4354685564936845354 : Int64)) h3 n0 (Nat.le_trans Z0 H3)) (W := 1) (by decide) (by decide) (by decide) (by decide) (by rw [hml]; rfl) (argsL := [.long (z1 + (4354685564936845354 : Int64))]) (rest := [.ref a]) (lenOf pd_0 rfl) rfl rfl (Nat.le_of_eq rfl) (hb hby d5_22) (pc' := 25) rfl ?_
  intro T4 v4 L4 X4 hQ4
  obtain ⟨rfl, Nq4, eh4⟩ := hQ4
  have N4 := Fr.app N3 Nq4
  show Goes p e below _ (T4.setTop (mkF m 25 #[.val (.ref a), .val (.long z1), .second] [.long (own_mix (z1 + (4354685564936845354 : Int64))), .ref a]))
  have fF5 := (Gs1.other W3 (Or.inr (slot_ne (C := "com/example/vicinity/vicinity/simulation/RandomStream") (t := .long) (t' := .long) (Or.inl (hw _ (List.mem_of_getElem? (i := 35) rfl))) (Or.inl (hw _ (List.mem_of_getElem? (i := 32) rfl))) (by decide) (by decide) (by decide))))
  have fE6 := (Ea.wr W3)
  refine s_putF X4 hx hZ hown (hw _ (List.mem_of_getElem? (i := 34) rfl)) eh4 fF5 fE6 (Or.inl (hw _ (List.mem_of_getElem? (i := 35) rfl))) (hw _ (List.mem_of_getElem? (i := 20) rfl)) (ty := .long) (by decide) rfl rfl (hb hby d5_25) (pc' := 28) rfl ?_
  intro T7 h7 X7 e7 W7
  have N7 := Fr.snoc X7 N4 ga
  have F7 := fF5.same W7
  have H7 : h0.size ≤ h7.size := by rw [W7.size]; exact H3
  refine s_aloadN X7 hx (hb hby d5_28) (pc' := 29) rfl rfl rfl ?_
  refine s_lloadN X7 hx (hb hby d5_29) (pc' := 30) rfl rfl ?_
  refine s_ldcJ X7 hx hZ hown (hw _ (List.mem_of_getElem? (i := 36) rfl)) (hb hby d5_30) (pc' := 33) rfl ?_
  refine s_ladd X7 hx (hb hby d5_33) (pc' := 34) rfl ?_
  refine c_static X7 hx hZ hown (hw _ (List.mem_of_getElem? (i := 21) rfl)) (hw _ (List.mem_of_getElem? (i := 22) rfl)) (hw _ (List.mem_of_getElem? (i := 17) rfl)) (hw _ (List.mem_of_getElem? (i := 23) rfl)) (by decide) e7 (rm_4 l Z a0 hw [] (z1 + (-2691343689449507777 : Int64)) h7 n0 (Nat.le_trans Z0 H7)) (W := 1) (by decide) (by decide) (by decide) (by decide) (by rw [hml]; rfl) (argsL := [.long (z1 + (-2691343689449507777 : Int64))]) (rest := [.ref a]) (lenOf pd_0 rfl) rfl rfl (Nat.le_of_eq rfl) (hb hby d5_34) (pc' := 37) rfl ?_
  intro T8 v8 L8 X8 hQ8
  obtain ⟨rfl, Nq8, eh8⟩ := hQ8
  have N8 := Fr.app N7 Nq8
  show Goes p e below _ (T8.setTop (mkF m 37 #[.val (.ref a), .val (.long z1), .second] [.long (own_mix (z1 + (-2691343689449507777 : Int64))), .ref a]))
  have fF9 := ((Gs2.other W3 (Or.inr (slot_ne (C := "com/example/vicinity/vicinity/simulation/RandomStream") (t := .long) (t' := .long) (Or.inl (hw _ (List.mem_of_getElem? (i := 38) rfl))) (Or.inl (hw _ (List.mem_of_getElem? (i := 32) rfl))) (by decide) (by decide) (by decide)))).other W7 (Or.inr (slot_ne (C := "com/example/vicinity/vicinity/simulation/RandomStream") (t := .long) (t' := .long) (Or.inl (hw _ (List.mem_of_getElem? (i := 38) rfl))) (Or.inl (hw _ (List.mem_of_getElem? (i := 35) rfl))) (by decide) (by decide) (by decide))))
  have fE10 := (fE6.wr W7)
  refine s_putF X8 hx hZ hown (hw _ (List.mem_of_getElem? (i := 37) rfl)) eh8 fF9 fE10 (Or.inl (hw _ (List.mem_of_getElem? (i := 38) rfl))) (hw _ (List.mem_of_getElem? (i := 20) rfl)) (ty := .long) (by decide) rfl rfl (hb hby d5_37) (pc' := 40) rfl ?_
  intro T11 h11 X11 e11 W11
  have N11 := Fr.snoc X11 N8 ga
  have F11 := fF9.same W11
  have H11 : h0.size ≤ h11.size := by rw [W11.size]; exact H7
  refine s_aloadN X11 hx (hb hby d5_40) (pc' := 41) rfl rfl rfl ?_
  refine s_lloadN X11 hx (hb hby d5_41) (pc' := 42) rfl rfl ?_
  refine s_ldcJ X11 hx hZ hown (hw _ (List.mem_of_getElem? (i := 39) rfl)) (hb hby d5_42) (pc' := 45) rfl ?_
  refine s_ladd X11 hx (hb hby d5_45) (pc' := 46) rfl ?_
  refine c_static X11 hx hZ hown (hw _ (List.mem_of_getElem? (i := 21) rfl)) (hw _ (List.mem_of_getElem? (i := 22) rfl)) (hw _ (List.mem_of_getElem? (i := 17) rfl)) (hw _ (List.mem_of_getElem? (i := 23) rfl)) (by decide) e11 (rm_4 l Z a0 hw [] (z1 + (8709371129873690708 : Int64)) h11 n0 (Nat.le_trans Z0 H11)) (W := 1) (by decide) (by decide) (by decide) (by decide) (by rw [hml]; rfl) (argsL := [.long (z1 + (8709371129873690708 : Int64))]) (rest := [.ref a]) (lenOf pd_0 rfl) rfl rfl (Nat.le_of_eq rfl) (hb hby d5_46) (pc' := 49) rfl ?_
  intro T12 v12 L12 X12 hQ12
  obtain ⟨rfl, Nq12, eh12⟩ := hQ12
  have N12 := Fr.app N11 Nq12
  show Goes p e below _ (T12.setTop (mkF m 49 #[.val (.ref a), .val (.long z1), .second] [.long (own_mix (z1 + (8709371129873690708 : Int64))), .ref a]))
  have fF13 := (((Gs3.other W3 (Or.inr (slot_ne (C := "com/example/vicinity/vicinity/simulation/RandomStream") (t := .long) (t' := .long) (Or.inl (hw _ (List.mem_of_getElem? (i := 41) rfl))) (Or.inl (hw _ (List.mem_of_getElem? (i := 32) rfl))) (by decide) (by decide) (by decide)))).other W7 (Or.inr (slot_ne (C := "com/example/vicinity/vicinity/simulation/RandomStream") (t := .long) (t' := .long) (Or.inl (hw _ (List.mem_of_getElem? (i := 41) rfl))) (Or.inl (hw _ (List.mem_of_getElem? (i := 35) rfl))) (by decide) (by decide) (by decide)))).other W11 (Or.inr (slot_ne (C := "com/example/vicinity/vicinity/simulation/RandomStream") (t := .long) (t' := .long) (Or.inl (hw _ (List.mem_of_getElem? (i := 41) rfl))) (Or.inl (hw _ (List.mem_of_getElem? (i := 38) rfl))) (by decide) (by decide) (by decide))))
  have fE14 := (fE10.wr W11)
  refine s_putF X12 hx hZ hown (hw _ (List.mem_of_getElem? (i := 40) rfl)) eh12 fF13 fE14 (Or.inl (hw _ (List.mem_of_getElem? (i := 41) rfl))) (hw _ (List.mem_of_getElem? (i := 20) rfl)) (ty := .long) (by decide) rfl rfl (hb hby d5_49) (pc' := 52) rfl ?_
  intro T15 h15 X15 e15 W15
  have N15 := Fr.snoc X15 N12 ga
  have F15 := fF13.same W15
  have H15 : h0.size ≤ h15.size := by rw [W15.size]; exact H11
  have KK16 : Keep h0 h15 [a] := (((((Keep.refl _ _).wr W3 (Or.inl (List.mem_of_getElem? (i := 0) rfl))).wr W7 (Or.inl (List.mem_of_getElem? (i := 0) rfl))).wr W11 (Or.inl (List.mem_of_getElem? (i := 0) rfl))).wr W15 (Or.inl (List.mem_of_getElem? (i := 0) rfl)))
  have fE17 := (fE14.wr W15)
  have fF18 := (((F3.other W7 (Or.inr (slot_ne (C := "com/example/vicinity/vicinity/simulation/RandomStream") (t := .long) (t' := .long) (Or.inl (hw _ (List.mem_of_getElem? (i := 32) rfl))) (Or.inl (hw _ (List.mem_of_getElem? (i := 35) rfl))) (by decide) (by decide) (by decide)))).other W11 (Or.inr (slot_ne (C := "com/example/vicinity/vicinity/simulation/RandomStream") (t := .long) (t' := .long) (Or.inl (hw _ (List.mem_of_getElem? (i := 32) rfl))) (Or.inl (hw _ (List.mem_of_getElem? (i := 38) rfl))) (by decide) (by decide) (by decide)))).other W15 (Or.inr (slot_ne (C := "com/example/vicinity/vicinity/simulation/RandomStream") (t := .long) (t' := .long) (Or.inl (hw _ (List.mem_of_getElem? (i := 32) rfl))) (Or.inl (hw _ (List.mem_of_getElem? (i := 41) rfl))) (by decide) (by decide) (by decide))))
  have fF19 := ((F7.other W11 (Or.inr (slot_ne (C := "com/example/vicinity/vicinity/simulation/RandomStream") (t := .long) (t' := .long) (Or.inl (hw _ (List.mem_of_getElem? (i := 35) rfl))) (Or.inl (hw _ (List.mem_of_getElem? (i := 38) rfl))) (by decide) (by decide) (by decide)))).other W15 (Or.inr (slot_ne (C := "com/example/vicinity/vicinity/simulation/RandomStream") (t := .long) (t' := .long) (Or.inl (hw _ (List.mem_of_getElem? (i := 35) rfl))) (Or.inl (hw _ (List.mem_of_getElem? (i := 41) rfl))) (by decide) (by decide) (by decide))))
  have fF20 := (F11.other W15 (Or.inr (slot_ne (C := "com/example/vicinity/vicinity/simulation/RandomStream") (t := .long) (t' := .long) (Or.inl (hw _ (List.mem_of_getElem? (i := 38) rfl))) (Or.inl (hw _ (List.mem_of_getElem? (i := 41) rfl))) (by decide) (by decide) (by decide))))
  exact s_ret X15 hx hlk hret (hb hby d5_52) (by decide) (by decide) (by rw [e15]; exact ⟨rfl, N15, KK16, fE17, fF18, fF19, fF20, F15⟩)
theorem d3_0 : decode prog_66_method_2_code 0 = .ok (.new 7, 3) := by decide +kernel
theorem d3_3 : decode prog_66_method_2_code 3 = .ok (.dup, 1) := by decide +kernel
theorem d3_4 : decode prog_66_method_2_code 4 = .ok (.lload_n 0, 1) := by decide +kernel
theorem d3_5 : decode prog_66_method_2_code 5 = .ok (.invokestatic 11, 3) := by decide +kernel
theorem d3_8 : decode prog_66_method_2_code 8 = .ok (.lload_n 2, 1) := by decide +kernel
theorem d3_9 : decode prog_66_method_2_code 9 = .ok (.ladd, 1) := by decide +kernel
theorem d3_10 : decode prog_66_method_2_code 10 = .ok (.invokestatic 11, 3) := by decide +kernel
theorem d3_13 : decode prog_66_method_2_code 13 = .ok (.invokespecial 34, 3) := by decide +kernel
theorem d3_16 : decode prog_66_method_2_code 16 = .ok (.areturn, 1) := by decide +kernel
theorem pn_3 : plainName "com/example/vicinity/vicinity/simulation/RandomStream" = true := by first | (simp [plainName, overriddenIn]; done) | decide +kernel
theorem pd_1 : parseMethodDescriptor "(J)V" = some ⟨[.long], none⟩ := by decide +kernel
theorem ef_3 (z0 : Int64) (z1 : Int64) (m : MethodId) : entryFrame m #[.long z0, .long z1] 4 = mkF m 0 #[.val (.long z0), .second, .val (.long z1), .second] [] := by first | (simp [entryFrame, mkF, argsToLocals, Value.category, maxLocals]; done) | rfl
set_option maxRecDepth 65536 in
set_option maxHeartbeats 40000000 in
theorem rm_3 (l : Launch) (Z : State) (a0 : Array Value) (hw : ∀ d ∈ tables_1, d.before a0 Z = true) (ws : List Jvm.Cond) (y1 : Int64) (y2 : Int64) (h0 : Heap) (n0 : Nat) (Z0 : n0 ≤ h0.size)  :
    OwnMet l Z (⟨"com/example/vicinity/vicinity/simulation/RandomStream", "of", "(JJ)Lcom/example/vicinity/vicinity/simulation/RandomStream;"⟩ : MethodName) prog_66_method_2_code 4 (some (.object "com/example/vicinity/vicinity/simulation/RandomStream")) ws ({ frames := 2, cells := 1, slots := 6, locals := 31 } : Room) #[.long y1, .long y2] h0 (fun v h L => ∃ r : Addr, v = some (.ref r) ∧ Fr n0 L ∧ Keep h0 h [] ∧ h0.size ≤ r ∧ Exa Z h r "com/example/vicinity/vicinity/simulation/RandomStream" ∧ (Fld Z h r "com/example/vicinity/vicinity/simulation/RandomStream" "s0" "J" (.long (own_mix (own_mix (own_mix y1 + y2) + (-7046029254386353131 : Int64))))) ∧ (Fld Z h r "com/example/vicinity/vicinity/simulation/RandomStream" "s1" "J" (.long (own_mix (own_mix (own_mix y1 + y2) + (4354685564936845354 : Int64))))) ∧ (Fld Z h r "com/example/vicinity/vicinity/simulation/RandomStream" "s2" "J" (.long (own_mix (own_mix (own_mix y1 + y2) + (-2691343689449507777 : Int64))))) ∧ (Fld Z h r "com/example/vicinity/vicinity/simulation/RandomStream" "s3" "J" (.long (own_mix (own_mix (own_mix y1 + y2) + (8709371129873690708 : Int64)))))) := by
  refine own_met (plainFor_of_name pn_3) (ef_3 y1 y2) ?_
  intro p e s m below meth c s₁ hx hby hml hZ hown hnm hret hlk X0 e0
  have N0 := Fr.nil n0
  refine s_new X0 hx hZ hown (hw _ (List.mem_of_getElem? (i := 19) rfl)) (hw _ (List.mem_of_getElem? (i := 20) rfl)) (hw _ (List.mem_of_getElem? (i := 17) rfl)) e0 (hb hby d3_0) (pc' := 3) rfl (by decide) (by decide) ?_
  intro T1 h1 o1 X1 e1 E1 g1 A1 D1
  have hg1 : h0.size ≤ o1 := by rw [g1]; exact (Nat.le_refl _)
  have H1 : h0.size ≤ h1.size := Nat.le_trans (Nat.le_refl _) E1.1
  have F1_s0 := D1 (O := "com/example/vicinity/vicinity/simulation/RandomStream") (nm := "s0") (d := "J") (Or.inl (hw _ (List.mem_of_getElem? (i := 32) rfl))) (ty := .long) (by decide)
  have F1_s1 := D1 (O := "com/example/vicinity/vicinity/simulation/RandomStream") (nm := "s1") (d := "J") (Or.inl (hw _ (List.mem_of_getElem? (i := 35) rfl))) (ty := .long) (by decide)
  have F1_s2 := D1 (O := "com/example/vicinity/vicinity/simulation/RandomStream") (nm := "s2") (d := "J") (Or.inl (hw _ (List.mem_of_getElem? (i := 38) rfl))) (ty := .long) (by decide)
  have F1_s3 := D1 (O := "com/example/vicinity/vicinity/simulation/RandomStream") (nm := "s3") (d := "J") (Or.inl (hw _ (List.mem_of_getElem? (i := 41) rfl))) (ty := .long) (by decide)
  refine s_dup X1 hx (hb hby d3_3) (pc' := 4) rfl rfl ?_
  refine s_lloadN X1 hx (hb hby d3_4) (pc' := 5) rfl rfl ?_
  refine c_static X1 hx hZ hown (hw _ (List.mem_of_getElem? (i := 21) rfl)) (hw _ (List.mem_of_getElem? (i := 22) rfl)) (hw _ (List.mem_of_getElem? (i := 17) rfl)) (hw _ (List.mem_of_getElem? (i := 23) rfl)) (by decide) e1 (rm_4 l Z a0 hw [] y1 h1 n0 (Nat.le_trans Z0 H1)) (W := 2) (by decide) (by decide) (by decide) (by decide) (by rw [hml]; rfl) (argsL := [.long y1]) (rest := [.ref o1, .ref o1]) (lenOf pd_0 rfl) rfl rfl (Nat.le_of_eq rfl) (hb hby d3_5) (pc' := 8) rfl ?_
  intro T2 v2 L2 X2 hQ2
  obtain ⟨rfl, Nq2, eh2⟩ := hQ2
  have N2 := Fr.app N0 Nq2
  show Goes p e below _ (T2.setTop (mkF m 8 #[.val (.long y1), .second, .val (.long y2), .second] [.long (own_mix y1), .ref o1, .ref o1]))
  refine s_lloadN X2 hx (hb hby d3_8) (pc' := 9) rfl rfl ?_
  refine s_ladd X2 hx (hb hby d3_9) (pc' := 10) rfl ?_
  refine c_static X2 hx hZ hown (hw _ (List.mem_of_getElem? (i := 21) rfl)) (hw _ (List.mem_of_getElem? (i := 22) rfl)) (hw _ (List.mem_of_getElem? (i := 17) rfl)) (hw _ (List.mem_of_getElem? (i := 23) rfl)) (by decide) eh2 (rm_4 l Z a0 hw [] (own_mix y1 + y2) h1 n0 (Nat.le_trans Z0 H1)) (W := 2) (by decide) (by decide) (by decide) (by decide) (by rw [hml]; rfl) (argsL := [.long ((own_mix y1) + y2)]) (rest := [.ref o1, .ref o1]) (lenOf pd_0 rfl) rfl rfl (Nat.le_of_eq rfl) (hb hby d3_10) (pc' := 13) rfl ?_
  intro T3 v3 L3 X3 hQ3
  obtain ⟨rfl, Nq3, eh3⟩ := hQ3
  have N3 := Fr.app N2 Nq3
  show Goes p e below _ (T3.setTop (mkF m 13 #[.val (.long y1), .second, .val (.long y2), .second] [.long (own_mix (own_mix y1 + y2)), .ref o1, .ref o1]))
  refine c_special X3 hx hZ rfl hown (hw _ (List.mem_of_getElem? (i := 26) rfl)) (hw _ (List.mem_of_getElem? (i := 27) rfl)) (hw _ (List.mem_of_getElem? (i := 17) rfl)) (hw _ (List.mem_of_getElem? (i := 28) rfl)) (by decide) eh3 (rm_5 l Z a0 hw [] o1 (own_mix (own_mix y1 + y2)) _ _ _ _ h1 n0 (Nat.le_trans Z0 H1) A1 F1_s0 F1_s1 F1_s2 F1_s3 (Nat.le_trans Z0 hg1)) (W := 1) (by decide) (by decide) (by decide) (by decide) (by rw [hml]; rfl) (argsL := [.long (own_mix (own_mix y1 + y2))]) (rest := [.ref o1]) (a := o1) (lenOf pd_1 rfl) rfl rfl (Nat.le_of_eq rfl) (hb hby d3_13) (pc' := 16) rfl ?_
  intro T4 v4 L4 X4 hQ4
  obtain ⟨rfl, Nq4, K4, E4, Fa4, Fb4, Fc4, Fd4⟩ := hQ4
  have N4 := Fr.app N3 Nq4
  have H4 : h0.size ≤ T4.heap.size := Nat.le_trans H1 K4.1
  show Goes p e below _ (T4.setTop (mkF m 16 #[.val (.long y1), .second, .val (.long y2), .second] [.ref o1]))
  have KK5 : Keep h0 T4.heap [] := (((Keep.refl _ _).ext E1).trans K4 (allS (Or.inr hg1) all0))
  exact s_retI X4 hx hlk hret (hb hby d3_16) rfl (Or.inr (Or.inr (Or.inr (Or.inr ⟨rfl, rfl, rfl⟩)))) (by decide) (by decide) ⟨_, rfl, N4, KK5, hg1, E4, Fa4, Fb4, Fc4, Fd4⟩
theorem d8_0 : decode prog_66_method_3_code 0 = .ok (.aload_n 0, 1) := by decide +kernel
theorem d8_1 : decode prog_66_method_3_code 1 = .ok (.getfield 21, 3) := by decide +kernel
theorem d8_4 : decode prog_66_method_3_code 4 = .ok (.ldc2_w 37, 3) := by decide +kernel
theorem d8_7 : decode prog_66_method_3_code 7 = .ok (.lmul, 1) := by decide +kernel
theorem d8_8 : decode prog_66_method_3_code 8 = .ok (.bipush 7, 2) := by decide +kernel
theorem d8_10 : decode prog_66_method_3_code 10 = .ok (.invokestatic 39, 3) := by decide +kernel
theorem d8_13 : decode prog_66_method_3_code 13 = .ok (.ldc2_w 45, 3) := by decide +kernel
theorem d8_16 : decode prog_66_method_3_code 16 = .ok (.lmul, 1) := by decide +kernel
theorem d8_17 : decode prog_66_method_3_code 17 = .ok (.lstore_n 1, 1) := by decide +kernel
theorem d8_18 : decode prog_66_method_3_code 18 = .ok (.aload_n 0, 1) := by decide +kernel
theorem d8_19 : decode prog_66_method_3_code 19 = .ok (.getfield 21, 3) := by decide +kernel
theorem d8_22 : decode prog_66_method_3_code 22 = .ok (.bipush 17, 2) := by decide +kernel
theorem d8_24 : decode prog_66_method_3_code 24 = .ok (.lshl, 1) := by decide +kernel
theorem d8_25 : decode prog_66_method_3_code 25 = .ok (.lstore_n 3, 1) := by decide +kernel
theorem d8_26 : decode prog_66_method_3_code 26 = .ok (.aload_n 0, 1) := by decide +kernel
theorem d8_27 : decode prog_66_method_3_code 27 = .ok (.dup, 1) := by decide +kernel
theorem d8_28 : decode prog_66_method_3_code 28 = .ok (.getfield 26, 3) := by decide +kernel
theorem d8_31 : decode prog_66_method_3_code 31 = .ok (.aload_n 0, 1) := by decide +kernel
theorem d8_32 : decode prog_66_method_3_code 32 = .ok (.getfield 15, 3) := by decide +kernel
theorem d8_35 : decode prog_66_method_3_code 35 = .ok (.lxor, 1) := by decide +kernel
theorem d8_36 : decode prog_66_method_3_code 36 = .ok (.putfield 26, 3) := by decide +kernel
theorem d8_39 : decode prog_66_method_3_code 39 = .ok (.aload_n 0, 1) := by decide +kernel
theorem d8_40 : decode prog_66_method_3_code 40 = .ok (.dup, 1) := by decide +kernel
theorem d8_41 : decode prog_66_method_3_code 41 = .ok (.getfield 31, 3) := by decide +kernel
theorem d8_44 : decode prog_66_method_3_code 44 = .ok (.aload_n 0, 1) := by decide +kernel
theorem d8_45 : decode prog_66_method_3_code 45 = .ok (.getfield 21, 3) := by decide +kernel
theorem d8_48 : decode prog_66_method_3_code 48 = .ok (.lxor, 1) := by decide +kernel
theorem d8_49 : decode prog_66_method_3_code 49 = .ok (.putfield 31, 3) := by decide +kernel
theorem d8_52 : decode prog_66_method_3_code 52 = .ok (.aload_n 0, 1) := by decide +kernel
theorem d8_53 : decode prog_66_method_3_code 53 = .ok (.dup, 1) := by decide +kernel
theorem d8_54 : decode prog_66_method_3_code 54 = .ok (.getfield 21, 3) := by decide +kernel
theorem d8_57 : decode prog_66_method_3_code 57 = .ok (.aload_n 0, 1) := by decide +kernel
theorem d8_58 : decode prog_66_method_3_code 58 = .ok (.getfield 26, 3) := by decide +kernel
theorem d8_61 : decode prog_66_method_3_code 61 = .ok (.lxor, 1) := by decide +kernel
theorem d8_62 : decode prog_66_method_3_code 62 = .ok (.putfield 21, 3) := by decide +kernel
theorem d8_65 : decode prog_66_method_3_code 65 = .ok (.aload_n 0, 1) := by decide +kernel
theorem d8_66 : decode prog_66_method_3_code 66 = .ok (.dup, 1) := by decide +kernel
theorem d8_67 : decode prog_66_method_3_code 67 = .ok (.getfield 15, 3) := by decide +kernel
theorem d8_70 : decode prog_66_method_3_code 70 = .ok (.aload_n 0, 1) := by decide +kernel
theorem d8_71 : decode prog_66_method_3_code 71 = .ok (.getfield 31, 3) := by decide +kernel
theorem d8_74 : decode prog_66_method_3_code 74 = .ok (.lxor, 1) := by decide +kernel
theorem d8_75 : decode prog_66_method_3_code 75 = .ok (.putfield 15, 3) := by decide +kernel
theorem d8_78 : decode prog_66_method_3_code 78 = .ok (.aload_n 0, 1) := by decide +kernel
theorem d8_79 : decode prog_66_method_3_code 79 = .ok (.dup, 1) := by decide +kernel
theorem d8_80 : decode prog_66_method_3_code 80 = .ok (.getfield 26, 3) := by decide +kernel
theorem d8_83 : decode prog_66_method_3_code 83 = .ok (.lload_n 3, 1) := by decide +kernel
theorem d8_84 : decode prog_66_method_3_code 84 = .ok (.lxor, 1) := by decide +kernel
theorem d8_85 : decode prog_66_method_3_code 85 = .ok (.putfield 26, 3) := by decide +kernel
theorem d8_88 : decode prog_66_method_3_code 88 = .ok (.aload_n 0, 1) := by decide +kernel
theorem d8_89 : decode prog_66_method_3_code 89 = .ok (.aload_n 0, 1) := by decide +kernel
theorem d8_90 : decode prog_66_method_3_code 90 = .ok (.getfield 31, 3) := by decide +kernel
theorem d8_93 : decode prog_66_method_3_code 93 = .ok (.bipush 45, 2) := by decide +kernel
theorem d8_95 : decode prog_66_method_3_code 95 = .ok (.invokestatic 39, 3) := by decide +kernel
theorem d8_98 : decode prog_66_method_3_code 98 = .ok (.putfield 31, 3) := by decide +kernel
theorem d8_101 : decode prog_66_method_3_code 101 = .ok (.lload_n 1, 1) := by decide +kernel
theorem d8_102 : decode prog_66_method_3_code 102 = .ok (.lreturn, 1) := by decide +kernel
theorem pn_8 : plainName "com/example/vicinity/vicinity/simulation/RandomStream" = true := by first | (simp [plainName, overriddenIn]; done) | decide +kernel
theorem pd_2 : parseMethodDescriptor "(JI)J" = some ⟨[.long, .int], some .long⟩ := by decide +kernel
theorem ef_8 (z0 : Addr) (m : MethodId) : entryFrame m #[.ref z0] 5 = mkF m 0 #[.val (.ref z0), .unset, .unset, .unset, .unset] [] := by first | (simp [entryFrame, mkF, argsToLocals, Value.category, maxLocals]; done) | rfl
set_option maxRecDepth 65536 in
set_option maxHeartbeats 40000000 in
theorem rm_8 (l : Launch) (Z : State) (a0 : Array Value) (hw : ∀ d ∈ tables_1, d.before a0 Z = true) (ws : List Jvm.Cond) (a : Addr) (s0v : Int64) (s1v : Int64) (s2v : Int64) (s3v : Int64) (h0 : Heap) (n0 : Nat) (Z0 : n0 ≤ h0.size) (Ea : Exa Z h0 a "com/example/vicinity/vicinity/simulation/RandomStream") (Gs0 : (Fld Z h0 a "com/example/vicinity/vicinity/simulation/RandomStream" "s0" "J" (.long s0v))) (Gs1 : (Fld Z h0 a "com/example/vicinity/vicinity/simulation/RandomStream" "s1" "J" (.long s1v))) (Gs2 : (Fld Z h0 a "com/example/vicinity/vicinity/simulation/RandomStream" "s2" "J" (.long s2v))) (Gs3 : (Fld Z h0 a "com/example/vicinity/vicinity/simulation/RandomStream" "s3" "J" (.long s3v))) (ga : n0 ≤ a) :
    OwnMet l Z (⟨"com/example/vicinity/vicinity/simulation/RandomStream", "nextLong", "()J"⟩ : MethodName) prog_66_method_3_code 5 (some .long) ws ({ frames := 1, cells := 0, slots := 0, locals := 15 } : Room) #[.ref a] h0 (fun v h L => v = some (.long (own_next s1v)) ∧ Fr n0 L ∧ Keep h0 h [a]) := by
  refine own_met (plainFor_of_name pn_8) (ef_8 a) ?_
  intro p e s m below meth c s₁ hx hby hml hZ hown hnm hret hlk X0 e0
  have N0 := Fr.nil n0
  refine s_aloadN X0 hx (hb hby d8_0) (pc' := 1) rfl rfl rfl ?_
  refine s_getF X0 hx hZ hown (hw _ (List.mem_of_getElem? (i := 34) rfl)) e0 Gs1 (hb hby d8_1) (pc' := 4) rfl ?_
  intro T1 X1 e1
  refine s_ldcJ X1 hx hZ hown (hw _ (List.mem_of_getElem? (i := 57) rfl)) (hb hby d8_4) (pc' := 7) rfl ?_
  refine s_lmul X1 hx (hb hby d8_7) (pc' := 8) rfl ?_
  refine s_bipush X1 hx (7 : Int32) (hb hby d8_8) (pc' := 10) rfl rfl ?_
  refine c_static X1 hx hZ hown (hw _ (List.mem_of_getElem? (i := 58) rfl)) (hw _ (List.mem_of_getElem? (i := 59) rfl)) (hw _ (List.mem_of_getElem? (i := 60) rfl)) (hw _ (List.mem_of_getElem? (i := 61) rfl)) (by decide) e1 (rm_9 l Z a0 hw [] (s1v * (5 : Int64)) (7 : Int32) h0 n0 (Nat.le_trans Z0 (Nat.le_refl _))) (W := 0) (by decide) (by decide) (by decide) (by decide) (by rw [hml]; rfl) (argsL := [.long (s1v * (5 : Int64)), .int (7 : Int32)]) (rest := []) (lenOf pd_2 rfl) rfl rfl (Nat.le_of_eq rfl) (hb hby d8_10) (pc' := 13) rfl ?_
  intro T2 v2 L2 X2 hQ2
  obtain ⟨rfl, Nq2, eh2⟩ := hQ2
  have N2 := Fr.app N0 Nq2
  show Goes p e below _ (T2.setTop (mkF m 13 #[.val (.ref a), .unset, .unset, .unset, .unset] [.long (own_rot (s1v * (5 : Int64)) (7 : Int32))]))
  refine s_ldcJ X2 hx hZ hown (hw _ (List.mem_of_getElem? (i := 62) rfl)) (hb hby d8_13) (pc' := 16) rfl ?_
  refine s_lmul X2 hx (hb hby d8_16) (pc' := 17) rfl ?_
  refine s_lstoreN X2 hx #[.val (.ref a), .val (.long ((own_rot (s1v * (5 : Int64)) (7 : Int32)) * (9 : Int64))), .second, .unset, .unset] (hb hby d8_17) (pc' := 18) rfl rfl ?_
  refine s_aloadN X2 hx (hb hby d8_18) (pc' := 19) rfl rfl rfl ?_
  refine s_getF X2 hx hZ hown (hw _ (List.mem_of_getElem? (i := 34) rfl)) eh2 Gs1 (hb hby d8_19) (pc' := 22) rfl ?_
  intro T3 X3 e3
  refine s_bipush X3 hx (17 : Int32) (hb hby d8_22) (pc' := 24) rfl rfl ?_
  refine s_lshl X3 hx (hb hby d8_24) (pc' := 25) rfl ?_
  refine s_lstoreN X3 hx #[.val (.ref a), .val (.long ((own_rot (s1v * (5 : Int64)) (7 : Int32)) * (9 : Int64))), .second, .val (.long (s1v <<< ((17 : Int32).toInt64 &&& 63))), .second] (hb hby d8_25) (pc' := 26) rfl rfl ?_
  refine s_aloadN X3 hx (hb hby d8_26) (pc' := 27) rfl rfl rfl ?_
  refine s_dup X3 hx (hb hby d8_27) (pc' := 28) rfl rfl ?_
  refine s_getF X3 hx hZ hown (hw _ (List.mem_of_getElem? (i := 37) rfl)) e3 Gs2 (hb hby d8_28) (pc' := 31) rfl ?_
  intro T4 X4 e4
  refine s_aloadN X4 hx (hb hby d8_31) (pc' := 32) rfl rfl rfl ?_
  refine s_getF X4 hx hZ hown (hw _ (List.mem_of_getElem? (i := 31) rfl)) e4 Gs0 (hb hby d8_32) (pc' := 35) rfl ?_
  intro T5 X5 e5
  refine s_lxor X5 hx (hb hby d8_35) (pc' := 36) rfl ?_
  refine s_putF X5 hx hZ hown (hw _ (List.mem_of_getElem? (i := 37) rfl)) e5 Gs2 Ea (Or.inl (hw _ (List.mem_of_getElem? (i := 38) rfl))) (hw _ (List.mem_of_getElem? (i := 20) rfl)) (ty := .long) (by decide) rfl rfl (hb hby d8_36) (pc' := 39) rfl ?_
  intro T6 h6 X6 e6 W6
  have N6 := Fr.snoc X6 N2 ga
  have F6 := Gs2.same W6
  have H6 : h0.size ≤ h6.size := by rw [W6.size]; exact (Nat.le_refl _)
  refine s_aloadN X6 hx (hb hby d8_39) (pc' := 40) rfl rfl rfl ?_
  refine s_dup X6 hx (hb hby d8_40) (pc' := 41) rfl rfl ?_
  have fF7 := (Gs3.other W6 (Or.inr (slot_ne (C := "com/example/vicinity/vicinity/simulation/RandomStream") (t := .long) (t' := .long) (Or.inl (hw _ (List.mem_of_getElem? (i := 41) rfl))) (Or.inl (hw _ (List.mem_of_getElem? (i := 38) rfl))) (by decide) (by decide) (by decide))))
  refine s_getF X6 hx hZ hown (hw _ (List.mem_of_getElem? (i := 40) rfl)) e6 fF7 (hb hby d8_41) (pc' := 44) rfl ?_
  intro T8 X8 e8
  refine s_aloadN X8 hx (hb hby d8_44) (pc' := 45) rfl rfl rfl ?_
  have fF9 := (Gs1.other W6 (Or.inr (slot_ne (C := "com/example/vicinity/vicinity/simulation/RandomStream") (t := .long) (t' := .long) (Or.inl (hw _ (List.mem_of_getElem? (i := 35) rfl))) (Or.inl (hw _ (List.mem_of_getElem? (i := 38) rfl))) (by decide) (by decide) (by decide))))
  refine s_getF X8 hx hZ hown (hw _ (List.mem_of_getElem? (i := 34) rfl)) e8 fF9 (hb hby d8_45) (pc' := 48) rfl ?_
  intro T10 X10 e10
  refine s_lxor X10 hx (hb hby d8_48) (pc' := 49) rfl ?_
  have fE11 := (Ea.wr W6)
  refine s_putF X10 hx hZ hown (hw _ (List.mem_of_getElem? (i := 40) rfl)) e10 fF7 fE11 (Or.inl (hw _ (List.mem_of_getElem? (i := 41) rfl))) (hw _ (List.mem_of_getElem? (i := 20) rfl)) (ty := .long) (by decide) rfl rfl (hb hby d8_49) (pc' := 52) rfl ?_
  intro T12 h12 X12 e12 W12
  have N12 := Fr.snoc X12 N6 ga
  have F12 := fF7.same W12
  have H12 : h0.size ≤ h12.size := by rw [W12.size]; exact H6
  refine s_aloadN X12 hx (hb hby d8_52) (pc' := 53) rfl rfl rfl ?_
  refine s_dup X12 hx (hb hby d8_53) (pc' := 54) rfl rfl ?_
  have fF13 := (fF9.other W12 (Or.inr (slot_ne (C := "com/example/vicinity/vicinity/simulation/RandomStream") (t := .long) (t' := .long) (Or.inl (hw _ (List.mem_of_getElem? (i := 35) rfl))) (Or.inl (hw _ (List.mem_of_getElem? (i := 41) rfl))) (by decide) (by decide) (by decide))))
  refine s_getF X12 hx hZ hown (hw _ (List.mem_of_getElem? (i := 34) rfl)) e12 fF13 (hb hby d8_54) (pc' := 57) rfl ?_
  intro T14 X14 e14
  refine s_aloadN X14 hx (hb hby d8_57) (pc' := 58) rfl rfl rfl ?_
  have fF15 := (F6.other W12 (Or.inr (slot_ne (C := "com/example/vicinity/vicinity/simulation/RandomStream") (t := .long) (t' := .long) (Or.inl (hw _ (List.mem_of_getElem? (i := 38) rfl))) (Or.inl (hw _ (List.mem_of_getElem? (i := 41) rfl))) (by decide) (by decide) (by decide))))
  refine s_getF X14 hx hZ hown (hw _ (List.mem_of_getElem? (i := 37) rfl)) e14 fF15 (hb hby d8_58) (pc' := 61) rfl ?_
  intro T16 X16 e16
  refine s_lxor X16 hx (hb hby d8_61) (pc' := 62) rfl ?_
  have fE17 := (fE11.wr W12)
  refine s_putF X16 hx hZ hown (hw _ (List.mem_of_getElem? (i := 34) rfl)) e16 fF13 fE17 (Or.inl (hw _ (List.mem_of_getElem? (i := 35) rfl))) (hw _ (List.mem_of_getElem? (i := 20) rfl)) (ty := .long) (by decide) rfl rfl (hb hby d8_62) (pc' := 65) rfl ?_
  intro T18 h18 X18 e18 W18
  have N18 := Fr.snoc X18 N12 ga
  have F18 := fF13.same W18
  have H18 : h0.size ≤ h18.size := by rw [W18.size]; exact H12
  refine s_aloadN X18 hx (hb hby d8_65) (pc' := 66) rfl rfl rfl ?_
  refine s_dup X18 hx (hb hby d8_66) (pc' := 67) rfl rfl ?_
  have fF19 := (((Gs0.other W6 (Or.inr (slot_ne (C := "com/example/vicinity/vicinity/simulation/RandomStream") (t := .long) (t' := .long) (Or.inl (hw _ (List.mem_of_getElem? (i := 32) rfl))) (Or.inl (hw _ (List.mem_of_getElem? (i := 38) rfl))) (by decide) (by decide) (by decide)))).other W12 (Or.inr (slot_ne (C := "com/example/vicinity/vicinity/simulation/RandomStream") (t := .long) (t' := .long) (Or.inl (hw _ (List.mem_of_getElem? (i := 32) rfl))) (Or.inl (hw _ (List.mem_of_getElem? (i := 41) rfl))) (by decide) (by decide) (by decide)))).other W18 (Or.inr (slot_ne (C := "com/example/vicinity/vicinity/simulation/RandomStream") (t := .long) (t' := .long) (Or.inl (hw _ (List.mem_of_getElem? (i := 32) rfl))) (Or.inl (hw _ (List.mem_of_getElem? (i := 35) rfl))) (by decide) (by decide) (by decide))))
  refine s_getF X18 hx hZ hown (hw _ (List.mem_of_getElem? (i := 31) rfl)) e18 fF19 (hb hby d8_67) (pc' := 70) rfl ?_
  intro T20 X20 e20
  refine s_aloadN X20 hx (hb hby d8_70) (pc' := 71) rfl rfl rfl ?_
  have fF21 := (F12.other W18 (Or.inr (slot_ne (C := "com/example/vicinity/vicinity/simulation/RandomStream") (t := .long) (t' := .long) (Or.inl (hw _ (List.mem_of_getElem? (i := 41) rfl))) (Or.inl (hw _ (List.mem_of_getElem? (i := 35) rfl))) (by decide) (by decide) (by decide))))
  refine s_getF X20 hx hZ hown (hw _ (List.mem_of_getElem? (i := 40) rfl)) e20 fF21 (hb hby d8_71) (pc' := 74) rfl ?_
  intro T22 X22 e22
  refine s_lxor X22 hx (hb hby d8_74) (pc' := 75) rfl ?_
  have fE23 := (fE17.wr W18)
  refine s_putF X22 hx hZ hown (hw _ (List.mem_of_getElem? (i := 31) rfl)) e22 fF19 fE23 (Or.inl (hw _ (List.mem_of_getElem? (i := 32) rfl))) (hw _ (List.mem_of_getElem? (i := 20) rfl)) (ty := .long) (by decide) rfl rfl (hb hby d8_75) (pc' := 78) rfl ?_
  intro T24 h24 X24 e24 W24
  have N24 := Fr.snoc X24 N18 ga
  have F24 := fF19.same W24
  have H24 : h0.size ≤ h24.size := by rw [W24.size]; exact H18
  refine s_aloadN X24 hx (hb hby d8_78) (pc' := 79) rfl rfl rfl ?_
  refine s_dup X24 hx (hb hby d8_79) (pc' := 80) rfl rfl ?_
  have fF25 := ((fF15.other W18 (Or.inr (slot_ne (C := "com/example/vicinity/vicinity/simulation/RandomStream") (t := .long) (t' := .long) (Or.inl (hw _ (List.mem_of_getElem? (i := 38) rfl))) (Or.inl (hw _ (List.mem_of_getElem? (i := 35) rfl))) (by decide) (by decide) (by decide)))).other W24 (Or.inr (slot_ne (C := "com/example/vicinity/vicinity/simulation/RandomStream") (t := .long) (t' := .long) (Or.inl (hw _ (List.mem_of_getElem? (i := 38) rfl))) (Or.inl (hw _ (List.mem_of_getElem? (i := 32) rfl))) (by decide) (by decide) (by decide))))
  refine s_getF X24 hx hZ hown (hw _ (List.mem_of_getElem? (i := 37) rfl)) e24 fF25 (hb hby d8_80) (pc' := 83) rfl ?_
  intro T26 X26 e26
  refine s_lloadN X26 hx (hb hby d8_83) (pc' := 84) rfl rfl ?_
  refine s_lxor X26 hx (hb hby d8_84) (pc' := 85) rfl ?_
  have fE27 := (fE23.wr W24)
  refine s_putF X26 hx hZ hown (hw _ (List.mem_of_getElem? (i := 37) rfl)) e26 fF25 fE27 (Or.inl (hw _ (List.mem_of_getElem? (i := 38) rfl))) (hw _ (List.mem_of_getElem? (i := 20) rfl)) (ty := .long) (by decide) rfl rfl (hb hby d8_85) (pc' := 88) rfl ?_
  intro T28 h28 X28 e28 W28
  have N28 := Fr.snoc X28 N24 ga
  have F28 := fF25.same W28
  have H28 : h0.size ≤ h28.size := by rw [W28.size]; exact H24
  refine s_aloadN X28 hx (hb hby d8_88) (pc' := 89) rfl rfl rfl ?_
  refine s_aloadN X28 hx (hb hby d8_89) (pc' := 90) rfl rfl rfl ?_
  have fF29 := ((fF21.other W24 (Or.inr (slot_ne (C := "com/example/vicinity/vicinity/simulation/RandomStream") (t := .long) (t' := .long) (Or.inl (hw _ (List.mem_of_getElem? (i := 41) rfl))) (Or.inl (hw _ (List.mem_of_getElem? (i := 32) rfl))) (by decide) (by decide) (by decide)))).other W28 (Or.inr (slot_ne (C := "com/example/vicinity/vicinity/simulation/RandomStream") (t := .long) (t' := .long) (Or.inl (hw _ (List.mem_of_getElem? (i := 41) rfl))) (Or.inl (hw _ (List.mem_of_getElem? (i := 38) rfl))) (by decide) (by decide) (by decide))))
  refine s_getF X28 hx hZ hown (hw _ (List.mem_of_getElem? (i := 40) rfl)) e28 fF29 (hb hby d8_90) (pc' := 93) rfl ?_
  intro T30 X30 e30
  refine s_bipush X30 hx (45 : Int32) (hb hby d8_93) (pc' := 95) rfl rfl ?_
  refine c_static X30 hx hZ hown (hw _ (List.mem_of_getElem? (i := 58) rfl)) (hw _ (List.mem_of_getElem? (i := 59) rfl)) (hw _ (List.mem_of_getElem? (i := 60) rfl)) (hw _ (List.mem_of_getElem? (i := 61) rfl)) (by decide) e30 (rm_9 l Z a0 hw [] (s3v ^^^ s1v) (45 : Int32) h28 n0 (Nat.le_trans Z0 H28)) (W := 1) (by decide) (by decide) (by decide) (by decide) (by rw [hml]; rfl) (argsL := [.long (s3v ^^^ s1v), .int (45 : Int32)]) (rest := [.ref a]) (lenOf pd_2 rfl) rfl rfl (Nat.le_of_eq rfl) (hb hby d8_95) (pc' := 98) rfl ?_
  intro T31 v31 L31 X31 hQ31
  obtain ⟨rfl, Nq31, eh31⟩ := hQ31
  have N31 := Fr.app N28 Nq31
  show Goes p e below _ (T31.setTop (mkF m 98 #[.val (.ref a), .val (.long ((own_rot (s1v * (5 : Int64)) (7 : Int32)) * (9 : Int64))), .second, .val (.long (s1v <<< ((17 : Int32).toInt64 &&& 63))), .second] [.long (own_rot (s3v ^^^ s1v) (45 : Int32)), .ref a]))
  have fE32 := (fE27.wr W28)
  refine s_putF X31 hx hZ hown (hw _ (List.mem_of_getElem? (i := 40) rfl)) eh31 fF29 fE32 (Or.inl (hw _ (List.mem_of_getElem? (i := 41) rfl))) (hw _ (List.mem_of_getElem? (i := 20) rfl)) (ty := .long) (by decide) rfl rfl (hb hby d8_98) (pc' := 101) rfl ?_
  intro T33 h33 X33 e33 W33
  have N33 := Fr.snoc X33 N31 ga
  have F33 := fF29.same W33
  have H33 : h0.size ≤ h33.size := by rw [W33.size]; exact H28
  refine s_lloadN X33 hx (hb hby d8_101) (pc' := 102) rfl rfl ?_
  have KK34 : Keep h0 h33 [a] := (((((((Keep.refl _ _).wr W6 (Or.inl (List.mem_of_getElem? (i := 0) rfl))).wr W12 (Or.inl (List.mem_of_getElem? (i := 0) rfl))).wr W18 (Or.inl (List.mem_of_getElem? (i := 0) rfl))).wr W24 (Or.inl (List.mem_of_getElem? (i := 0) rfl))).wr W28 (Or.inl (List.mem_of_getElem? (i := 0) rfl))).wr W33 (Or.inl (List.mem_of_getElem? (i := 0) rfl)))
  exact s_retI X33 hx hlk hret (hb hby d8_102) rfl (Or.inr (Or.inl ⟨rfl, rfl, _, rfl⟩)) (by decide) (by decide) (by rw [e33]; exact ⟨rfl, N33, KK34⟩)
theorem d7_0 : decode prog_66_method_5_code 0 = .ok (.aload_n 0, 1) := by decide +kernel
theorem d7_1 : decode prog_66_method_5_code 1 = .ok (.invokevirtual 58, 3) := by decide +kernel
theorem d7_4 : decode prog_66_method_5_code 4 = .ok (.bipush 11, 2) := by decide +kernel
theorem d7_6 : decode prog_66_method_5_code 6 = .ok (.lushr, 1) := by decide +kernel
theorem d7_7 : decode prog_66_method_5_code 7 = .ok (.l2d, 1) := by decide +kernel
theorem d7_8 : decode prog_66_method_5_code 8 = .ok (.ldc2_w 64, 3) := by decide +kernel
theorem d7_11 : decode prog_66_method_5_code 11 = .ok (.dmul, 1) := by decide +kernel
theorem d7_12 : decode prog_66_method_5_code 12 = .ok (.dreturn, 1) := by decide +kernel
theorem pn_7 : plainName "com/example/vicinity/vicinity/simulation/RandomStream" = true := by first | (simp [plainName, overriddenIn]; done) | decide +kernel
theorem pd_3 : parseMethodDescriptor "()J" = some ⟨[], some .long⟩ := by decide +kernel
theorem ef_7 (z0 : Addr) (m : MethodId) : entryFrame m #[.ref z0] 1 = mkF m 0 #[.val (.ref z0)] [] := by first | (simp [entryFrame, mkF, argsToLocals, Value.category, maxLocals]; done) | rfl
set_option maxRecDepth 65536 in
set_option maxHeartbeats 40000000 in
theorem rm_7 (l : Launch) (Z : State) (a0 : Array Value) (hw : ∀ d ∈ tables_1, d.before a0 Z = true) (ws : List Jvm.Cond) (a : Addr) (s0v : Int64) (s1v : Int64) (s2v : Int64) (s3v : Int64) (h0 : Heap) (n0 : Nat) (Z0 : n0 ≤ h0.size) (Ea : Exa Z h0 a "com/example/vicinity/vicinity/simulation/RandomStream") (Gs0 : (Fld Z h0 a "com/example/vicinity/vicinity/simulation/RandomStream" "s0" "J" (.long s0v))) (Gs1 : (Fld Z h0 a "com/example/vicinity/vicinity/simulation/RandomStream" "s1" "J" (.long s1v))) (Gs2 : (Fld Z h0 a "com/example/vicinity/vicinity/simulation/RandomStream" "s2" "J" (.long s2v))) (Gs3 : (Fld Z h0 a "com/example/vicinity/vicinity/simulation/RandomStream" "s3" "J" (.long s3v))) (ga : n0 ≤ a) :
    OwnMet l Z (⟨"com/example/vicinity/vicinity/simulation/RandomStream", "nextDouble", "()D"⟩ : MethodName) prog_66_method_5_code 1 (some .double) ws ({ frames := 2, cells := 0, slots := 0, locals := 31 } : Room) #[.ref a] h0 (fun v h L => v = some (.double (own_nd s1v)) ∧ Fr n0 L ∧ Keep h0 h [a]) := by
  refine own_met (plainFor_of_name pn_7) (ef_7 a) ?_
  intro p e s m below meth c s₁ hx hby hml hZ hown hnm hret hlk X0 e0
  have N0 := Fr.nil n0
  refine s_aloadN X0 hx (hb hby d7_0) (pc' := 1) rfl rfl rfl ?_
  refine c_virtual X0 hx hZ hown (hw _ (List.mem_of_getElem? (i := 52) rfl)) (hw _ (List.mem_of_getElem? (i := 53) rfl)) (hw _ (List.mem_of_getElem? (i := 55) rfl)) (hw _ (List.mem_of_getElem? (i := 54) rfl)) (hw _ (List.mem_of_getElem? (i := 17) rfl)) (hw _ (List.mem_of_getElem? (i := 56) rfl)) (by decide) e0 Ea (rm_8 l Z a0 hw [] a s0v s1v s2v s3v h0 n0 Z0 Ea Gs0 Gs1 Gs2 Gs3 ga) (W := 0) (by decide) (by decide) (by decide) (by decide) (by rw [hml]; rfl) (argsL := []) (rest := []) (lenOf pd_3 rfl) rfl rfl (Nat.le_of_eq rfl) (hb hby d7_1) (pc' := 4) rfl ?_
  intro T1 v1 L1 X1 hQ1
  obtain ⟨rfl, Nq1, K1⟩ := hQ1
  have N1 := Fr.app N0 Nq1
  have H1 : h0.size ≤ T1.heap.size := Nat.le_trans (Nat.le_refl _) K1.1
  show Goes p e below _ (T1.setTop (mkF m 4 #[.val (.ref a)] [.long (own_next s1v)]))
  refine s_bipush X1 hx (11 : Int32) (hb hby d7_4) (pc' := 6) rfl rfl ?_
  refine s_lushr X1 hx (hb hby d7_6) (pc' := 7) rfl ?_
  refine s_l2d X1 hx (hb hby d7_7) (pc' := 8) rfl ?_
  refine s_ldcD X1 hx hZ hown (hw _ (List.mem_of_getElem? (i := 63) rfl)) (hb hby d7_8) (pc' := 11) rfl ?_
  refine s_dmul X1 hx (FP.dmul (FP.l2d (XT.ushrL (own_next s1v) (11 : Int32))) 4368491638549381120) (hb hby d7_11) (pc' := 12) rfl (dmul_out (l2d_fin _) (by unfold Fin64; decide)) rfl ?_
  exact s_retI X1 hx hlk hret (hb hby d7_12) rfl (Or.inr (Or.inr (Or.inl ⟨rfl, rfl, _, rfl⟩))) (by decide) (by decide) ⟨rfl, N1, K1⟩
theorem d6_0 : decode prog_57_method_3_code 0 = .ok (.aload_n 0, 1) := by decide +kernel
theorem d6_1 : decode prog_57_method_3_code 1 = .ok (.aload_n 1, 1) := by decide +kernel
theorem d6_2 : decode prog_57_method_3_code 2 = .ok (.invokevirtual 25, 3) := by decide +kernel
theorem d6_5 : decode prog_57_method_3_code 5 = .ok (.ldc2_w 31, 3) := by decide +kernel
theorem d6_8 : decode prog_57_method_3_code 8 = .ok (.dcmp .g, 1) := by decide +kernel
theorem d6_9 : decode prog_57_method_3_code 9 = .ok (.ifCond .ge 14, 3) := by decide +kernel
theorem d6_12 : decode prog_57_method_3_code 12 = .ok (.ldc2_w 33, 3) := by decide +kernel
theorem d6_15 : decode prog_57_method_3_code 15 = .ok (.aload_n 0, 1) := by decide +kernel
theorem d6_16 : decode prog_57_method_3_code 16 = .ok (.getfield 7, 3) := by decide +kernel
theorem d6_19 : decode prog_57_method_3_code 19 = .ok (.dmul, 1) := by decide +kernel
theorem d6_20 : decode prog_57_method_3_code 20 = .ok (.goto 7, 3) := by decide +kernel
theorem d6_23 : decode prog_57_method_3_code 23 = .ok (.aload_n 0, 1) := by decide +kernel
theorem d6_24 : decode prog_57_method_3_code 24 = .ok (.getfield 7, 3) := by decide +kernel
theorem d6_27 : decode prog_57_method_3_code 27 = .ok (.putfield 16, 3) := by decide +kernel
theorem d6_30 : decode prog_57_method_3_code 30 = .ok (.return_, 1) := by decide +kernel
theorem pn_6 : plainName "com/example/vicinity/vicinity/routes/Overload" = true := by first | (simp [plainName, overriddenIn]; done) | decide +kernel
theorem pd_4 : parseMethodDescriptor "()D" = some ⟨[], some .double⟩ := by decide +kernel
theorem ef_6 (z0 : Addr) (z1 : Addr) (m : MethodId) : entryFrame m #[.ref z0, .ref z1] 2 = mkF m 0 #[.val (.ref z0), .val (.ref z1)] [] := by first | (simp [entryFrame, mkF, argsToLocals, Value.category, maxLocals]; done) | rfl
set_option maxRecDepth 65536 in
set_option maxHeartbeats 40000000 in
theorem rm_6 (l : Launch) (Z : State) (a0 : Array Value) (hw : ∀ d ∈ tables_1, d.before a0 Z = true) (ws : List Jvm.Cond) (b : Addr) (a : Addr) (cap : UInt64) (vo : Value) (s0v : Int64) (s1v : Int64) (s2v : Int64) (s3v : Int64) (h0 : Heap) (n0 : Nat) (Z0 : n0 ≤ h0.size) (Eb : Exa Z h0 b "com/example/vicinity/vicinity/routes/Overload") (Gc : (Fld Z h0 b "com/example/vicinity/vicinity/routes/Overload" "capacity" "D" (.double cap))) (Gl : (Fld Z h0 b "com/example/vicinity/vicinity/routes/Overload" "limit" "D" vo)) (Ea : Exa Z h0 a "com/example/vicinity/vicinity/simulation/RandomStream") (Gs0 : (Fld Z h0 a "com/example/vicinity/vicinity/simulation/RandomStream" "s0" "J" (.long s0v))) (Gs1 : (Fld Z h0 a "com/example/vicinity/vicinity/simulation/RandomStream" "s1" "J" (.long s1v))) (Gs2 : (Fld Z h0 a "com/example/vicinity/vicinity/simulation/RandomStream" "s2" "J" (.long s2v))) (Gs3 : (Fld Z h0 a "com/example/vicinity/vicinity/simulation/RandomStream" "s3" "J" (.long s3v))) (ga : n0 ≤ a) (gb : n0 ≤ b) (hnn : NoNaN64 (FP.dmul 4609434218613702656 cap)) :
    OwnMet l Z (⟨"com/example/vicinity/vicinity/routes/Overload", "draw", "(Lcom/example/vicinity/vicinity/simulation/RandomStream;)V"⟩ : MethodName) prog_57_method_3_code 2 none ws ({ frames := 3, cells := 0, slots := 0, locals := 44 } : Room) #[.ref b, .ref a] h0 (fun v h L => v = none ∧ Fr n0 L ∧ Keep h0 h [b, a] ∧ Exa Z h b "com/example/vicinity/vicinity/routes/Overload" ∧ (Fld Z h b "com/example/vicinity/vicinity/routes/Overload" "limit" "D" (.double (own_lim (own_nd s1v) cap)))) := by
  refine own_met (plainFor_of_name pn_6) (ef_6 b a) ?_
  intro p e s m below meth c s₁ hx hby hml hZ hown hnm hret hlk X0 e0
  have N0 := Fr.nil n0
  have nab : b ≠ a := ne_exa Eb Ea (by decide)
  refine s_aloadN X0 hx (hb hby d6_0) (pc' := 1) rfl rfl rfl ?_
  refine s_aloadN X0 hx (hb hby d6_1) (pc' := 2) rfl rfl rfl ?_
  refine c_virtual X0 hx hZ hown (hw _ (List.mem_of_getElem? (i := 47) rfl)) (hw _ (List.mem_of_getElem? (i := 48) rfl)) (hw _ (List.mem_of_getElem? (i := 50) rfl)) (hw _ (List.mem_of_getElem? (i := 49) rfl)) (hw _ (List.mem_of_getElem? (i := 17) rfl)) (hw _ (List.mem_of_getElem? (i := 51) rfl)) (by decide) e0 Ea (rm_7 l Z a0 hw [] a s0v s1v s2v s3v h0 n0 Z0 Ea Gs0 Gs1 Gs2 Gs3 ga) (W := 1) (by decide) (by decide) (by decide) (by decide) (by rw [hml]; rfl) (argsL := []) (rest := [.ref b]) (lenOf pd_4 rfl) rfl rfl (Nat.le_of_eq rfl) (hb hby d6_2) (pc' := 5) rfl ?_
  intro T1 v1 L1 X1 hQ1
  obtain ⟨rfl, Nq1, K1⟩ := hQ1
  have N1 := Fr.app N0 Nq1
  have H1 : h0.size ≤ T1.heap.size := Nat.le_trans (Nat.le_refl _) K1.1
  show Goes p e below _ (T1.setTop (mkF m 5 #[.val (.ref b), .val (.ref a)] [.double (own_nd s1v), .ref b]))
  refine s_ldcD X1 hx hZ hown (hw _ (List.mem_of_getElem? (i := 64) rfl)) (hb hby d6_5) (pc' := 8) rfl ?_
  refine s_dcmp X1 hx (cmpValue (FP.dcmp (own_nd s1v) 4602678819172646912) .g) (hb hby d6_8) (pc' := 9) rfl rfl ?_
  by_cases hlt : (cmpValue (FP.dcmp (own_nd s1v) 4602678819172646912) .g) < 0
  ·
    refine s_ifN X1 hx (hb hby d6_9) (pc' := 12) rfl (in_ge hlt) ?_
    refine s_ldcD X1 hx hZ hown (hw _ (List.mem_of_getElem? (i := 72) rfl)) (hb hby d6_12) (pc' := 15) rfl ?_
    refine s_aloadN X1 hx (hb hby d6_15) (pc' := 16) rfl rfl rfl ?_
    have fF2 := (Gc.keep K1 (ninS nab nin0))
    refine s_getF X1 hx hZ hown (hw _ (List.mem_of_getElem? (i := 9) rfl)) rfl fF2 (hb hby d6_16) (pc' := 19) rfl ?_
    intro T3 X3 e3
    refine s_dmul X3 hx (FP.dmul 4609434218613702656 cap) (hb hby d6_19) (pc' := 20) rfl hnn rfl ?_
    refine s_goto X3 hx (hb hby d6_20) (by decide) (pc' := 27) (by decide) ?_
    have fF4 := (Gl.keep K1 (ninS nab nin0))
    have fE5 := (Eb.keep K1)
    refine s_putF X3 hx hZ hown (hw _ (List.mem_of_getElem? (i := 13) rfl)) e3 fF4 fE5 (Or.inl (hw _ (List.mem_of_getElem? (i := 14) rfl))) (hw _ (List.mem_of_getElem? (i := 1) rfl)) (ty := .double) (by decide) rfl rfl (hb hby d6_27) (pc' := 30) rfl ?_
    intro T6 h6 X6 e6 W6
    have N6 := Fr.snoc X6 N1 gb
    have F6 := fF4.same W6
    have H6 : h0.size ≤ h6.size := by rw [W6.size]; exact H1
    have KK7 : Keep h0 h6 [b, a] := (((Keep.refl _ _).trans K1 (allS (Or.inl (List.mem_of_getElem? (i := 1) rfl)) all0)).wr W6 (Or.inl (List.mem_of_getElem? (i := 0) rfl)))
    have fE8 := (fE5.wr W6)
    exact s_ret X6 hx hlk hret (hb hby d6_30) (by decide) (by decide) (by rw [e6]; exact ⟨rfl, N6, KK7, fE8, by rw [own_lim, if_pos hlt]; exact F6⟩)
  ·
    refine s_ifY X1 hx (hb hby d6_9) (iy_ge hlt) (by decide) (pc' := 23) (by decide) ?_
    refine s_aloadN X1 hx (hb hby d6_23) (pc' := 24) rfl rfl rfl ?_
    have fF9 := (Gc.keep K1 (ninS nab nin0))
    refine s_getF X1 hx hZ hown (hw _ (List.mem_of_getElem? (i := 9) rfl)) rfl fF9 (hb hby d6_24) (pc' := 27) rfl ?_
    intro T10 X10 e10
    have fF11 := (Gl.keep K1 (ninS nab nin0))
    have fE12 := (Eb.keep K1)
    refine s_putF X10 hx hZ hown (hw _ (List.mem_of_getElem? (i := 13) rfl)) e10 fF11 fE12 (Or.inl (hw _ (List.mem_of_getElem? (i := 14) rfl))) (hw _ (List.mem_of_getElem? (i := 1) rfl)) (ty := .double) (by decide) rfl rfl (hb hby d6_27) (pc' := 30) rfl ?_
    intro T13 h13 X13 e13 W13
    have N13 := Fr.snoc X13 N1 gb
    have F13 := fF11.same W13
    have H13 : h0.size ≤ h13.size := by rw [W13.size]; exact H1
    have KK14 : Keep h0 h13 [b, a] := (((Keep.refl _ _).trans K1 (allS (Or.inl (List.mem_of_getElem? (i := 1) rfl)) all0)).wr W13 (Or.inl (List.mem_of_getElem? (i := 0) rfl)))
    have fE15 := (fE12.wr W13)
    exact s_ret X13 hx hlk hret (hb hby d6_30) (by decide) (by decide) (by rw [e13]; exact ⟨rfl, N13, KK14, fE15, by rw [own_lim, if_neg hlt]; exact F13⟩)
theorem d10_0 : decode prog_57_method_4_code 0 = .ok (.dload_n 3, 1) := by decide +kernel
theorem d10_1 : decode prog_57_method_4_code 1 = .ok (.dload_n 1, 1) := by decide +kernel
theorem d10_2 : decode prog_57_method_4_code 2 = .ok (.dcmp .g, 1) := by decide +kernel
theorem d10_3 : decode prog_57_method_4_code 3 = .ok (.ifCond .le 12, 3) := by decide +kernel
theorem d10_6 : decode prog_57_method_4_code 6 = .ok (.dload_n 3, 1) := by decide +kernel
theorem d10_7 : decode prog_57_method_4_code 7 = .ok (.aload_n 0, 1) := by decide +kernel
theorem d10_8 : decode prog_57_method_4_code 8 = .ok (.getfield 16, 3) := by decide +kernel
theorem d10_11 : decode prog_57_method_4_code 11 = .ok (.dcmp .g, 1) := by decide +kernel
theorem d10_12 : decode prog_57_method_4_code 12 = .ok (.ifCond .gt 7, 3) := by decide +kernel
theorem d10_15 : decode prog_57_method_4_code 15 = .ok (.iconst 1, 1) := by decide +kernel
theorem d10_16 : decode prog_57_method_4_code 16 = .ok (.goto 4, 3) := by decide +kernel
theorem d10_19 : decode prog_57_method_4_code 19 = .ok (.iconst 0, 1) := by decide +kernel
theorem d10_20 : decode prog_57_method_4_code 20 = .ok (.ireturn, 1) := by decide +kernel
theorem pn_10 : plainName "com/example/vicinity/vicinity/routes/Overload" = true := by first | (simp [plainName, overriddenIn]; done) | decide +kernel
theorem ef_10 (z0 : Addr) (z1 : UInt64) (z2 : UInt64) (m : MethodId) : entryFrame m #[.ref z0, .double z1, .double z2] 5 = mkF m 0 #[.val (.ref z0), .val (.double z1), .second, .val (.double z2), .second] [] := by first | (simp [entryFrame, mkF, argsToLocals, Value.category, maxLocals]; done) | rfl
set_option maxRecDepth 65536 in
set_option maxHeartbeats 40000000 in
theorem rm_10 (l : Launch) (Z : State) (a0 : Array Value) (hw : ∀ d ∈ tables_1, d.before a0 Z = true) (ws : List Jvm.Cond) (a : Addr) (x0 : UInt64) (x1 : UInt64) (lim : UInt64) (h0 : Heap) (n0 : Nat) (Z0 : n0 ≤ h0.size) (Gl : (Fld Z h0 a "com/example/vicinity/vicinity/routes/Overload" "limit" "D" (.double lim))) :
    OwnMet l Z (⟨"com/example/vicinity/vicinity/routes/Overload", "fits", "(DD)Z"⟩ : MethodName) prog_57_method_4_code 5 (some .boolean) ws ({ frames := 0, cells := 0, slots := 0, locals := 0 } : Room) #[.ref a, .double x0, .double x1] h0 (fun v h L => v = some (.int (own_fits x0 x1 lim)) ∧ Fr n0 L ∧ h = h0) := by
  refine own_met (plainFor_of_name pn_10) (ef_10 a x0 x1) ?_
  intro p e s m below meth c s₁ hx hby hml hZ hown hnm hret hlk X0 e0
  have N0 := Fr.nil n0
  refine s_dloadN X0 hx (hb hby d10_0) (pc' := 1) rfl rfl ?_
  refine s_dloadN X0 hx (hb hby d10_1) (pc' := 2) rfl rfl ?_
  refine s_dcmp X0 hx (cmpValue (FP.dcmp x1 x0) .g) (hb hby d10_2) (pc' := 3) rfl rfl ?_
  by_cases h1 : 0 < (cmpValue (FP.dcmp x1 x0) .g)
  ·
    refine s_ifN X0 hx (hb hby d10_3) (pc' := 6) rfl (in_le h1) ?_
    refine s_dloadN X0 hx (hb hby d10_6) (pc' := 7) rfl rfl ?_
    refine s_aloadN X0 hx (hb hby d10_7) (pc' := 8) rfl rfl rfl ?_
    refine s_getF X0 hx hZ hown (hw _ (List.mem_of_getElem? (i := 13) rfl)) e0 Gl (hb hby d10_8) (pc' := 11) rfl ?_
    intro T1 X1 e1
    refine s_dcmp X1 hx (cmpValue (FP.dcmp x1 lim) .g) (hb hby d10_11) (pc' := 12) rfl rfl ?_
    by_cases h2 : 0 < (cmpValue (FP.dcmp x1 lim) .g)
    ·
      refine s_ifY X1 hx (hb hby d10_12) (iy_gt h2) (by decide) (pc' := 19) (by decide) ?_
      refine s_iconst X1 hx (0 : Int32) (hb hby d10_19) (pc' := 20) rfl rfl ?_
      exact s_retI X1 hx hlk hret (hb hby d10_20) rfl (Or.inl ⟨rfl, by simp, _, rfl⟩) (by decide) (by decide) ⟨by rw [own_fits, if_pos h1, if_pos h2], N0, e1⟩
    ·
      refine s_ifN X1 hx (hb hby d10_12) (pc' := 15) rfl (in_gt h2) ?_
      refine s_iconst X1 hx (1 : Int32) (hb hby d10_15) (pc' := 16) rfl rfl ?_
      refine s_goto X1 hx (hb hby d10_16) (by decide) (pc' := 20) (by decide) ?_
      exact s_retI X1 hx hlk hret (hb hby d10_20) rfl (Or.inl ⟨rfl, by simp, _, rfl⟩) (by decide) (by decide) ⟨by rw [own_fits, if_pos h1, if_neg h2], N0, e1⟩
  ·
    refine s_ifY X0 hx (hb hby d10_3) (iy_le h1) (by decide) (pc' := 15) (by decide) ?_
    refine s_iconst X0 hx (1 : Int32) (hb hby d10_15) (pc' := 16) rfl rfl ?_
    refine s_goto X0 hx (hb hby d10_16) (by decide) (pc' := 20) (by decide) ?_
    exact s_retI X0 hx hlk hret (hb hby d10_20) rfl (Or.inl ⟨rfl, by simp, _, rfl⟩) (by decide) (by decide) ⟨by rw [own_fits, if_neg h1], N0, e0⟩
theorem pn_0 : plainName "com/example/vicinity/vicinity/routes/OverloadFitsPinLaw" = true := by first | (simp [plainName, overriddenIn]; done) | decide +kernel
def Q0 (n0 : Nat) (v : Option Value) (h : Heap) (L : List Loc) : Prop := v = some (.int 1) ∧ Fr n0 L
theorem pd_5 : parseMethodDescriptor "(DD)V" = some ⟨[.double, .double], none⟩ := by decide +kernel
theorem pd_6 : parseMethodDescriptor "(DD)Z" = some ⟨[.double, .double], some .boolean⟩ := by decide +kernel
theorem pd_7 : parseMethodDescriptor "(JJ)Lcom/example/vicinity/vicinity/simulation/RandomStream;" = some ⟨[.long, .long], some (.object "com/example/vicinity/vicinity/simulation/RandomStream")⟩ := by decide +kernel
theorem pd_8 : parseMethodDescriptor "(Lcom/example/vicinity/vicinity/simulation/RandomStream;)V" = some ⟨[(.object "com/example/vicinity/vicinity/simulation/RandomStream")], none⟩ := by decide +kernel
theorem ef_0 (z0 : Int32) (z1 : Int32) (z2 : Int32) (z3 : Int64) (z4 : Int64) (z5 : Int32) (m : MethodId) : entryFrame m #[.int z0, .int z1, .int z2, .long z3, .long z4, .int z5] maxLocals = mkF m 0 #[.val (.int z0), .val (.int z1), .val (.int z2), .val (.long z3), .second, .val (.long z4), .second, .val (.int z5), .unset, .unset, .unset, .unset, .unset, .unset, .unset, .unset, .unset, .unset, .unset] [] := by first | (simp [entryFrame, mkF, argsToLocals, Value.category, maxLocals]; done) | rfl
set_option maxRecDepth 65536 in
set_option maxHeartbeats 40000000 in
theorem rm_0 (l : Launch) (Z : State) (a0 : Array Value) (hw : ∀ d ∈ tables_1, d.before a0 Z = true) (ws : List Jvm.Cond) (p0 : Int32) (p1 : Int32) (p2 : Int32) (p3 : Int64) (p4 : Int64) (p5 : Int32) (h0 : Heap) (n0 : Nat) (Z0 : n0 ≤ h0.size)  :
    OwnMet l Z x code maxLocals ret ws room_1 #[.int p0, .int p1, .int p2, .long p3, .long p4, .int p5] h0 (Q0 n0) := by
  refine own_met (plainFor_of_name pn_0) (ef_0 p0 p1 p2 p3 p4 p5) ?_
  intro p e s m below meth c s₁ hx hby hml hZ hown hnm hret hlk X0 e0
  have N0 := Fr.nil n0
  refine s_new X0 hx hZ hown (hw _ (List.mem_of_getElem? (i := 0) rfl)) (hw _ (List.mem_of_getElem? (i := 1) rfl)) (hw _ (List.mem_of_getElem? (i := 2) rfl)) e0 (hb hby at_0) (pc' := 3) rfl (by decide) (by decide) ?_
  intro T1 h1 o1 X1 e1 E1 g1 A1 D1
  have hg1 : h0.size ≤ o1 := by rw [g1]; exact (Nat.le_refl _)
  have H1 : h0.size ≤ h1.size := Nat.le_trans (Nat.le_refl _) E1.1
  have F1_capacity := D1 (O := "com/example/vicinity/vicinity/routes/Overload") (nm := "capacity") (d := "D") (Or.inr (hw _ (List.mem_of_getElem? (i := 10) rfl))) (ty := .double) (by decide)
  have F1_price := D1 (O := "com/example/vicinity/vicinity/routes/Overload") (nm := "price") (d := "D") (Or.inl (hw _ (List.mem_of_getElem? (i := 12) rfl))) (ty := .double) (by decide)
  have F1_limit := D1 (O := "com/example/vicinity/vicinity/routes/Overload") (nm := "limit") (d := "D") (Or.inl (hw _ (List.mem_of_getElem? (i := 14) rfl))) (ty := .double) (by decide)
  refine s_dup X1 hx (hb hby at_3) (pc' := 4) rfl rfl ?_
  refine s_iloadN X1 hx (hb hby at_4) (pc' := 5) rfl rfl ?_
  refine s_i2d X1 hx (hb hby at_5) (pc' := 6) rfl ?_
  refine s_dconst1 X1 hx (hb hby at_6) (pc' := 7) rfl ?_
  refine c_special X1 hx hZ rfl hown (hw _ (List.mem_of_getElem? (i := 3) rfl)) (hw _ (List.mem_of_getElem? (i := 4) rfl)) (hw _ (List.mem_of_getElem? (i := 2) rfl)) (hw _ (List.mem_of_getElem? (i := 5) rfl)) (by decide) e1 (rm_1 l Z a0 hw [] o1 (FP.i2d p2) 4607182418800017408 _ _ _ h1 n0 (Nat.le_trans Z0 H1) A1 F1_capacity F1_price F1_limit (Nat.le_trans Z0 hg1)) (W := 1) (by decide) (by decide) (by decide) (by decide) (by rw [hml]; rfl) (argsL := [.double (FP.i2d p2), .double 4607182418800017408]) (rest := [.ref o1]) (a := o1) (lenOf pd_5 rfl) rfl rfl (Nat.le_of_eq rfl) (hb hby at_7) (pc' := 10) rfl ?_
  intro T2 v2 L2 X2 hQ2
  obtain ⟨rfl, Nq2, K2, E2, Fa2, Fb2⟩ := hQ2
  have N2 := Fr.app N0 Nq2
  have H2 : h0.size ≤ T2.heap.size := Nat.le_trans H1 K2.1
  show Goes p e below _ (T2.setTop (mkF m 10 #[.val (.int p0), .val (.int p1), .val (.int p2), .val (.long p3), .second, .val (.long p4), .second, .val (.int p5), .unset, .unset, .unset, .unset, .unset, .unset, .unset, .unset, .unset, .unset, .unset] [.ref o1]))
  refine s_astore X2 hx #[.val (.int p0), .val (.int p1), .val (.int p2), .val (.long p3), .second, .val (.long p4), .second, .val (.int p5), .val (.ref o1), .unset, .unset, .unset, .unset, .unset, .unset, .unset, .unset, .unset, .unset] (hb hby at_10) (pc' := 12) rfl rfl rfl ?_
  refine s_iload X2 hx (hb hby at_12) (pc' := 14) rfl rfl ?_
  refine s_iconst X2 hx (1 : Int32) (hb hby at_14) (pc' := 15) rfl rfl ?_
  refine s_iand X2 hx (hb hby at_15) (pc' := 16) rfl ?_
  by_cases hf : (p5 &&& (1 : Int32)) = 0
  ·
    refine s_ifY X2 hx (hb hby at_16) (iy_eq hf) (by decide) (pc' := 23) (by decide) ?_
    refine s_iconst X2 hx (0 : Int32) (hb hby at_23) (pc' := 24) rfl rfl ?_
    refine s_istore X2 hx #[.val (.int p0), .val (.int p1), .val (.int p2), .val (.long p3), .second, .val (.long p4), .second, .val (.int p5), .val (.ref o1), .val (.int (0 : Int32)), .unset, .unset, .unset, .unset, .unset, .unset, .unset, .unset, .unset] (hb hby at_24) (pc' := 26) rfl rfl ?_
    refine s_iconst X2 hx (0 : Int32) (hb hby at_26) (pc' := 27) rfl rfl ?_
    refine s_istore X2 hx #[.val (.int p0), .val (.int p1), .val (.int p2), .val (.long p3), .second, .val (.long p4), .second, .val (.int p5), .val (.ref o1), .val (.int (0 : Int32)), .val (.int (0 : Int32)), .unset, .unset, .unset, .unset, .unset, .unset, .unset, .unset] (hb hby at_27) (pc' := 29) rfl rfl ?_
    refine s_iload X2 hx (hb hby at_29) (pc' := 31) rfl rfl ?_
    refine s_ifY X2 hx (hb hby at_31) (by decide) (by decide) (pc' := 76) (by decide) ?_
    refine s_iloadN X2 hx (hb hby at_76) (pc' := 77) rfl rfl ?_
    refine s_i2l X2 hx (hb hby at_77) (pc' := 78) rfl ?_
    refine s_lstore X2 hx #[.val (.int p0), .val (.int p1), .val (.int p2), .val (.long p3), .second, .val (.long p4), .second, .val (.int p5), .val (.ref o1), .val (.int (0 : Int32)), .val (.int (0 : Int32)), .val (.long p1.toInt64), .second, .unset, .unset, .unset, .unset, .unset, .unset] (hb hby at_78) (pc' := 80) rfl rfl ?_
    refine s_iloadN X2 hx (hb hby at_80) (pc' := 81) rfl rfl ?_
    refine s_i2l X2 hx (hb hby at_81) (pc' := 82) rfl ?_
    refine s_lstore X2 hx #[.val (.int p0), .val (.int p1), .val (.int p2), .val (.long p3), .second, .val (.long p4), .second, .val (.int p5), .val (.ref o1), .val (.int (0 : Int32)), .val (.int (0 : Int32)), .val (.long p1.toInt64), .second, .val (.long p0.toInt64), .second, .unset, .unset, .unset, .unset] (hb hby at_82) (pc' := 84) rfl rfl ?_
    refine s_iloadN X2 hx (hb hby at_84) (pc' := 85) rfl rfl ?_
    refine s_i2l X2 hx (hb hby at_85) (pc' := 86) rfl ?_
    refine s_lstore X2 hx #[.val (.int p0), .val (.int p1), .val (.int p2), .val (.long p3), .second, .val (.long p4), .second, .val (.int p5), .val (.ref o1), .val (.int (0 : Int32)), .val (.int (0 : Int32)), .val (.long p1.toInt64), .second, .val (.long p0.toInt64), .second, .val (.long p2.toInt64), .second, .unset, .unset] (hb hby at_86) (pc' := 88) rfl rfl ?_
    refine s_iload X2 hx (hb hby at_88) (pc' := 90) rfl rfl ?_
    refine s_ifY X2 hx (hb hby at_90) (by decide) (by decide) (pc' := 117) (by decide) ?_
    refine s_lload X2 hx (hb hby at_117) (pc' := 119) rfl rfl ?_
    refine s_lload X2 hx (hb hby at_119) (pc' := 121) rfl rfl ?_
    refine s_lcmp X2 hx (hb hby at_121) (pc' := 122) rfl ?_
    by_cases hw1 : p2.toInt64 < p1.toInt64
    ·
      refine s_ifY X2 hx (hb hby at_122) (iy_gt (own_cmpL_gt.mpr hw1)) (by decide) (pc' := 129) (by decide) ?_
      refine s_iconst X2 hx (0 : Int32) (hb hby at_129) (pc' := 130) rfl rfl ?_
      refine s_istore X2 hx #[.val (.int p0), .val (.int p1), .val (.int p2), .val (.long p3), .second, .val (.long p4), .second, .val (.int p5), .val (.ref o1), .val (.int (0 : Int32)), .val (.int (0 : Int32)), .val (.long p1.toInt64), .second, .val (.long p0.toInt64), .second, .val (.long p2.toInt64), .second, .val (.int (0 : Int32)), .unset] (hb hby at_130) (pc' := 132) rfl rfl ?_
      refine s_lload X2 hx (hb hby at_132) (pc' := 134) rfl rfl ?_
      refine s_lload X2 hx (hb hby at_134) (pc' := 136) rfl rfl ?_
      refine s_lcmp X2 hx (hb hby at_136) (pc' := 137) rfl ?_
      by_cases hab : p0.toInt64 < p1.toInt64
      ·
        refine s_ifN X2 hx (hb hby at_137) (pc' := 140) rfl (in_le (own_cmpL_gt.mpr hab)) ?_
        refine s_iload X2 hx (hb hby at_140) (pc' := 142) rfl rfl ?_
        refine s_ifY X2 hx (hb hby at_142) (by decide) (by decide) (pc' := 149) (by decide) ?_
        refine s_iconst X2 hx (0 : Int32) (hb hby at_149) (pc' := 150) rfl rfl ?_
        refine s_istore X2 hx #[.val (.int p0), .val (.int p1), .val (.int p2), .val (.long p3), .second, .val (.long p4), .second, .val (.int p5), .val (.ref o1), .val (.int (0 : Int32)), .val (.int (0 : Int32)), .val (.long p1.toInt64), .second, .val (.long p0.toInt64), .second, .val (.long p2.toInt64), .second, .val (.int (0 : Int32)), .val (.int (0 : Int32))] (hb hby at_150) (pc' := 152) rfl rfl ?_
        refine s_aload X2 hx (hb hby at_152) (pc' := 154) rfl rfl rfl ?_
        refine s_iloadN X2 hx (hb hby at_154) (pc' := 155) rfl rfl ?_
        refine s_i2d X2 hx (hb hby at_155) (pc' := 156) rfl ?_
        refine s_iloadN X2 hx (hb hby at_156) (pc' := 157) rfl rfl ?_
        refine s_i2d X2 hx (hb hby at_157) (pc' := 158) rfl ?_
        have val : own_fits (FP.i2d p0) (FP.i2d p1) (FP.i2d p2) = 0 := by
          rw [own_fits, if_pos ((own_cmp_i p1 p0 _).mpr ((own_l1 p1 p0).mp hab)), if_pos ((own_cmp_i p1 p2 _).mpr ((own_l1 p1 p2).mp hw1))]
        refine c_virtual X2 hx hZ hown (hw _ (List.mem_of_getElem? (i := 67) rfl)) (hw _ (List.mem_of_getElem? (i := 68) rfl)) (hw _ (List.mem_of_getElem? (i := 70) rfl)) (hw _ (List.mem_of_getElem? (i := 69) rfl)) (hw _ (List.mem_of_getElem? (i := 2) rfl)) (hw _ (List.mem_of_getElem? (i := 71) rfl)) (by decide) rfl E2 (rm_10 l Z a0 hw [] o1 (FP.i2d p0) (FP.i2d p1) (FP.i2d p2) T2.heap n0 (Nat.le_trans Z0 H2) Fb2) (W := 0) (by decide) (by decide) (by decide) (by decide) (by rw [hml]; rfl) (argsL := [.double (FP.i2d p0), .double (FP.i2d p1)]) (rest := []) (lenOf pd_6 rfl) rfl rfl (Nat.le_of_eq rfl) (hb hby at_158) (pc' := 161) rfl ?_
        intro T3 v3 L3 X3 hQ3
        obtain ⟨hv3, Nq3, eh3⟩ := hQ3
        rw [val] at hv3
        subst hv3
        have N3 := Fr.app N2 Nq3
        show Goes p e below _ (T3.setTop (mkF m 161 #[.val (.int p0), .val (.int p1), .val (.int p2), .val (.long p3), .second, .val (.long p4), .second, .val (.int p5), .val (.ref o1), .val (.int (0 : Int32)), .val (.int (0 : Int32)), .val (.long p1.toInt64), .second, .val (.long p0.toInt64), .second, .val (.long p2.toInt64), .second, .val (.int (0 : Int32)), .val (.int (0 : Int32))] [.int (0 : Int32)]))
        refine s_iload X3 hx (hb hby at_161) (pc' := 163) rfl rfl ?_
        refine s_icmpN X3 hx (hb hby at_163) (pc' := 166) rfl (by decide) ?_
        refine s_iconst X3 hx (1 : Int32) (hb hby at_166) (pc' := 167) rfl rfl ?_
        refine s_goto X3 hx (hb hby at_167) (by decide) (pc' := 171) (by decide) ?_
        exact s_retI X3 hx hlk hret (hb hby at_171) rfl (Or.inl ⟨rfl, by simp, _, rfl⟩) (by decide) (by decide) ⟨rfl, N3⟩
      ·
        refine s_ifY X2 hx (hb hby at_137) (iy_le (fun z => hab (own_cmpL_gt.mp z))) (by decide) (pc' := 145) (by decide) ?_
        refine s_iconst X2 hx (1 : Int32) (hb hby at_145) (pc' := 146) rfl rfl ?_
        refine s_goto X2 hx (hb hby at_146) (by decide) (pc' := 150) (by decide) ?_
        refine s_istore X2 hx #[.val (.int p0), .val (.int p1), .val (.int p2), .val (.long p3), .second, .val (.long p4), .second, .val (.int p5), .val (.ref o1), .val (.int (0 : Int32)), .val (.int (0 : Int32)), .val (.long p1.toInt64), .second, .val (.long p0.toInt64), .second, .val (.long p2.toInt64), .second, .val (.int (0 : Int32)), .val (.int (1 : Int32))] (hb hby at_150) (pc' := 152) rfl rfl ?_
        refine s_aload X2 hx (hb hby at_152) (pc' := 154) rfl rfl rfl ?_
        refine s_iloadN X2 hx (hb hby at_154) (pc' := 155) rfl rfl ?_
        refine s_i2d X2 hx (hb hby at_155) (pc' := 156) rfl ?_
        refine s_iloadN X2 hx (hb hby at_156) (pc' := 157) rfl rfl ?_
        refine s_i2d X2 hx (hb hby at_157) (pc' := 158) rfl ?_
        have val : own_fits (FP.i2d p0) (FP.i2d p1) (FP.i2d p2) = 1 := by
          rw [own_fits, if_neg (fun z => hab ((own_l1 p1 p0).mpr ((own_cmp_i p1 p0 _).mp z)))]
        refine c_virtual X2 hx hZ hown (hw _ (List.mem_of_getElem? (i := 67) rfl)) (hw _ (List.mem_of_getElem? (i := 68) rfl)) (hw _ (List.mem_of_getElem? (i := 70) rfl)) (hw _ (List.mem_of_getElem? (i := 69) rfl)) (hw _ (List.mem_of_getElem? (i := 2) rfl)) (hw _ (List.mem_of_getElem? (i := 71) rfl)) (by decide) rfl E2 (rm_10 l Z a0 hw [] o1 (FP.i2d p0) (FP.i2d p1) (FP.i2d p2) T2.heap n0 (Nat.le_trans Z0 H2) Fb2) (W := 0) (by decide) (by decide) (by decide) (by decide) (by rw [hml]; rfl) (argsL := [.double (FP.i2d p0), .double (FP.i2d p1)]) (rest := []) (lenOf pd_6 rfl) rfl rfl (Nat.le_of_eq rfl) (hb hby at_158) (pc' := 161) rfl ?_
        intro T4 v4 L4 X4 hQ4
        obtain ⟨hv4, Nq4, eh4⟩ := hQ4
        rw [val] at hv4
        subst hv4
        have N4 := Fr.app N2 Nq4
        show Goes p e below _ (T4.setTop (mkF m 161 #[.val (.int p0), .val (.int p1), .val (.int p2), .val (.long p3), .second, .val (.long p4), .second, .val (.int p5), .val (.ref o1), .val (.int (0 : Int32)), .val (.int (0 : Int32)), .val (.long p1.toInt64), .second, .val (.long p0.toInt64), .second, .val (.long p2.toInt64), .second, .val (.int (0 : Int32)), .val (.int (1 : Int32))] [.int (1 : Int32)]))
        refine s_iload X4 hx (hb hby at_161) (pc' := 163) rfl rfl ?_
        refine s_icmpN X4 hx (hb hby at_163) (pc' := 166) rfl (by decide) ?_
        refine s_iconst X4 hx (1 : Int32) (hb hby at_166) (pc' := 167) rfl rfl ?_
        refine s_goto X4 hx (hb hby at_167) (by decide) (pc' := 171) (by decide) ?_
        exact s_retI X4 hx hlk hret (hb hby at_171) rfl (Or.inl ⟨rfl, by simp, _, rfl⟩) (by decide) (by decide) ⟨rfl, N4⟩
    ·
      refine s_ifN X2 hx (hb hby at_122) (pc' := 125) rfl (in_gt (fun z => hw1 (own_cmpL_gt.mp z))) ?_
      refine s_iconst X2 hx (1 : Int32) (hb hby at_125) (pc' := 126) rfl rfl ?_
      refine s_goto X2 hx (hb hby at_126) (by decide) (pc' := 130) (by decide) ?_
      refine s_istore X2 hx #[.val (.int p0), .val (.int p1), .val (.int p2), .val (.long p3), .second, .val (.long p4), .second, .val (.int p5), .val (.ref o1), .val (.int (0 : Int32)), .val (.int (0 : Int32)), .val (.long p1.toInt64), .second, .val (.long p0.toInt64), .second, .val (.long p2.toInt64), .second, .val (.int (1 : Int32)), .unset] (hb hby at_130) (pc' := 132) rfl rfl ?_
      refine s_lload X2 hx (hb hby at_132) (pc' := 134) rfl rfl ?_
      refine s_lload X2 hx (hb hby at_134) (pc' := 136) rfl rfl ?_
      refine s_lcmp X2 hx (hb hby at_136) (pc' := 137) rfl ?_
      by_cases hab : p0.toInt64 < p1.toInt64
      ·
        refine s_ifN X2 hx (hb hby at_137) (pc' := 140) rfl (in_le (own_cmpL_gt.mpr hab)) ?_
        refine s_iload X2 hx (hb hby at_140) (pc' := 142) rfl rfl ?_
        refine s_ifN X2 hx (hb hby at_142) (pc' := 145) rfl (by decide) ?_
        refine s_iconst X2 hx (1 : Int32) (hb hby at_145) (pc' := 146) rfl rfl ?_
        refine s_goto X2 hx (hb hby at_146) (by decide) (pc' := 150) (by decide) ?_
        refine s_istore X2 hx #[.val (.int p0), .val (.int p1), .val (.int p2), .val (.long p3), .second, .val (.long p4), .second, .val (.int p5), .val (.ref o1), .val (.int (0 : Int32)), .val (.int (0 : Int32)), .val (.long p1.toInt64), .second, .val (.long p0.toInt64), .second, .val (.long p2.toInt64), .second, .val (.int (1 : Int32)), .val (.int (1 : Int32))] (hb hby at_150) (pc' := 152) rfl rfl ?_
        refine s_aload X2 hx (hb hby at_152) (pc' := 154) rfl rfl rfl ?_
        refine s_iloadN X2 hx (hb hby at_154) (pc' := 155) rfl rfl ?_
        refine s_i2d X2 hx (hb hby at_155) (pc' := 156) rfl ?_
        refine s_iloadN X2 hx (hb hby at_156) (pc' := 157) rfl rfl ?_
        refine s_i2d X2 hx (hb hby at_157) (pc' := 158) rfl ?_
        have val : own_fits (FP.i2d p0) (FP.i2d p1) (FP.i2d p2) = 1 := by
          rw [own_fits, if_pos ((own_cmp_i p1 p0 _).mpr ((own_l1 p1 p0).mp hab)), if_neg (fun z => hw1 ((own_l1 p1 p2).mpr ((own_cmp_i p1 p2 _).mp z)))]
        refine c_virtual X2 hx hZ hown (hw _ (List.mem_of_getElem? (i := 67) rfl)) (hw _ (List.mem_of_getElem? (i := 68) rfl)) (hw _ (List.mem_of_getElem? (i := 70) rfl)) (hw _ (List.mem_of_getElem? (i := 69) rfl)) (hw _ (List.mem_of_getElem? (i := 2) rfl)) (hw _ (List.mem_of_getElem? (i := 71) rfl)) (by decide) rfl E2 (rm_10 l Z a0 hw [] o1 (FP.i2d p0) (FP.i2d p1) (FP.i2d p2) T2.heap n0 (Nat.le_trans Z0 H2) Fb2) (W := 0) (by decide) (by decide) (by decide) (by decide) (by rw [hml]; rfl) (argsL := [.double (FP.i2d p0), .double (FP.i2d p1)]) (rest := []) (lenOf pd_6 rfl) rfl rfl (Nat.le_of_eq rfl) (hb hby at_158) (pc' := 161) rfl ?_
        intro T5 v5 L5 X5 hQ5
        obtain ⟨hv5, Nq5, eh5⟩ := hQ5
        rw [val] at hv5
        subst hv5
        have N5 := Fr.app N2 Nq5
        show Goes p e below _ (T5.setTop (mkF m 161 #[.val (.int p0), .val (.int p1), .val (.int p2), .val (.long p3), .second, .val (.long p4), .second, .val (.int p5), .val (.ref o1), .val (.int (0 : Int32)), .val (.int (0 : Int32)), .val (.long p1.toInt64), .second, .val (.long p0.toInt64), .second, .val (.long p2.toInt64), .second, .val (.int (1 : Int32)), .val (.int (1 : Int32))] [.int (1 : Int32)]))
        refine s_iload X5 hx (hb hby at_161) (pc' := 163) rfl rfl ?_
        refine s_icmpN X5 hx (hb hby at_163) (pc' := 166) rfl (by decide) ?_
        refine s_iconst X5 hx (1 : Int32) (hb hby at_166) (pc' := 167) rfl rfl ?_
        refine s_goto X5 hx (hb hby at_167) (by decide) (pc' := 171) (by decide) ?_
        exact s_retI X5 hx hlk hret (hb hby at_171) rfl (Or.inl ⟨rfl, by simp, _, rfl⟩) (by decide) (by decide) ⟨rfl, N5⟩
      ·
        refine s_ifY X2 hx (hb hby at_137) (iy_le (fun z => hab (own_cmpL_gt.mp z))) (by decide) (pc' := 145) (by decide) ?_
        refine s_iconst X2 hx (1 : Int32) (hb hby at_145) (pc' := 146) rfl rfl ?_
        refine s_goto X2 hx (hb hby at_146) (by decide) (pc' := 150) (by decide) ?_
        refine s_istore X2 hx #[.val (.int p0), .val (.int p1), .val (.int p2), .val (.long p3), .second, .val (.long p4), .second, .val (.int p5), .val (.ref o1), .val (.int (0 : Int32)), .val (.int (0 : Int32)), .val (.long p1.toInt64), .second, .val (.long p0.toInt64), .second, .val (.long p2.toInt64), .second, .val (.int (1 : Int32)), .val (.int (1 : Int32))] (hb hby at_150) (pc' := 152) rfl rfl ?_
        refine s_aload X2 hx (hb hby at_152) (pc' := 154) rfl rfl rfl ?_
        refine s_iloadN X2 hx (hb hby at_154) (pc' := 155) rfl rfl ?_
        refine s_i2d X2 hx (hb hby at_155) (pc' := 156) rfl ?_
        refine s_iloadN X2 hx (hb hby at_156) (pc' := 157) rfl rfl ?_
        refine s_i2d X2 hx (hb hby at_157) (pc' := 158) rfl ?_
        have val : own_fits (FP.i2d p0) (FP.i2d p1) (FP.i2d p2) = 1 := by
          rw [own_fits, if_neg (fun z => hab ((own_l1 p1 p0).mpr ((own_cmp_i p1 p0 _).mp z)))]
        refine c_virtual X2 hx hZ hown (hw _ (List.mem_of_getElem? (i := 67) rfl)) (hw _ (List.mem_of_getElem? (i := 68) rfl)) (hw _ (List.mem_of_getElem? (i := 70) rfl)) (hw _ (List.mem_of_getElem? (i := 69) rfl)) (hw _ (List.mem_of_getElem? (i := 2) rfl)) (hw _ (List.mem_of_getElem? (i := 71) rfl)) (by decide) rfl E2 (rm_10 l Z a0 hw [] o1 (FP.i2d p0) (FP.i2d p1) (FP.i2d p2) T2.heap n0 (Nat.le_trans Z0 H2) Fb2) (W := 0) (by decide) (by decide) (by decide) (by decide) (by rw [hml]; rfl) (argsL := [.double (FP.i2d p0), .double (FP.i2d p1)]) (rest := []) (lenOf pd_6 rfl) rfl rfl (Nat.le_of_eq rfl) (hb hby at_158) (pc' := 161) rfl ?_
        intro T6 v6 L6 X6 hQ6
        obtain ⟨hv6, Nq6, eh6⟩ := hQ6
        rw [val] at hv6
        subst hv6
        have N6 := Fr.app N2 Nq6
        show Goes p e below _ (T6.setTop (mkF m 161 #[.val (.int p0), .val (.int p1), .val (.int p2), .val (.long p3), .second, .val (.long p4), .second, .val (.int p5), .val (.ref o1), .val (.int (0 : Int32)), .val (.int (0 : Int32)), .val (.long p1.toInt64), .second, .val (.long p0.toInt64), .second, .val (.long p2.toInt64), .second, .val (.int (1 : Int32)), .val (.int (1 : Int32))] [.int (1 : Int32)]))
        refine s_iload X6 hx (hb hby at_161) (pc' := 163) rfl rfl ?_
        refine s_icmpN X6 hx (hb hby at_163) (pc' := 166) rfl (by decide) ?_
        refine s_iconst X6 hx (1 : Int32) (hb hby at_166) (pc' := 167) rfl rfl ?_
        refine s_goto X6 hx (hb hby at_167) (by decide) (pc' := 171) (by decide) ?_
        exact s_retI X6 hx hlk hret (hb hby at_171) rfl (Or.inl ⟨rfl, by simp, _, rfl⟩) (by decide) (by decide) ⟨rfl, N6⟩
  ·
    refine s_ifN X2 hx (hb hby at_16) (pc' := 19) rfl (in_eq hf) ?_
    refine s_iconst X2 hx (1 : Int32) (hb hby at_19) (pc' := 20) rfl rfl ?_
    refine s_goto X2 hx (hb hby at_20) (by decide) (pc' := 24) (by decide) ?_
    refine s_istore X2 hx #[.val (.int p0), .val (.int p1), .val (.int p2), .val (.long p3), .second, .val (.long p4), .second, .val (.int p5), .val (.ref o1), .val (.int (1 : Int32)), .unset, .unset, .unset, .unset, .unset, .unset, .unset, .unset, .unset] (hb hby at_24) (pc' := 26) rfl rfl ?_
    refine s_iconst X2 hx (0 : Int32) (hb hby at_26) (pc' := 27) rfl rfl ?_
    refine s_istore X2 hx #[.val (.int p0), .val (.int p1), .val (.int p2), .val (.long p3), .second, .val (.long p4), .second, .val (.int p5), .val (.ref o1), .val (.int (1 : Int32)), .val (.int (0 : Int32)), .unset, .unset, .unset, .unset, .unset, .unset, .unset, .unset] (hb hby at_27) (pc' := 29) rfl rfl ?_
    refine s_iload X2 hx (hb hby at_29) (pc' := 31) rfl rfl ?_
    refine s_ifN X2 hx (hb hby at_31) (pc' := 34) rfl (by decide) ?_
    refine s_lloadN X2 hx (hb hby at_34) (pc' := 35) rfl rfl ?_
    refine s_lload X2 hx (hb hby at_35) (pc' := 37) rfl rfl ?_
    refine c_static X2 hx hZ hown (hw _ (List.mem_of_getElem? (i := 15) rfl)) (hw _ (List.mem_of_getElem? (i := 16) rfl)) (hw _ (List.mem_of_getElem? (i := 17) rfl)) (hw _ (List.mem_of_getElem? (i := 18) rfl)) (by decide) rfl (rm_3 l Z a0 hw [] p3 p4 T2.heap n0 (Nat.le_trans Z0 H2)) (W := 0) (by decide) (by decide) (by decide) (by decide) (by rw [hml]; rfl) (argsL := [.long p3, .long p4]) (rest := []) (lenOf pd_7 rfl) rfl rfl (Nat.le_of_eq rfl) (hb hby at_37) (pc' := 40) rfl ?_
    intro T7 v7 L7 X7 hQ7
    obtain ⟨r7, rfl, Nq7, K7, lo7, E7, Fa7, Fb7, Fc7, Fd7⟩ := hQ7
    have N7 := Fr.app N2 Nq7
    have H7 : h0.size ≤ T7.heap.size := Nat.le_trans H2 K7.1
    show Goes p e below _ (T7.setTop (mkF m 40 #[.val (.int p0), .val (.int p1), .val (.int p2), .val (.long p3), .second, .val (.long p4), .second, .val (.int p5), .val (.ref o1), .val (.int (1 : Int32)), .val (.int (0 : Int32)), .unset, .unset, .unset, .unset, .unset, .unset, .unset, .unset] [.ref r7]))
    have ne7_o1 : o1 ≠ r7 := Nat.ne_of_lt (Nat.lt_of_lt_of_le E2.lt lo7)
    have hg7 : h0.size ≤ r7 := Nat.le_trans H2 lo7
    refine s_astore X7 hx #[.val (.int p0), .val (.int p1), .val (.int p2), .val (.long p3), .second, .val (.long p4), .second, .val (.int p5), .val (.ref o1), .val (.int (1 : Int32)), .val (.int (0 : Int32)), .val (.ref r7), .unset, .unset, .unset, .unset, .unset, .unset, .unset] (hb hby at_40) (pc' := 42) rfl rfl rfl ?_
    refine s_aload X7 hx (hb hby at_42) (pc' := 44) rfl rfl rfl ?_
    refine s_aload X7 hx (hb hby at_44) (pc' := 46) rfl rfl rfl ?_
    have fE8 := (E2.keep K7)
    have fF9 := (Fa2.keep K7 nin0)
    have fF10 := (Fb2.keep K7 nin0)
    refine c_virtual X7 hx hZ hown (hw _ (List.mem_of_getElem? (i := 42) rfl)) (hw _ (List.mem_of_getElem? (i := 43) rfl)) (hw _ (List.mem_of_getElem? (i := 45) rfl)) (hw _ (List.mem_of_getElem? (i := 44) rfl)) (hw _ (List.mem_of_getElem? (i := 2) rfl)) (hw _ (List.mem_of_getElem? (i := 46) rfl)) (by decide) rfl fE8 (rm_6 l Z a0 hw [] o1 r7 (FP.i2d p2) _ (own_mix (own_mix (own_mix p3 + p4) + (-7046029254386353131 : Int64))) (own_mix (own_mix (own_mix p3 + p4) + (4354685564936845354 : Int64))) (own_mix (own_mix (own_mix p3 + p4) + (-2691343689449507777 : Int64))) (own_mix (own_mix (own_mix p3 + p4) + (8709371129873690708 : Int64))) T7.heap n0 (Nat.le_trans Z0 H7) fE8 fF9 fF10 E7 Fa7 Fb7 Fc7 Fd7 (Nat.le_trans Z0 hg7) (Nat.le_trans Z0 hg1) (own_half_nn p2)) (W := 0) (by decide) (by decide) (by decide) (by decide) (by rw [hml]; rfl) (argsL := [.ref r7]) (rest := []) (lenOf pd_8 rfl) rfl rfl (Nat.le_of_eq rfl) (hb hby at_46) (pc' := 49) rfl ?_
    intro T11 v11 L11 X11 hQ11
    obtain ⟨rfl, Nq11, K11, E11, Fl11⟩ := hQ11
    have N11 := Fr.app N7 Nq11
    have H11 : h0.size ≤ T11.heap.size := Nat.le_trans H7 K11.1
    show Goes p e below _ (T11.setTop (mkF m 49 #[.val (.int p0), .val (.int p1), .val (.int p2), .val (.long p3), .second, .val (.long p4), .second, .val (.int p5), .val (.ref o1), .val (.int (1 : Int32)), .val (.int (0 : Int32)), .val (.ref r7), .unset, .unset, .unset, .unset, .unset, .unset, .unset] []))
    refine s_lloadN X11 hx (hb hby at_49) (pc' := 50) rfl rfl ?_
    refine s_lload X11 hx (hb hby at_50) (pc' := 52) rfl rfl ?_
    have fE12 := (E7.keep K11)
    refine c_static X11 hx hZ hown (hw _ (List.mem_of_getElem? (i := 15) rfl)) (hw _ (List.mem_of_getElem? (i := 16) rfl)) (hw _ (List.mem_of_getElem? (i := 17) rfl)) (hw _ (List.mem_of_getElem? (i := 18) rfl)) (by decide) rfl (rm_3 l Z a0 hw [] p3 p4 T11.heap n0 (Nat.le_trans Z0 H11)) (W := 0) (by decide) (by decide) (by decide) (by decide) (by rw [hml]; rfl) (argsL := [.long p3, .long p4]) (rest := []) (lenOf pd_7 rfl) rfl rfl (Nat.le_of_eq rfl) (hb hby at_52) (pc' := 55) rfl ?_
    intro T13 v13 L13 X13 hQ13
    obtain ⟨r13, rfl, Nq13, K13, lo13, E13, Fa13, Fb13, Fc13, Fd13⟩ := hQ13
    have N13 := Fr.app N11 Nq13
    have H13 : h0.size ≤ T13.heap.size := Nat.le_trans H11 K13.1
    show Goes p e below _ (T13.setTop (mkF m 55 #[.val (.int p0), .val (.int p1), .val (.int p2), .val (.long p3), .second, .val (.long p4), .second, .val (.int p5), .val (.ref o1), .val (.int (1 : Int32)), .val (.int (0 : Int32)), .val (.ref r7), .unset, .unset, .unset, .unset, .unset, .unset, .unset] [.ref r13]))
    have ne13_o1 : o1 ≠ r13 := Nat.ne_of_lt (Nat.lt_of_lt_of_le E11.lt lo13)
    have ne13_r7 : r7 ≠ r13 := Nat.ne_of_lt (Nat.lt_of_lt_of_le fE12.lt lo13)
    have hg13 : h0.size ≤ r13 := Nat.le_trans H11 lo13
    refine s_astore X13 hx #[.val (.int p0), .val (.int p1), .val (.int p2), .val (.long p3), .second, .val (.long p4), .second, .val (.int p5), .val (.ref o1), .val (.int (1 : Int32)), .val (.int (0 : Int32)), .val (.ref r7), .val (.ref r13), .unset, .unset, .unset, .unset, .unset, .unset] (hb hby at_55) (pc' := 57) rfl rfl rfl ?_
    refine s_aload X13 hx (hb hby at_57) (pc' := 59) rfl rfl rfl ?_
    refine c_virtual X13 hx hZ hown (hw _ (List.mem_of_getElem? (i := 65) rfl)) (hw _ (List.mem_of_getElem? (i := 48) rfl)) (hw _ (List.mem_of_getElem? (i := 50) rfl)) (hw _ (List.mem_of_getElem? (i := 49) rfl)) (hw _ (List.mem_of_getElem? (i := 17) rfl)) (hw _ (List.mem_of_getElem? (i := 51) rfl)) (by decide) rfl E13 (rm_7 l Z a0 hw [] r13 (own_mix (own_mix (own_mix p3 + p4) + (-7046029254386353131 : Int64))) (own_mix (own_mix (own_mix p3 + p4) + (4354685564936845354 : Int64))) (own_mix (own_mix (own_mix p3 + p4) + (-2691343689449507777 : Int64))) (own_mix (own_mix (own_mix p3 + p4) + (8709371129873690708 : Int64))) T13.heap n0 (Nat.le_trans Z0 H13) E13 Fa13 Fb13 Fc13 Fd13 (Nat.le_trans Z0 hg13)) (W := 0) (by decide) (by decide) (by decide) (by decide) (by rw [hml]; rfl) (argsL := []) (rest := []) (lenOf pd_4 rfl) rfl rfl (Nat.le_of_eq rfl) (hb hby at_59) (pc' := 62) rfl ?_
    intro T14 v14 L14 X14 hQ14
    obtain ⟨rfl, Nq14, K14⟩ := hQ14
    have N14 := Fr.app N13 Nq14
    have H14 : h0.size ≤ T14.heap.size := Nat.le_trans H13 K14.1
    show Goes p e below _ (T14.setTop (mkF m 62 #[.val (.int p0), .val (.int p1), .val (.int p2), .val (.long p3), .second, .val (.long p4), .second, .val (.int p5), .val (.ref o1), .val (.int (1 : Int32)), .val (.int (0 : Int32)), .val (.ref r7), .val (.ref r13), .unset, .unset, .unset, .unset, .unset, .unset] [.double (own_nd (own_mix (own_mix (own_mix p3 + p4) + (4354685564936845354 : Int64))))]))
    refine s_ldcD X14 hx hZ hown (hw _ (List.mem_of_getElem? (i := 66) rfl)) (hb hby at_62) (pc' := 65) rfl ?_
    refine s_dcmp X14 hx (cmpValue (FP.dcmp (own_nd (own_mix (own_mix (own_mix p3 + p4) + (4354685564936845354 : Int64)))) 4602678819172646912) .g) (hb hby at_65) (pc' := 66) rfl rfl ?_
    by_cases hlt : (cmpValue (FP.dcmp (own_nd (own_mix (own_mix (own_mix p3 + p4) + (4354685564936845354 : Int64)))) 4602678819172646912) .g) < 0
    ·
      refine s_ifN X14 hx (hb hby at_66) (pc' := 69) rfl (in_ge hlt) ?_
      refine s_iconst X14 hx (1 : Int32) (hb hby at_69) (pc' := 70) rfl rfl ?_
      refine s_goto X14 hx (hb hby at_70) (by decide) (pc' := 74) (by decide) ?_
      refine s_istore X14 hx #[.val (.int p0), .val (.int p1), .val (.int p2), .val (.long p3), .second, .val (.long p4), .second, .val (.int p5), .val (.ref o1), .val (.int (1 : Int32)), .val (.int (1 : Int32)), .val (.ref r7), .val (.ref r13), .unset, .unset, .unset, .unset, .unset, .unset] (hb hby at_74) (pc' := 76) rfl rfl ?_
      have fF15 := ((Fl11.keep K13 nin0).keep K14 (ninS ne13_o1 nin0))
      rw [own_lim, if_pos hlt] at fF15
      refine s_iloadN X14 hx (hb hby at_76) (pc' := 77) rfl rfl ?_
      refine s_i2l X14 hx (hb hby at_77) (pc' := 78) rfl ?_
      refine s_lstore X14 hx #[.val (.int p0), .val (.int p1), .val (.int p2), .val (.long p3), .second, .val (.long p4), .second, .val (.int p5), .val (.ref o1), .val (.int (1 : Int32)), .val (.int (1 : Int32)), .val (.long p1.toInt64), .second, .unset, .unset, .unset, .unset, .unset, .unset] (hb hby at_78) (pc' := 80) rfl rfl ?_
      refine s_iloadN X14 hx (hb hby at_80) (pc' := 81) rfl rfl ?_
      refine s_i2l X14 hx (hb hby at_81) (pc' := 82) rfl ?_
      refine s_lstore X14 hx #[.val (.int p0), .val (.int p1), .val (.int p2), .val (.long p3), .second, .val (.long p4), .second, .val (.int p5), .val (.ref o1), .val (.int (1 : Int32)), .val (.int (1 : Int32)), .val (.long p1.toInt64), .second, .val (.long p0.toInt64), .second, .unset, .unset, .unset, .unset] (hb hby at_82) (pc' := 84) rfl rfl ?_
      refine s_iloadN X14 hx (hb hby at_84) (pc' := 85) rfl rfl ?_
      refine s_i2l X14 hx (hb hby at_85) (pc' := 86) rfl ?_
      refine s_lstore X14 hx #[.val (.int p0), .val (.int p1), .val (.int p2), .val (.long p3), .second, .val (.long p4), .second, .val (.int p5), .val (.ref o1), .val (.int (1 : Int32)), .val (.int (1 : Int32)), .val (.long p1.toInt64), .second, .val (.long p0.toInt64), .second, .val (.long p2.toInt64), .second, .unset, .unset] (hb hby at_86) (pc' := 88) rfl rfl ?_
      refine s_iload X14 hx (hb hby at_88) (pc' := 90) rfl rfl ?_
      refine s_ifN X14 hx (hb hby at_90) (pc' := 93) rfl (by decide) ?_
      refine s_ldcJ X14 hx hZ hown (hw _ (List.mem_of_getElem? (i := 73) rfl)) (hb hby at_93) (pc' := 96) rfl ?_
      refine s_lload X14 hx (hb hby at_96) (pc' := 98) rfl rfl ?_
      refine s_lmul X14 hx (hb hby at_98) (pc' := 99) rfl ?_
      refine s_ldcJ X14 hx hZ hown (hw _ (List.mem_of_getElem? (i := 74) rfl)) (hb hby at_99) (pc' := 102) rfl ?_
      refine s_lload X14 hx (hb hby at_102) (pc' := 104) rfl rfl ?_
      refine s_lmul X14 hx (hb hby at_104) (pc' := 105) rfl ?_
      refine s_lcmp X14 hx (hb hby at_105) (pc' := 106) rfl ?_
      by_cases hw1 : (3 : Int64) * p2.toInt64 < (2 : Int64) * p1.toInt64
      ·
        refine s_ifY X14 hx (hb hby at_106) (iy_gt (own_cmpL_gt.mpr hw1)) (by decide) (pc' := 113) (by decide) ?_
        refine s_iconst X14 hx (0 : Int32) (hb hby at_113) (pc' := 114) rfl rfl ?_
        refine s_goto X14 hx (hb hby at_114) (by decide) (pc' := 130) (by decide) ?_
        refine s_istore X14 hx #[.val (.int p0), .val (.int p1), .val (.int p2), .val (.long p3), .second, .val (.long p4), .second, .val (.int p5), .val (.ref o1), .val (.int (1 : Int32)), .val (.int (1 : Int32)), .val (.long p1.toInt64), .second, .val (.long p0.toInt64), .second, .val (.long p2.toInt64), .second, .val (.int (0 : Int32)), .unset] (hb hby at_130) (pc' := 132) rfl rfl ?_
        refine s_lload X14 hx (hb hby at_132) (pc' := 134) rfl rfl ?_
        refine s_lload X14 hx (hb hby at_134) (pc' := 136) rfl rfl ?_
        refine s_lcmp X14 hx (hb hby at_136) (pc' := 137) rfl ?_
        by_cases hab : p0.toInt64 < p1.toInt64
        ·
          refine s_ifN X14 hx (hb hby at_137) (pc' := 140) rfl (in_le (own_cmpL_gt.mpr hab)) ?_
          refine s_iload X14 hx (hb hby at_140) (pc' := 142) rfl rfl ?_
          refine s_ifY X14 hx (hb hby at_142) (by decide) (by decide) (pc' := 149) (by decide) ?_
          refine s_iconst X14 hx (0 : Int32) (hb hby at_149) (pc' := 150) rfl rfl ?_
          refine s_istore X14 hx #[.val (.int p0), .val (.int p1), .val (.int p2), .val (.long p3), .second, .val (.long p4), .second, .val (.int p5), .val (.ref o1), .val (.int (1 : Int32)), .val (.int (1 : Int32)), .val (.long p1.toInt64), .second, .val (.long p0.toInt64), .second, .val (.long p2.toInt64), .second, .val (.int (0 : Int32)), .val (.int (0 : Int32))] (hb hby at_150) (pc' := 152) rfl rfl ?_
          refine s_aload X14 hx (hb hby at_152) (pc' := 154) rfl rfl rfl ?_
          refine s_iloadN X14 hx (hb hby at_154) (pc' := 155) rfl rfl ?_
          refine s_i2d X14 hx (hb hby at_155) (pc' := 156) rfl ?_
          refine s_iloadN X14 hx (hb hby at_156) (pc' := 157) rfl rfl ?_
          refine s_i2d X14 hx (hb hby at_157) (pc' := 158) rfl ?_
          have fE16 := ((E11.keep K13).keep K14)
          have val : own_fits (FP.i2d p0) (FP.i2d p1) (FP.dmul 4609434218613702656 (FP.i2d p2)) = 0 := by
            rw [own_fits, if_pos ((own_cmp_i p1 p0 _).mpr ((own_l1 p1 p0).mp hab)), if_pos ((own_cmp_r p1 p2 _).mpr ((own_l2 p1 p2).mp hw1))]
          refine c_virtual X14 hx hZ hown (hw _ (List.mem_of_getElem? (i := 67) rfl)) (hw _ (List.mem_of_getElem? (i := 68) rfl)) (hw _ (List.mem_of_getElem? (i := 70) rfl)) (hw _ (List.mem_of_getElem? (i := 69) rfl)) (hw _ (List.mem_of_getElem? (i := 2) rfl)) (hw _ (List.mem_of_getElem? (i := 71) rfl)) (by decide) rfl fE16 (rm_10 l Z a0 hw [] o1 (FP.i2d p0) (FP.i2d p1) (FP.dmul 4609434218613702656 (FP.i2d p2)) T14.heap n0 (Nat.le_trans Z0 H14) fF15) (W := 0) (by decide) (by decide) (by decide) (by decide) (by rw [hml]; rfl) (argsL := [.double (FP.i2d p0), .double (FP.i2d p1)]) (rest := []) (lenOf pd_6 rfl) rfl rfl (Nat.le_of_eq rfl) (hb hby at_158) (pc' := 161) rfl ?_
          intro T17 v17 L17 X17 hQ17
          obtain ⟨hv17, Nq17, eh17⟩ := hQ17
          rw [val] at hv17
          subst hv17
          have N17 := Fr.app N14 Nq17
          show Goes p e below _ (T17.setTop (mkF m 161 #[.val (.int p0), .val (.int p1), .val (.int p2), .val (.long p3), .second, .val (.long p4), .second, .val (.int p5), .val (.ref o1), .val (.int (1 : Int32)), .val (.int (1 : Int32)), .val (.long p1.toInt64), .second, .val (.long p0.toInt64), .second, .val (.long p2.toInt64), .second, .val (.int (0 : Int32)), .val (.int (0 : Int32))] [.int (0 : Int32)]))
          refine s_iload X17 hx (hb hby at_161) (pc' := 163) rfl rfl ?_
          refine s_icmpN X17 hx (hb hby at_163) (pc' := 166) rfl (by decide) ?_
          refine s_iconst X17 hx (1 : Int32) (hb hby at_166) (pc' := 167) rfl rfl ?_
          refine s_goto X17 hx (hb hby at_167) (by decide) (pc' := 171) (by decide) ?_
          exact s_retI X17 hx hlk hret (hb hby at_171) rfl (Or.inl ⟨rfl, by simp, _, rfl⟩) (by decide) (by decide) ⟨rfl, N17⟩
        ·
          refine s_ifY X14 hx (hb hby at_137) (iy_le (fun z => hab (own_cmpL_gt.mp z))) (by decide) (pc' := 145) (by decide) ?_
          refine s_iconst X14 hx (1 : Int32) (hb hby at_145) (pc' := 146) rfl rfl ?_
          refine s_goto X14 hx (hb hby at_146) (by decide) (pc' := 150) (by decide) ?_
          refine s_istore X14 hx #[.val (.int p0), .val (.int p1), .val (.int p2), .val (.long p3), .second, .val (.long p4), .second, .val (.int p5), .val (.ref o1), .val (.int (1 : Int32)), .val (.int (1 : Int32)), .val (.long p1.toInt64), .second, .val (.long p0.toInt64), .second, .val (.long p2.toInt64), .second, .val (.int (0 : Int32)), .val (.int (1 : Int32))] (hb hby at_150) (pc' := 152) rfl rfl ?_
          refine s_aload X14 hx (hb hby at_152) (pc' := 154) rfl rfl rfl ?_
          refine s_iloadN X14 hx (hb hby at_154) (pc' := 155) rfl rfl ?_
          refine s_i2d X14 hx (hb hby at_155) (pc' := 156) rfl ?_
          refine s_iloadN X14 hx (hb hby at_156) (pc' := 157) rfl rfl ?_
          refine s_i2d X14 hx (hb hby at_157) (pc' := 158) rfl ?_
          have fE18 := ((E11.keep K13).keep K14)
          have val : own_fits (FP.i2d p0) (FP.i2d p1) (FP.dmul 4609434218613702656 (FP.i2d p2)) = 1 := by
            rw [own_fits, if_neg (fun z => hab ((own_l1 p1 p0).mpr ((own_cmp_i p1 p0 _).mp z)))]
          refine c_virtual X14 hx hZ hown (hw _ (List.mem_of_getElem? (i := 67) rfl)) (hw _ (List.mem_of_getElem? (i := 68) rfl)) (hw _ (List.mem_of_getElem? (i := 70) rfl)) (hw _ (List.mem_of_getElem? (i := 69) rfl)) (hw _ (List.mem_of_getElem? (i := 2) rfl)) (hw _ (List.mem_of_getElem? (i := 71) rfl)) (by decide) rfl fE18 (rm_10 l Z a0 hw [] o1 (FP.i2d p0) (FP.i2d p1) (FP.dmul 4609434218613702656 (FP.i2d p2)) T14.heap n0 (Nat.le_trans Z0 H14) fF15) (W := 0) (by decide) (by decide) (by decide) (by decide) (by rw [hml]; rfl) (argsL := [.double (FP.i2d p0), .double (FP.i2d p1)]) (rest := []) (lenOf pd_6 rfl) rfl rfl (Nat.le_of_eq rfl) (hb hby at_158) (pc' := 161) rfl ?_
          intro T19 v19 L19 X19 hQ19
          obtain ⟨hv19, Nq19, eh19⟩ := hQ19
          rw [val] at hv19
          subst hv19
          have N19 := Fr.app N14 Nq19
          show Goes p e below _ (T19.setTop (mkF m 161 #[.val (.int p0), .val (.int p1), .val (.int p2), .val (.long p3), .second, .val (.long p4), .second, .val (.int p5), .val (.ref o1), .val (.int (1 : Int32)), .val (.int (1 : Int32)), .val (.long p1.toInt64), .second, .val (.long p0.toInt64), .second, .val (.long p2.toInt64), .second, .val (.int (0 : Int32)), .val (.int (1 : Int32))] [.int (1 : Int32)]))
          refine s_iload X19 hx (hb hby at_161) (pc' := 163) rfl rfl ?_
          refine s_icmpN X19 hx (hb hby at_163) (pc' := 166) rfl (by decide) ?_
          refine s_iconst X19 hx (1 : Int32) (hb hby at_166) (pc' := 167) rfl rfl ?_
          refine s_goto X19 hx (hb hby at_167) (by decide) (pc' := 171) (by decide) ?_
          exact s_retI X19 hx hlk hret (hb hby at_171) rfl (Or.inl ⟨rfl, by simp, _, rfl⟩) (by decide) (by decide) ⟨rfl, N19⟩
      ·
        refine s_ifN X14 hx (hb hby at_106) (pc' := 109) rfl (in_gt (fun z => hw1 (own_cmpL_gt.mp z))) ?_
        refine s_iconst X14 hx (1 : Int32) (hb hby at_109) (pc' := 110) rfl rfl ?_
        refine s_goto X14 hx (hb hby at_110) (by decide) (pc' := 130) (by decide) ?_
        refine s_istore X14 hx #[.val (.int p0), .val (.int p1), .val (.int p2), .val (.long p3), .second, .val (.long p4), .second, .val (.int p5), .val (.ref o1), .val (.int (1 : Int32)), .val (.int (1 : Int32)), .val (.long p1.toInt64), .second, .val (.long p0.toInt64), .second, .val (.long p2.toInt64), .second, .val (.int (1 : Int32)), .unset] (hb hby at_130) (pc' := 132) rfl rfl ?_
        refine s_lload X14 hx (hb hby at_132) (pc' := 134) rfl rfl ?_
        refine s_lload X14 hx (hb hby at_134) (pc' := 136) rfl rfl ?_
        refine s_lcmp X14 hx (hb hby at_136) (pc' := 137) rfl ?_
        by_cases hab : p0.toInt64 < p1.toInt64
        ·
          refine s_ifN X14 hx (hb hby at_137) (pc' := 140) rfl (in_le (own_cmpL_gt.mpr hab)) ?_
          refine s_iload X14 hx (hb hby at_140) (pc' := 142) rfl rfl ?_
          refine s_ifN X14 hx (hb hby at_142) (pc' := 145) rfl (by decide) ?_
          refine s_iconst X14 hx (1 : Int32) (hb hby at_145) (pc' := 146) rfl rfl ?_
          refine s_goto X14 hx (hb hby at_146) (by decide) (pc' := 150) (by decide) ?_
          refine s_istore X14 hx #[.val (.int p0), .val (.int p1), .val (.int p2), .val (.long p3), .second, .val (.long p4), .second, .val (.int p5), .val (.ref o1), .val (.int (1 : Int32)), .val (.int (1 : Int32)), .val (.long p1.toInt64), .second, .val (.long p0.toInt64), .second, .val (.long p2.toInt64), .second, .val (.int (1 : Int32)), .val (.int (1 : Int32))] (hb hby at_150) (pc' := 152) rfl rfl ?_
          refine s_aload X14 hx (hb hby at_152) (pc' := 154) rfl rfl rfl ?_
          refine s_iloadN X14 hx (hb hby at_154) (pc' := 155) rfl rfl ?_
          refine s_i2d X14 hx (hb hby at_155) (pc' := 156) rfl ?_
          refine s_iloadN X14 hx (hb hby at_156) (pc' := 157) rfl rfl ?_
          refine s_i2d X14 hx (hb hby at_157) (pc' := 158) rfl ?_
          have fE20 := ((E11.keep K13).keep K14)
          have val : own_fits (FP.i2d p0) (FP.i2d p1) (FP.dmul 4609434218613702656 (FP.i2d p2)) = 1 := by
            rw [own_fits, if_pos ((own_cmp_i p1 p0 _).mpr ((own_l1 p1 p0).mp hab)), if_neg (fun z => hw1 ((own_l2 p1 p2).mpr ((own_cmp_r p1 p2 _).mp z)))]
          refine c_virtual X14 hx hZ hown (hw _ (List.mem_of_getElem? (i := 67) rfl)) (hw _ (List.mem_of_getElem? (i := 68) rfl)) (hw _ (List.mem_of_getElem? (i := 70) rfl)) (hw _ (List.mem_of_getElem? (i := 69) rfl)) (hw _ (List.mem_of_getElem? (i := 2) rfl)) (hw _ (List.mem_of_getElem? (i := 71) rfl)) (by decide) rfl fE20 (rm_10 l Z a0 hw [] o1 (FP.i2d p0) (FP.i2d p1) (FP.dmul 4609434218613702656 (FP.i2d p2)) T14.heap n0 (Nat.le_trans Z0 H14) fF15) (W := 0) (by decide) (by decide) (by decide) (by decide) (by rw [hml]; rfl) (argsL := [.double (FP.i2d p0), .double (FP.i2d p1)]) (rest := []) (lenOf pd_6 rfl) rfl rfl (Nat.le_of_eq rfl) (hb hby at_158) (pc' := 161) rfl ?_
          intro T21 v21 L21 X21 hQ21
          obtain ⟨hv21, Nq21, eh21⟩ := hQ21
          rw [val] at hv21
          subst hv21
          have N21 := Fr.app N14 Nq21
          show Goes p e below _ (T21.setTop (mkF m 161 #[.val (.int p0), .val (.int p1), .val (.int p2), .val (.long p3), .second, .val (.long p4), .second, .val (.int p5), .val (.ref o1), .val (.int (1 : Int32)), .val (.int (1 : Int32)), .val (.long p1.toInt64), .second, .val (.long p0.toInt64), .second, .val (.long p2.toInt64), .second, .val (.int (1 : Int32)), .val (.int (1 : Int32))] [.int (1 : Int32)]))
          refine s_iload X21 hx (hb hby at_161) (pc' := 163) rfl rfl ?_
          refine s_icmpN X21 hx (hb hby at_163) (pc' := 166) rfl (by decide) ?_
          refine s_iconst X21 hx (1 : Int32) (hb hby at_166) (pc' := 167) rfl rfl ?_
          refine s_goto X21 hx (hb hby at_167) (by decide) (pc' := 171) (by decide) ?_
          exact s_retI X21 hx hlk hret (hb hby at_171) rfl (Or.inl ⟨rfl, by simp, _, rfl⟩) (by decide) (by decide) ⟨rfl, N21⟩
        ·
          refine s_ifY X14 hx (hb hby at_137) (iy_le (fun z => hab (own_cmpL_gt.mp z))) (by decide) (pc' := 145) (by decide) ?_
          refine s_iconst X14 hx (1 : Int32) (hb hby at_145) (pc' := 146) rfl rfl ?_
          refine s_goto X14 hx (hb hby at_146) (by decide) (pc' := 150) (by decide) ?_
          refine s_istore X14 hx #[.val (.int p0), .val (.int p1), .val (.int p2), .val (.long p3), .second, .val (.long p4), .second, .val (.int p5), .val (.ref o1), .val (.int (1 : Int32)), .val (.int (1 : Int32)), .val (.long p1.toInt64), .second, .val (.long p0.toInt64), .second, .val (.long p2.toInt64), .second, .val (.int (1 : Int32)), .val (.int (1 : Int32))] (hb hby at_150) (pc' := 152) rfl rfl ?_
          refine s_aload X14 hx (hb hby at_152) (pc' := 154) rfl rfl rfl ?_
          refine s_iloadN X14 hx (hb hby at_154) (pc' := 155) rfl rfl ?_
          refine s_i2d X14 hx (hb hby at_155) (pc' := 156) rfl ?_
          refine s_iloadN X14 hx (hb hby at_156) (pc' := 157) rfl rfl ?_
          refine s_i2d X14 hx (hb hby at_157) (pc' := 158) rfl ?_
          have fE22 := ((E11.keep K13).keep K14)
          have val : own_fits (FP.i2d p0) (FP.i2d p1) (FP.dmul 4609434218613702656 (FP.i2d p2)) = 1 := by
            rw [own_fits, if_neg (fun z => hab ((own_l1 p1 p0).mpr ((own_cmp_i p1 p0 _).mp z)))]
          refine c_virtual X14 hx hZ hown (hw _ (List.mem_of_getElem? (i := 67) rfl)) (hw _ (List.mem_of_getElem? (i := 68) rfl)) (hw _ (List.mem_of_getElem? (i := 70) rfl)) (hw _ (List.mem_of_getElem? (i := 69) rfl)) (hw _ (List.mem_of_getElem? (i := 2) rfl)) (hw _ (List.mem_of_getElem? (i := 71) rfl)) (by decide) rfl fE22 (rm_10 l Z a0 hw [] o1 (FP.i2d p0) (FP.i2d p1) (FP.dmul 4609434218613702656 (FP.i2d p2)) T14.heap n0 (Nat.le_trans Z0 H14) fF15) (W := 0) (by decide) (by decide) (by decide) (by decide) (by rw [hml]; rfl) (argsL := [.double (FP.i2d p0), .double (FP.i2d p1)]) (rest := []) (lenOf pd_6 rfl) rfl rfl (Nat.le_of_eq rfl) (hb hby at_158) (pc' := 161) rfl ?_
          intro T23 v23 L23 X23 hQ23
          obtain ⟨hv23, Nq23, eh23⟩ := hQ23
          rw [val] at hv23
          subst hv23
          have N23 := Fr.app N14 Nq23
          show Goes p e below _ (T23.setTop (mkF m 161 #[.val (.int p0), .val (.int p1), .val (.int p2), .val (.long p3), .second, .val (.long p4), .second, .val (.int p5), .val (.ref o1), .val (.int (1 : Int32)), .val (.int (1 : Int32)), .val (.long p1.toInt64), .second, .val (.long p0.toInt64), .second, .val (.long p2.toInt64), .second, .val (.int (1 : Int32)), .val (.int (1 : Int32))] [.int (1 : Int32)]))
          refine s_iload X23 hx (hb hby at_161) (pc' := 163) rfl rfl ?_
          refine s_icmpN X23 hx (hb hby at_163) (pc' := 166) rfl (by decide) ?_
          refine s_iconst X23 hx (1 : Int32) (hb hby at_166) (pc' := 167) rfl rfl ?_
          refine s_goto X23 hx (hb hby at_167) (by decide) (pc' := 171) (by decide) ?_
          exact s_retI X23 hx hlk hret (hb hby at_171) rfl (Or.inl ⟨rfl, by simp, _, rfl⟩) (by decide) (by decide) ⟨rfl, N23⟩
    ·
      refine s_ifY X14 hx (hb hby at_66) (iy_ge hlt) (by decide) (pc' := 73) (by decide) ?_
      refine s_iconst X14 hx (0 : Int32) (hb hby at_73) (pc' := 74) rfl rfl ?_
      refine s_istore X14 hx #[.val (.int p0), .val (.int p1), .val (.int p2), .val (.long p3), .second, .val (.long p4), .second, .val (.int p5), .val (.ref o1), .val (.int (1 : Int32)), .val (.int (0 : Int32)), .val (.ref r7), .val (.ref r13), .unset, .unset, .unset, .unset, .unset, .unset] (hb hby at_74) (pc' := 76) rfl rfl ?_
      have fF24 := ((Fl11.keep K13 nin0).keep K14 (ninS ne13_o1 nin0))
      rw [own_lim, if_neg hlt] at fF24
      refine s_iloadN X14 hx (hb hby at_76) (pc' := 77) rfl rfl ?_
      refine s_i2l X14 hx (hb hby at_77) (pc' := 78) rfl ?_
      refine s_lstore X14 hx #[.val (.int p0), .val (.int p1), .val (.int p2), .val (.long p3), .second, .val (.long p4), .second, .val (.int p5), .val (.ref o1), .val (.int (1 : Int32)), .val (.int (0 : Int32)), .val (.long p1.toInt64), .second, .unset, .unset, .unset, .unset, .unset, .unset] (hb hby at_78) (pc' := 80) rfl rfl ?_
      refine s_iloadN X14 hx (hb hby at_80) (pc' := 81) rfl rfl ?_
      refine s_i2l X14 hx (hb hby at_81) (pc' := 82) rfl ?_
      refine s_lstore X14 hx #[.val (.int p0), .val (.int p1), .val (.int p2), .val (.long p3), .second, .val (.long p4), .second, .val (.int p5), .val (.ref o1), .val (.int (1 : Int32)), .val (.int (0 : Int32)), .val (.long p1.toInt64), .second, .val (.long p0.toInt64), .second, .unset, .unset, .unset, .unset] (hb hby at_82) (pc' := 84) rfl rfl ?_
      refine s_iloadN X14 hx (hb hby at_84) (pc' := 85) rfl rfl ?_
      refine s_i2l X14 hx (hb hby at_85) (pc' := 86) rfl ?_
      refine s_lstore X14 hx #[.val (.int p0), .val (.int p1), .val (.int p2), .val (.long p3), .second, .val (.long p4), .second, .val (.int p5), .val (.ref o1), .val (.int (1 : Int32)), .val (.int (0 : Int32)), .val (.long p1.toInt64), .second, .val (.long p0.toInt64), .second, .val (.long p2.toInt64), .second, .unset, .unset] (hb hby at_86) (pc' := 88) rfl rfl ?_
      refine s_iload X14 hx (hb hby at_88) (pc' := 90) rfl rfl ?_
      refine s_ifY X14 hx (hb hby at_90) (by decide) (by decide) (pc' := 117) (by decide) ?_
      refine s_lload X14 hx (hb hby at_117) (pc' := 119) rfl rfl ?_
      refine s_lload X14 hx (hb hby at_119) (pc' := 121) rfl rfl ?_
      refine s_lcmp X14 hx (hb hby at_121) (pc' := 122) rfl ?_
      by_cases hw1 : p2.toInt64 < p1.toInt64
      ·
        refine s_ifY X14 hx (hb hby at_122) (iy_gt (own_cmpL_gt.mpr hw1)) (by decide) (pc' := 129) (by decide) ?_
        refine s_iconst X14 hx (0 : Int32) (hb hby at_129) (pc' := 130) rfl rfl ?_
        refine s_istore X14 hx #[.val (.int p0), .val (.int p1), .val (.int p2), .val (.long p3), .second, .val (.long p4), .second, .val (.int p5), .val (.ref o1), .val (.int (1 : Int32)), .val (.int (0 : Int32)), .val (.long p1.toInt64), .second, .val (.long p0.toInt64), .second, .val (.long p2.toInt64), .second, .val (.int (0 : Int32)), .unset] (hb hby at_130) (pc' := 132) rfl rfl ?_
        refine s_lload X14 hx (hb hby at_132) (pc' := 134) rfl rfl ?_
        refine s_lload X14 hx (hb hby at_134) (pc' := 136) rfl rfl ?_
        refine s_lcmp X14 hx (hb hby at_136) (pc' := 137) rfl ?_
        by_cases hab : p0.toInt64 < p1.toInt64
        ·
          refine s_ifN X14 hx (hb hby at_137) (pc' := 140) rfl (in_le (own_cmpL_gt.mpr hab)) ?_
          refine s_iload X14 hx (hb hby at_140) (pc' := 142) rfl rfl ?_
          refine s_ifY X14 hx (hb hby at_142) (by decide) (by decide) (pc' := 149) (by decide) ?_
          refine s_iconst X14 hx (0 : Int32) (hb hby at_149) (pc' := 150) rfl rfl ?_
          refine s_istore X14 hx #[.val (.int p0), .val (.int p1), .val (.int p2), .val (.long p3), .second, .val (.long p4), .second, .val (.int p5), .val (.ref o1), .val (.int (1 : Int32)), .val (.int (0 : Int32)), .val (.long p1.toInt64), .second, .val (.long p0.toInt64), .second, .val (.long p2.toInt64), .second, .val (.int (0 : Int32)), .val (.int (0 : Int32))] (hb hby at_150) (pc' := 152) rfl rfl ?_
          refine s_aload X14 hx (hb hby at_152) (pc' := 154) rfl rfl rfl ?_
          refine s_iloadN X14 hx (hb hby at_154) (pc' := 155) rfl rfl ?_
          refine s_i2d X14 hx (hb hby at_155) (pc' := 156) rfl ?_
          refine s_iloadN X14 hx (hb hby at_156) (pc' := 157) rfl rfl ?_
          refine s_i2d X14 hx (hb hby at_157) (pc' := 158) rfl ?_
          have fE25 := ((E11.keep K13).keep K14)
          have val : own_fits (FP.i2d p0) (FP.i2d p1) (FP.i2d p2) = 0 := by
            rw [own_fits, if_pos ((own_cmp_i p1 p0 _).mpr ((own_l1 p1 p0).mp hab)), if_pos ((own_cmp_i p1 p2 _).mpr ((own_l1 p1 p2).mp hw1))]
          refine c_virtual X14 hx hZ hown (hw _ (List.mem_of_getElem? (i := 67) rfl)) (hw _ (List.mem_of_getElem? (i := 68) rfl)) (hw _ (List.mem_of_getElem? (i := 70) rfl)) (hw _ (List.mem_of_getElem? (i := 69) rfl)) (hw _ (List.mem_of_getElem? (i := 2) rfl)) (hw _ (List.mem_of_getElem? (i := 71) rfl)) (by decide) rfl fE25 (rm_10 l Z a0 hw [] o1 (FP.i2d p0) (FP.i2d p1) (FP.i2d p2) T14.heap n0 (Nat.le_trans Z0 H14) fF24) (W := 0) (by decide) (by decide) (by decide) (by decide) (by rw [hml]; rfl) (argsL := [.double (FP.i2d p0), .double (FP.i2d p1)]) (rest := []) (lenOf pd_6 rfl) rfl rfl (Nat.le_of_eq rfl) (hb hby at_158) (pc' := 161) rfl ?_
          intro T26 v26 L26 X26 hQ26
          obtain ⟨hv26, Nq26, eh26⟩ := hQ26
          rw [val] at hv26
          subst hv26
          have N26 := Fr.app N14 Nq26
          show Goes p e below _ (T26.setTop (mkF m 161 #[.val (.int p0), .val (.int p1), .val (.int p2), .val (.long p3), .second, .val (.long p4), .second, .val (.int p5), .val (.ref o1), .val (.int (1 : Int32)), .val (.int (0 : Int32)), .val (.long p1.toInt64), .second, .val (.long p0.toInt64), .second, .val (.long p2.toInt64), .second, .val (.int (0 : Int32)), .val (.int (0 : Int32))] [.int (0 : Int32)]))
          refine s_iload X26 hx (hb hby at_161) (pc' := 163) rfl rfl ?_
          refine s_icmpN X26 hx (hb hby at_163) (pc' := 166) rfl (by decide) ?_
          refine s_iconst X26 hx (1 : Int32) (hb hby at_166) (pc' := 167) rfl rfl ?_
          refine s_goto X26 hx (hb hby at_167) (by decide) (pc' := 171) (by decide) ?_
          exact s_retI X26 hx hlk hret (hb hby at_171) rfl (Or.inl ⟨rfl, by simp, _, rfl⟩) (by decide) (by decide) ⟨rfl, N26⟩
        ·
          refine s_ifY X14 hx (hb hby at_137) (iy_le (fun z => hab (own_cmpL_gt.mp z))) (by decide) (pc' := 145) (by decide) ?_
          refine s_iconst X14 hx (1 : Int32) (hb hby at_145) (pc' := 146) rfl rfl ?_
          refine s_goto X14 hx (hb hby at_146) (by decide) (pc' := 150) (by decide) ?_
          refine s_istore X14 hx #[.val (.int p0), .val (.int p1), .val (.int p2), .val (.long p3), .second, .val (.long p4), .second, .val (.int p5), .val (.ref o1), .val (.int (1 : Int32)), .val (.int (0 : Int32)), .val (.long p1.toInt64), .second, .val (.long p0.toInt64), .second, .val (.long p2.toInt64), .second, .val (.int (0 : Int32)), .val (.int (1 : Int32))] (hb hby at_150) (pc' := 152) rfl rfl ?_
          refine s_aload X14 hx (hb hby at_152) (pc' := 154) rfl rfl rfl ?_
          refine s_iloadN X14 hx (hb hby at_154) (pc' := 155) rfl rfl ?_
          refine s_i2d X14 hx (hb hby at_155) (pc' := 156) rfl ?_
          refine s_iloadN X14 hx (hb hby at_156) (pc' := 157) rfl rfl ?_
          refine s_i2d X14 hx (hb hby at_157) (pc' := 158) rfl ?_
          have fE27 := ((E11.keep K13).keep K14)
          have val : own_fits (FP.i2d p0) (FP.i2d p1) (FP.i2d p2) = 1 := by
            rw [own_fits, if_neg (fun z => hab ((own_l1 p1 p0).mpr ((own_cmp_i p1 p0 _).mp z)))]
          refine c_virtual X14 hx hZ hown (hw _ (List.mem_of_getElem? (i := 67) rfl)) (hw _ (List.mem_of_getElem? (i := 68) rfl)) (hw _ (List.mem_of_getElem? (i := 70) rfl)) (hw _ (List.mem_of_getElem? (i := 69) rfl)) (hw _ (List.mem_of_getElem? (i := 2) rfl)) (hw _ (List.mem_of_getElem? (i := 71) rfl)) (by decide) rfl fE27 (rm_10 l Z a0 hw [] o1 (FP.i2d p0) (FP.i2d p1) (FP.i2d p2) T14.heap n0 (Nat.le_trans Z0 H14) fF24) (W := 0) (by decide) (by decide) (by decide) (by decide) (by rw [hml]; rfl) (argsL := [.double (FP.i2d p0), .double (FP.i2d p1)]) (rest := []) (lenOf pd_6 rfl) rfl rfl (Nat.le_of_eq rfl) (hb hby at_158) (pc' := 161) rfl ?_
          intro T28 v28 L28 X28 hQ28
          obtain ⟨hv28, Nq28, eh28⟩ := hQ28
          rw [val] at hv28
          subst hv28
          have N28 := Fr.app N14 Nq28
          show Goes p e below _ (T28.setTop (mkF m 161 #[.val (.int p0), .val (.int p1), .val (.int p2), .val (.long p3), .second, .val (.long p4), .second, .val (.int p5), .val (.ref o1), .val (.int (1 : Int32)), .val (.int (0 : Int32)), .val (.long p1.toInt64), .second, .val (.long p0.toInt64), .second, .val (.long p2.toInt64), .second, .val (.int (0 : Int32)), .val (.int (1 : Int32))] [.int (1 : Int32)]))
          refine s_iload X28 hx (hb hby at_161) (pc' := 163) rfl rfl ?_
          refine s_icmpN X28 hx (hb hby at_163) (pc' := 166) rfl (by decide) ?_
          refine s_iconst X28 hx (1 : Int32) (hb hby at_166) (pc' := 167) rfl rfl ?_
          refine s_goto X28 hx (hb hby at_167) (by decide) (pc' := 171) (by decide) ?_
          exact s_retI X28 hx hlk hret (hb hby at_171) rfl (Or.inl ⟨rfl, by simp, _, rfl⟩) (by decide) (by decide) ⟨rfl, N28⟩
      ·
        refine s_ifN X14 hx (hb hby at_122) (pc' := 125) rfl (in_gt (fun z => hw1 (own_cmpL_gt.mp z))) ?_
        refine s_iconst X14 hx (1 : Int32) (hb hby at_125) (pc' := 126) rfl rfl ?_
        refine s_goto X14 hx (hb hby at_126) (by decide) (pc' := 130) (by decide) ?_
        refine s_istore X14 hx #[.val (.int p0), .val (.int p1), .val (.int p2), .val (.long p3), .second, .val (.long p4), .second, .val (.int p5), .val (.ref o1), .val (.int (1 : Int32)), .val (.int (0 : Int32)), .val (.long p1.toInt64), .second, .val (.long p0.toInt64), .second, .val (.long p2.toInt64), .second, .val (.int (1 : Int32)), .unset] (hb hby at_130) (pc' := 132) rfl rfl ?_
        refine s_lload X14 hx (hb hby at_132) (pc' := 134) rfl rfl ?_
        refine s_lload X14 hx (hb hby at_134) (pc' := 136) rfl rfl ?_
        refine s_lcmp X14 hx (hb hby at_136) (pc' := 137) rfl ?_
        by_cases hab : p0.toInt64 < p1.toInt64
        ·
          refine s_ifN X14 hx (hb hby at_137) (pc' := 140) rfl (in_le (own_cmpL_gt.mpr hab)) ?_
          refine s_iload X14 hx (hb hby at_140) (pc' := 142) rfl rfl ?_
          refine s_ifN X14 hx (hb hby at_142) (pc' := 145) rfl (by decide) ?_
          refine s_iconst X14 hx (1 : Int32) (hb hby at_145) (pc' := 146) rfl rfl ?_
          refine s_goto X14 hx (hb hby at_146) (by decide) (pc' := 150) (by decide) ?_
          refine s_istore X14 hx #[.val (.int p0), .val (.int p1), .val (.int p2), .val (.long p3), .second, .val (.long p4), .second, .val (.int p5), .val (.ref o1), .val (.int (1 : Int32)), .val (.int (0 : Int32)), .val (.long p1.toInt64), .second, .val (.long p0.toInt64), .second, .val (.long p2.toInt64), .second, .val (.int (1 : Int32)), .val (.int (1 : Int32))] (hb hby at_150) (pc' := 152) rfl rfl ?_
          refine s_aload X14 hx (hb hby at_152) (pc' := 154) rfl rfl rfl ?_
          refine s_iloadN X14 hx (hb hby at_154) (pc' := 155) rfl rfl ?_
          refine s_i2d X14 hx (hb hby at_155) (pc' := 156) rfl ?_
          refine s_iloadN X14 hx (hb hby at_156) (pc' := 157) rfl rfl ?_
          refine s_i2d X14 hx (hb hby at_157) (pc' := 158) rfl ?_
          have fE29 := ((E11.keep K13).keep K14)
          have val : own_fits (FP.i2d p0) (FP.i2d p1) (FP.i2d p2) = 1 := by
            rw [own_fits, if_pos ((own_cmp_i p1 p0 _).mpr ((own_l1 p1 p0).mp hab)), if_neg (fun z => hw1 ((own_l1 p1 p2).mpr ((own_cmp_i p1 p2 _).mp z)))]
          refine c_virtual X14 hx hZ hown (hw _ (List.mem_of_getElem? (i := 67) rfl)) (hw _ (List.mem_of_getElem? (i := 68) rfl)) (hw _ (List.mem_of_getElem? (i := 70) rfl)) (hw _ (List.mem_of_getElem? (i := 69) rfl)) (hw _ (List.mem_of_getElem? (i := 2) rfl)) (hw _ (List.mem_of_getElem? (i := 71) rfl)) (by decide) rfl fE29 (rm_10 l Z a0 hw [] o1 (FP.i2d p0) (FP.i2d p1) (FP.i2d p2) T14.heap n0 (Nat.le_trans Z0 H14) fF24) (W := 0) (by decide) (by decide) (by decide) (by decide) (by rw [hml]; rfl) (argsL := [.double (FP.i2d p0), .double (FP.i2d p1)]) (rest := []) (lenOf pd_6 rfl) rfl rfl (Nat.le_of_eq rfl) (hb hby at_158) (pc' := 161) rfl ?_
          intro T30 v30 L30 X30 hQ30
          obtain ⟨hv30, Nq30, eh30⟩ := hQ30
          rw [val] at hv30
          subst hv30
          have N30 := Fr.app N14 Nq30
          show Goes p e below _ (T30.setTop (mkF m 161 #[.val (.int p0), .val (.int p1), .val (.int p2), .val (.long p3), .second, .val (.long p4), .second, .val (.int p5), .val (.ref o1), .val (.int (1 : Int32)), .val (.int (0 : Int32)), .val (.long p1.toInt64), .second, .val (.long p0.toInt64), .second, .val (.long p2.toInt64), .second, .val (.int (1 : Int32)), .val (.int (1 : Int32))] [.int (1 : Int32)]))
          refine s_iload X30 hx (hb hby at_161) (pc' := 163) rfl rfl ?_
          refine s_icmpN X30 hx (hb hby at_163) (pc' := 166) rfl (by decide) ?_
          refine s_iconst X30 hx (1 : Int32) (hb hby at_166) (pc' := 167) rfl rfl ?_
          refine s_goto X30 hx (hb hby at_167) (by decide) (pc' := 171) (by decide) ?_
          exact s_retI X30 hx hlk hret (hb hby at_171) rfl (Or.inl ⟨rfl, by simp, _, rfl⟩) (by decide) (by decide) ⟨rfl, N30⟩
        ·
          refine s_ifY X14 hx (hb hby at_137) (iy_le (fun z => hab (own_cmpL_gt.mp z))) (by decide) (pc' := 145) (by decide) ?_
          refine s_iconst X14 hx (1 : Int32) (hb hby at_145) (pc' := 146) rfl rfl ?_
          refine s_goto X14 hx (hb hby at_146) (by decide) (pc' := 150) (by decide) ?_
          refine s_istore X14 hx #[.val (.int p0), .val (.int p1), .val (.int p2), .val (.long p3), .second, .val (.long p4), .second, .val (.int p5), .val (.ref o1), .val (.int (1 : Int32)), .val (.int (0 : Int32)), .val (.long p1.toInt64), .second, .val (.long p0.toInt64), .second, .val (.long p2.toInt64), .second, .val (.int (1 : Int32)), .val (.int (1 : Int32))] (hb hby at_150) (pc' := 152) rfl rfl ?_
          refine s_aload X14 hx (hb hby at_152) (pc' := 154) rfl rfl rfl ?_
          refine s_iloadN X14 hx (hb hby at_154) (pc' := 155) rfl rfl ?_
          refine s_i2d X14 hx (hb hby at_155) (pc' := 156) rfl ?_
          refine s_iloadN X14 hx (hb hby at_156) (pc' := 157) rfl rfl ?_
          refine s_i2d X14 hx (hb hby at_157) (pc' := 158) rfl ?_
          have fE31 := ((E11.keep K13).keep K14)
          have val : own_fits (FP.i2d p0) (FP.i2d p1) (FP.i2d p2) = 1 := by
            rw [own_fits, if_neg (fun z => hab ((own_l1 p1 p0).mpr ((own_cmp_i p1 p0 _).mp z)))]
          refine c_virtual X14 hx hZ hown (hw _ (List.mem_of_getElem? (i := 67) rfl)) (hw _ (List.mem_of_getElem? (i := 68) rfl)) (hw _ (List.mem_of_getElem? (i := 70) rfl)) (hw _ (List.mem_of_getElem? (i := 69) rfl)) (hw _ (List.mem_of_getElem? (i := 2) rfl)) (hw _ (List.mem_of_getElem? (i := 71) rfl)) (by decide) rfl fE31 (rm_10 l Z a0 hw [] o1 (FP.i2d p0) (FP.i2d p1) (FP.i2d p2) T14.heap n0 (Nat.le_trans Z0 H14) fF24) (W := 0) (by decide) (by decide) (by decide) (by decide) (by rw [hml]; rfl) (argsL := [.double (FP.i2d p0), .double (FP.i2d p1)]) (rest := []) (lenOf pd_6 rfl) rfl rfl (Nat.le_of_eq rfl) (hb hby at_158) (pc' := 161) rfl ?_
          intro T32 v32 L32 X32 hQ32
          obtain ⟨hv32, Nq32, eh32⟩ := hQ32
          rw [val] at hv32
          subst hv32
          have N32 := Fr.app N14 Nq32
          show Goes p e below _ (T32.setTop (mkF m 161 #[.val (.int p0), .val (.int p1), .val (.int p2), .val (.long p3), .second, .val (.long p4), .second, .val (.int p5), .val (.ref o1), .val (.int (1 : Int32)), .val (.int (0 : Int32)), .val (.long p1.toInt64), .second, .val (.long p0.toInt64), .second, .val (.long p2.toInt64), .second, .val (.int (1 : Int32)), .val (.int (1 : Int32))] [.int (1 : Int32)]))
          refine s_iload X32 hx (hb hby at_161) (pc' := 163) rfl rfl ?_
          refine s_icmpN X32 hx (hb hby at_163) (pc' := 166) rfl (by decide) ?_
          refine s_iconst X32 hx (1 : Int32) (hb hby at_166) (pc' := 167) rfl rfl ?_
          refine s_goto X32 hx (hb hby at_167) (by decide) (pc' := 171) (by decide) ?_
          exact s_retI X32 hx hlk hret (hb hby at_171) rfl (Or.inl ⟨rfl, by simp, _, rfl⟩) (by decide) (by decide) ⟨rfl, N32⟩
set_option maxRecDepth 65536 in
set_option maxHeartbeats 40000000 in
theorem comes_1 {Post : Tables → Env → Array Value → State → Outcome → State → Prop} (hpost : ∀ tb e args s v u, (limb_1_1.after args s (.returned v) u = true ∧ limb_1_2.after args s (.returned v) u = true ∧ True) → FrameEnd s (.returned v) u (Jvm.fieldLocs frame_1_writes args s ++ Jvm.arrayLocs frame_1_arrays args s ++ Jvm.staticLocs frame_1_statics s) 16 128 → Post tb e args s (.returned v) u) :
    ArmFor flags0 classFile x code maxLocals ret World_1 tables_1 room_1 Calls_1 rest_1 Pre_1 Post := by
  intro l hfl _ _ p e ha hc hk s m args below hf hA hF happ hP
  obtain ⟨hcalls, hrest, hpre⟩ := hP
  obtain ⟨-, -, -, hnamed, -, -, -, hat⟩ := (Spec.applies_iff hf).mp happ
  obtain ⟨hg, hn⟩ := and_e (Cond.before_iff.mp (show (Jvm.Cond.and given_1 narrow_1).before args s = true from hpre))
  obtain ⟨g0, gr0⟩ := and_e hg
  obtain ⟨g1, gr1⟩ := and_e gr0
  obtain ⟨g2, gr2⟩ := and_e gr1
  obtain ⟨g3, gr3⟩ := and_e gr2
  obtain ⟨g4, gr4⟩ := and_e gr3
  obtain ⟨g5, gr5⟩ := and_e gr4
  obtain ⟨w0, w1, w2, w3, w4, w5, rfl⟩ : ∃ w0 w1 w2 w3 w4 w5 : Value, args = #[w0, w1, w2, w3, w4, w5] := by
    have hs : args.size = 6 := by simpa [Cond.value, given_1] using g0
    obtain ⟨L⟩ := args
    match L, hs with
    | [w0, w1, w2, w3, w4, w5], _ => exact ⟨w0, w1, w2, w3, w4, w5, rfl⟩
  have hw := fun d (hd : d ∈ tables_1) => atoms_spec (ws := Jvm.Cond.code x code maxLocals ret :: tables_1) hat d (List.mem_cons_of_mem _ hd)
  have hfit : Fit s := fun {y c} hc i hi => by
    obtain ⟨ha, rfl⟩ := Array.getElem?_eq_some_iff.mp hc
    have q := List.all_eq_true.mp ((Array.all_eq_true_iff_forall_mem.mp hF) _ (Array.getElem_mem ha)) i (List.mem_range.mpr hi)
    simpa [Array.getElem?_eq_getElem hi] using q
  obtain ⟨i0, q0⟩ := is_v g1
  obtain rfl : w0 = (.int i0) := Option.some.inj q0
  obtain ⟨i1, q1⟩ := is_v g2
  obtain rfl : w1 = (.int i1) := Option.some.inj q1
  obtain ⟨i2, q2⟩ := is_v g3
  obtain rfl : w2 = (.int i2) := Option.some.inj q2
  obtain ⟨i3, q3⟩ := isL_v g4
  obtain rfl : w3 = (.long i3) := Option.some.inj q3
  obtain ⟨i4, q4⟩ := isL_v g5
  obtain rfl : w4 = (.long i4) := Option.some.inj q4
  obtain ⟨i5, q5⟩ := is_v gr5
  obtain rfl : w5 = (.int i5) := Option.some.inj q5
  obtain ⟨n, o, h1, h2, h3, _, L, rfl, ⟨rfl, N⟩, hq⟩ := rm_0 l s _ hw tables_1 i0 i1 i2 i3 i4 i5 s.heap s.heap.size (Nat.le_refl _)  p e ha hc hk s m _ below hf ((Spec.applies_iff_loose hf).mp happ).1 ⟨rfl, State.Warmed39.refl s, rfl⟩ trivial
  refine ⟨n, _, h1, h2, h3, hpost _ _ _ _ _ _ ⟨Cond.after_iff.mpr rfl, Cond.after_iff.mpr (eq_i res_at (Term.int_eval (1)) rfl), trivial⟩ ⟨hq.1, hq.2.1, (hq.2.2.sift fun y hy => Or.inr (N y hy)).mono (by decide) (by decide)⟩⟩
theorem main_1_1 : Claimed_1_1 := comes_1 fun _ _ _ _ _ _ h hF => ⟨h.1, hF⟩
theorem main_1_2 : Claimed_1_2 := comes_1 fun _ _ _ _ _ _ h hF => ⟨h.2.1, hF⟩
end Jvm.Pilot.@@N@@
namespace Jvm.Pilot.@@N@@
open Jvm Jvm.ClassFile Sem Op Lib Jvm.Free Jvm.Stand Jvm.Pilot.@@N@@.Jvm.D
/-! MADE BY PROGRAM (witnessworld.py) out of the Statement's table words and the real class files: 15 classes; the members and pool entries that the words name. The judged class is class 1, her method 1. -/
namespace start1
open Jvm.ClassFile
def u (s : String) : CpInfo := .utf8 (stringToUtf16 s)
/-- a pool by its gaps: so many unusable entries, then the entry; so many at the end -/
def gap : Nat → List CpInfo → List CpInfo
  | 0, r => r
  | n + 1, r => .unusable :: gap n r
def poolList (es : List (Nat × CpInfo)) (last : Nat) : List CpInfo := es.foldr (fun e r => gap e.1 (e.2 :: r)) (gap last [])
def pool (es : List (Nat × CpInfo)) (last : Nat) : Array CpInfo := ⟨poolList es last⟩
def fileOf (pool : Array CpInfo) (this : Nat) (attrs : Array Attribute := #[]) (ms : Array MethodInfo := #[]) (fl : Nat := 33) (sup : Nat := 0) (ifs : Array Nat := #[]) (fds : Array FieldInfo := #[]) : ClassFile where
  minorVersion := 0
  majorVersion := 65
  constantPool := pool
  accessFlags := fl
  thisClass := this
  superClass := sup
  interfaces := ifs
  fields := fds
  methods := ms
  attributes := attrs
def plain (name : String) (sup : Option ClassId) : Class where
  name := name
  kind := .ordinary
  loader := none
  accessFlags := 33
  super := sup
  interfaces := #[]
  cf := none
  fields := #[]
  methods := #[]
  instanceTypes := #[]
  staticTypes := #[]
  resolved := #[]
  callSites := []
  init := .initialized
  statics := none
  mirror := none

def pool0 : Array CpInfo := pool [(5, u "<init>"), (0, u "()V"), (1, .class_ 10), (1, u "java/lang/Object")] 113

def k0c0 : Code := { maxStack := 0, maxLocals := 1, code := object_method_1_code, exceptionTable := #[], attributes := #[] }
def k0m0 : Method := { name := "<init>", desc := "()V", sig := { parameters := [], returnType := none }, accessFlags := 1, code := some k0c0 }
/-- java/lang/Object -/
def k0 : Class := { plain "java/lang/Object" none with
  accessFlags := 33
  interfaces := #[]
  cf := some (fileOf pool0 8 #[] #[{ accessFlags := 1, nameIndex := 5, descriptorIndex := 6, attributes := #[] }] 33 0 #[] #[])
  fields := #[]
  methods := #[k0m0]
  instanceTypes := #[]
  staticTypes := #[]
  resolved := Array.replicate 124 none
  statics := none }

def pool1 : Array CpInfo := pool [(2, .class_ 4), (1, u "java/lang/Object"), (0, u "<init>"), (0, u "()V"), (0, .class_ 8), (0, u "com/example/vicinity/vicinity/routes/Overload"), (0, .methodref 7 10), (0, .nameAndType 5 11), (0, u "(DD)V"), (0, .methodref 13 14), (0, .class_ 15), (0, .nameAndType 16 17), (0, u "com/example/vicinity/vicinity/simulation/RandomStream"), (0, u "of"), (0, u "(JJ)Lcom/example/vicinity/vicinity/simulation/RandomStream;"), (0, .methodref 7 19), (0, .nameAndType 20 21), (0, u "draw"), (0, u "(Lcom/example/vicinity/vicinity/simulation/RandomStream;)V"), (0, .methodref 13 23), (0, .nameAndType 24 25), (0, u "nextDouble"), (0, u "()D"), (0, .double 4602678819172646912), (1, .long 2), (1, .long 3), (1, .methodref 7 33), (0, .nameAndType 34 35), (0, u "fits"), (0, u "(DD)Z"), (0, .class_ 37), (0, u "com/example/vicinity/vicinity/routes/OverloadFitsPinLaw"), (2, u "law"), (0, u "(IIIJJI)Z")] 3

def k1m0 : Method := { name := "<init>", desc := "()V", sig := { parameters := [], returnType := none }, accessFlags := 1, code := none }
def k1c1 : Code := { maxStack := 6, maxLocals := 19, code := code, exceptionTable := #[], attributes := #[] }
def k1m1 : Method := { name := "law", desc := "(IIIJJI)Z", sig := { parameters := [.int, .int, .int, .long, .long, .int], returnType := some .boolean }, accessFlags := 9, code := some k1c1 }
/-- com/example/vicinity/vicinity/routes/OverloadFitsPinLaw -/
def k1 : Class := { plain "com/example/vicinity/vicinity/routes/OverloadFitsPinLaw" (some 0) with
  accessFlags := 49
  interfaces := #[]
  cf := some (fileOf pool1 36 #[] #[{ accessFlags := 1, nameIndex := 5, descriptorIndex := 6, attributes := #[] }, { accessFlags := 9, nameIndex := 40, descriptorIndex := 41, attributes := #[] }] 49 2 #[] #[])
  fields := #[]
  methods := #[k1m0, k1m1]
  instanceTypes := #[]
  staticTypes := #[]
  resolved := Array.replicate 45 none
  statics := none }

def pool2 : Array CpInfo := pool [(1, .methodref 2 3), (0, .class_ 4), (0, .nameAndType 5 6), (0, u "java/lang/Object"), (0, u "<init>"), (0, u "()V"), (0, .fieldref 8 9), (0, .class_ 10), (0, .nameAndType 11 12), (0, u "com/example/vicinity/vicinity/routes/Overload"), (0, u "capacity"), (0, u "D"), (0, .fieldref 8 14), (0, .nameAndType 15 12), (0, u "price"), (0, .fieldref 8 17), (0, .nameAndType 18 12), (0, u "limit"), (6, .methodref 26 27), (0, .class_ 28), (0, .nameAndType 29 30), (0, u "com/example/vicinity/vicinity/simulation/RandomStream"), (0, u "nextDouble"), (0, u "()D"), (0, .double 4602678819172646912), (1, .double 4609434218613702656), (29, u "reached"), (0, u "I"), (2, u "within"), (10, u "RELAXED"), (1, u "LIMIT"), (0, u "ROUND"), (1, u "FEW"), (0, u "MANY"), (0, u "RAISED"), (0, u "LOWERED"), (0, u "(DD)V"), (5, u "draw"), (0, u "(Lcom/example/vicinity/vicinity/simulation/RandomStream;)V"), (0, u "fits"), (0, u "(DD)Z")] 5

def k2c0 : Code := { maxStack := 3, maxLocals := 5, code := prog_57_method_1_code, exceptionTable := #[], attributes := #[] }
def k2m0 : Method := { name := "<init>", desc := "(DD)V", sig := { parameters := [.double, .double], returnType := none }, accessFlags := 0, code := some k2c0 }
def k2c1 : Code := { maxStack := 5, maxLocals := 2, code := prog_57_method_3_code, exceptionTable := #[], attributes := #[] }
def k2m1 : Method := { name := "draw", desc := "(Lcom/example/vicinity/vicinity/simulation/RandomStream;)V", sig := { parameters := [(.object "com/example/vicinity/vicinity/simulation/RandomStream")], returnType := none }, accessFlags := 0, code := some k2c1 }
def k2c2 : Code := { maxStack := 4, maxLocals := 5, code := prog_57_method_4_code, exceptionTable := #[], attributes := #[] }
def k2m2 : Method := { name := "fits", desc := "(DD)Z", sig := { parameters := [.double, .double], returnType := some .boolean }, accessFlags := 0, code := some k2c2 }
/-- com/example/vicinity/vicinity/routes/Overload -/
def k2 : Class := { plain "com/example/vicinity/vicinity/routes/Overload" (some 0) with
  accessFlags := 48
  interfaces := #[]
  cf := some (fileOf pool2 8 #[] #[{ accessFlags := 0, nameIndex := 5, descriptorIndex := 87, attributes := #[] }, { accessFlags := 0, nameIndex := 93, descriptorIndex := 94, attributes := #[] }, { accessFlags := 0, nameIndex := 95, descriptorIndex := 96, attributes := #[] }] 48 2 #[] #[{ accessFlags := 26, nameIndex := 78, descriptorIndex := 12, attributes := #[] }, { accessFlags := 26, nameIndex := 80, descriptorIndex := 12, attributes := #[] }, { accessFlags := 26, nameIndex := 81, descriptorIndex := 64, attributes := #[] }, { accessFlags := 26, nameIndex := 83, descriptorIndex := 12, attributes := #[] }, { accessFlags := 26, nameIndex := 84, descriptorIndex := 12, attributes := #[] }, { accessFlags := 26, nameIndex := 85, descriptorIndex := 12, attributes := #[] }, { accessFlags := 26, nameIndex := 86, descriptorIndex := 12, attributes := #[] }, { accessFlags := 18, nameIndex := 11, descriptorIndex := 12, attributes := #[] }, { accessFlags := 2, nameIndex := 15, descriptorIndex := 12, attributes := #[] }, { accessFlags := 2, nameIndex := 18, descriptorIndex := 12, attributes := #[] }, { accessFlags := 2, nameIndex := 63, descriptorIndex := 64, attributes := #[] }, { accessFlags := 2, nameIndex := 67, descriptorIndex := 64, attributes := #[] }])
  fields := #[{ name := "RELAXED", type := .double, accessFlags := 26, slot := 0, constantValue := 0 }, { name := "LIMIT", type := .double, accessFlags := 26, slot := 1, constantValue := 0 }, { name := "ROUND", type := .int, accessFlags := 26, slot := 2, constantValue := 0 }, { name := "FEW", type := .double, accessFlags := 26, slot := 3, constantValue := 0 }, { name := "MANY", type := .double, accessFlags := 26, slot := 4, constantValue := 0 }, { name := "RAISED", type := .double, accessFlags := 26, slot := 5, constantValue := 0 }, { name := "LOWERED", type := .double, accessFlags := 26, slot := 6, constantValue := 0 }, { name := "capacity", type := .double, accessFlags := 18, slot := 0, constantValue := 0 }, { name := "price", type := .double, accessFlags := 2, slot := 1, constantValue := 0 }, { name := "limit", type := .double, accessFlags := 2, slot := 2, constantValue := 0 }, { name := "reached", type := .int, accessFlags := 2, slot := 3, constantValue := 0 }, { name := "within", type := .int, accessFlags := 2, slot := 4, constantValue := 0 }]
  methods := #[k2m0, k2m1, k2m2]
  instanceTypes := #[.double, .double, .double, .int, .int]
  staticTypes := #[.double, .double, .int, .double, .double, .double, .double]
  resolved := Array.replicate 102 none
  statics := none }

def pool3 : Array CpInfo := pool [(1, .methodref 2 3), (0, .class_ 4), (0, .nameAndType 5 6), (0, u "java/lang/Object"), (0, u "<init>"), (0, u "()V"), (0, .class_ 8), (0, u "com/example/vicinity/vicinity/simulation/RandomStream"), (0, .long 11400714819323198485), (1, .methodref 7 12), (0, .nameAndType 13 14), (0, u "mix"), (0, u "(J)J"), (0, .fieldref 7 16), (0, .nameAndType 17 18), (0, u "s0"), (0, u "J"), (0, .long 4354685564936845354), (1, .fieldref 7 22), (0, .nameAndType 23 18), (0, u "s1"), (0, .long 15755400384260043839), (1, .fieldref 7 27), (0, .nameAndType 28 18), (0, u "s2"), (0, .long 8709371129873690708), (1, .fieldref 7 32), (0, .nameAndType 33 18), (0, u "s3"), (0, .methodref 7 35), (0, .nameAndType 5 36), (0, u "(J)V"), (0, .long 5), (1, .methodref 40 41), (0, .class_ 42), (0, .nameAndType 43 44), (0, u "java/lang/Long"), (0, u "rotateLeft"), (0, u "(JI)J"), (0, .long 9), (12, .methodref 7 59), (0, .nameAndType 60 61), (0, u "nextLong"), (0, u "()J"), (2, .double 4368491638549381120), (3, u "hasSpareNormal"), (0, u "Z"), (2, u "spareNormal"), (0, u "D"), (4, u "nextDouble"), (0, u "()D"), (17, .long 13787848793156543929), (1, .long 10723151780598845931), (1, u "GOLDEN_GAMMA"), (1, u "UNIT"), (2, u "of"), (0, u "(JJ)Lcom/example/vicinity/vicinity/simulation/RandomStream;")] 21

def k3c0 : Code := { maxStack := 5, maxLocals := 3, code := prog_66_method_1_code, exceptionTable := #[], attributes := #[] }
def k3m0 : Method := { name := "<init>", desc := "(J)V", sig := { parameters := [.long], returnType := none }, accessFlags := 2, code := some k3c0 }
def k3c1 : Code := { maxStack := 6, maxLocals := 4, code := prog_66_method_2_code, exceptionTable := #[], attributes := #[] }
def k3m1 : Method := { name := "of", desc := "(JJ)Lcom/example/vicinity/vicinity/simulation/RandomStream;", sig := { parameters := [.long, .long], returnType := some (.object "com/example/vicinity/vicinity/simulation/RandomStream") }, accessFlags := 9, code := some k3c1 }
def k3c2 : Code := { maxStack := 5, maxLocals := 5, code := prog_66_method_3_code, exceptionTable := #[], attributes := #[] }
def k3m2 : Method := { name := "nextLong", desc := "()J", sig := { parameters := [], returnType := some .long }, accessFlags := 1, code := some k3c2 }
def k3c3 : Code := { maxStack := 4, maxLocals := 1, code := prog_66_method_5_code, exceptionTable := #[], attributes := #[] }
def k3m3 : Method := { name := "nextDouble", desc := "()D", sig := { parameters := [], returnType := some .double }, accessFlags := 1, code := some k3c3 }
def k3c4 : Code := { maxStack := 5, maxLocals := 4, code := prog_66_method_7_code, exceptionTable := #[], attributes := #[] }
def k3m4 : Method := { name := "mix", desc := "(J)J", sig := { parameters := [.long], returnType := some .long }, accessFlags := 10, code := some k3c4 }
/-- com/example/vicinity/vicinity/simulation/RandomStream -/
def k3 : Class := { plain "com/example/vicinity/vicinity/simulation/RandomStream" (some 0) with
  accessFlags := 49
  interfaces := #[]
  cf := some (fileOf pool3 7 #[] #[{ accessFlags := 2, nameIndex := 5, descriptorIndex := 36, attributes := #[] }, { accessFlags := 9, nameIndex := 106, descriptorIndex := 107, attributes := #[] }, { accessFlags := 1, nameIndex := 60, descriptorIndex := 61, attributes := #[] }, { accessFlags := 1, nameIndex := 78, descriptorIndex := 79, attributes := #[] }, { accessFlags := 10, nameIndex := 13, descriptorIndex := 14, attributes := #[] }] 49 2 #[] #[{ accessFlags := 26, nameIndex := 101, descriptorIndex := 18, attributes := #[] }, { accessFlags := 26, nameIndex := 103, descriptorIndex := 73, attributes := #[] }, { accessFlags := 2, nameIndex := 17, descriptorIndex := 18, attributes := #[] }, { accessFlags := 2, nameIndex := 23, descriptorIndex := 18, attributes := #[] }, { accessFlags := 2, nameIndex := 28, descriptorIndex := 18, attributes := #[] }, { accessFlags := 2, nameIndex := 33, descriptorIndex := 18, attributes := #[] }, { accessFlags := 2, nameIndex := 72, descriptorIndex := 73, attributes := #[] }, { accessFlags := 2, nameIndex := 68, descriptorIndex := 69, attributes := #[] }])
  fields := #[{ name := "GOLDEN_GAMMA", type := .long, accessFlags := 26, slot := 0, constantValue := 0 }, { name := "UNIT", type := .double, accessFlags := 26, slot := 1, constantValue := 0 }, { name := "s0", type := .long, accessFlags := 2, slot := 0, constantValue := 0 }, { name := "s1", type := .long, accessFlags := 2, slot := 1, constantValue := 0 }, { name := "s2", type := .long, accessFlags := 2, slot := 2, constantValue := 0 }, { name := "s3", type := .long, accessFlags := 2, slot := 3, constantValue := 0 }, { name := "spareNormal", type := .double, accessFlags := 2, slot := 4, constantValue := 0 }, { name := "hasSpareNormal", type := .boolean, accessFlags := 2, slot := 5, constantValue := 0 }]
  methods := #[k3m0, k3m1, k3m2, k3m3, k3m4]
  instanceTypes := #[.long, .long, .long, .long, .double, .boolean]
  staticTypes := #[.long, .double]
  resolved := Array.replicate 129 none
  statics := none }

def pool4 : Array CpInfo := pool [(1, .class_ 2), (0, u "java/io/Serializable"), (0, .class_ 4), (0, u "java/lang/Object")] 2

/-- java/io/Serializable -/
def k4 : Class := { plain "java/io/Serializable" (some 0) with
  accessFlags := 1537
  interfaces := #[]
  cf := some (fileOf pool4 1 #[] #[] 1537 3 #[] #[])
  fields := #[]
  methods := #[]
  instanceTypes := #[]
  staticTypes := #[]
  resolved := Array.replicate 7 none
  statics := none }

def pool5 : Array CpInfo := pool [(2, .class_ 4), (1, u "java/lang/Object"), (0, u "<init>"), (0, u "()V"), (1, .class_ 10), (1, u "java/lang/Number"), (2, .class_ 14), (0, u "java/io/Serializable"), (0, u "serialVersionUID"), (0, u "J")] 20

def k5m0 : Method := { name := "<init>", desc := "()V", sig := { parameters := [], returnType := none }, accessFlags := 1, code := none }
/-- java/lang/Number -/
def k5 : Class := { plain "java/lang/Number" (some 0) with
  accessFlags := 1057
  interfaces := #[4]
  cf := some (fileOf pool5 8 #[] #[{ accessFlags := 1, nameIndex := 5, descriptorIndex := 6, attributes := #[] }] 1057 2 #[13] #[{ accessFlags := 26, nameIndex := 15, descriptorIndex := 16, attributes := #[] }])
  fields := #[{ name := "serialVersionUID", type := .long, accessFlags := 26, slot := 0, constantValue := 0 }]
  methods := #[k5m0]
  instanceTypes := #[]
  staticTypes := #[.long]
  resolved := Array.replicate 37 none
  statics := none }

def pool6 : Array CpInfo := pool [(1, .class_ 2), (0, u "java/lang/Comparable"), (0, .class_ 4), (0, u "java/lang/Object")] 7

/-- java/lang/Comparable -/
def k6 : Class := { plain "java/lang/Comparable" (some 0) with
  accessFlags := 1537
  interfaces := #[]
  cf := some (fileOf pool6 1 #[] #[] 1537 3 #[] #[])
  fields := #[]
  methods := #[]
  instanceTypes := #[]
  staticTypes := #[]
  resolved := Array.replicate 12 none
  statics := none }

def pool7 : Array CpInfo := pool [(1, .class_ 2), (0, u "java/lang/constant/Constable"), (0, .class_ 4), (0, u "java/lang/Object")] 6

/-- java/lang/constant/Constable -/
def k7 : Class := { plain "java/lang/constant/Constable" (some 0) with
  accessFlags := 1537
  interfaces := #[]
  cf := some (fileOf pool7 1 #[] #[] 1537 3 #[] #[])
  fields := #[]
  methods := #[]
  instanceTypes := #[]
  staticTypes := #[]
  resolved := Array.replicate 11 none
  statics := none }

def pool8 : Array CpInfo := pool [(1, .class_ 2), (0, u "java/lang/constant/ConstantDesc"), (0, .class_ 4), (0, u "java/lang/Object")] 32

/-- java/lang/constant/ConstantDesc -/
def k8 : Class := { plain "java/lang/constant/ConstantDesc" (some 0) with
  accessFlags := 1537
  interfaces := #[]
  cf := some (fileOf pool8 1 #[] #[] 1537 3 #[] #[])
  fields := #[]
  methods := #[]
  instanceTypes := #[]
  staticTypes := #[]
  resolved := Array.replicate 37 none
  statics := none }

def pool9 : Array CpInfo := pool [(1, .class_ 2), (0, u "java/lang/Long"), (232, .class_ 237), (1, u "java/lang/Long$LongCache"), (33, .class_ 272), (0, u "java/lang/Number"), (2, u "value"), (0, u "J"), (84, u "TYPE"), (0, u "Ljava/lang/Class;"), (0, .class_ 364), (0, u "java/lang/Comparable"), (0, .class_ 366), (0, u "java/lang/constant/Constable"), (0, .class_ 368), (0, u "java/lang/constant/ConstantDesc"), (0, u "MIN_VALUE"), (1, u "MAX_VALUE"), (4, u "SIZE"), (0, u "I"), (1, u "BYTES"), (1, u "serialVersionUID"), (95, u "rotateLeft"), (0, u "(JI)J")] 45

def k9c0 : Code := { maxStack := 5, maxLocals := 3, code := jdk_35_method_51_code, exceptionTable := #[], attributes := #[] }
def k9m0 : Method := { name := "rotateLeft", desc := "(JI)J", sig := { parameters := [.long, .int], returnType := some .long }, accessFlags := 9, code := some k9c0 }
/-- java/lang/Long -/
def k9 : Class := { plain "java/lang/Long" (some 5) with
  accessFlags := 49
  interfaces := #[6, 7, 8]
  cf := some (fileOf pool9 1 #[.nestMembers #[235]] #[{ accessFlags := 9, nameIndex := 477, descriptorIndex := 478, attributes := #[] }] 49 271 #[363, 365, 367] #[{ accessFlags := 25, nameIndex := 369, descriptorIndex := 276, attributes := #[] }, { accessFlags := 25, nameIndex := 371, descriptorIndex := 276, attributes := #[] }, { accessFlags := 25, nameIndex := 361, descriptorIndex := 362, attributes := #[] }, { accessFlags := 18, nameIndex := 275, descriptorIndex := 276, attributes := #[] }, { accessFlags := 25, nameIndex := 376, descriptorIndex := 377, attributes := #[] }, { accessFlags := 25, nameIndex := 379, descriptorIndex := 377, attributes := #[] }, { accessFlags := 26, nameIndex := 381, descriptorIndex := 276, attributes := #[] }])
  fields := #[{ name := "MIN_VALUE", type := .long, accessFlags := 25, slot := 0, constantValue := 0 }, { name := "MAX_VALUE", type := .long, accessFlags := 25, slot := 1, constantValue := 0 }, { name := "TYPE", type := (.object "java/lang/Class"), accessFlags := 25, slot := 2, constantValue := 0 }, { name := "value", type := .long, accessFlags := 18, slot := 0, constantValue := 0 }, { name := "SIZE", type := .int, accessFlags := 25, slot := 3, constantValue := 0 }, { name := "BYTES", type := .int, accessFlags := 25, slot := 4, constantValue := 0 }, { name := "serialVersionUID", type := .long, accessFlags := 26, slot := 5, constantValue := 0 }]
  methods := #[k9m0]
  instanceTypes := #[.long]
  staticTypes := #[.long, .long, (.object "java/lang/Class"), .int, .int, .long]
  resolved := Array.replicate 524 none
  statics := none }

def pool10 : Array CpInfo := pool [(1, u "java/lang/Cloneable"), (0, .class_ 1), (0, u "java/lang/Object"), (0, .class_ 3)] 3

/-- java/lang/Cloneable -/
def k10 : Class := { plain "java/lang/Cloneable" (some 0) with
  accessFlags := 1537
  interfaces := #[]
  cf := some (fileOf pool10 2 #[] #[] 1537 4 #[] #[])
  fields := #[]
  methods := #[]
  instanceTypes := #[]
  staticTypes := #[]
  resolved := Array.replicate 8 none
  statics := none }

/-- the primitive byte -/
def k11 : Class := { plain "byte" none with kind := .primitive 'B', accessFlags := 0x411 }
/-- [B -/
def k12 : Class := { plain "[B" (some 0) with kind := .array 11 .byte, interfaces := #[10, 4], accessFlags := 1041 }

/-- the primitive int -/
def k13 : Class := { plain "int" none with kind := .primitive 'I', accessFlags := 0x411 }
/-- [I -/
def k14 : Class := { plain "[I" (some 0) with kind := .array 13 .int, interfaces := #[10, 4], accessFlags := 1041 }

def heap : Heap := #[]
def classes : Array Class := #[k0, k1, k2, k3, k4, k5, k6, k7, k8, k9, k10, k11, k12, k13, k14]
def interned : List (Array UInt16 × Addr) := []
def slotsUsed : Nat := 0
def theMethod : MethodId := ⟨1, 1⟩
def args0 : Array Value := #[.int 5, .int 6, .int 7, .long 8, .long 9, .int 1]
def aboutOver (below : List Frame) : State where
  vm := { classes := classes, interned := interned.toArray }
  heap := heap
  slotsUsed := slotsUsed
  threads := #[{ frames := .invoking theMethod args0 :: below }]
def below0 : List Frame := [.native { method := ⟨0, 0⟩, args := #[] }]
def about1 : State := aboutOver below0
def p0 : Program := .bare "" "" ""
def e0 : Env := launch0.env 0 0 0
theorem w_frames : about1.frames = Frame.invoking theMethod args0 :: below0 := rfl
set_option maxRecDepth 65536 in
theorem w_args : argsFit about1.vm theMethod args0 = true := by decide +kernel
set_option maxRecDepth 65536 in
theorem w_heap : heapFits about1 = true := by decide +kernel
set_option maxRecDepth 65536 in
theorem w_runnable : about1.curStatus? = some .runnable := by decide +kernel
set_option maxRecDepth 65536 in
theorem w_alone : about1.alone = true := by decide +kernel
set_option maxRecDepth 65536 in
theorem w_named : about1.methodNamed? x = some theMethod := by decide +kernel
set_option maxRecDepth 65536 in
theorem w_hears : about1.hears theMethod below0 = true := by decide +kernel
set_option maxRecDepth 65536 in
theorem w_ripe : about1.ripe theMethod args0 below0 = true := by decide +kernel
theorem w_running : about1.status = .running := rfl
set_option maxRecDepth 65536 in
theorem w_room : about1.hasRoom e0.platform room_1 = true :=
  launch0.hasRoom_least _ room_1 (by decide +kernel) (by decide +kernel) (by decide +kernel) (by decide +kernel) (by decide +kernel) (by decide +kernel)
theorem allAtoms_all (ts : List Jvm.Cond) (a : Array Jvm.Value) (st : Jvm.State) : (allAtoms ts).before a st = ts.all (fun c => c.before a st) := by
  induction ts with
  | nil => rfl
  | cons c t ih =>
    show (Jvm.Cond.and c (allAtoms t)).before a st = _
    rw [Jvm.Cond.before_and, ih, List.all_cons]
def words1 : List Jvm.Cond := Jvm.Cond.code x code maxLocals ret :: tables_1
/-- a 'code' word, met by the world's own term for the bytes: nothing is compared byte by byte -/
theorem code_word {y : MethodName} {bytes : ByteArray} {mx : Nat} {rt : Option FieldType} {a : Array Value} {s : State} {m : MethodId} {meth : Method} {c : Code} (h1 : s.methodNamed? y = some m) (h2 : s.vm.method? m = some meth) (h3 : meth.code = some c) (h4 : c.code = bytes)
    (h5 : (c.maxLocals == mx && c.exceptionTable.isEmpty && decide (c.maxStack ≤ mostOperands) && decide (meth.sig.returnType = rt) && !meth.locks && decide (parseMethodDescriptor y.desc = some meth.sig)) = true) : (Jvm.Cond.code y bytes mx rt).before a s = true := by
  simp only [Bool.and_eq_true, beq_iff_eq, Bool.not_eq_true', decide_eq_true_eq] at h5
  obtain ⟨⟨⟨⟨⟨g1, g2⟩, g3⟩, g4⟩, g5⟩, g6⟩ := h5
  simp [Cond.before, Cond.holds, Cond.value, h1, h2, h3, h4, g1, g2, g3, g4, g5, g6]
def isCode : Jvm.Cond → Bool
  | .code _ _ _ _ => true
  | _ => false
theorem all_split {L : List Jvm.Cond} {P : Jvm.Cond → Bool} (h1 : L.all (fun c => isCode c || P c) = true) (h2 : ∀ c ∈ L.filter isCode, P c = true) : L.all P = true := by
  refine List.all_eq_true.mpr fun c hc => ?_
  have h := List.all_eq_true.mp h1 c hc
  rcases Bool.eq_false_or_eq_true (isCode c) with hi | hi
  · exact h2 c (List.mem_filter.mpr ⟨hc, hi⟩)
  · simpa [hi] using h
set_option maxRecDepth 65536 in
theorem w_c0 : (Jvm.Cond.code x code maxLocals ret).before args0 about1 = true := code_word (m := ⟨1, 1⟩) (meth := k1m1) (c := k1c1) (by decide +kernel) rfl rfl rfl (by decide +kernel)
set_option maxRecDepth 65536 in
theorem w_c1 : (Jvm.Cond.code ({ cls := "com/example/vicinity/vicinity/routes/Overload", name := "<init>", desc := "(DD)V" } : Jvm.MethodName) prog_57_method_1_code (5 : Nat) (Option.none : Option Jvm.ClassFile.FieldType)).before args0 about1 = true := code_word (m := ⟨2, 0⟩) (meth := k2m0) (c := k2c0) (by decide +kernel) rfl rfl rfl (by decide +kernel)
set_option maxRecDepth 65536 in
theorem w_c2 : (Jvm.Cond.code ({ cls := "java/lang/Object", name := "<init>", desc := "()V" } : Jvm.MethodName) object_method_1_code (1 : Nat) (Option.none : Option Jvm.ClassFile.FieldType)).before args0 about1 = true := code_word (m := ⟨0, 0⟩) (meth := k0m0) (c := k0c0) (by decide +kernel) rfl rfl rfl (by decide +kernel)
set_option maxRecDepth 65536 in
theorem w_c3 : (Jvm.Cond.code ({ cls := "com/example/vicinity/vicinity/simulation/RandomStream", name := "of", desc := "(JJ)Lcom/example/vicinity/vicinity/simulation/RandomStream;" } : Jvm.MethodName) prog_66_method_2_code (4 : Nat) (Option.some (Jvm.ClassFile.FieldType.object "com/example/vicinity/vicinity/simulation/RandomStream"))).before args0 about1 = true := code_word (m := ⟨3, 1⟩) (meth := k3m1) (c := k3c1) (by decide +kernel) rfl rfl rfl (by decide +kernel)
set_option maxRecDepth 65536 in
theorem w_c4 : (Jvm.Cond.code ({ cls := "com/example/vicinity/vicinity/simulation/RandomStream", name := "mix", desc := "(J)J" } : Jvm.MethodName) prog_66_method_7_code (4 : Nat) (Option.some Jvm.ClassFile.FieldType.long)).before args0 about1 = true := code_word (m := ⟨3, 4⟩) (meth := k3m4) (c := k3c4) (by decide +kernel) rfl rfl rfl (by decide +kernel)
set_option maxRecDepth 65536 in
theorem w_c5 : (Jvm.Cond.code ({ cls := "com/example/vicinity/vicinity/simulation/RandomStream", name := "<init>", desc := "(J)V" } : Jvm.MethodName) prog_66_method_1_code (3 : Nat) (Option.none : Option Jvm.ClassFile.FieldType)).before args0 about1 = true := code_word (m := ⟨3, 0⟩) (meth := k3m0) (c := k3c0) (by decide +kernel) rfl rfl rfl (by decide +kernel)
set_option maxRecDepth 65536 in
theorem w_c6 : (Jvm.Cond.code ({ cls := "com/example/vicinity/vicinity/routes/Overload", name := "draw", desc := "(Lcom/example/vicinity/vicinity/simulation/RandomStream;)V" } : Jvm.MethodName) prog_57_method_3_code (2 : Nat) (Option.none : Option Jvm.ClassFile.FieldType)).before args0 about1 = true := code_word (m := ⟨2, 1⟩) (meth := k2m1) (c := k2c1) (by decide +kernel) rfl rfl rfl (by decide +kernel)
set_option maxRecDepth 65536 in
theorem w_c7 : (Jvm.Cond.code ({ cls := "com/example/vicinity/vicinity/simulation/RandomStream", name := "nextDouble", desc := "()D" } : Jvm.MethodName) prog_66_method_5_code (1 : Nat) (Option.some Jvm.ClassFile.FieldType.double)).before args0 about1 = true := code_word (m := ⟨3, 3⟩) (meth := k3m3) (c := k3c3) (by decide +kernel) rfl rfl rfl (by decide +kernel)
set_option maxRecDepth 65536 in
theorem w_c8 : (Jvm.Cond.code ({ cls := "com/example/vicinity/vicinity/simulation/RandomStream", name := "nextLong", desc := "()J" } : Jvm.MethodName) prog_66_method_3_code (5 : Nat) (Option.some Jvm.ClassFile.FieldType.long)).before args0 about1 = true := code_word (m := ⟨3, 2⟩) (meth := k3m2) (c := k3c2) (by decide +kernel) rfl rfl rfl (by decide +kernel)
set_option maxRecDepth 65536 in
theorem w_c9 : (Jvm.Cond.code ({ cls := "java/lang/Long", name := "rotateLeft", desc := "(JI)J" } : Jvm.MethodName) jdk_35_method_51_code (3 : Nat) (Option.some Jvm.ClassFile.FieldType.long)).before args0 about1 = true := code_word (m := ⟨9, 0⟩) (meth := k9m0) (c := k9c0) (by decide +kernel) rfl rfl rfl (by decide +kernel)
set_option maxRecDepth 65536 in
theorem w_c10 : (Jvm.Cond.code ({ cls := "com/example/vicinity/vicinity/routes/Overload", name := "fits", desc := "(DD)Z" } : Jvm.MethodName) prog_57_method_4_code (5 : Nat) (Option.some Jvm.ClassFile.FieldType.boolean)).before args0 about1 = true := code_word (m := ⟨2, 2⟩) (meth := k2m2) (c := k2c2) (by decide +kernel) rfl rfl rfl (by decide +kernel)
def codes1 : List Jvm.Cond := [Jvm.Cond.code x code maxLocals ret, Jvm.Cond.code ({ cls := "com/example/vicinity/vicinity/routes/Overload", name := "<init>", desc := "(DD)V" } : Jvm.MethodName) prog_57_method_1_code (5 : Nat) (Option.none : Option Jvm.ClassFile.FieldType), Jvm.Cond.code ({ cls := "java/lang/Object", name := "<init>", desc := "()V" } : Jvm.MethodName) object_method_1_code (1 : Nat) (Option.none : Option Jvm.ClassFile.FieldType), Jvm.Cond.code ({ cls := "com/example/vicinity/vicinity/simulation/RandomStream", name := "of", desc := "(JJ)Lcom/example/vicinity/vicinity/simulation/RandomStream;" } : Jvm.MethodName) prog_66_method_2_code (4 : Nat) (Option.some (Jvm.ClassFile.FieldType.object "com/example/vicinity/vicinity/simulation/RandomStream")), Jvm.Cond.code ({ cls := "com/example/vicinity/vicinity/simulation/RandomStream", name := "mix", desc := "(J)J" } : Jvm.MethodName) prog_66_method_7_code (4 : Nat) (Option.some Jvm.ClassFile.FieldType.long), Jvm.Cond.code ({ cls := "com/example/vicinity/vicinity/simulation/RandomStream", name := "<init>", desc := "(J)V" } : Jvm.MethodName) prog_66_method_1_code (3 : Nat) (Option.none : Option Jvm.ClassFile.FieldType), Jvm.Cond.code ({ cls := "com/example/vicinity/vicinity/routes/Overload", name := "draw", desc := "(Lcom/example/vicinity/vicinity/simulation/RandomStream;)V" } : Jvm.MethodName) prog_57_method_3_code (2 : Nat) (Option.none : Option Jvm.ClassFile.FieldType), Jvm.Cond.code ({ cls := "com/example/vicinity/vicinity/simulation/RandomStream", name := "nextDouble", desc := "()D" } : Jvm.MethodName) prog_66_method_5_code (1 : Nat) (Option.some Jvm.ClassFile.FieldType.double), Jvm.Cond.code ({ cls := "com/example/vicinity/vicinity/simulation/RandomStream", name := "nextLong", desc := "()J" } : Jvm.MethodName) prog_66_method_3_code (5 : Nat) (Option.some Jvm.ClassFile.FieldType.long), Jvm.Cond.code ({ cls := "java/lang/Long", name := "rotateLeft", desc := "(JI)J" } : Jvm.MethodName) jdk_35_method_51_code (3 : Nat) (Option.some Jvm.ClassFile.FieldType.long), Jvm.Cond.code ({ cls := "com/example/vicinity/vicinity/routes/Overload", name := "fits", desc := "(DD)Z" } : Jvm.MethodName) prog_57_method_4_code (5 : Nat) (Option.some Jvm.ClassFile.FieldType.boolean)]
set_option maxRecDepth 65536 in
theorem codes_eq : words1.filter isCode = codes1 := rfl
theorem w_codes : ∀ c ∈ words1.filter isCode, c.before args0 about1 = true := by
  rw [codes_eq]
  intro c hc
  simp only [codes1, List.mem_cons, List.not_mem_nil, or_false] at hc
  rcases hc with rfl | rfl | rfl | rfl | rfl | rfl | rfl | rfl | rfl | rfl | rfl
  · exact w_c0
  · exact w_c1
  · exact w_c2
  · exact w_c3
  · exact w_c4
  · exact w_c5
  · exact w_c6
  · exact w_c7
  · exact w_c8
  · exact w_c9
  · exact w_c10
set_option maxRecDepth 65536 in
theorem w_t1 : (words1.take 24).all (fun c => isCode c || c.before args0 about1) = true := by decide +kernel
set_option maxRecDepth 65536 in
theorem w_t2 : ((words1.drop 24).take 24).all (fun c => isCode c || c.before args0 about1) = true := by decide +kernel
set_option maxRecDepth 65536 in
theorem w_t3 : (((words1.drop 24).drop 24).take 24).all (fun c => isCode c || c.before args0 about1) = true := by decide +kernel
set_option maxRecDepth 65536 in
theorem w_t4 : (((words1.drop 24).drop 24).drop 24).all (fun c => isCode c || c.before args0 about1) = true := by decide +kernel
theorem w_tables : (allAtoms (Jvm.Cond.code x code maxLocals ret :: tables_1)).before args0 about1 = true := by
  rw [allAtoms_all]
  show words1.all (fun c => c.before args0 about1) = true
  refine all_split ?_ w_codes
  rw [← List.take_append_drop 24 words1, List.all_append, w_t1, ← List.take_append_drop 24 (words1.drop 24), List.all_append, w_t2, ← List.take_append_drop 24 ((words1.drop 24).drop 24), List.all_append, w_t3, w_t4]
  rfl
set_option maxRecDepth 65536 in
theorem w_case : (Jvm.Cond.and given_1 narrow_1).before args0 about1 = true := by decide +kernel
theorem w_applies : (headSpec (Jvm.Cond.code x code maxLocals ret :: tables_1) room_1).applies x e0.platform about1 = true :=
  (Spec.applies_iff w_frames).mpr ⟨w_running, w_runnable, w_alone, w_named, w_hears, w_ripe, w_room, w_tables⟩
theorem atStart : AtStart classFile x code maxLocals ret World_1 tables_1 room_1 Calls_1 rest_1 Pre_1 launch0 p0 e0 about1 theMethod args0 below0 :=
  ⟨lists_1, trivial, launch0.admits_env _ _ _, launch0.least_env, fairChoices_fair.cas, fairChoices_fair.clock, w_frames, w_args, w_heap, w_applies, trivial, trivial, w_case⟩
end start1
theorem witness_1 : WitnessClaimed_1 := ⟨start1.p0, start1.e0, start1.about1, start1.theMethod, start1.args0, start1.below0, start1.atStart⟩
end Jvm.Pilot.@@N@@
