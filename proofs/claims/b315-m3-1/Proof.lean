import JvmDerived
import JvmDerived.Pilot.@@N@@Statement
import JvmDerived.Pilot.@@N@@Code
set_option linter.unusedVariables false
set_option linter.unusedSimpArgs false
namespace Jvm.Pilot.@@N@@
open Jvm Jvm.ClassFile Sem Op Lib Jvm.Free Jvm.Stand Jvm.LawKit Jvm.RoadKit Bundle Jvm.Pilot.@@N@@.Jvm.D Jvm.Free.Fl
section Own
variable {p : Program} {l : Launch} {e : Env} {R : Room} {s : State} {m : MethodId} {args : Array Value} {below : List Frame} {meth : Method} {c : Code} {T : State} {locs : List Loc} {cells slots : Nat} {Z : State} {a0 : Array Value} {h : Heap} {G : Outcome → State → Prop}
/-- from S the body comes to its end, and the end is as asked -/
def Goes (p : Program) (e : Env) (below : List Frame) (G : Outcome → State → Prop) (S : State) : Prop :=
  ∃ s₂ o, Steps p.tables e below S s₂ ∧ s₂.status = .running ∧ Ended s₂ below o ∧ G o s₂
theorem own_go {S S' : State} (st : ∀ t, Steps p.tables e below S' t → Steps p.tables e below S t) (k : Goes p e below G S') : Goes p e below G S := by
  obtain ⟨s₂, o, h1, h2⟩ := k
  exact ⟨s₂, o, st _ h1, h2⟩
/-- what a contract says of the end -/
def EndsAs (Q : Option Value → Heap → List Loc → Prop) (s : State) (rc rs : Nat) (o : Outcome) (U : State) : Prop :=
  ∃ v L, o = .returned v ∧ Q v U.heap L ∧ FrameEnd s o U L rc rs
abbrev OwnMet (l : Launch) (Z : State) (y : MethodName) (bytes : ByteArray) (maxL : Nat) (ret : Option FieldType) (ws : List Jvm.Cond) (rm : Room) (as' : Array Value) (h : Heap) (Q : Option Value → Heap → List Loc → Prop) : Prop :=
  MetFree l y (head1 (Jvm.Cond.code y bytes maxL ret :: ws) rm) (fun a U => a = as' ∧ Z.Warmed39 U.vm ∧ U.heap = h) (fun _ _ _ _ _ => True) (fun _ U o U' => ∃ v L, o = .returned v ∧ Q v U'.heap L ∧ FrameEnd U o U' L rm.cells rm.slots)
theorem own_met {y : MethodName} {bytes : ByteArray} {maxL : Nat} {ret : Option FieldType} {ws : List Jvm.Cond} {rm : Room} {as' : Array Value} {h : Heap} {Q : Option Value → Heap → List Loc → Prop} {Ls : Array Slot}
    (hpn : plainFor y = true) (hef : ∀ m, entryFrame m as' maxL = mkF m 0 Ls [])
    (body : ∀ (p : Program) (e : Env) (s : State) (m : MethodId) (below : List Frame) (meth : Method) (c : Code) (s₁ : State), p.tables.exec = Jvm.exec → c.code = bytes → c.maxLocals = maxL → Z.Warmed39 s.vm → s.vm.findClass y.cls = some m.cls → meth.name = y.name → meth.sig.returnType = ret → meth.locks = false →
      Stand p l e rm s m as' below meth c s₁ [] 0 0 → s₁.heap = h → Goes p e below (EndsAs Q s rm.cells rm.slots) (s₁.setTop (mkF m 0 Ls []))) :
    OwnMet l Z y bytes maxL ret ws rm as' h Q := by
  refine MetFree.of_bodySF hpn hisR ?_
  intro p e s m args below meth c s₁ Bd hml0 hP hK
  obtain ⟨rfl, hZ, hh⟩ := hP
  obtain ⟨s₂, o, h1, h2, h3, h4⟩ := body p e s m below meth c s₁ Bd.exec Bd.bytes hml0 hZ (findClass_of_methodNamed Bd.named) (name_of_methodNamed Bd.named Bd.method).1 Bd.returns Bd.notSynchronized (Stand.of_body Bd) (by rw [← hh, Bd.state]; rfl)
  exact ⟨s₂, o, castTop (hef m) h1, h2, h3, h4⟩
theorem s_retI (X : Stand p l e R s m args below meth c T locs cells slots) (hx : p.tables.exec = Jvm.exec) (hlk : meth.locks = false) {Q : Option Value → Heap → List Loc → Prop} {pc rc rs : Nat} {Ls : Array Slot} {st : List Value} {t : FieldType} {w : Value} {i : Instr} (hret : meth.sig.returnType = some t)
    (hd : decode c.code pc = .ok (i, 1)) (hn : narrow t w = w) (hi : (i = .ireturn ∧ (t = .int ∨ t = .boolean ∨ t = .byte ∨ t = .char ∨ t = .short) ∧ ∃ z, w = .int z) ∨ (i = .lreturn ∧ t = .long ∧ ∃ z, w = .long z) ∨ (i = .dreturn ∧ t = .double ∧ ∃ z, w = .double z) ∨ (i = .freturn ∧ t = .float ∧ ∃ z, w = .float z) ∨ (i = .areturn ∧ t.isReference = true ∧ w.isRef = true))
    (hc : cells ≤ rc) (hs : slots ≤ rs) (hq : Q (some w) T.heap locs) : Goes p e below (EndsAs Q s rc rs) (T.setTop (mkF m pc Ls (w :: st))) := by
  obtain ⟨fs, hr, hrun, hended, hW, hsame⟩ := X.leave (v := some w) (fun h => by rw [hret] at h; cases h) hlk
  exact ⟨_, _, retOut X hx hret hn hi hd hr, hrun, hended, _, _, rfl, hq, ⟨_, rfl⟩, hW, hsame.mono hc hs⟩
theorem s_ret (X : Stand p l e R s m args below meth c T locs cells slots) (hx : p.tables.exec = Jvm.exec) (hlk : meth.locks = false) {Q : Option Value → Heap → List Loc → Prop} {pc rc rs : Nat} {Ls : Array Slot} (hret : meth.sig.returnType = none)
    (hd : decode c.code pc = .ok (.return_, 1)) (hc : cells ≤ rc) (hs : slots ≤ rs) (hq : Q none T.heap locs) : Goes p e below (EndsAs Q s rc rs) (T.setTop (mkF m pc Ls [])) := by
  obtain ⟨fs, hr, hrun, hended, hW, hsame⟩ := X.leave (v := none) (fun _ => rfl) hlk
  exact ⟨_, _, X.returnOut hx hret hd hr, hrun, hended, _, _, rfl, hq, ⟨_, rfl⟩, hW, hsame.mono hc hs⟩
theorem c_static (X : Stand p l e R s m args below meth c T locs cells slots) (hx : p.tables.exec = Jvm.exec) (hZ : Z.Warmed39 s.vm) {own : String} {index : Nat} {y : MethodName} (hown : s.vm.findClass own = some m.cls)
    {bytes : ByteArray} {maxL : Nat} {ret : Option FieldType} (w1 : (Jvm.Cond.methodLink own index y).before a0 Z = true) (w2 : (Jvm.Cond.static y).before a0 Z = true) (w3 : (Jvm.Cond.initialized y.cls).before a0 Z = true) (w4 : (Jvm.Cond.code y bytes maxL ret).before a0 Z = true) (hy : y.cls ≠ "java/lang/invoke/MethodHandle" ∧ y.cls ≠ "java/lang/invoke/VarHandle")
    {rm : Room} {as' : Array Value} {Q : Option Value → Heap → List Loc → Prop} (eT : T.heap = h) (hM : OwnMet l Z y bytes maxL ret [] rm as' h Q) {W : Nat} (hf : rm.frames + 1 ≤ R.frames) (hl : W + (maxL + 11) + rm.locals ≤ R.locals) (hc : cells + rm.cells ≤ R.cells) (hs : slots + rm.slots ≤ R.slots)
    {pc pc' : Nat} {Ls : Array Slot} {st : List Value} (hsize : Ls.size = c.maxLocals) {argsL rest : List Value} (hlen : ∀ sig, parseMethodDescriptor y.desc = some sig → argsL.length = sig.parameters.length) (has : argsL.toArray = as') (hst : st = argsL.reverse ++ rest) (hW : (rest.map fun v => v.category).sum ≤ W)
    (hd : decode c.code pc = .ok (.invokestatic index, 3)) (hp : pc + 3 = pc')
    (k : ∀ (T' : State) (v : Option Value) (L : List Loc), Stand p l e R s m args below meth c T' (locs ++ L) (cells + rm.cells) (slots + rm.slots) → Q v T'.heap L → Goes p e below G (T'.setTop (mkF m pc' Ls (v.toList ++ rest)))) :
    Goes p e below G (T.setTop (mkF m pc Ls st)) := by
  subst hp
  obtain ⟨v, _, ⟨T', L', k', n'⟩, -, X', ⟨Lc, hQ, l1, y1, z1⟩, stp⟩ := Jvm.LawKit.callS X hx (y := y) hown (mvT hZ w1) (mvT hZ w2) (mvT hZ w3) (mvT hZ w4) hy (backOf (W := W) hM hZ w4 w3 hf hl) (g := mkF m pc Ls st) rfl hsize (argsL := argsL) (rest := rest) hlen hst (by show 2 * 0 + _ ≤ _; omega) hd (fun _ _ => ⟨has, eT, hc, hs⟩)
  dsimp only [Pt.U, Pt.locs, Pt.cells, Pt.slots] at X' l1 y1 z1 stp hQ
  subst l1 y1 z1
  exact own_go stp (k T' v Lc X' hQ)
theorem c_special (X : Stand p l e R s m args below meth c T locs cells slots) (hx : p.tables.exec = Jvm.exec) (hZ : Z.Warmed39 s.vm) {own : String} {index : Nat} {y : MethodName} (hy1 : y.name = "<init>") (hown : s.vm.findClass own = some m.cls)
    {bytes : ByteArray} {maxL : Nat} (w1 : (Jvm.Cond.methodLink own index y).before a0 Z = true) (w2 : (Jvm.Cond.instanceMethod y).before a0 Z = true) (w3 : (Jvm.Cond.initialized y.cls).before a0 Z = true) (w4 : (Jvm.Cond.code y bytes maxL none).before a0 Z = true) (hy : y.cls ≠ "java/lang/invoke/MethodHandle" ∧ y.cls ≠ "java/lang/invoke/VarHandle")
    {rm : Room} {as' : Array Value} {Q : Option Value → Heap → List Loc → Prop} (eT : T.heap = h) (hM : OwnMet l Z y bytes maxL none [] rm as' h Q) {W : Nat} (hf : rm.frames + 1 ≤ R.frames) (hl : W + (maxL + 11) + rm.locals ≤ R.locals) (hc : cells + rm.cells ≤ R.cells) (hs : slots + rm.slots ≤ R.slots)
    {pc pc' : Nat} {Ls : Array Slot} {st : List Value} (hsize : Ls.size = c.maxLocals) {a : Addr} {argsL rest : List Value} (hlen : ∀ sig, parseMethodDescriptor y.desc = some sig → argsL.length = sig.parameters.length) (has : (.ref a :: argsL).toArray = as') (hst : st = argsL.reverse ++ .ref a :: rest) (hW : (rest.map fun v => v.category).sum ≤ W)
    (hd : decode c.code pc = .ok (.invokespecial index, 3)) (hp : pc + 3 = pc')
    (k : ∀ (T' : State) (v : Option Value) (L : List Loc), Stand p l e R s m args below meth c T' (locs ++ L) (cells + rm.cells) (slots + rm.slots) → Q v T'.heap L → Goes p e below G (T'.setTop (mkF m pc' Ls (v.toList ++ rest)))) :
    Goes p e below G (T.setTop (mkF m pc Ls st)) := by
  subst hp
  obtain ⟨v, _, ⟨T', L', k', n'⟩, -, X', ⟨Lc, hQ, l1, y1, z1⟩, stp⟩ := X.specialBack hx (y := y) hy1 hown (mvT hZ w1) (mvT hZ w2) (mvT hZ w4) hy (backOf (W := W) hM hZ w4 w3 hf hl) (g := mkF m pc Ls st) rfl hsize (Steps.refl _) (a := a) (argsL := argsL) (rest := rest) hlen hst (by show 2 * 0 + _ ≤ _; omega) hd (fun _ _ => ⟨has, eT, hc, hs⟩)
  dsimp only [Pt.U, Pt.locs, Pt.cells, Pt.slots] at X' l1 y1 z1 stp hQ
  subst l1 y1 z1
  exact own_go (fun _ q => stp.trans q) (k T' v Lc X' hQ)
theorem c_virtual (X : Stand p l e R s m args below meth c T locs cells slots) (hx : p.tables.exec = Jvm.exec) (hZ : Z.Warmed39 s.vm) {own C : String} {index : Nat} {y : MethodName} (hown : s.vm.findClass own = some m.cls)
    {bytes : ByteArray} {maxL : Nat} {ret : Option FieldType} (w1 : (Jvm.Cond.methodLink own index y).before a0 Z = true) (w2 : (Jvm.Cond.declares y).before a0 Z = true) (w5 : (Jvm.Cond.selects C y y).before a0 Z = true) (w6 : (Jvm.Cond.instanceMethod y).before a0 Z = true) (w3 : (Jvm.Cond.initialized y.cls).before a0 Z = true) (w4 : (Jvm.Cond.code y bytes maxL ret).before a0 Z = true) (hy : y.cls ≠ "java/lang/invoke/MethodHandle" ∧ y.cls ≠ "java/lang/invoke/VarHandle")
    {rm : Room} {as' : Array Value} {Q : Option Value → Heap → List Loc → Prop} (eT : T.heap = h) {a : Addr} (E : Exa Z h a C) (hM : OwnMet l Z y bytes maxL ret [] rm as' h Q) {W : Nat} (hf : rm.frames + 1 ≤ R.frames) (hl : W + (maxL + 11) + rm.locals ≤ R.locals) (hc : cells + rm.cells ≤ R.cells) (hs : slots + rm.slots ≤ R.slots)
    {pc pc' : Nat} {Ls : Array Slot} {st : List Value} (hsize : Ls.size = c.maxLocals) {argsL rest : List Value} (hlen : ∀ sig, parseMethodDescriptor y.desc = some sig → argsL.length = sig.parameters.length) (has : (.ref a :: argsL).toArray = as') (hst : st = argsL.reverse ++ .ref a :: rest) (hW : (rest.map fun v => v.category).sum ≤ W)
    (hd : decode c.code pc = .ok (.invokevirtual index, 3)) (hp : pc + 3 = pc')
    (k : ∀ (T' : State) (v : Option Value) (L : List Loc), Stand p l e R s m args below meth c T' (locs ++ L) (cells + rm.cells) (slots + rm.slots) → Q v T'.heap L → Goes p e below G (T'.setTop (mkF m pc' Ls (v.toList ++ rest)))) :
    Goes p e below G (T.setTop (mkF m pc Ls st)) := by
  subst hp
  obtain ⟨cq, kq, qa, qb, qc⟩ := isOf hZ eT E
  obtain ⟨v, _, ⟨T', L', k', n'⟩, -, X', ⟨Lc, hQ, l1, y1, z1⟩, stp⟩ := X.virtualBack hx (y := y) (z := y) hown (mvT hZ w1) (mvT hZ w2) (notFace_of_selects (args := #[]) (mvT hZ w5)) (mvT hZ w5) (mvT hZ w6) hy (backOf (W := W) hM hZ w4 w3 hf hl) qa qc (g := mkF m pc Ls st) rfl hsize (Steps.refl _) (argsL := argsL) (rest := rest) hlen hst (by show 2 * 0 + _ ≤ _; omega) hd (fun _ _ => ⟨has, eT, hc, hs⟩)
  dsimp only [Pt.U, Pt.locs, Pt.cells, Pt.slots] at X' l1 y1 z1 stp hQ
  subst l1 y1 z1
  exact own_go (fun _ q => stp.trans q) (k T' v Lc X' hQ)
theorem s_new (X : Stand p l e R s m args below meth c T locs cells slots) (hx : p.tables.exec = Jvm.exec) (hZ : Z.Warmed39 s.vm) {own C : String} {index n : Nat} (hown : s.vm.findClass own = some m.cls) (w : (Jvm.Cond.classLink own index C).before a0 Z = true) (wi : (Jvm.Cond.instantiable C n).before a0 Z = true) (wz : (Jvm.Cond.initialized C).before a0 Z = true) (eT : T.heap = h)
    {pc pc' : Nat} {Ls : Array Slot} {st : List Value} (hd : decode c.code pc = .ok (.new index, 3)) (hp : pc + 3 = pc') (hc : cells + 1 ≤ R.cells) (hl : slots + n ≤ R.slots)
    (k : ∀ (T' : State) (h' : Heap) (a : Addr), Stand p l e R s m args below meth c T' locs (cells + 1) (slots + n) → T'.heap = h' → Ext h h' → a = h.size → Exa Z h' a C → (∀ {O nm d : String} {ty : FieldType}, Laid Z a0 C O nm d → parseFieldDescriptor d = some ty → Fld Z h' a O nm d (defaultValue ty)) → Goes p e below G (T'.setTop (mkF m pc' Ls (.ref a :: st)))) :
    Goes p e below G (T.setTop (mkF m pc Ls st)) := by
  subst hp
  obtain ⟨T', h', X', e', E, A, D, -, stp⟩ := newO X hx hZ hown w wi wz eT (g := mkF m pc Ls st) rfl hd hc hl
  exact own_go stp (k T' h' _ X' e' E rfl A D)
theorem s_initO (X : Stand p l e R s m args below meth c T locs cells slots) (hx : p.tables.exec = Jvm.exec) (hZ : Z.Warmed39 s.vm) {own : String} {index : Nat} (hown : s.vm.findClass own = some m.cls) (w1 : (Jvm.Cond.methodLink own index Lib.objectInit).before a0 Z = true) (w2 : (Jvm.Cond.instanceMethod Lib.objectInit).before a0 Z = true)
    (w3 : (Jvm.Cond.code Lib.objectInit ⟨#[0xb1]⟩ 1 none).before a0 Z = true) (eT : T.heap = h) {pc pc' : Nat} {Ls : Array Slot} {st : List Value} {a : Addr} (hd : decode c.code pc = .ok (.invokespecial index, 3)) (hp : pc + 3 = pc') (hsize : Ls.size = c.maxLocals)
    (hf : 1 ≤ R.frames) {W : Nat} (hW : (st.map fun v => v.category).sum ≤ W) (hl : W + 12 ≤ R.locals)
    (k : ∀ T' : State, Stand p l e R s m args below meth c T' locs cells slots → T'.heap = h → Goes p e below G (T'.setTop (mkF m pc' Ls st))) :
    Goes p e below G (T.setTop (mkF m pc Ls (.ref a :: st))) := by
  subst hp
  obtain ⟨T', X', e', stp⟩ := initO X hx hZ hown w1 w2 w3 eT (g := mkF m pc Ls (.ref a :: st)) rfl hsize rfl hd hf (W := W) (by show 2 * 0 + _ ≤ _; omega) hl
  exact own_go stp (k T' X' e')
theorem s_getF (X : Stand p l e R s m args below meth c T locs cells slots) (hx : p.tables.exec = Jvm.exec) (hZ : Z.Warmed39 s.vm) {own O n d : String} {index : Nat} (hown : s.vm.findClass own = some m.cls) (w : (Jvm.Cond.fieldLink own index O n d).before a0 Z = true)
    (eT : T.heap = h) {a : Addr} {v : Value} (F : Fld Z h a O n d v) {pc pc' : Nat} {Ls : Array Slot} {st : List Value} (hd : decode c.code pc = .ok (.getfield index, 3)) (hp : pc + 3 = pc')
    (k : ∀ T' : State, Stand p l e R s m args below meth c T' locs cells slots → T'.heap = h → Goes p e below G (T'.setTop (mkF m pc' Ls (v :: st)))) :
    Goes p e below G (T.setTop (mkF m pc Ls (.ref a :: st))) := by
  subst hp
  obtain ⟨T', X', e', stp⟩ := getF X hx hZ hown (host := "") (Or.inl w) Via.refl eT F (g := mkF m pc Ls (.ref a :: st)) rfl rfl hd
  exact own_go stp (k T' X' e')
theorem s_getS (X : Stand p l e R s m args below meth c T locs cells slots) (hx : p.tables.exec = Jvm.exec) (hZ : Z.Warmed39 s.vm) {own O n d : String} {index : Nat} (hown : s.vm.findClass own = some m.cls) (w : (Jvm.Cond.fieldLink own index O n d).before a0 Z = true)
    (eT : T.heap = h) {v : Value} (F : Sta Z h O n d v) {pc pc' : Nat} {Ls : Array Slot} {st : List Value} (hd : decode c.code pc = .ok (.getstatic index, 3)) (hp : pc + 3 = pc')
    (k : ∀ T' : State, Stand p l e R s m args below meth c T' locs cells slots → T'.heap = h → Goes p e below G (T'.setTop (mkF m pc' Ls (v :: st)))) :
    Goes p e below G (T.setTop (mkF m pc Ls st)) := by
  subst hp
  obtain ⟨T', X', e', stp⟩ := getS X hx hZ hown (host := "") w Via.refl eT F (g := mkF m pc Ls st) rfl hd
  exact own_go stp (k T' X' e')
theorem s_instY (X : Stand p l e R s m args below meth c T locs cells slots) (hx : p.tables.exec = Jvm.exec) (hZ : Z.Warmed39 s.vm) {own K : String} {index : Nat} (hown : s.vm.findClass own = some m.cls) (w : (Jvm.Cond.classLink own index K).before a0 Z = true)
    (eT : T.heap = h) {a : Addr} (F : Ins Z h a K true) {pc pc' : Nat} {Ls : Array Slot} {st : List Value} (hd : decode c.code pc = .ok (.instanceof index, 3)) (hp : pc + 3 = pc')
    (k : ∀ T' : State, Stand p l e R s m args below meth c T' locs cells slots → T'.heap = h → Goes p e below G (T'.setTop (mkF m pc' Ls (.int 1 :: st)))) :
    Goes p e below G (T.setTop (mkF m pc Ls (.ref a :: st))) := by
  subst hp
  obtain ⟨T', X', e', stp⟩ := instY X hx hZ hown w eT F (g := mkF m pc Ls (.ref a :: st)) rfl rfl hd
  exact own_go stp (k T' X' e')
theorem s_castY (X : Stand p l e R s m args below meth c T locs cells slots) (hx : p.tables.exec = Jvm.exec) (hZ : Z.Warmed39 s.vm) {own K : String} {index : Nat} (hown : s.vm.findClass own = some m.cls) (w : (Jvm.Cond.classLink own index K).before a0 Z = true)
    (eT : T.heap = h) {a : Addr} (F : Ins Z h a K true) {pc pc' : Nat} {Ls : Array Slot} {st : List Value} (hd : decode c.code pc = .ok (.checkcast index, 3)) (hp : pc + 3 = pc')
    (k : ∀ T' : State, Stand p l e R s m args below meth c T' locs cells slots → T'.heap = h → Goes p e below G (T'.setTop (mkF m pc' Ls (.ref a :: st)))) :
    Goes p e below G (T.setTop (mkF m pc Ls (.ref a :: st))) := by
  subst hp
  obtain ⟨T', X', e', stp⟩ := castY X hx hZ hown w eT F (g := mkF m pc Ls (.ref a :: st)) rfl rfl hd
  exact own_go stp (k T' X' e')
theorem s_putF (X : Stand p l e R s m args below meth c T locs cells slots) (hx : p.tables.exec = Jvm.exec) (hZ : Z.Warmed39 s.vm) {own O n d C : String} {index kk : Nat} {ty : FieldType} (hown : s.vm.findClass own = some m.cls) (w : (Jvm.Cond.fieldLink own index O n d).before a0 Z = true)
    (eT : T.heap = h) {a : Addr} {v old : Value} (F : Fld Z h a O n d old) (E : Exa Z h a C) (L : (Jvm.Cond.lays C O n d).before a0 Z = true ∨ ((Jvm.Cond.laysFinal C O n d).before a0 Z = true ∧ own = O ∧ meth.name = "<init>")) (wi : (Jvm.Cond.instantiable C kk).before a0 Z = true)
    (hty : parseFieldDescriptor d = some ty) (hn : narrow ty v = v) (hf : fits ty v = true) {pc pc' : Nat} {Ls : Array Slot} {st : List Value} (hd : decode c.code pc = .ok (.putfield index, 3)) (hp : pc + 3 = pc')
    (k : ∀ (T' : State) (h' : Heap), Stand p l e R s m args below meth c T' (locs ++ [⟨a, Jvm.RoadKit.slotOf Z O n d⟩]) cells slots → T'.heap = h' → Wr h h' a (Jvm.RoadKit.slotOf Z O n d) v → Goes p e below G (T'.setTop (mkF m pc' Ls st))) :
    Goes p e below G (T.setTop (mkF m pc Ls (v :: .ref a :: st))) := by
  subst hp
  obtain ⟨T', h', X', e', W, stp⟩ := putF X hx hZ hown (host := "") (Or.inl w) Via.refl eT F E L wi hty hn hf (g := mkF m pc Ls (v :: .ref a :: st)) rfl rfl hd
  exact own_go stp (k T' h' X' e' W)
theorem s_newP (X : Stand p l e R s m args below meth c T locs cells slots) (hx : p.tables.exec = Jvm.exec) (hZ : Z.Warmed39 s.vm) {aty : ArrayType} (w : (Jvm.Cond.arrayClass (newarray.typeOf aty)).before a0 Z = true) (eT : T.heap = h)
    {pc pc' : Nat} {Ls : Array Slot} {st : List Value} {n : Int32} (hd : decode c.code pc = .ok (.newarray aty, 2)) (hp : pc + 2 = pc') (hn : ¬ n < 0) (cap : Nat) (hcap : n.toNatClampNeg ≤ cap) (hb : cap * 8 ≤ 536870912) (hc : cells + 1 ≤ R.cells) (hl : slots + cap ≤ R.slots)
    {ad : String} (had : "[" ++ (newarray.typeOf aty).toString = ad)
    (k : ∀ (T' : State) (h' : Heap) (cA : ClassId) (a : Addr), Stand p l e R s m args below meth c T' locs (cells + 1) (slots + cap) → T'.heap = h' → Ext h h' → a = h.size → Arv Z h' a cA (newarray.typeOf aty) n [] (defaultValue (newarray.typeOf aty)) → Exa Z h' a ad → Goes p e below G (T'.setTop (mkF m pc' Ls (.ref a :: st)))) :
    Goes p e below G (T.setTop (mkF m pc Ls (.int n :: st))) := by
  subst hp
  obtain ⟨T', h', cA, X', e', E, A, Ex, stp⟩ := newPE X hx hZ w eT (g := mkF m pc Ls (.int n :: st)) rfl hd rfl hn hcap hb hc hl had
  exact own_go stp (k T' h' cA _ X' e' E rfl (Arv.new A hn) Ex)
theorem s_len (X : Stand p l e R s m args below meth c T locs cells slots) (hx : p.tables.exec = Jvm.exec) (hZ : Z.Warmed39 s.vm) (eT : T.heap = h) {a : Addr} {kk : ClassId} {ty : FieldType} {z : Int32} {vs : List Value} {dv : Value} (F : Arv Z h a kk ty z vs dv)
    {pc pc' : Nat} {Ls : Array Slot} {st : List Value} (hd : decode c.code pc = .ok (.arraylength, 1)) (hp : pc + 1 = pc')
    (k : Goes p e below G (T.setTop (mkF m pc' Ls (.int z :: st)))) : Goes p e below G (T.setTop (mkF m pc Ls (.ref a :: st))) := by
  subst hp
  obtain ⟨cl, A, q1, S, q3, H, K⟩ := F
  refine own_go (fun t q => X.arraylength hx (by rw [eT]; exact A.1) (State.isArrayOf_alike hZ.alike A.2.1) (g := mkF m pc Ls (.ref a :: st)) rfl rfl hd t ?_) k
  rw [len_of S q3]; exact q
theorem own_fitD {v : Value} (h : fits .double v = true) : ∃ x, v = .double x := fit_D h
theorem s_daload (X : Stand p l e R s m args below meth c T locs cells slots) (hx : p.tables.exec = Jvm.exec) (hZ : Z.Warmed39 s.vm) (eT : T.heap = h) {a : Addr} {kk : ClassId} {z j : Int32} {vs : List Value} {dv : Value} (F : Arv Z h a kk .double z vs dv) (hj : ¬ j < 0 ∧ j < z) {v : Value} (hv : vs.getD j.toNatClampNeg dv = v)
    {pc pc' : Nat} {Ls : Array Slot} {st : List Value} (hd : decode c.code pc = .ok (.daload, 1)) (hp : pc + 1 = pc')
    (k : Goes p e below G (T.setTop (mkF m pc' Ls (v :: st)))) : Goes p e below G (T.setTop (mkF m pc Ls (.int j :: .ref a :: st))) := by
  subst hp
  obtain ⟨cl, A, q1, S, q3, H, K⟩ := F
  exact own_go (fun t q => X.daload hx (by rw [eT]; exact A.1) (State.isArrayOf_alike hZ.alike A.2.1) A.2.2 (inb_of S hj) (H.at (inb_of S hj) hv) (g := mkF m pc Ls (.int j :: .ref a :: st)) rfl rfl hd t q) k
theorem s_laload (X : Stand p l e R s m args below meth c T locs cells slots) (hx : p.tables.exec = Jvm.exec) (hZ : Z.Warmed39 s.vm) (eT : T.heap = h) {a : Addr} {kk : ClassId} {z j : Int32} {vs : List Value} {dv : Value} (F : Arv Z h a kk .long z vs dv) (hj : ¬ j < 0 ∧ j < z) {v : Value} (hv : vs.getD j.toNatClampNeg dv = v)
    {pc pc' : Nat} {Ls : Array Slot} {st : List Value} (hd : decode c.code pc = .ok (.laload, 1)) (hp : pc + 1 = pc')
    (k : Goes p e below G (T.setTop (mkF m pc' Ls (v :: st)))) : Goes p e below G (T.setTop (mkF m pc Ls (.int j :: .ref a :: st))) := by
  subst hp
  obtain ⟨cl, A, q1, S, q3, H, K⟩ := F
  exact own_go (fun t q => X.laload hx (by rw [eT]; exact A.1) (State.isArrayOf_alike hZ.alike A.2.1) A.2.2 (inb_of S hj) (H.at (inb_of S hj) hv) (g := mkF m pc Ls (.int j :: .ref a :: st)) rfl rfl hd t q) k
theorem s_iaload (X : Stand p l e R s m args below meth c T locs cells slots) (hx : p.tables.exec = Jvm.exec) (hZ : Z.Warmed39 s.vm) (eT : T.heap = h) {a : Addr} {kk : ClassId} {z j : Int32} {vs : List Value} {dv : Value} (F : Arv Z h a kk .int z vs dv) (hj : ¬ j < 0 ∧ j < z) {v : Value} (hv : vs.getD j.toNatClampNeg dv = v)
    {pc pc' : Nat} {Ls : Array Slot} {st : List Value} (hd : decode c.code pc = .ok (.iaload, 1)) (hp : pc + 1 = pc')
    (k : Goes p e below G (T.setTop (mkF m pc' Ls (v :: st)))) : Goes p e below G (T.setTop (mkF m pc Ls (.int j :: .ref a :: st))) := by
  subst hp
  obtain ⟨cl, A, q1, S, q3, H, K⟩ := F
  exact own_go (fun t q => X.iaload hx (by rw [eT]; exact A.1) (State.isArrayOf_alike hZ.alike A.2.1) A.2.2 (inb_of S hj) (H.at (inb_of S hj) hv) (g := mkF m pc Ls (.int j :: .ref a :: st)) rfl rfl hd t q) k
theorem s_aaload (X : Stand p l e R s m args below meth c T locs cells slots) (hx : p.tables.exec = Jvm.exec) (hZ : Z.Warmed39 s.vm) (eT : T.heap = h) {a : Addr} {kk : ClassId} {ty : FieldType} {z j : Int32} {vs : List Value} {dv : Value} (F : Arv Z h a kk ty z vs dv) (hty : ty.isReference = true) (hj : ¬ j < 0 ∧ j < z) {v : Value} (hv : vs.getD j.toNatClampNeg dv = v)
    {pc pc' : Nat} {Ls : Array Slot} {st : List Value} (hd : decode c.code pc = .ok (.aaload, 1)) (hp : pc + 1 = pc')
    (k : Goes p e below G (T.setTop (mkF m pc' Ls (v :: st)))) : Goes p e below G (T.setTop (mkF m pc Ls (.int j :: .ref a :: st))) := by
  subst hp
  obtain ⟨cl, A, q1, S, q3, H, K⟩ := F
  exact own_go (fun t q => X.aaload hx (by rw [eT]; exact A.1) (State.isArrayOf_alike hZ.alike A.2.1) hty A.2.2 (inb_of S hj) (H.at (inb_of S hj) hv) (g := mkF m pc Ls (.int j :: .ref a :: st)) rfl rfl hd t q) k
theorem s_dastore (X : Stand p l e R s m args below meth c T locs cells slots) (hx : p.tables.exec = Jvm.exec) (hZ : Z.Warmed39 s.vm) (eT : T.heap = h) {a : Addr} {kk : ClassId} {z j : Int32} {vs : List Value} {dv : Value} (F : Arv Z h a kk .double z vs dv) (hj : ¬ j < 0 ∧ j < z) (i : Nat) (hi : j.toNatClampNeg = i) (hl : i < vs.length) {x : UInt64}
    {pc pc' : Nat} {Ls : Array Slot} {st : List Value} (hd : decode c.code pc = .ok (.dastore, 1)) (hp : pc + 1 = pc')
    (k : ∀ (T' : State) (h' : Heap), Stand p l e R s m args below meth c T' (locs ++ [⟨a, j.toNatClampNeg⟩]) cells slots → T'.heap = h' → Wr h h' a j.toNatClampNeg (.double x) → Arv Z h' a kk .double z (vs.set i (.double x)) dv → Goes p e below G (T'.setTop (mkF m pc' Ls st))) :
    Goes p e below G (T.setTop (mkF m pc Ls (.double x :: .int j :: .ref a :: st))) := by
  subst hp
  obtain ⟨cl, A, q1, S, q3, H, K⟩ := F
  obtain ⟨T', h', X', e', W, stp⟩ := stD X hx hZ eT A (inb_of S hj) (g := mkF m pc Ls (.double x :: .int j :: .ref a :: st)) rfl rfl hd
  exact own_go stp (k T' h' X' e' W (Arv.set A q1 S q3 H K rfl W i hi hl))
theorem s_lastore (X : Stand p l e R s m args below meth c T locs cells slots) (hx : p.tables.exec = Jvm.exec) (hZ : Z.Warmed39 s.vm) (eT : T.heap = h) {a : Addr} {kk : ClassId} {z j : Int32} {vs : List Value} {dv : Value} (F : Arv Z h a kk .long z vs dv) (hj : ¬ j < 0 ∧ j < z) (i : Nat) (hi : j.toNatClampNeg = i) (hl : i < vs.length) {x : Int64}
    {pc pc' : Nat} {Ls : Array Slot} {st : List Value} (hd : decode c.code pc = .ok (.lastore, 1)) (hp : pc + 1 = pc')
    (k : ∀ (T' : State) (h' : Heap), Stand p l e R s m args below meth c T' (locs ++ [⟨a, j.toNatClampNeg⟩]) cells slots → T'.heap = h' → Wr h h' a j.toNatClampNeg (.long x) → Arv Z h' a kk .long z (vs.set i (.long x)) dv → Goes p e below G (T'.setTop (mkF m pc' Ls st))) :
    Goes p e below G (T.setTop (mkF m pc Ls (.long x :: .int j :: .ref a :: st))) := by
  subst hp
  obtain ⟨cl, A, q1, S, q3, H, K⟩ := F
  obtain ⟨T', h', X', e', W, stp⟩ := stJ X hx hZ eT A (inb_of S hj) (g := mkF m pc Ls (.long x :: .int j :: .ref a :: st)) rfl rfl hd
  exact own_go stp (k T' h' X' e' W (Arv.set A q1 S q3 H K rfl W i hi hl))
def EndsAsW (Q : Option Value → Heap → List Loc → Prop) (s : State) (rc rs : Nat) (o : Outcome) (U : State) : Prop :=
  ∃ v L, o = .returned v ∧ Q v U.heap L ∧ ReturnedEndW s o U L rc rs
abbrev OwnMetW (l : Launch) (Z : State) (y : MethodName) (bytes : ByteArray) (maxL : Nat) (ret : Option FieldType) (ws : List Jvm.Cond) (rm : Room) (as' : Array Value) (h : Heap) (Q : Option Value → Heap → List Loc → Prop) : Prop :=
  MetFree l y (head1 (Jvm.Cond.code y bytes maxL ret :: ws) rm) (fun a U => a = as' ∧ Z.Warmed39 U.vm ∧ U.heap = h) (fun _ _ _ _ _ => True) (fun _ U o U' => ∃ v L, o = .returned v ∧ Q v U'.heap L ∧ ReturnedEndW U o U' L rm.cells rm.slots)
theorem own_metW {y : MethodName} {bytes : ByteArray} {maxL : Nat} {ret : Option FieldType} {ws : List Jvm.Cond} {rm : Room} {as' : Array Value} {h : Heap} {Q : Option Value → Heap → List Loc → Prop} {Ls : Array Slot}
    (hpn : plainFor y = true) (hef : ∀ m, entryFrame m as' maxL = mkF m 0 Ls [])
    (body : ∀ (p : Program) (e : Env) (s : State) (m : MethodId) (below : List Frame) (meth : Method) (c : Code) (s₁ : State), p.tables.exec = Jvm.exec → c.code = bytes → c.maxLocals = maxL → Z.Warmed39 s.vm → s.vm.findClass y.cls = some m.cls → meth.name = y.name → meth.sig.returnType = ret → meth.locks = false →
      Stand p l e rm (s.setVm s.vm) m as' below meth c s₁ [] 0 0 → s₁.heap = h → s.Since s.vm 0 → 0 ≤ h.size → Goes p e below (EndsAsW Q s rm.cells rm.slots) (s₁.setTop (mkF m 0 Ls []))) :
    OwnMetW l Z y bytes maxL ret ws rm as' h Q := by
  refine MetFree.of_bodySF hpn hisR ?_
  intro p e s m args below meth c s₁ Bd hml0 hP hK
  obtain ⟨rfl, hZ, hh⟩ := hP
  obtain ⟨s₂, o, h1, h2, h3, h4⟩ := body p e s m below meth c s₁ Bd.exec Bd.bytes hml0 hZ (findClass_of_methodNamed Bd.named) (name_of_methodNamed Bd.named Bd.method).1 Bd.returns Bd.notSynchronized (Stand.of_body Bd) (by rw [← hh, Bd.state]; rfl) ((State.WarmedH.refl s).since 0) (Nat.zero_le _)
  exact ⟨s₂, o, castTop (hef m) h1, h2, h3, h4⟩
theorem s_retIW {vm0 : Vm} (X : Stand p l e R (s.setVm vm0) m args below meth c T locs cells slots) (hx : p.tables.exec = Jvm.exec) (hlk : meth.locks = false) {n : Nat} (hS : s.Since vm0 n) (hk : n ≤ T.heap.size) {Q : Option Value → Heap → List Loc → Prop} {pc rc rs : Nat} {Ls : Array Slot} {st : List Value} {t : FieldType} {w : Value} {i : Instr} (hret : meth.sig.returnType = some t)
    (hd : decode c.code pc = .ok (i, 1)) (hn : narrow t w = w) (hi : (i = .ireturn ∧ (t = .int ∨ t = .boolean ∨ t = .byte ∨ t = .char ∨ t = .short) ∧ ∃ z, w = .int z) ∨ (i = .lreturn ∧ t = .long ∧ ∃ z, w = .long z) ∨ (i = .dreturn ∧ t = .double ∧ ∃ z, w = .double z) ∨ (i = .freturn ∧ t = .float ∧ ∃ z, w = .float z) ∨ (i = .areturn ∧ t.isReference = true ∧ w.isRef = true))
    (hc : cells ≤ rc) (hs : slots ≤ rs) (hq : Q (some w) T.heap locs) : Goes p e below (EndsAsW Q s rc rs) (T.setTop (mkF m pc Ls (w :: st))) := by
  obtain ⟨fs, hr, hrun, hended, hE⟩ := X.leaveW hS hk (v := some w) (fun h => by rw [hret] at h; cases h) hlk
  exact ⟨_, _, retOut X hx hret hn hi hd hr, hrun, hended, _, _, rfl, hq, hE.1, hE.2.1, hE.2.2.1, hE.2.2.2.mono hc hs⟩
theorem s_retW {vm0 : Vm} (X : Stand p l e R (s.setVm vm0) m args below meth c T locs cells slots) (hx : p.tables.exec = Jvm.exec) (hlk : meth.locks = false) {n : Nat} (hS : s.Since vm0 n) (hk : n ≤ T.heap.size) {Q : Option Value → Heap → List Loc → Prop} {pc rc rs : Nat} {Ls : Array Slot} (hret : meth.sig.returnType = none)
    (hd : decode c.code pc = .ok (.return_, 1)) (hc : cells ≤ rc) (hs : slots ≤ rs) (hq : Q none T.heap locs) : Goes p e below (EndsAsW Q s rc rs) (T.setTop (mkF m pc Ls [])) := by
  obtain ⟨fs, hr, hrun, hended, hE⟩ := X.leaveW hS hk (v := none) (fun _ => rfl) hlk
  exact ⟨_, _, X.returnOut hx hret hd hr, hrun, hended, _, _, rfl, hq, hE.1, hE.2.1, hE.2.2.1, hE.2.2.2.mono hc hs⟩
theorem s_ldcS {vm0 : Vm} (X : Stand p l e R (s.setVm vm0) m args below meth c T locs cells slots) (hx : p.tables.exec = Jvm.exec) (hZ : Z.Warmed39 vm0) {own text : String} {index : Nat} (hown : vm0.findClass own = some m.cls) (w : (Jvm.Cond.stringLink own index text).before a0 Z = true) (wS : ∀ a ∈ Bundle.stringAtoms, a.before a0 Z = true)
    (eT : T.heap = h) {k0 : Nat} (hS : s.Since vm0 k0) (hk : k0 ≤ h.size) {pc pc' : Nat} {Ls : Array Slot} {st : List Value} (hd : decode c.code pc = .ok (.ldc index, 2)) (hp : pc + 2 = pc') (n : Nat) (hn : 4 * text.toList.length ≤ n) (hbig : n ≤ 536870912) (hc : cells + 2 ≤ R.cells) (hl : slots + (n + 4) ≤ R.slots)
    (k : ∀ (a : Addr) (T' : State) (h' : Heap) (k1 : Nat), Stand p l e R (s.setVm T'.vm) m args below meth c T' locs (cells + 2) (slots + (n + 4)) → T'.heap = h' → Ext h h' → s.Since T'.vm k1 → k1 ≤ h'.size → Z.Warmed39 T'.vm → T'.vm.findClass own = some m.cls → Goes p e below G (T'.setTop (mkF m pc' Ls (.ref a :: st)))) :
    Goes p e below G (T.setTop (mkF m pc Ls st)) := by
  subst hp
  obtain ⟨a, T', h', k1, X', e', E, hS', hk', hZ', ho', stp⟩ := ldcS X hx hZ hown w wS eT hS hk (g := mkF m pc Ls st) rfl hd hn hbig hc hl
  exact own_go stp (k a T' h' k1 X' e' E hS' hk' hZ' ho')
theorem c_specialW {vm0 : Vm} (X : Stand p l e R (s.setVm vm0) m args below meth c T locs cells slots) (hx : p.tables.exec = Jvm.exec) (hZ : Z.Warmed39 vm0) {n : Nat} (hS : s.Since vm0 n) (hk : n ≤ h.size) {own : String} {index : Nat} {y : MethodName} (hy1 : y.name = "<init>") (hown : vm0.findClass own = some m.cls)
    {bytes : ByteArray} {maxL : Nat} (w1 : (Jvm.Cond.methodLink own index y).before a0 Z = true) (w2 : (Jvm.Cond.instanceMethod y).before a0 Z = true) (w3 : (Jvm.Cond.initialized y.cls).before a0 Z = true) (w4 : (Jvm.Cond.code y bytes maxL none).before a0 Z = true) (hy : y.cls ≠ "java/lang/invoke/MethodHandle" ∧ y.cls ≠ "java/lang/invoke/VarHandle")
    {rm : Room} {as' : Array Value} {Q : Option Value → Heap → List Loc → Prop} (eT : T.heap = h) (hM : OwnMetW l Z y bytes maxL none [] rm as' h Q) {W : Nat} (hf : rm.frames + 1 ≤ R.frames) (hl : W + (maxL + 11) + rm.locals ≤ R.locals) (hc : cells + rm.cells ≤ R.cells) (hs : slots + rm.slots ≤ R.slots)
    {pc pc' : Nat} {Ls : Array Slot} {st : List Value} (hsize : Ls.size = c.maxLocals) {a : Addr} {argsL rest : List Value} (hlen : ∀ sig, parseMethodDescriptor y.desc = some sig → argsL.length = sig.parameters.length) (has : (.ref a :: argsL).toArray = as') (hst : st = argsL.reverse ++ .ref a :: rest) (hW : (rest.map fun v => v.category).sum ≤ W)
    (hd : decode c.code pc = .ok (.invokespecial index, 3)) (hp : pc + 3 = pc')
    (k : ∀ (T' : State) (v : Option Value) (L : List Loc), Stand p l e R (s.setVm T'.vm) m args below meth c T' (locs ++ L) (cells + rm.cells) (slots + rm.slots) → Q v T'.heap L → s.Since T'.vm T'.heap.size → Z.Warmed39 T'.vm → T'.vm.findClass own = some m.cls → Goes p e below G (T'.setTop (mkF m pc' Ls (v.toList ++ rest)))) :
    Goes p e below G (T.setTop (mkF m pc Ls st)) := by
  subst hp
  obtain ⟨v, _, ⟨T', L', k', n'⟩, -, X', hS2, hgr, ⟨Lc, hQ, l1, y1, z1⟩, stp⟩ := X.specialBackS hx (y := y) hy1 hown (mvT (s := s.setVm vm0) hZ w1) (mvT (s := s.setVm vm0) hZ w2) (mvT (s := s.setVm vm0) hZ w4) hy (backOfS (s := s.setVm vm0) (W := W) hM hZ w4 w3 hf hl) (g := mkF m pc Ls st) rfl hsize (Steps.refl _) (a := a) (argsL := argsL) (rest := rest) hlen hst (by show 2 * 0 + _ ≤ _; omega) hd (fun _ _ => ⟨has, eT, hc, hs⟩)
  dsimp only [Pt.U, Pt.locs, Pt.cells, Pt.slots] at X' l1 y1 z1 stp hQ hS2 hgr
  subst l1 y1 z1
  exact own_go (fun _ q => stp.trans q) (k T' v Lc X' hQ (hS.trans hS2 (Nat.le_trans (by rw [eT]; exact hk) hgr)) (State.Warmed39.trans (t := s.setVm vm0) hZ hS2.1) (by rw [hS2.1.alike.findClass]; exact hown))
theorem s_absD (X : Stand p l e R s m args below meth c T locs cells slots) (hx : p.tables.exec = Jvm.exec) (hZ : Z.Warmed39 s.vm) {own : String} {index : Nat} (hown : s.vm.findClass own = some m.cls) {bytes : ByteArray} {maxL : Nat}
    (w1 : (Jvm.Cond.methodLink own index NT.mathAbs64N).before a0 Z = true) (w2 : (Jvm.Cond.static NT.mathAbs64N).before a0 Z = true) (w3 : (Jvm.Cond.initialized "java/lang/Math").before a0 Z = true) (w4 : (Jvm.Cond.code NT.mathAbs64N bytes maxL (some .double)).before a0 Z = true)
    (eT : T.heap = h) {x : UInt64} (hn : NoNaN64 x) {W : Nat} (hf : 1 ≤ R.frames) (hl : W + (maxL + 11) ≤ R.locals) {pc pc' : Nat} {Ls : Array Slot} {st : List Value} (hsize : Ls.size = c.maxLocals) (hW : (st.map fun v => v.category).sum ≤ W)
    (hd : decode c.code pc = .ok (.invokestatic index, 3)) (hp : pc + 3 = pc')
    (k : ∀ T' : State, Stand p l e R s m args below meth c T' locs cells slots → T'.heap = h → Goes p e below G (T'.setTop (mkF m pc' Ls (.double (x &&& 0x7fffffffffffffff) :: st)))) :
    Goes p e below G (T.setTop (mkF m pc Ls (.double x :: st))) := by
  subst hp
  obtain ⟨v, vm1, B, -, X', ⟨hB, hv⟩, stp⟩ := Jvm.LawKit.callS X hx (y := NT.mathAbs64N) hown (mvT hZ w1) (mvT hZ w2) (mvT hZ w3) (mvT hZ w4) (by decide) (NT.Abs64.pays (W := W) (mvT hZ w4) (mvT hZ w2) hf hl) (g := mkF m pc Ls (.double x :: st)) rfl hsize (argsL := [.double x]) (rest := st) (lenOf NT.mathAbs64_desc rfl) rfl (by show 2 * 0 + _ ≤ _; omega) hd (fun _ _ => ⟨x, rfl, hn⟩)
  have hv' := hv x ⟨rfl, hn⟩
  subst hB hv'
  exact own_go stp (k _ X' eT)
theorem s_clone (X : Stand p l e R s m args below meth c T locs cells slots) (hx : p.tables.exec = Jvm.exec) (hZ : Z.Warmed39 s.vm) {own ad : String} {index : Nat} (hown : s.vm.findClass own = some m.cls)
    (w1 : (Jvm.Cond.methodLink own index ⟨ad, "clone", "()Ljava/lang/Object;"⟩).before a0 Z = true) (w2 : (Jvm.Cond.sameMethod ad "java/lang/Object" "clone" "()Ljava/lang/Object;").before a0 Z = true) (w3 : (Jvm.Cond.native ⟨"java/lang/Object", "clone", "()Ljava/lang/Object;"⟩).before a0 Z = true)
    (w4 : (Jvm.Cond.instanceMethod ⟨"java/lang/Object", "clone", "()Ljava/lang/Object;"⟩).before a0 Z = true) (w5 : (Jvm.Cond.selects ad ⟨ad, "clone", "()Ljava/lang/Object;"⟩ ⟨"java/lang/Object", "clone", "()Ljava/lang/Object;"⟩).before a0 Z = true) (w6 : (Jvm.Cond.castable ad "java/lang/Cloneable").before a0 Z = true)
    (eT : T.heap = h) {a : Addr} {kk : ClassId} {ty : FieldType} {z : Int32} {vs : List Value} {dv : Value} (F : Arv Z h a kk ty z vs dv) (E : Exa Z h a ad) {pc pc' : Nat} {Ls : Array Slot} {st : List Value} (hd : decode c.code pc = .ok (.invokevirtual index, 3)) (hp : pc + 3 = pc') (hsize : Ls.size = c.maxLocals)
    (hf : 1 ≤ R.frames) {W : Nat} (hW : (st.map fun v => v.category).sum ≤ W) (hl : W + 14 ≤ R.locals) (cap : Nat) (hcap : z.toNatClampNeg ≤ cap) (hc : cells + 1 ≤ R.cells) (hsl : slots + cap ≤ R.slots)
    (k : ∀ (T' : State) (h' : Heap) (b : Addr), Stand p l e R s m args below meth c T' locs (cells + 1) (slots + cap) → T'.heap = h' → Ext h h' → b = h.size → Arv Z h' b kk ty z vs dv → Exa Z h' b ad → Goes p e below G (T'.setTop (mkF m pc' Ls (.ref b :: st)))) :
    Goes p e below G (T.setTop (mkF m pc Ls (.ref a :: st))) := by
  subst hp
  obtain ⟨T', h', X', e', E', F', Ex, stp⟩ := cloneH X hx hZ hown w1 w2 w3 w4 w5 w6 eT F.arh E (g := mkF m pc Ls (.ref a :: st)) rfl hsize rfl hd hf (W := W) (by show 2 * 0 + _ ≤ _; omega) hl hcap hc hsl
  exact own_go stp (k T' h' _ X' e' E' rfl F' Ex)
theorem s_copy (X : Stand p l e R s m args below meth c T locs cells slots) (hx : p.tables.exec = Jvm.exec) (hZ : Z.Warmed39 s.vm) {own : String} {index : Nat} (hown : s.vm.findClass own = some m.cls)
    (w1 : (Jvm.Cond.methodLink own index Jvm.Stand.acN).before a0 Z = true) (w2 : (Jvm.Cond.native Jvm.Stand.acN).before a0 Z = true) (w3 : (Jvm.Cond.static Jvm.Stand.acN).before a0 Z = true) (w4 : (Jvm.Cond.initialized "java/lang/System").before a0 Z = true) (eT : T.heap = h)
    {a b : Addr} {ka kb : ClassId} {ty : FieldType} {z z' sp dp nn : Int32} {vs vd us : List Value} {dv dd : Value} (A : Arv Z h a ka ty z vs dv) (B : Arv Z h b kb ty z' vd dd) (hty : refKind ty = false)
    (h1 : ¬ sp < 0) (h2 : ¬ dp < 0) (h3 : ¬ nn < 0) (h4 : sp.toNatClampNeg + nn.toNatClampNeg ≤ z.toNatClampNeg) (h5 : dp.toNatClampNeg + nn.toNatClampNeg ≤ z'.toNatClampNeg)
    (hus : us = (List.range nn.toNatClampNeg).map fun i => vs.getD (sp.toNatClampNeg + i) dv) (hl : dp.toNatClampNeg + nn.toNatClampNeg ≤ vd.length) {n0 : Nat} (N : Fr n0 locs) (ge : n0 ≤ b)
    {pc pc' : Nat} {Ls : Array Slot} {st : List Value} (hd : decode c.code pc = .ok (.invokestatic index, 3)) (hp : pc + 3 = pc') (hsize : Ls.size = c.maxLocals)
    (hf : 1 ≤ R.frames) {W : Nat} (hW : (st.map fun v => v.category).sum ≤ W) (hlo : W + (nativeFrameWords "java/lang/System" "arraycopy" 5 + 11) ≤ R.locals)
    (k : ∀ (T' : State) (h' : Heap) (L : List Loc), Stand p l e R s m args below meth c T' L cells slots → T'.heap = h' → Fr n0 L → Keep h h' [b] → Arv Z h' b kb ty z' (vd.take dp.toNatClampNeg ++ us ++ vd.drop (dp.toNatClampNeg + nn.toNatClampNeg)) dd → Goes p e below G (T'.setTop (mkF m pc' Ls st))) :
    Goes p e below G (T.setTop (mkF m pc Ls (.int nn :: .int dp :: .ref b :: .int sp :: .ref a :: st))) := by
  subst hp
  obtain ⟨T', h', L, X', e', N', K, B', stp⟩ := cpA X hx hZ hown w1 w2 w3 w4 eT A B (Or.inl ⟨rfl, hty⟩) h1 h2 h3 h4 h5 hus hl N ge (g := mkF m pc Ls (.int nn :: .int dp :: .ref b :: .int sp :: .ref a :: st)) rfl hsize rfl hd hf (W := W) (by show 2 * 0 + _ ≤ _; omega) hlo
  exact own_go stp (k T' h' L X' e' N' K B')
theorem s_iload (X : Stand p l e R s m args below meth c T locs cells slots) (hx : p.tables.exec = Jvm.exec) {pc pc' : Nat} {Ls : Array Slot} {st : List Value} {j : Nat} {v : Int32} (hd : decode c.code pc = .ok (.iload j, 2)) (hp : pc + 2 = pc') (hl : Ls[j]? = some (.val (.int v)))
    (k : Goes p e below G (T.setTop (mkF m pc' Ls (.int v :: st)))) : Goes p e below G (T.setTop (mkF m pc Ls (st))) := by
  subst hp
  exact own_go (fun _ k => XS.iload X.here hx rfl hd hl k) k
theorem s_iloadN (X : Stand p l e R s m args below meth c T locs cells slots) (hx : p.tables.exec = Jvm.exec) {pc pc' : Nat} {Ls : Array Slot} {st : List Value} {j : Fin 4} {v : Int32} (hd : decode c.code pc = .ok (.iload_n j, 1)) (hp : pc + 1 = pc') (hl : Ls[j.val]? = some (.val (.int v)))
    (k : Goes p e below G (T.setTop (mkF m pc' Ls (.int v :: st)))) : Goes p e below G (T.setTop (mkF m pc Ls (st))) := by
  subst hp
  exact own_go (fun _ k => XS.iloadN X.here hx rfl hd hl k) k
theorem s_istore (X : Stand p l e R s m args below meth c T locs cells slots) (hx : p.tables.exec = Jvm.exec) {pc pc' : Nat} {Ls : Array Slot} {st : List Value} {j : Nat} {v : Int32} (l' : Array Slot) (hd : decode c.code pc = .ok (.istore j, 2)) (hp : pc + 2 = pc') (hl : storeLocals Ls j (.int v) = some l')
    (k : Goes p e below G (T.setTop (mkF m pc' l' (st)))) : Goes p e below G (T.setTop (mkF m pc Ls (.int v :: st))) := by
  subst hp
  exact own_go (fun _ k => XS.istore X.here hx rfl hd rfl hl k) k
theorem s_istoreN (X : Stand p l e R s m args below meth c T locs cells slots) (hx : p.tables.exec = Jvm.exec) {pc pc' : Nat} {Ls : Array Slot} {st : List Value} {j : Fin 4} {v : Int32} (l' : Array Slot) (hd : decode c.code pc = .ok (.istore_n j, 1)) (hp : pc + 1 = pc') (hl : storeLocals Ls j.val (.int v) = some l')
    (k : Goes p e below G (T.setTop (mkF m pc' l' (st)))) : Goes p e below G (T.setTop (mkF m pc Ls (.int v :: st))) := by
  subst hp
  exact own_go (fun _ k => XS.istoreN X.here hx rfl hd rfl hl k) k
theorem s_lload (X : Stand p l e R s m args below meth c T locs cells slots) (hx : p.tables.exec = Jvm.exec) {pc pc' : Nat} {Ls : Array Slot} {st : List Value} {j : Nat} {v : Int64} (hd : decode c.code pc = .ok (.lload j, 2)) (hp : pc + 2 = pc') (hl : Ls[j]? = some (.val (.long v)))
    (k : Goes p e below G (T.setTop (mkF m pc' Ls (.long v :: st)))) : Goes p e below G (T.setTop (mkF m pc Ls (st))) := by
  subst hp
  exact own_go (fun _ k => XT.lload X.here hx rfl hd hl k) k
theorem s_lloadN (X : Stand p l e R s m args below meth c T locs cells slots) (hx : p.tables.exec = Jvm.exec) {pc pc' : Nat} {Ls : Array Slot} {st : List Value} {j : Fin 4} {v : Int64} (hd : decode c.code pc = .ok (.lload_n j, 1)) (hp : pc + 1 = pc') (hl : Ls[j.val]? = some (.val (.long v)))
    (k : Goes p e below G (T.setTop (mkF m pc' Ls (.long v :: st)))) : Goes p e below G (T.setTop (mkF m pc Ls (st))) := by
  subst hp
  exact own_go (fun _ k => XT.lloadN X.here hx rfl hd hl k) k
theorem s_lstore (X : Stand p l e R s m args below meth c T locs cells slots) (hx : p.tables.exec = Jvm.exec) {pc pc' : Nat} {Ls : Array Slot} {st : List Value} {j : Nat} {v : Int64} (l' : Array Slot) (hd : decode c.code pc = .ok (.lstore j, 2)) (hp : pc + 2 = pc') (hl : storeLocals Ls j (.long v) = some l')
    (k : Goes p e below G (T.setTop (mkF m pc' l' (st)))) : Goes p e below G (T.setTop (mkF m pc Ls (.long v :: st))) := by
  subst hp
  exact own_go (fun _ k => XT.lstore X.here hx rfl hd rfl hl k) k
theorem s_lstoreN (X : Stand p l e R s m args below meth c T locs cells slots) (hx : p.tables.exec = Jvm.exec) {pc pc' : Nat} {Ls : Array Slot} {st : List Value} {j : Fin 4} {v : Int64} (l' : Array Slot) (hd : decode c.code pc = .ok (.lstore_n j, 1)) (hp : pc + 1 = pc') (hl : storeLocals Ls j.val (.long v) = some l')
    (k : Goes p e below G (T.setTop (mkF m pc' l' (st)))) : Goes p e below G (T.setTop (mkF m pc Ls (.long v :: st))) := by
  subst hp
  exact own_go (fun _ k => XT.lstoreN X.here hx rfl hd rfl hl k) k
theorem s_dload (X : Stand p l e R s m args below meth c T locs cells slots) (hx : p.tables.exec = Jvm.exec) {pc pc' : Nat} {Ls : Array Slot} {st : List Value} {j : Nat} {v : UInt64} (hd : decode c.code pc = .ok (.dload j, 2)) (hp : pc + 2 = pc') (hl : Ls[j]? = some (.val (.double v)))
    (k : Goes p e below G (T.setTop (mkF m pc' Ls (.double v :: st)))) : Goes p e below G (T.setTop (mkF m pc Ls (st))) := by
  subst hp
  exact own_go (fun _ k => XS.dload X.here hx rfl hd hl k) k
theorem s_dloadN (X : Stand p l e R s m args below meth c T locs cells slots) (hx : p.tables.exec = Jvm.exec) {pc pc' : Nat} {Ls : Array Slot} {st : List Value} {j : Fin 4} {v : UInt64} (hd : decode c.code pc = .ok (.dload_n j, 1)) (hp : pc + 1 = pc') (hl : Ls[j.val]? = some (.val (.double v)))
    (k : Goes p e below G (T.setTop (mkF m pc' Ls (.double v :: st)))) : Goes p e below G (T.setTop (mkF m pc Ls (st))) := by
  subst hp
  exact own_go (fun _ k => XS.dloadN X.here hx rfl hd hl k) k
theorem s_dstore (X : Stand p l e R s m args below meth c T locs cells slots) (hx : p.tables.exec = Jvm.exec) {pc pc' : Nat} {Ls : Array Slot} {st : List Value} {j : Nat} {v : UInt64} (l' : Array Slot) (hd : decode c.code pc = .ok (.dstore j, 2)) (hp : pc + 2 = pc') (hl : storeLocals Ls j (.double v) = some l')
    (k : Goes p e below G (T.setTop (mkF m pc' l' (st)))) : Goes p e below G (T.setTop (mkF m pc Ls (.double v :: st))) := by
  subst hp
  exact own_go (fun _ k => XS.dstore X.here hx rfl hd rfl hl k) k
theorem s_dstoreN (X : Stand p l e R s m args below meth c T locs cells slots) (hx : p.tables.exec = Jvm.exec) {pc pc' : Nat} {Ls : Array Slot} {st : List Value} {j : Fin 4} {v : UInt64} (l' : Array Slot) (hd : decode c.code pc = .ok (.dstore_n j, 1)) (hp : pc + 1 = pc') (hl : storeLocals Ls j.val (.double v) = some l')
    (k : Goes p e below G (T.setTop (mkF m pc' l' (st)))) : Goes p e below G (T.setTop (mkF m pc Ls (.double v :: st))) := by
  subst hp
  exact own_go (fun _ k => XS.dstoreN X.here hx rfl hd rfl hl k) k
theorem s_aload (X : Stand p l e R s m args below meth c T locs cells slots) (hx : p.tables.exec = Jvm.exec) {pc pc' : Nat} {Ls : Array Slot} {st : List Value} {j : Nat} {v : Value} (hd : decode c.code pc = .ok (.aload j, 2)) (hp : pc + 2 = pc') (hl : Ls[j]? = some (.val v)) (hv : v.isRef = true)
    (k : Goes p e below G (T.setTop (mkF m pc' Ls (v :: st)))) : Goes p e below G (T.setTop (mkF m pc Ls (st))) := by
  subst hp
  exact own_go (fun _ k => XS.aload X.here hx rfl hd hl hv k) k
theorem s_aloadN (X : Stand p l e R s m args below meth c T locs cells slots) (hx : p.tables.exec = Jvm.exec) {pc pc' : Nat} {Ls : Array Slot} {st : List Value} {j : Fin 4} {v : Value} (hd : decode c.code pc = .ok (.aload_n j, 1)) (hp : pc + 1 = pc') (hl : Ls[j.val]? = some (.val v)) (hv : v.isRef = true)
    (k : Goes p e below G (T.setTop (mkF m pc' Ls (v :: st)))) : Goes p e below G (T.setTop (mkF m pc Ls (st))) := by
  subst hp
  exact own_go (fun _ k => XS.aloadN X.here hx rfl hd hl hv k) k
theorem s_astore (X : Stand p l e R s m args below meth c T locs cells slots) (hx : p.tables.exec = Jvm.exec) {pc pc' : Nat} {Ls : Array Slot} {st : List Value} {j : Nat} {v : Value} (l' : Array Slot) (hd : decode c.code pc = .ok (.astore j, 2)) (hp : pc + 2 = pc') (hv : v.isRef = true) (hl : storeLocals Ls j v = some l')
    (k : Goes p e below G (T.setTop (mkF m pc' l' (st)))) : Goes p e below G (T.setTop (mkF m pc Ls (v :: st))) := by
  subst hp
  exact own_go (fun _ k => XS.astore X.here hx rfl hd rfl hv hl k) k
theorem s_astoreN (X : Stand p l e R s m args below meth c T locs cells slots) (hx : p.tables.exec = Jvm.exec) {pc pc' : Nat} {Ls : Array Slot} {st : List Value} {j : Fin 4} {v : Value} (l' : Array Slot) (hd : decode c.code pc = .ok (.astore_n j, 1)) (hp : pc + 1 = pc') (hv : v.isRef = true) (hl : storeLocals Ls j.val v = some l')
    (k : Goes p e below G (T.setTop (mkF m pc' l' (st)))) : Goes p e below G (T.setTop (mkF m pc Ls (v :: st))) := by
  subst hp
  exact own_go (fun _ k => XS.astoreN X.here hx rfl hd rfl hv hl k) k
theorem s_iconst (X : Stand p l e R s m args below meth c T locs cells slots) (hx : p.tables.exec = Jvm.exec) {pc pc' : Nat} {Ls : Array Slot} {st : List Value} {i : Int} (v : Int32) (hd : decode c.code pc = .ok (.iconst i, 1)) (hp : pc + 1 = pc') (hv : Int32.ofInt i = v)
    (k : Goes p e below G (T.setTop (mkF m pc' Ls (.int v :: st)))) : Goes p e below G (T.setTop (mkF m pc Ls (st))) := by
  subst hp
  exact own_go (fun _ k => XS.iconst X.here hx rfl hd (by rw [hv]; exact k)) k
theorem s_bipush (X : Stand p l e R s m args below meth c T locs cells slots) (hx : p.tables.exec = Jvm.exec) {pc pc' : Nat} {Ls : Array Slot} {st : List Value} {i : Int} (v : Int32) (hd : decode c.code pc = .ok (.bipush i, 2)) (hp : pc + 2 = pc') (hv : (Int8.ofInt i).toInt32 = v)
    (k : Goes p e below G (T.setTop (mkF m pc' Ls (.int v :: st)))) : Goes p e below G (T.setTop (mkF m pc Ls (st))) := by
  subst hp
  exact own_go (fun _ k => XS.bipush X.here hx rfl hd (by rw [hv]; exact k)) k
theorem s_sipush (X : Stand p l e R s m args below meth c T locs cells slots) (hx : p.tables.exec = Jvm.exec) {pc pc' : Nat} {Ls : Array Slot} {st : List Value} {i : Int} (v : Int32) (hd : decode c.code pc = .ok (.sipush i, 3)) (hp : pc + 3 = pc') (hv : (Int16.ofInt i).toInt32 = v)
    (k : Goes p e below G (T.setTop (mkF m pc' Ls (.int v :: st)))) : Goes p e below G (T.setTop (mkF m pc Ls (st))) := by
  subst hp
  exact own_go (fun _ k => XS.sipush X.here hx rfl hd (by rw [hv]; exact k)) k
theorem s_lconst (X : Stand p l e R s m args below meth c T locs cells slots) (hx : p.tables.exec = Jvm.exec) {pc pc' : Nat} {Ls : Array Slot} {st : List Value} {i : Fin 2} (v : Int64) (hd : decode c.code pc = .ok (.lconst i, 1)) (hp : pc + 1 = pc') (hv : Int64.ofNat i = v)
    (k : Goes p e below G (T.setTop (mkF m pc' Ls (.long v :: st)))) : Goes p e below G (T.setTop (mkF m pc Ls (st))) := by
  subst hp
  exact own_go (fun _ k => XT.lconst X.here hx rfl hd (by rw [hv]; exact k)) k
theorem s_dconst0 (X : Stand p l e R s m args below meth c T locs cells slots) (hx : p.tables.exec = Jvm.exec) {pc pc' : Nat} {Ls : Array Slot} {st : List Value}  (hd : decode c.code pc = .ok (.dconst 0, 1)) (hp : pc + 1 = pc') 
    (k : Goes p e below G (T.setTop (mkF m pc' Ls (.double 0 :: st)))) : Goes p e below G (T.setTop (mkF m pc Ls (st))) := by
  subst hp
  exact own_go (fun _ k => XS.dconst0 X.here hx rfl hd rfl k) k
theorem s_dconst1 (X : Stand p l e R s m args below meth c T locs cells slots) (hx : p.tables.exec = Jvm.exec) {pc pc' : Nat} {Ls : Array Slot} {st : List Value}  (hd : decode c.code pc = .ok (.dconst 1, 1)) (hp : pc + 1 = pc') 
    (k : Goes p e below G (T.setTop (mkF m pc' Ls (.double 4607182418800017408 :: st)))) : Goes p e below G (T.setTop (mkF m pc Ls (st))) := by
  subst hp
  exact own_go (fun _ k => XS.dconst1 X.here hx rfl hd rfl k) k
theorem s_aconstNull (X : Stand p l e R s m args below meth c T locs cells slots) (hx : p.tables.exec = Jvm.exec) {pc pc' : Nat} {Ls : Array Slot} {st : List Value}  (hd : decode c.code pc = .ok (.aconst_null, 1)) (hp : pc + 1 = pc') 
    (k : Goes p e below G (T.setTop (mkF m pc' Ls (.null :: st)))) : Goes p e below G (T.setTop (mkF m pc Ls (st))) := by
  subst hp
  exact own_go (fun _ k => XS.aconstNull X.here hx rfl hd k) k
theorem s_ldcI (X : Stand p l e R s m args below meth c T locs cells slots) (hx : p.tables.exec = Jvm.exec) {pc pc' : Nat} {Ls : Array Slot} {st : List Value} (hZ : Z.Warmed39 s.vm) {own : String} {j : Nat} {v : Int32} (hown : s.vm.findClass own = some m.cls) (w : (Jvm.Cond.constant own j v).before a0 Z = true) (hd : decode c.code pc = .ok (.ldc j, 2)) (hp : pc + 2 = pc') 
    (k : Goes p e below G (T.setTop (mkF m pc' Ls (.int v :: st)))) : Goes p e below G (T.setTop (mkF m pc Ls (st))) := by
  subst hp
  exact own_go (fun _ k => X.ldcInt hx hown (mvT hZ w) (g := mkF m pc Ls st) rfl hd _ k) k
theorem s_ldcJ (X : Stand p l e R s m args below meth c T locs cells slots) (hx : p.tables.exec = Jvm.exec) {pc pc' : Nat} {Ls : Array Slot} {st : List Value} (hZ : Z.Warmed39 s.vm) {own : String} {j : Nat} {v : Int64} (hown : s.vm.findClass own = some m.cls) (w : (Jvm.Cond.constantLong own j v).before a0 Z = true) (hd : decode c.code pc = .ok (.ldc2_w j, 3)) (hp : pc + 3 = pc') 
    (k : Goes p e below G (T.setTop (mkF m pc' Ls (.long v :: st)))) : Goes p e below G (T.setTop (mkF m pc Ls (st))) := by
  subst hp
  exact own_go (fun _ k => X.ldc2Long hx hown (mvT hZ w) (g := mkF m pc Ls st) rfl hd _ k) k
theorem s_ldcD (X : Stand p l e R s m args below meth c T locs cells slots) (hx : p.tables.exec = Jvm.exec) {pc pc' : Nat} {Ls : Array Slot} {st : List Value} (hZ : Z.Warmed39 s.vm) {own : String} {j : Nat} {v : UInt64} (hown : s.vm.findClass own = some m.cls) (w : (Jvm.Cond.constantDouble own j v).before a0 Z = true) (hd : decode c.code pc = .ok (.ldc2_w j, 3)) (hp : pc + 3 = pc') 
    (k : Goes p e below G (T.setTop (mkF m pc' Ls (.double v :: st)))) : Goes p e below G (T.setTop (mkF m pc Ls (st))) := by
  subst hp
  exact own_go (fun _ k => X.ldc2DoubleC hx hown (mvT hZ w) (g := mkF m pc Ls st) rfl hd _ k) k
theorem s_iadd (X : Stand p l e R s m args below meth c T locs cells slots) (hx : p.tables.exec = Jvm.exec) {pc pc' : Nat} {Ls : Array Slot} {st : List Value} {x y : Int32} (hd : decode c.code pc = .ok (.iadd, 1)) (hp : pc + 1 = pc') 
    (k : Goes p e below G (T.setTop (mkF m pc' Ls (.int (x + y) :: st)))) : Goes p e below G (T.setTop (mkF m pc Ls (.int y :: .int x :: st))) := by
  subst hp
  exact own_go (fun _ k => XS.iadd X.here hx rfl hd rfl k) k
theorem s_isub (X : Stand p l e R s m args below meth c T locs cells slots) (hx : p.tables.exec = Jvm.exec) {pc pc' : Nat} {Ls : Array Slot} {st : List Value} {x y : Int32} (hd : decode c.code pc = .ok (.isub, 1)) (hp : pc + 1 = pc') 
    (k : Goes p e below G (T.setTop (mkF m pc' Ls (.int (x - y) :: st)))) : Goes p e below G (T.setTop (mkF m pc Ls (.int y :: .int x :: st))) := by
  subst hp
  exact own_go (fun _ k => XS.isub X.here hx rfl hd rfl k) k
theorem s_imul (X : Stand p l e R s m args below meth c T locs cells slots) (hx : p.tables.exec = Jvm.exec) {pc pc' : Nat} {Ls : Array Slot} {st : List Value} {x y : Int32} (hd : decode c.code pc = .ok (.imul, 1)) (hp : pc + 1 = pc') 
    (k : Goes p e below G (T.setTop (mkF m pc' Ls (.int (x * y) :: st)))) : Goes p e below G (T.setTop (mkF m pc Ls (.int y :: .int x :: st))) := by
  subst hp
  exact own_go (fun _ k => XS.imul X.here hx rfl hd rfl k) k
theorem s_iand (X : Stand p l e R s m args below meth c T locs cells slots) (hx : p.tables.exec = Jvm.exec) {pc pc' : Nat} {Ls : Array Slot} {st : List Value} {x y : Int32} (hd : decode c.code pc = .ok (.iand, 1)) (hp : pc + 1 = pc') 
    (k : Goes p e below G (T.setTop (mkF m pc' Ls (.int (x &&& y) :: st)))) : Goes p e below G (T.setTop (mkF m pc Ls (.int y :: .int x :: st))) := by
  subst hp
  exact own_go (fun _ k => XS.iand X.here hx rfl hd rfl k) k
theorem s_ixor (X : Stand p l e R s m args below meth c T locs cells slots) (hx : p.tables.exec = Jvm.exec) {pc pc' : Nat} {Ls : Array Slot} {st : List Value} {x y : Int32} (hd : decode c.code pc = .ok (.ixor, 1)) (hp : pc + 1 = pc') 
    (k : Goes p e below G (T.setTop (mkF m pc' Ls (.int (x ^^^ y) :: st)))) : Goes p e below G (T.setTop (mkF m pc Ls (.int y :: .int x :: st))) := by
  subst hp
  exact own_go (fun _ k => XT.ixor X.here hx rfl hd rfl k) k
theorem s_ior (X : Stand p l e R s m args below meth c T locs cells slots) (hx : p.tables.exec = Jvm.exec) {pc pc' : Nat} {Ls : Array Slot} {st : List Value} {x y : Int32} (hd : decode c.code pc = .ok (.ior, 1)) (hp : pc + 1 = pc') 
    (k : Goes p e below G (T.setTop (mkF m pc' Ls (.int (x ||| y) :: st)))) : Goes p e below G (T.setTop (mkF m pc Ls (.int y :: .int x :: st))) := by
  subst hp
  exact own_go (fun _ k => XT.ior X.here hx rfl hd rfl k) k
theorem s_ishl (X : Stand p l e R s m args below meth c T locs cells slots) (hx : p.tables.exec = Jvm.exec) {pc pc' : Nat} {Ls : Array Slot} {st : List Value} {x y : Int32} (hd : decode c.code pc = .ok (.ishl, 1)) (hp : pc + 1 = pc') 
    (k : Goes p e below G (T.setTop (mkF m pc' Ls (.int (x <<< (y &&& 31)) :: st)))) : Goes p e below G (T.setTop (mkF m pc Ls (.int y :: .int x :: st))) := by
  subst hp
  exact own_go (fun _ k => XT.ishl X.here hx rfl hd rfl k) k
theorem s_ishr (X : Stand p l e R s m args below meth c T locs cells slots) (hx : p.tables.exec = Jvm.exec) {pc pc' : Nat} {Ls : Array Slot} {st : List Value} {x y : Int32} (hd : decode c.code pc = .ok (.ishr, 1)) (hp : pc + 1 = pc') 
    (k : Goes p e below G (T.setTop (mkF m pc' Ls (.int (x >>> (y &&& 31)) :: st)))) : Goes p e below G (T.setTop (mkF m pc Ls (.int y :: .int x :: st))) := by
  subst hp
  exact own_go (fun _ k => XT.ishr X.here hx rfl hd rfl k) k
theorem s_iushr (X : Stand p l e R s m args below meth c T locs cells slots) (hx : p.tables.exec = Jvm.exec) {pc pc' : Nat} {Ls : Array Slot} {st : List Value} {x y : Int32} (hd : decode c.code pc = .ok (.iushr, 1)) (hp : pc + 1 = pc') 
    (k : Goes p e below G (T.setTop (mkF m pc' Ls (.int (XT.ushr x y) :: st)))) : Goes p e below G (T.setTop (mkF m pc Ls (.int y :: .int x :: st))) := by
  subst hp
  exact own_go (fun _ k => XT.iushr X.here hx rfl hd rfl k) k
theorem s_irem (X : Stand p l e R s m args below meth c T locs cells slots) (hx : p.tables.exec = Jvm.exec) {pc pc' : Nat} {Ls : Array Slot} {st : List Value} {x y : Int32} (hd : decode c.code pc = .ok (.irem, 1)) (hp : pc + 1 = pc') (hy : y ≠ 0)
    (k : Goes p e below G (T.setTop (mkF m pc' Ls (.int (x % y) :: st)))) : Goes p e below G (T.setTop (mkF m pc Ls (.int y :: .int x :: st))) := by
  subst hp
  exact own_go (fun _ k => iremM X hx rfl hd rfl hy k) k
theorem s_ineg (X : Stand p l e R s m args below meth c T locs cells slots) (hx : p.tables.exec = Jvm.exec) {pc pc' : Nat} {Ls : Array Slot} {st : List Value} {x : Int32} (hd : decode c.code pc = .ok (.ineg, 1)) (hp : pc + 1 = pc') 
    (k : Goes p e below G (T.setTop (mkF m pc' Ls (.int (-x) :: st)))) : Goes p e below G (T.setTop (mkF m pc Ls (.int x :: st))) := by
  subst hp
  exact own_go (fun _ k => XS.ineg X.here hx rfl hd rfl k) k
theorem s_ladd (X : Stand p l e R s m args below meth c T locs cells slots) (hx : p.tables.exec = Jvm.exec) {pc pc' : Nat} {Ls : Array Slot} {st : List Value} {x y : Int64} (hd : decode c.code pc = .ok (.ladd, 1)) (hp : pc + 1 = pc') 
    (k : Goes p e below G (T.setTop (mkF m pc' Ls (.long (x + y) :: st)))) : Goes p e below G (T.setTop (mkF m pc Ls (.long y :: .long x :: st))) := by
  subst hp
  exact own_go (fun _ k => XT.ladd X.here hx rfl hd rfl k) k
theorem s_lsub (X : Stand p l e R s m args below meth c T locs cells slots) (hx : p.tables.exec = Jvm.exec) {pc pc' : Nat} {Ls : Array Slot} {st : List Value} {x y : Int64} (hd : decode c.code pc = .ok (.lsub, 1)) (hp : pc + 1 = pc') 
    (k : Goes p e below G (T.setTop (mkF m pc' Ls (.long (x - y) :: st)))) : Goes p e below G (T.setTop (mkF m pc Ls (.long y :: .long x :: st))) := by
  subst hp
  exact own_go (fun _ k => XT.lsub X.here hx rfl hd rfl k) k
theorem s_lmul (X : Stand p l e R s m args below meth c T locs cells slots) (hx : p.tables.exec = Jvm.exec) {pc pc' : Nat} {Ls : Array Slot} {st : List Value} {x y : Int64} (hd : decode c.code pc = .ok (.lmul, 1)) (hp : pc + 1 = pc') 
    (k : Goes p e below G (T.setTop (mkF m pc' Ls (.long (x * y) :: st)))) : Goes p e below G (T.setTop (mkF m pc Ls (.long y :: .long x :: st))) := by
  subst hp
  exact own_go (fun _ k => XT.lmul X.here hx rfl hd rfl k) k
theorem s_land (X : Stand p l e R s m args below meth c T locs cells slots) (hx : p.tables.exec = Jvm.exec) {pc pc' : Nat} {Ls : Array Slot} {st : List Value} {x y : Int64} (hd : decode c.code pc = .ok (.land, 1)) (hp : pc + 1 = pc') 
    (k : Goes p e below G (T.setTop (mkF m pc' Ls (.long (x &&& y) :: st)))) : Goes p e below G (T.setTop (mkF m pc Ls (.long y :: .long x :: st))) := by
  subst hp
  exact own_go (fun _ k => XT.land X.here hx rfl hd rfl k) k
theorem s_lor (X : Stand p l e R s m args below meth c T locs cells slots) (hx : p.tables.exec = Jvm.exec) {pc pc' : Nat} {Ls : Array Slot} {st : List Value} {x y : Int64} (hd : decode c.code pc = .ok (.lor, 1)) (hp : pc + 1 = pc') 
    (k : Goes p e below G (T.setTop (mkF m pc' Ls (.long (x ||| y) :: st)))) : Goes p e below G (T.setTop (mkF m pc Ls (.long y :: .long x :: st))) := by
  subst hp
  exact own_go (fun _ k => XT.lor X.here hx rfl hd rfl k) k
theorem s_lxor (X : Stand p l e R s m args below meth c T locs cells slots) (hx : p.tables.exec = Jvm.exec) {pc pc' : Nat} {Ls : Array Slot} {st : List Value} {x y : Int64} (hd : decode c.code pc = .ok (.lxor, 1)) (hp : pc + 1 = pc') 
    (k : Goes p e below G (T.setTop (mkF m pc' Ls (.long (x ^^^ y) :: st)))) : Goes p e below G (T.setTop (mkF m pc Ls (.long y :: .long x :: st))) := by
  subst hp
  exact own_go (fun _ k => XT.lxor X.here hx rfl hd rfl k) k
theorem s_lshl (X : Stand p l e R s m args below meth c T locs cells slots) (hx : p.tables.exec = Jvm.exec) {pc pc' : Nat} {Ls : Array Slot} {st : List Value} {x : Int64} {y : Int32} (hd : decode c.code pc = .ok (.lshl, 1)) (hp : pc + 1 = pc') 
    (k : Goes p e below G (T.setTop (mkF m pc' Ls (.long (x <<< (y.toInt64 &&& 63)) :: st)))) : Goes p e below G (T.setTop (mkF m pc Ls (.int y :: .long x :: st))) := by
  subst hp
  exact own_go (fun _ k => XT.lshl X.here hx rfl hd rfl k) k
theorem s_lshr (X : Stand p l e R s m args below meth c T locs cells slots) (hx : p.tables.exec = Jvm.exec) {pc pc' : Nat} {Ls : Array Slot} {st : List Value} {x : Int64} {y : Int32} (hd : decode c.code pc = .ok (.lshr, 1)) (hp : pc + 1 = pc') 
    (k : Goes p e below G (T.setTop (mkF m pc' Ls (.long (x >>> (y.toInt64 &&& 63)) :: st)))) : Goes p e below G (T.setTop (mkF m pc Ls (.int y :: .long x :: st))) := by
  subst hp
  exact own_go (fun _ k => XT.lshr X.here hx rfl hd rfl k) k
theorem s_lushr (X : Stand p l e R s m args below meth c T locs cells slots) (hx : p.tables.exec = Jvm.exec) {pc pc' : Nat} {Ls : Array Slot} {st : List Value} {x : Int64} {y : Int32} (hd : decode c.code pc = .ok (.lushr, 1)) (hp : pc + 1 = pc') 
    (k : Goes p e below G (T.setTop (mkF m pc' Ls (.long (XT.ushrL x y) :: st)))) : Goes p e below G (T.setTop (mkF m pc Ls (.int y :: .long x :: st))) := by
  subst hp
  exact own_go (fun _ k => XT.lushr X.here hx rfl hd rfl k) k
theorem s_i2l (X : Stand p l e R s m args below meth c T locs cells slots) (hx : p.tables.exec = Jvm.exec) {pc pc' : Nat} {Ls : Array Slot} {st : List Value} {x : Int32} (hd : decode c.code pc = .ok (.i2l, 1)) (hp : pc + 1 = pc') 
    (k : Goes p e below G (T.setTop (mkF m pc' Ls ((.long x.toInt64) :: st)))) : Goes p e below G (T.setTop (mkF m pc Ls (.int x :: st))) := by
  subst hp
  exact own_go (fun _ k => XT.i2l X.here hx rfl hd rfl k) k
theorem s_i2b (X : Stand p l e R s m args below meth c T locs cells slots) (hx : p.tables.exec = Jvm.exec) {pc pc' : Nat} {Ls : Array Slot} {st : List Value} {x : Int32} (hd : decode c.code pc = .ok (.i2b, 1)) (hp : pc + 1 = pc') 
    (k : Goes p e below G (T.setTop (mkF m pc' Ls ((.int x.toInt8.toInt32) :: st)))) : Goes p e below G (T.setTop (mkF m pc Ls (.int x :: st))) := by
  subst hp
  exact own_go (fun _ k => XT.i2b X.here hx rfl hd rfl k) k
theorem s_l2i (X : Stand p l e R s m args below meth c T locs cells slots) (hx : p.tables.exec = Jvm.exec) {pc pc' : Nat} {Ls : Array Slot} {st : List Value} {x : Int64} (hd : decode c.code pc = .ok (.l2i, 1)) (hp : pc + 1 = pc') 
    (k : Goes p e below G (T.setTop (mkF m pc' Ls (.int x.toInt32 :: st)))) : Goes p e below G (T.setTop (mkF m pc Ls (.long x :: st))) := by
  subst hp
  exact own_go (fun _ k => XT.l2i X.here hx rfl hd rfl k) k
theorem s_i2d (X : Stand p l e R s m args below meth c T locs cells slots) (hx : p.tables.exec = Jvm.exec) {pc pc' : Nat} {Ls : Array Slot} {st : List Value} {x : Int32} (hd : decode c.code pc = .ok (.i2d, 1)) (hp : pc + 1 = pc') 
    (k : Goes p e below G (T.setTop (mkF m pc' Ls (.double (FP.i2d x) :: st)))) : Goes p e below G (T.setTop (mkF m pc Ls (.int x :: st))) := by
  subst hp
  exact own_go (fun _ k => XS.i2dS X.here hx rfl hd rfl rfl k) k
theorem s_l2d (X : Stand p l e R s m args below meth c T locs cells slots) (hx : p.tables.exec = Jvm.exec) {pc pc' : Nat} {Ls : Array Slot} {st : List Value} {x : Int64} (hd : decode c.code pc = .ok (.l2d, 1)) (hp : pc + 1 = pc') 
    (k : Goes p e below G (T.setTop (mkF m pc' Ls (.double (FP.l2d x) :: st)))) : Goes p e below G (T.setTop (mkF m pc Ls (.long x :: st))) := by
  subst hp
  exact own_go (fun _ k => XS.l2dS X.here hx rfl hd rfl rfl k) k
theorem s_dneg (X : Stand p l e R s m args below meth c T locs cells slots) (hx : p.tables.exec = Jvm.exec) {pc pc' : Nat} {Ls : Array Slot} {st : List Value} {x : UInt64} (hd : decode c.code pc = .ok (.dneg, 1)) (hp : pc + 1 = pc') 
    (k : Goes p e below G (T.setTop (mkF m pc' Ls (.double (FP.dneg x) :: st)))) : Goes p e below G (T.setTop (mkF m pc Ls (.double x :: st))) := by
  subst hp
  exact own_go (fun _ k => XS.dnegS X.here hx rfl hd rfl rfl k) k
theorem s_dadd (X : Stand p l e R s m args below meth c T locs cells slots) (hx : p.tables.exec = Jvm.exec) {pc pc' : Nat} {Ls : Array Slot} {st : List Value} {x y : UInt64} (v : UInt64) (hd : decode c.code pc = .ok (.dadd, 1)) (hp : pc + 1 = pc') (hn : NoNaN64 (FP.dadd x y)) (hv : FP.dadd x y = v)
    (k : Goes p e below G (T.setTop (mkF m pc' Ls (.double v :: st)))) : Goes p e below G (T.setTop (mkF m pc Ls (.double y :: .double x :: st))) := by
  subst hp
  exact own_go (fun _ k => XS.daddS X.here hx rfl hd rfl hn hv k) k
theorem s_dsub (X : Stand p l e R s m args below meth c T locs cells slots) (hx : p.tables.exec = Jvm.exec) {pc pc' : Nat} {Ls : Array Slot} {st : List Value} {x y : UInt64} (v : UInt64) (hd : decode c.code pc = .ok (.dsub, 1)) (hp : pc + 1 = pc') (hn : NoNaN64 (FP.dsub x y)) (hv : FP.dsub x y = v)
    (k : Goes p e below G (T.setTop (mkF m pc' Ls (.double v :: st)))) : Goes p e below G (T.setTop (mkF m pc Ls (.double y :: .double x :: st))) := by
  subst hp
  exact own_go (fun _ k => XS.dsubS X.here hx rfl hd rfl hn hv k) k
theorem s_dmul (X : Stand p l e R s m args below meth c T locs cells slots) (hx : p.tables.exec = Jvm.exec) {pc pc' : Nat} {Ls : Array Slot} {st : List Value} {x y : UInt64} (v : UInt64) (hd : decode c.code pc = .ok (.dmul, 1)) (hp : pc + 1 = pc') (hn : NoNaN64 (FP.dmul x y)) (hv : FP.dmul x y = v)
    (k : Goes p e below G (T.setTop (mkF m pc' Ls (.double v :: st)))) : Goes p e below G (T.setTop (mkF m pc Ls (.double y :: .double x :: st))) := by
  subst hp
  exact own_go (fun _ k => XS.dmulS X.here hx rfl hd rfl hn hv k) k
theorem s_ddiv (X : Stand p l e R s m args below meth c T locs cells slots) (hx : p.tables.exec = Jvm.exec) {pc pc' : Nat} {Ls : Array Slot} {st : List Value} {x y : UInt64} (v : UInt64) (hd : decode c.code pc = .ok (.ddiv, 1)) (hp : pc + 1 = pc') (hn : NoNaN64 (FP.ddiv x y)) (hv : FP.ddiv x y = v)
    (k : Goes p e below G (T.setTop (mkF m pc' Ls (.double v :: st)))) : Goes p e below G (T.setTop (mkF m pc Ls (.double y :: .double x :: st))) := by
  subst hp
  exact own_go (fun _ k => XS.ddivS X.here hx rfl hd rfl hn hv k) k
theorem s_lcmp (X : Stand p l e R s m args below meth c T locs cells slots) (hx : p.tables.exec = Jvm.exec) {pc pc' : Nat} {Ls : Array Slot} {st : List Value} {x y : Int64} (hd : decode c.code pc = .ok (.lcmp, 1)) (hp : pc + 1 = pc') 
    (k : Goes p e below G (T.setTop (mkF m pc' Ls (.int (XT.cmpL x y) :: st)))) : Goes p e below G (T.setTop (mkF m pc Ls (.long y :: .long x :: st))) := by
  subst hp
  exact own_go (fun _ k => XT.lcmp X.here hx rfl hd rfl k) k
theorem s_dcmp (X : Stand p l e R s m args below meth c T locs cells slots) (hx : p.tables.exec = Jvm.exec) {pc pc' : Nat} {Ls : Array Slot} {st : List Value} {x y : UInt64} {o : CmpOp} (v : Int32) (hd : decode c.code pc = .ok (.dcmp o, 1)) (hp : pc + 1 = pc') (hv : cmpValue (FP.dcmp x y) o = v)
    (k : Goes p e below G (T.setTop (mkF m pc' Ls (.int v :: st)))) : Goes p e below G (T.setTop (mkF m pc Ls (.double y :: .double x :: st))) := by
  subst hp
  exact own_go (fun _ k => XS.dcmpS X.here hx rfl hd rfl hv k) k
theorem s_dup (X : Stand p l e R s m args below meth c T locs cells slots) (hx : p.tables.exec = Jvm.exec) {pc pc' : Nat} {Ls : Array Slot} {st : List Value} {x : Value} (hd : decode c.code pc = .ok (.dup, 1)) (hp : pc + 1 = pc') (hc : x.category = 1)
    (k : Goes p e below G (T.setTop (mkF m pc' Ls (x :: x :: st)))) : Goes p e below G (T.setTop (mkF m pc Ls (x :: st))) := by
  subst hp
  exact own_go (fun _ k => XS.dup X.here hx rfl hd rfl hc k) k
theorem s_pop (X : Stand p l e R s m args below meth c T locs cells slots) (hx : p.tables.exec = Jvm.exec) {pc pc' : Nat} {Ls : Array Slot} {st : List Value} {x : Value} (hd : decode c.code pc = .ok (.pop, 1)) (hp : pc + 1 = pc') (hc : x.category = 1)
    (k : Goes p e below G (T.setTop (mkF m pc' Ls (st)))) : Goes p e below G (T.setTop (mkF m pc Ls (x :: st))) := by
  subst hp
  exact own_go (fun _ k => XT.pop X.here hx rfl hd rfl hc k) k
theorem s_pop2D (X : Stand p l e R s m args below meth c T locs cells slots) (hx : p.tables.exec = Jvm.exec) {pc pc' : Nat} {Ls : Array Slot} {st : List Value} {x : UInt64} (hd : decode c.code pc = .ok (.pop2, 1)) (hp : pc + 1 = pc')
    (k : Goes p e below G (T.setTop (mkF m pc' Ls st))) : Goes p e below G (T.setTop (mkF m pc Ls (.double x :: st))) := by
  subst hp
  refine own_go (fun _ k => ?_) k
  jvm_step X.here [X.here.top, hx, hd, Value.category]
  exact k
theorem s_dup2 (X : Stand p l e R s m args below meth c T locs cells slots) (hx : p.tables.exec = Jvm.exec) {pc pc' : Nat} {Ls : Array Slot} {st : List Value} {x y : Value} (hd : decode c.code pc = .ok (.dup2, 1)) (hp : pc + 1 = pc') (hc : x.category = 1) (hc' : y.category = 1)
    (k : Goes p e below G (T.setTop (mkF m pc' Ls (x :: y :: x :: y :: st)))) : Goes p e below G (T.setTop (mkF m pc Ls (x :: y :: st))) := by
  subst hp
  exact own_go (fun _ k => XT.dup2 X.here hx rfl hd rfl hc hc' k) k
theorem s_iinc (X : Stand p l e R s m args below meth c T locs cells slots) (hx : p.tables.exec = Jvm.exec) {pc pc' : Nat} {Ls : Array Slot} {st : List Value} {j : Nat} {i : Int} {x : Int32} (v : Int32) (l' : Array Slot) (hd : decode c.code pc = .ok (.iinc j i, 3)) (hp : pc + 3 = pc') (hl : Ls[j]? = some (.val (.int x))) (hv : x + Int32.ofInt i = v) (hl' : storeLocals Ls j (.int v) = some l')
    (k : Goes p e below G (T.setTop (mkF m pc' l' (st)))) : Goes p e below G (T.setTop (mkF m pc Ls (st))) := by
  subst hp
  exact own_go (fun _ k => XS.iinc X.here hx rfl hd hl (by rw [hv]; exact hl') k) k
theorem s_goto (X : Stand p l e R s m args below meth c T locs cells slots) (hx : p.tables.exec = Jvm.exec) {pc pc' : Nat} {Ls : Array Slot} {st : List Value}  {o : Int} (hd : decode c.code pc = .ok (.goto o, 3))  (ho : 0 ≤ (pc : Int) + o) (hp : ((pc : Int) + o).toNat = pc')
    (k : Goes p e below G (T.setTop (mkF m pc' Ls (st)))) : Goes p e below G (T.setTop (mkF m pc Ls (st))) := own_go (fun _ k => XS.goto X.here hx rfl rfl hd ho hp k) k
theorem s_ifY (X : Stand p l e R s m args below meth c T locs cells slots) (hx : p.tables.exec = Jvm.exec) {pc pc' : Nat} {Ls : Array Slot} {st : List Value} {cd : ClassFile.Cond} {x : Int32} {o : Int} (hd : decode c.code pc = .ok (.ifCond cd o, 3)) (hc : ifCond.holds cd x = true) (ho : 0 ≤ (pc : Int) + o) (hp : ((pc : Int) + o).toNat = pc')
    (k : Goes p e below G (T.setTop (mkF m pc' Ls (st)))) : Goes p e below G (T.setTop (mkF m pc Ls (.int x :: st))) := own_go (fun _ k => XS.ifYes X.here hx rfl rfl hd rfl hc ho hp k) k
theorem s_icmpY (X : Stand p l e R s m args below meth c T locs cells slots) (hx : p.tables.exec = Jvm.exec) {pc pc' : Nat} {Ls : Array Slot} {st : List Value} {cd : ClassFile.Cond} {x y : Int32} {o : Int} (hd : decode c.code pc = .ok (.if_icmp cd o, 3)) (hc : if_icmp.holds cd x y = true) (ho : 0 ≤ (pc : Int) + o) (hp : ((pc : Int) + o).toNat = pc')
    (k : Goes p e below G (T.setTop (mkF m pc' Ls (st)))) : Goes p e below G (T.setTop (mkF m pc Ls (.int y :: .int x :: st))) := own_go (fun _ k => XS.icmpYes X.here hx rfl rfl hd rfl hc ho hp k) k
theorem s_acmpY (X : Stand p l e R s m args below meth c T locs cells slots) (hx : p.tables.exec = Jvm.exec) {pc pc' : Nat} {Ls : Array Slot} {st : List Value} {cd : ClassFile.ACond} {x y : Value} {o : Int} (hd : decode c.code pc = .ok (.if_acmp cd o, 3)) (h1 : x.isRef = true) (h2 : y.isRef = true) (hc : XT.acmp cd x y = true) (ho : 0 ≤ (pc : Int) + o) (hp : ((pc : Int) + o).toNat = pc')
    (k : Goes p e below G (T.setTop (mkF m pc' Ls (st)))) : Goes p e below G (T.setTop (mkF m pc Ls (y :: x :: st))) := own_go (fun _ k => XT.acmpYes X.here hx rfl rfl hd rfl h1 h2 hc ho hp k) k
theorem s_nonnullY (X : Stand p l e R s m args below meth c T locs cells slots) (hx : p.tables.exec = Jvm.exec) {pc pc' : Nat} {Ls : Array Slot} {st : List Value} {b : Addr} {o : Int} (hd : decode c.code pc = .ok (.ifnonnull o, 3))  (ho : 0 ≤ (pc : Int) + o) (hp : ((pc : Int) + o).toNat = pc')
    (k : Goes p e below G (T.setTop (mkF m pc' Ls (st)))) : Goes p e below G (T.setTop (mkF m pc Ls (.ref b :: st))) := own_go (fun _ k => XT.ifnonnullYes X.here hx rfl rfl hd rfl ho hp k) k
theorem s_ifN (X : Stand p l e R s m args below meth c T locs cells slots) (hx : p.tables.exec = Jvm.exec) {pc pc' : Nat} {Ls : Array Slot} {st : List Value} {cd : ClassFile.Cond} {x : Int32} {o : Int} (hd : decode c.code pc = .ok (.ifCond cd o, 3)) (hp : pc + 3 = pc') (hc : ifCond.holds cd x = false)
    (k : Goes p e below G (T.setTop (mkF m pc' Ls (st)))) : Goes p e below G (T.setTop (mkF m pc Ls (.int x :: st))) := by
  subst hp
  exact own_go (fun _ k => XS.ifNo X.here hx rfl hd rfl hc k) k
theorem s_icmpN (X : Stand p l e R s m args below meth c T locs cells slots) (hx : p.tables.exec = Jvm.exec) {pc pc' : Nat} {Ls : Array Slot} {st : List Value} {cd : ClassFile.Cond} {x y : Int32} {o : Int} (hd : decode c.code pc = .ok (.if_icmp cd o, 3)) (hp : pc + 3 = pc') (hc : if_icmp.holds cd x y = false)
    (k : Goes p e below G (T.setTop (mkF m pc' Ls (st)))) : Goes p e below G (T.setTop (mkF m pc Ls (.int y :: .int x :: st))) := by
  subst hp
  exact own_go (fun _ k => XS.icmpNo X.here hx rfl hd rfl hc k) k
theorem s_acmpN (X : Stand p l e R s m args below meth c T locs cells slots) (hx : p.tables.exec = Jvm.exec) {pc pc' : Nat} {Ls : Array Slot} {st : List Value} {cd : ClassFile.ACond} {x y : Value} {o : Int} (hd : decode c.code pc = .ok (.if_acmp cd o, 3)) (hp : pc + 3 = pc') (h1 : x.isRef = true) (h2 : y.isRef = true) (hc : XT.acmp cd x y = false)
    (k : Goes p e below G (T.setTop (mkF m pc' Ls (st)))) : Goes p e below G (T.setTop (mkF m pc Ls (y :: x :: st))) := by
  subst hp
  exact own_go (fun _ k => XT.acmpNo X.here hx rfl hd rfl h1 h2 hc k) k
theorem s_nullN (X : Stand p l e R s m args below meth c T locs cells slots) (hx : p.tables.exec = Jvm.exec) {pc pc' : Nat} {Ls : Array Slot} {st : List Value} {b : Addr} {o : Int} (hd : decode c.code pc = .ok (.ifnull o, 3)) (hp : pc + 3 = pc') 
    (k : Goes p e below G (T.setTop (mkF m pc' Ls (st)))) : Goes p e below G (T.setTop (mkF m pc Ls (.ref b :: st))) := by
  subst hp
  exact own_go (fun _ k => XS.ifnullNo X.here hx rfl hd rfl k) k
end Own
theorem iy_lt {x : Int32} (h : x < 0) : ifCond.holds .lt x = true := by rw [if0]; exact (tlt h).1
theorem in_lt {x : Int32} (h : ¬ x < 0) : ifCond.holds .lt x = false := by rw [if0]; exact (flt h).1
theorem iy_ge {x : Int32} (h : ¬ x < 0) : ifCond.holds .ge x = true := by rw [if0]; exact (flt h).2.1
theorem in_ge {x : Int32} (h : x < 0) : ifCond.holds .ge x = false := by rw [if0]; exact (tlt h).2.1
theorem iy_gt {x : Int32} (h : 0 < x) : ifCond.holds .gt x = true := by rw [if0]; exact (tlt h).2.2.1
theorem in_gt {x : Int32} (h : ¬ 0 < x) : ifCond.holds .gt x = false := by rw [if0]; exact (flt h).2.2.1
theorem iy_le {x : Int32} (h : ¬ 0 < x) : ifCond.holds .le x = true := by rw [if0]; exact (flt h).2.2.2
theorem in_le {x : Int32} (h : 0 < x) : ifCond.holds .le x = false := by rw [if0]; exact (tlt h).2.2.2
theorem iy_eq {x : Int32} (h : x = 0) : ifCond.holds .eq x = true := by rw [if0]; exact (teq h).1
theorem in_eq {x : Int32} (h : ¬ x = 0) : ifCond.holds .eq x = false := by rw [if0]; exact (feq h).1
theorem iy_ne {x : Int32} (h : ¬ x = 0) : ifCond.holds .ne x = true := by rw [if0]; exact (feq h).2
theorem in_ne {x : Int32} (h : x = 0) : ifCond.holds .ne x = false := by rw [if0]; exact (teq h).2
theorem cy_lt {x y : Int32} (h : x < y) : if_icmp.holds .lt x y = true := (tlt h).1
theorem cn_lt {x y : Int32} (h : ¬ x < y) : if_icmp.holds .lt x y = false := (flt h).1
theorem cy_ge {x y : Int32} (h : ¬ x < y) : if_icmp.holds .ge x y = true := (flt h).2.1
theorem cn_ge {x y : Int32} (h : x < y) : if_icmp.holds .ge x y = false := (tlt h).2.1
theorem cy_gt {x y : Int32} (h : y < x) : if_icmp.holds .gt x y = true := (tlt h).2.2.1
theorem cn_gt {x y : Int32} (h : ¬ y < x) : if_icmp.holds .gt x y = false := (flt h).2.2.1
theorem cy_le {x y : Int32} (h : ¬ y < x) : if_icmp.holds .le x y = true := (flt h).2.2.2
theorem cn_le {x y : Int32} (h : y < x) : if_icmp.holds .le x y = false := (tlt h).2.2.2
theorem cy_eq {x y : Int32} (h : x = y) : if_icmp.holds .eq x y = true := (teq h).1
theorem cn_eq {x y : Int32} (h : ¬ x = y) : if_icmp.holds .eq x y = false := (feq h).1
theorem cy_ne {x y : Int32} (h : ¬ x = y) : if_icmp.holds .ne x y = true := (feq h).2
theorem cn_ne {x y : Int32} (h : x = y) : if_icmp.holds .ne x y = false := (teq h).2
def own_cust (c k : Int32) : Int32 := if c < 1 then 0 else if c < k then 1 else 0
theorem own_cust_lo {c : Int32} (h : c < 1) (k : Int32) : own_cust c k = 0 := by rw [own_cust, if_pos h]
theorem own_cust_in {c n k : Int32} (hk : n.toInt + 1 = k.toInt) (h1 : ¬ c < 1) (h2 : ¬ n < c) : own_cust c k = 1 := by
  have : c < k := by rw [Int32.lt_iff_toInt_lt] at h2 ⊢; omega
  rw [own_cust, if_neg h1, if_pos this]
theorem own_cust_hi {c n k : Int32} (hk : n.toInt + 1 = k.toInt) (h1 : ¬ c < 1) (h2 : n < c) : own_cust c k = 0 := by
  have : ¬ c < k := by rw [Int32.lt_iff_toInt_lt] at h2 ⊢; omega
  rw [own_cust, if_neg h1, if_neg this]
theorem own_k (a : Int32) : let k := ((a &&& (3 : Int32)) + (2 : Int32)); k = 2 ∨ k = 3 ∨ k = 4 ∨ k = 5 := by
  intro k
  have k1 := c_mask a 3 2 (by decide) (by decide)
  have k2 : (k.toInt - ((a &&& (3 : Int32)).toInt + (2 : Int32).toInt)) % 4294967296 = 0 := c_iadd (a &&& (3 : Int32)) 2
  have k3 := rng32 k
  rw [k1, show (2 : Int32).toInt = 2 from rfl] at k2
  simp only [← Int32.toInt_inj]
  show k.toInt = 2 ∨ k.toInt = 3 ∨ k.toInt = 4 ∨ k.toInt = 5
  omega
theorem own_str {Z : State} {a0 : Array Value} (hw : ∀ d ∈ tables_1, d.before a0 Z = true) : ∀ d ∈ Bundle.stringAtoms, d.before a0 Z = true := by
  intro d hd
  simp only [Bundle.stringAtoms, List.mem_cons, List.not_mem_nil, or_false] at hd
  rcases hd with rfl | rfl | rfl | rfl | rfl | rfl | rfl
  · exact (hw _ (List.mem_of_getElem? (i := 6) rfl))
  · exact (hw _ (List.mem_of_getElem? (i := 7) rfl))
  · exact (hw _ (List.mem_of_getElem? (i := 8) rfl))
  · exact (hw _ (List.mem_of_getElem? (i := 9) rfl))
  · exact (hw _ (List.mem_of_getElem? (i := 10) rfl))
  · exact (hw _ (List.mem_of_getElem? (i := 11) rfl))
  · exact (hw _ (List.mem_of_getElem? (i := 12) rfl))
theorem d3_0 : decode prog_8_method_2_code 0 = .ok (.dload_n 0, 1) := by decide +kernel
theorem d3_1 : decode prog_8_method_2_code 1 = .ok (.invokestatic 52, 3) := by decide +kernel
theorem d3_4 : decode prog_8_method_2_code 4 = .ok (.ldc2_w 58, 3) := by decide +kernel
theorem d3_7 : decode prog_8_method_2_code 7 = .ok (.dcmp .g, 1) := by decide +kernel
theorem d3_8 : decode prog_8_method_2_code 8 = .ok (.ifCond .gt 7, 3) := by decide +kernel
theorem d3_11 : decode prog_8_method_2_code 11 = .ok (.iconst 1, 1) := by decide +kernel
theorem d3_12 : decode prog_8_method_2_code 12 = .ok (.goto 4, 3) := by decide +kernel
theorem d3_15 : decode prog_8_method_2_code 15 = .ok (.iconst 0, 1) := by decide +kernel
theorem d3_16 : decode prog_8_method_2_code 16 = .ok (.ireturn, 1) := by decide +kernel
theorem pn_3 : plainName "com/example/vicinity/vicinity/instance/Instance" = true := by first | (simp [plainName, overriddenIn]; done) | decide +kernel
theorem ef_3 (z0 : UInt64) (m : MethodId) : entryFrame m #[.double z0] 2 = mkF m 0 #[.val (.double z0), .second] [] := by first | (simp [entryFrame, mkF, argsToLocals, Value.category, maxLocals]; done) | rfl
set_option maxRecDepth 65536 in
set_option maxHeartbeats 40000000 in
theorem rm_3 (l : Launch) (Z : State) (a0 : Array Value) (hw : ∀ d ∈ tables_1, d.before a0 Z = true) (ws : List Jvm.Cond)  (h0 : Heap) (n0 : Nat) (Z0 : n0 ≤ h0.size)  :
    OwnMet l Z (⟨"com/example/vicinity/vicinity/instance/Instance", "isCoordinate", "(D)Z"⟩ : MethodName) prog_8_method_2_code 2 (some .boolean) ws ({ frames := 1, cells := 0, slots := 0, locals := 13 } : Room) #[.double 0] h0 (fun v h L => v = some (.int (1 : Int32)) ∧ Fr n0 L ∧ h = h0) := by
  refine own_met (plainFor_of_name pn_3) (ef_3 0) ?_
  intro p e s m below meth c s₁ hx hby hml hZ hown hnm hret hlk X0 e0
  have N0 := Fr.nil n0
  refine s_dloadN X0 hx (hb hby d3_0) (pc' := 1) rfl rfl ?_
  refine s_absD X0 hx hZ hown (hw _ (List.mem_of_getElem? (i := 22) rfl)) (hw _ (List.mem_of_getElem? (i := 23) rfl)) (hw _ (List.mem_of_getElem? (i := 24) rfl)) (hw _ (List.mem_of_getElem? (i := 25) rfl)) e0 (by unfold NoNaN64; decide) (W := 0) (by decide) (by decide) (by rw [hml]; rfl) (Nat.le_of_eq rfl) (hb hby d3_1) (pc' := 4) rfl ?_
  intro T1 X1 e1
  refine s_ldcD X1 hx hZ hown (hw _ (List.mem_of_getElem? (i := 26) rfl)) (hb hby d3_4) (pc' := 7) rfl ?_
  refine s_dcmp X1 hx (-1 : Int32) (hb hby d3_7) (pc' := 8) rfl (by decide +kernel) ?_
  refine s_ifN X1 hx (hb hby d3_8) (pc' := 11) rfl (by decide) ?_
  refine s_iconst X1 hx (1 : Int32) (hb hby d3_11) (pc' := 12) rfl rfl ?_
  refine s_goto X1 hx (hb hby d3_12) (by decide) (pc' := 16) (by decide) ?_
  exact s_retI X1 hx hlk hret (hb hby d3_16) rfl (Or.inl ⟨rfl, by simp, _, rfl⟩) (by decide) (by decide) ⟨rfl, N0, e1⟩
theorem d5_0 : decode prog_8_method_6_code 0 = .ok (.iload_n 1, 1) := by decide +kernel
theorem d5_1 : decode prog_8_method_6_code 1 = .ok (.iconst 1, 1) := by decide +kernel
theorem d5_2 : decode prog_8_method_6_code 2 = .ok (.if_icmp .lt 16, 3) := by decide +kernel
theorem d5_5 : decode prog_8_method_6_code 5 = .ok (.iload_n 1, 1) := by decide +kernel
theorem d5_6 : decode prog_8_method_6_code 6 = .ok (.aload_n 0, 1) := by decide +kernel
theorem d5_7 : decode prog_8_method_6_code 7 = .ok (.getfield 40, 3) := by decide +kernel
theorem d5_10 : decode prog_8_method_6_code 10 = .ok (.arraylength, 1) := by decide +kernel
theorem d5_11 : decode prog_8_method_6_code 11 = .ok (.if_icmp .ge 7, 3) := by decide +kernel
theorem d5_14 : decode prog_8_method_6_code 14 = .ok (.iconst 1, 1) := by decide +kernel
theorem d5_15 : decode prog_8_method_6_code 15 = .ok (.goto 4, 3) := by decide +kernel
theorem d5_18 : decode prog_8_method_6_code 18 = .ok (.iconst 0, 1) := by decide +kernel
theorem d5_19 : decode prog_8_method_6_code 19 = .ok (.ireturn, 1) := by decide +kernel
theorem pn_5 : plainName "com/example/vicinity/vicinity/instance/Instance" = true := by first | (simp [plainName, overriddenIn]; done) | decide +kernel
theorem ef_5 (z0 : Addr) (z1 : Int32) (m : MethodId) : entryFrame m #[.ref z0, .int z1] 2 = mkF m 0 #[.val (.ref z0), .val (.int z1)] [] := by first | (simp [entryFrame, mkF, argsToLocals, Value.category, maxLocals]; done) | rfl
set_option maxRecDepth 65536 in
set_option maxHeartbeats 40000000 in
theorem rm_5 (l : Launch) (Z : State) (a0 : Array Value) (hw : ∀ d ∈ tables_1, d.before a0 Z = true) (ws : List Jvm.Cond) (a : Addr) (c1 : Int32) (rx : Addr) (kx : ClassId) (k1 : Int32) (vx : List Value) (h0 : Heap) (n0 : Nat) (Z0 : n0 ≤ h0.size) (Gx : Fld Z h0 a "com/example/vicinity/vicinity/instance/Instance" "x" "[D" (.ref rx)) (Vx : Arv Z h0 rx kx .double k1 vx (.double 0)) :
    OwnMet l Z (⟨"com/example/vicinity/vicinity/instance/Instance", "isCustomer", "(I)Z"⟩ : MethodName) prog_8_method_6_code 2 (some .boolean) ws ({ frames := 0, cells := 0, slots := 0, locals := 0 } : Room) #[.ref a, .int c1] h0 (fun v h L => v = some (.int (own_cust c1 k1)) ∧ Fr n0 L ∧ h = h0) := by
  refine own_met (plainFor_of_name pn_5) (ef_5 a c1) ?_
  intro p e s m below meth c s₁ hx hby hml hZ hown hnm hret hlk X0 e0
  have N0 := Fr.nil n0
  refine s_iloadN X0 hx (hb hby d5_0) (pc' := 1) rfl rfl ?_
  refine s_iconst X0 hx (1 : Int32) (hb hby d5_1) (pc' := 2) rfl rfl ?_
  by_cases h1 : c1 < 1
  ·
    refine s_icmpY X0 hx (hb hby d5_2) (cy_lt h1) (by decide) (pc' := 18) (by decide) ?_
    refine s_iconst X0 hx (0 : Int32) (hb hby d5_18) (pc' := 19) rfl rfl ?_
    exact s_retI X0 hx hlk hret (hb hby d5_19) rfl (Or.inl ⟨rfl, by simp, _, rfl⟩) (by decide) (by decide) ⟨by rw [own_cust, if_pos h1], N0, e0⟩
  ·
    refine s_icmpN X0 hx (hb hby d5_2) (pc' := 5) rfl (cn_lt h1) ?_
    refine s_iloadN X0 hx (hb hby d5_5) (pc' := 6) rfl rfl ?_
    refine s_aloadN X0 hx (hb hby d5_6) (pc' := 7) rfl rfl rfl ?_
    refine s_getF X0 hx hZ hown (hw _ (List.mem_of_getElem? (i := 40) rfl)) e0 Gx (hb hby d5_7) (pc' := 10) rfl ?_
    intro T1 X1 e1
    refine s_len X1 hx hZ e1 Vx (hb hby d5_10) (pc' := 11) rfl ?_
    by_cases h2 : c1 < k1
    ·
      refine s_icmpN X1 hx (hb hby d5_11) (pc' := 14) rfl (cn_ge h2) ?_
      refine s_iconst X1 hx (1 : Int32) (hb hby d5_14) (pc' := 15) rfl rfl ?_
      refine s_goto X1 hx (hb hby d5_15) (by decide) (pc' := 19) (by decide) ?_
      exact s_retI X1 hx hlk hret (hb hby d5_19) rfl (Or.inl ⟨rfl, by simp, _, rfl⟩) (by decide) (by decide) ⟨by rw [own_cust, if_neg h1, if_pos h2], N0, e1⟩
    ·
      refine s_icmpY X1 hx (hb hby d5_11) (cy_ge h2) (by decide) (pc' := 18) (by decide) ?_
      refine s_iconst X1 hx (0 : Int32) (hb hby d5_18) (pc' := 19) rfl rfl ?_
      exact s_retI X1 hx hlk hret (hb hby d5_19) rfl (Or.inl ⟨rfl, by simp, _, rfl⟩) (by decide) (by decide) ⟨by rw [own_cust, if_neg h1, if_neg h2], N0, e1⟩
theorem d1_0 : decode prog_8_method_1_code 0 = .ok (.aload_n 0, 1) := by decide +kernel
theorem d1_1 : decode prog_8_method_1_code 1 = .ok (.invokespecial 1, 3) := by decide +kernel
theorem d1_4 : decode prog_8_method_1_code 4 = .ok (.aload_n 3, 1) := by decide +kernel
theorem d1_5 : decode prog_8_method_1_code 5 = .ok (.arraylength, 1) := by decide +kernel
theorem d1_6 : decode prog_8_method_1_code 6 = .ok (.iconst 2, 1) := by decide +kernel
theorem d1_7 : decode prog_8_method_1_code 7 = .ok (.if_icmp .lt 19, 3) := by decide +kernel
theorem d1_10 : decode prog_8_method_1_code 10 = .ok (.aload 4, 2) := by decide +kernel
theorem d1_12 : decode prog_8_method_1_code 12 = .ok (.arraylength, 1) := by decide +kernel
theorem d1_13 : decode prog_8_method_1_code 13 = .ok (.aload_n 3, 1) := by decide +kernel
theorem d1_14 : decode prog_8_method_1_code 14 = .ok (.arraylength, 1) := by decide +kernel
theorem d1_15 : decode prog_8_method_1_code 15 = .ok (.if_icmp .ne 11, 3) := by decide +kernel
theorem d1_18 : decode prog_8_method_1_code 18 = .ok (.aload 5, 2) := by decide +kernel
theorem d1_20 : decode prog_8_method_1_code 20 = .ok (.arraylength, 1) := by decide +kernel
theorem d1_21 : decode prog_8_method_1_code 21 = .ok (.aload_n 3, 1) := by decide +kernel
theorem d1_22 : decode prog_8_method_1_code 22 = .ok (.arraylength, 1) := by decide +kernel
theorem d1_23 : decode prog_8_method_1_code 23 = .ok (.if_icmp .eq 13, 3) := by decide +kernel
theorem d1_26 : decode prog_8_method_1_code 26 = .ok (.new 7, 3) := by decide +kernel
theorem d1_29 : decode prog_8_method_1_code 29 = .ok (.dup, 1) := by decide +kernel
theorem d1_30 : decode prog_8_method_1_code 30 = .ok (.ldc 9, 2) := by decide +kernel
theorem d1_32 : decode prog_8_method_1_code 32 = .ok (.invokespecial 11, 3) := by decide +kernel
theorem d1_35 : decode prog_8_method_1_code 35 = .ok (.athrow, 1) := by decide +kernel
theorem d1_36 : decode prog_8_method_1_code 36 = .ok (.iload_n 2, 1) := by decide +kernel
theorem d1_37 : decode prog_8_method_1_code 37 = .ok (.iconst 1, 1) := by decide +kernel
theorem d1_38 : decode prog_8_method_1_code 38 = .ok (.if_icmp .ge 17, 3) := by decide +kernel
theorem d1_41 : decode prog_8_method_1_code 41 = .ok (.new 7, 3) := by decide +kernel
theorem d1_44 : decode prog_8_method_1_code 44 = .ok (.dup, 1) := by decide +kernel
theorem d1_45 : decode prog_8_method_1_code 45 = .ok (.iload_n 2, 1) := by decide +kernel
theorem d1_46 : decode prog_8_method_1_code 46 = .ok (.invokedynamic 14, 5) := by decide +kernel
theorem d1_51 : decode prog_8_method_1_code 51 = .ok (.invokespecial 11, 3) := by decide +kernel
theorem d1_54 : decode prog_8_method_1_code 54 = .ok (.athrow, 1) := by decide +kernel
theorem d1_55 : decode prog_8_method_1_code 55 = .ok (.iconst 0, 1) := by decide +kernel
theorem d1_56 : decode prog_8_method_1_code 56 = .ok (.istore 6, 2) := by decide +kernel
theorem d1_58 : decode prog_8_method_1_code 58 = .ok (.iload 6, 2) := by decide +kernel
theorem d1_60 : decode prog_8_method_1_code 60 = .ok (.aload_n 3, 1) := by decide +kernel
theorem d1_61 : decode prog_8_method_1_code 61 = .ok (.arraylength, 1) := by decide +kernel
theorem d1_62 : decode prog_8_method_1_code 62 = .ok (.if_icmp .ge 73, 3) := by decide +kernel
theorem d1_65 : decode prog_8_method_1_code 65 = .ok (.aload_n 3, 1) := by decide +kernel
theorem d1_66 : decode prog_8_method_1_code 66 = .ok (.iload 6, 2) := by decide +kernel
theorem d1_68 : decode prog_8_method_1_code 68 = .ok (.daload, 1) := by decide +kernel
theorem d1_69 : decode prog_8_method_1_code 69 = .ok (.invokestatic 18, 3) := by decide +kernel
theorem d1_72 : decode prog_8_method_1_code 72 = .ok (.ifCond .eq 14, 3) := by decide +kernel
theorem d1_75 : decode prog_8_method_1_code 75 = .ok (.aload 4, 2) := by decide +kernel
theorem d1_77 : decode prog_8_method_1_code 77 = .ok (.iload 6, 2) := by decide +kernel
theorem d1_79 : decode prog_8_method_1_code 79 = .ok (.daload, 1) := by decide +kernel
theorem d1_80 : decode prog_8_method_1_code 80 = .ok (.invokestatic 18, 3) := by decide +kernel
theorem d1_83 : decode prog_8_method_1_code 83 = .ok (.ifCond .ne 18, 3) := by decide +kernel
theorem d1_86 : decode prog_8_method_1_code 86 = .ok (.new 7, 3) := by decide +kernel
theorem d1_89 : decode prog_8_method_1_code 89 = .ok (.dup, 1) := by decide +kernel
theorem d1_90 : decode prog_8_method_1_code 90 = .ok (.iload 6, 2) := by decide +kernel
theorem d1_92 : decode prog_8_method_1_code 92 = .ok (.invokedynamic 24, 5) := by decide +kernel
theorem d1_97 : decode prog_8_method_1_code 97 = .ok (.invokespecial 11, 3) := by decide +kernel
theorem d1_100 : decode prog_8_method_1_code 100 = .ok (.athrow, 1) := by decide +kernel
theorem d1_101 : decode prog_8_method_1_code 101 = .ok (.iload 6, 2) := by decide +kernel
theorem d1_103 : decode prog_8_method_1_code 103 = .ok (.ifCond .le 26, 3) := by decide +kernel
theorem d1_106 : decode prog_8_method_1_code 106 = .ok (.aload 5, 2) := by decide +kernel
theorem d1_108 : decode prog_8_method_1_code 108 = .ok (.iload 6, 2) := by decide +kernel
theorem d1_110 : decode prog_8_method_1_code 110 = .ok (.iaload, 1) := by decide +kernel
theorem d1_111 : decode prog_8_method_1_code 111 = .ok (.ifCond .ge 18, 3) := by decide +kernel
theorem d1_114 : decode prog_8_method_1_code 114 = .ok (.new 7, 3) := by decide +kernel
theorem d1_117 : decode prog_8_method_1_code 117 = .ok (.dup, 1) := by decide +kernel
theorem d1_118 : decode prog_8_method_1_code 118 = .ok (.iload 6, 2) := by decide +kernel
theorem d1_120 : decode prog_8_method_1_code 120 = .ok (.invokedynamic 25, 5) := by decide +kernel
theorem d1_125 : decode prog_8_method_1_code 125 = .ok (.invokespecial 11, 3) := by decide +kernel
theorem d1_128 : decode prog_8_method_1_code 128 = .ok (.athrow, 1) := by decide +kernel
theorem d1_129 : decode prog_8_method_1_code 129 = .ok (.iinc 6 1, 3) := by decide +kernel
theorem d1_132 : decode prog_8_method_1_code 132 = .ok (.goto (-74), 3) := by decide +kernel
theorem d1_135 : decode prog_8_method_1_code 135 = .ok (.aload_n 0, 1) := by decide +kernel
theorem d1_136 : decode prog_8_method_1_code 136 = .ok (.aload_n 1, 1) := by decide +kernel
theorem d1_137 : decode prog_8_method_1_code 137 = .ok (.putfield 26, 3) := by decide +kernel
theorem d1_140 : decode prog_8_method_1_code 140 = .ok (.aload_n 0, 1) := by decide +kernel
theorem d1_141 : decode prog_8_method_1_code 141 = .ok (.iload_n 2, 1) := by decide +kernel
theorem d1_142 : decode prog_8_method_1_code 142 = .ok (.putfield 30, 3) := by decide +kernel
theorem d1_145 : decode prog_8_method_1_code 145 = .ok (.aload_n 0, 1) := by decide +kernel
theorem d1_146 : decode prog_8_method_1_code 146 = .ok (.aload_n 3, 1) := by decide +kernel
theorem d1_147 : decode prog_8_method_1_code 147 = .ok (.invokevirtual 34, 3) := by decide +kernel
theorem d1_150 : decode prog_8_method_1_code 150 = .ok (.checkcast 35, 3) := by decide +kernel
theorem d1_153 : decode prog_8_method_1_code 153 = .ok (.putfield 40, 3) := by decide +kernel
theorem d1_156 : decode prog_8_method_1_code 156 = .ok (.aload_n 0, 1) := by decide +kernel
theorem d1_157 : decode prog_8_method_1_code 157 = .ok (.aload 4, 2) := by decide +kernel
theorem d1_159 : decode prog_8_method_1_code 159 = .ok (.invokevirtual 34, 3) := by decide +kernel
theorem d1_162 : decode prog_8_method_1_code 162 = .ok (.checkcast 35, 3) := by decide +kernel
theorem d1_165 : decode prog_8_method_1_code 165 = .ok (.putfield 43, 3) := by decide +kernel
theorem d1_168 : decode prog_8_method_1_code 168 = .ok (.aload_n 0, 1) := by decide +kernel
theorem d1_169 : decode prog_8_method_1_code 169 = .ok (.aload 5, 2) := by decide +kernel
theorem d1_171 : decode prog_8_method_1_code 171 = .ok (.invokevirtual 46, 3) := by decide +kernel
theorem d1_174 : decode prog_8_method_1_code 174 = .ok (.checkcast 47, 3) := by decide +kernel
theorem d1_177 : decode prog_8_method_1_code 177 = .ok (.putfield 49, 3) := by decide +kernel
theorem d1_180 : decode prog_8_method_1_code 180 = .ok (.return_, 1) := by decide +kernel
theorem pn_1 : plainName "com/example/vicinity/vicinity/instance/Instance" = true := by first | (simp [plainName, overriddenIn]; done) | decide +kernel
theorem pd_0 : parseMethodDescriptor "(D)Z" = some ⟨[.double], some .boolean⟩ := by decide +kernel
theorem ef_1 (z0 : Addr) (z1 : Addr) (z2 : Int32) (z3 : Addr) (z4 : Addr) (z5 : Addr) (m : MethodId) : entryFrame m #[.ref z0, .ref z1, .int z2, .ref z3, .ref z4, .ref z5] 7 = mkF m 0 #[.val (.ref z0), .val (.ref z1), .val (.int z2), .val (.ref z3), .val (.ref z4), .val (.ref z5), .unset] [] := by first | (simp [entryFrame, mkF, argsToLocals, Value.category, maxLocals]; done) | rfl
set_option maxRecDepth 65536 in
set_option maxHeartbeats 40000000 in
theorem rm_1_2 (l : Launch) (Z : State) (a0 : Array Value) (hw : ∀ d ∈ tables_1, d.before a0 Z = true) (ws : List Jvm.Cond) (a : Addr) (b : Addr) (ax : Addr) (ay : Addr) (ad : Addr) (kax : ClassId) (kay : ClassId) (kad : ClassId) (vo0 : Value) (vo1 : Value) (vo2 : Value) (vo3 : Value) (vo4 : Value) (h0 : Heap) (n0 : Nat) (Z0 : n0 ≤ h0.size) (Ea : Exa Z h0 a "com/example/vicinity/vicinity/instance/Instance") (G0 : (Fld Z h0 a "com/example/vicinity/vicinity/instance/Instance" "name" "Ljava/lang/String;" vo0)) (G1 : (Fld Z h0 a "com/example/vicinity/vicinity/instance/Instance" "capacity" "I" vo1)) (G2 : (Fld Z h0 a "com/example/vicinity/vicinity/instance/Instance" "x" "[D" vo2)) (G3 : (Fld Z h0 a "com/example/vicinity/vicinity/instance/Instance" "y" "[D" vo3)) (G4 : (Fld Z h0 a "com/example/vicinity/vicinity/instance/Instance" "demands" "[I" vo4)) (Vax : Arv Z h0 ax kax .double (2 : Int32) [.double 0, .double 0] (.double 0)) (Vay : Arv Z h0 ay kay .double (2 : Int32) [.double 0, .double 0] (.double 0)) (Vad : Arv Z h0 ad kad .int (2 : Int32) [.int 0, .int 0] (.int 0)) (Eax : Exa Z h0 ax "[D") (Eay : Exa Z h0 ay "[D") (Ead : Exa Z h0 ad "[I") (nax : ax ≠ a) (nay : ay ≠ a) (nad : ad ≠ a) (ga : n0 ≤ a) :
    OwnMet l Z (⟨"com/example/vicinity/vicinity/instance/Instance", "<init>", "(Ljava/lang/String;I[D[D[I)V"⟩ : MethodName) prog_8_method_1_code 7 none ws ({ frames := 2, cells := 3, slots := 15, locals := 26 } : Room) #[.ref a, .ref b, .int (1 : Int32), .ref ax, .ref ay, .ref ad] h0 (fun v h L => v = none ∧ Fr n0 L ∧ Keep h0 h [a] ∧ Exa Z h a "com/example/vicinity/vicinity/instance/Instance" ∧ ∃ (rx : Addr) (kx : ClassId), (Fld Z h a "com/example/vicinity/vicinity/instance/Instance" "x" "[D" (.ref rx)) ∧ Arv Z h rx kx .double (2 : Int32) [.double 0, .double 0] (.double 0)) := by
  refine own_met (plainFor_of_name pn_1) (ef_1 a b (1 : Int32) ax ay ad) ?_
  intro p e s m below meth c s₁ hx hby hml hZ hown hnm hret hlk X0 e0
  have N0 := Fr.nil n0
  refine s_aloadN X0 hx (hb hby d1_0) (pc' := 1) rfl rfl rfl ?_
  refine s_initO X0 hx hZ hown (hw _ (List.mem_of_getElem? (i := 16) rfl)) (hw _ (List.mem_of_getElem? (i := 17) rfl)) (hw _ (List.mem_of_getElem? (i := 18) rfl)) e0 (hb hby d1_1) (pc' := 4) rfl (by rw [hml]; rfl) (by decide) (W := 0) (Nat.le_of_eq rfl) (by decide) ?_
  intro T1 X1 e1
  refine s_aloadN X1 hx (hb hby d1_4) (pc' := 5) rfl rfl rfl ?_
  refine s_len X1 hx hZ e1 Vax (hb hby d1_5) (pc' := 6) rfl ?_
  refine s_iconst X1 hx (2 : Int32) (hb hby d1_6) (pc' := 7) rfl rfl ?_
  refine s_icmpN X1 hx (hb hby d1_7) (pc' := 10) rfl (by decide) ?_
  refine s_aload X1 hx (hb hby d1_10) (pc' := 12) rfl rfl rfl ?_
  refine s_len X1 hx hZ e1 Vay (hb hby d1_12) (pc' := 13) rfl ?_
  refine s_aloadN X1 hx (hb hby d1_13) (pc' := 14) rfl rfl rfl ?_
  refine s_len X1 hx hZ e1 Vax (hb hby d1_14) (pc' := 15) rfl ?_
  refine s_icmpN X1 hx (hb hby d1_15) (pc' := 18) rfl (by decide) ?_
  refine s_aload X1 hx (hb hby d1_18) (pc' := 20) rfl rfl rfl ?_
  refine s_len X1 hx hZ e1 Vad (hb hby d1_20) (pc' := 21) rfl ?_
  refine s_aloadN X1 hx (hb hby d1_21) (pc' := 22) rfl rfl rfl ?_
  refine s_len X1 hx hZ e1 Vax (hb hby d1_22) (pc' := 23) rfl ?_
  refine s_icmpY X1 hx (hb hby d1_23) (by decide) (by decide) (pc' := 36) (by decide) ?_
  refine s_iloadN X1 hx (hb hby d1_36) (pc' := 37) rfl rfl ?_
  refine s_iconst X1 hx (1 : Int32) (hb hby d1_37) (pc' := 38) rfl rfl ?_
  refine s_icmpY X1 hx (hb hby d1_38) (by decide) (by decide) (pc' := 55) (by decide) ?_
  refine s_iconst X1 hx (0 : Int32) (hb hby d1_55) (pc' := 56) rfl rfl ?_
  refine s_istore X1 hx #[.val (.ref a), .val (.ref b), .val (.int (1 : Int32)), .val (.ref ax), .val (.ref ay), .val (.ref ad), .val (.int (0 : Int32))] (hb hby d1_56) (pc' := 58) rfl rfl ?_
  refine s_iload X1 hx (hb hby d1_58) (pc' := 60) rfl rfl ?_
  refine s_aloadN X1 hx (hb hby d1_60) (pc' := 61) rfl rfl rfl ?_
  refine s_len X1 hx hZ e1 Vax (hb hby d1_61) (pc' := 62) rfl ?_
  refine s_icmpN X1 hx (hb hby d1_62) (pc' := 65) rfl (by decide) ?_
  refine s_aloadN X1 hx (hb hby d1_65) (pc' := 66) rfl rfl rfl ?_
  refine s_iload X1 hx (hb hby d1_66) (pc' := 68) rfl rfl ?_
  refine s_daload X1 hx hZ e1 Vax (by decide) (v := .double 0) rfl (hb hby d1_68) (pc' := 69) rfl ?_
  refine c_static X1 hx hZ hown (hw _ (List.mem_of_getElem? (i := 19) rfl)) (hw _ (List.mem_of_getElem? (i := 20) rfl)) (hw _ (List.mem_of_getElem? (i := 4) rfl)) (hw _ (List.mem_of_getElem? (i := 21) rfl)) (by decide) e1 (rm_3 l Z a0 hw [] h0 n0 (Nat.le_trans Z0 (Nat.le_refl _))) (W := 0) (by decide) (by decide) (by decide) (by decide) (by rw [hml]; rfl) (argsL := [.double 0]) (rest := []) (lenOf pd_0 rfl) rfl rfl (Nat.le_of_eq rfl) (hb hby d1_69) (pc' := 72) rfl ?_
  intro T2 v2 L2 X2 hQ2
  obtain ⟨rfl, Nq2, eh2⟩ := hQ2
  have N2 := Fr.app N0 Nq2
  show Goes p e below _ (T2.setTop (mkF m 72 #[.val (.ref a), .val (.ref b), .val (.int (1 : Int32)), .val (.ref ax), .val (.ref ay), .val (.ref ad), .val (.int (0 : Int32))] [.int (1 : Int32)]))
  refine s_ifN X2 hx (hb hby d1_72) (pc' := 75) rfl (by decide) ?_
  refine s_aload X2 hx (hb hby d1_75) (pc' := 77) rfl rfl rfl ?_
  refine s_iload X2 hx (hb hby d1_77) (pc' := 79) rfl rfl ?_
  refine s_daload X2 hx hZ eh2 Vay (by decide) (v := .double 0) rfl (hb hby d1_79) (pc' := 80) rfl ?_
  refine c_static X2 hx hZ hown (hw _ (List.mem_of_getElem? (i := 19) rfl)) (hw _ (List.mem_of_getElem? (i := 20) rfl)) (hw _ (List.mem_of_getElem? (i := 4) rfl)) (hw _ (List.mem_of_getElem? (i := 21) rfl)) (by decide) eh2 (rm_3 l Z a0 hw [] h0 n0 (Nat.le_trans Z0 (Nat.le_refl _))) (W := 0) (by decide) (by decide) (by decide) (by decide) (by rw [hml]; rfl) (argsL := [.double 0]) (rest := []) (lenOf pd_0 rfl) rfl rfl (Nat.le_of_eq rfl) (hb hby d1_80) (pc' := 83) rfl ?_
  intro T3 v3 L3 X3 hQ3
  obtain ⟨rfl, Nq3, eh3⟩ := hQ3
  have N3 := Fr.app N2 Nq3
  show Goes p e below _ (T3.setTop (mkF m 83 #[.val (.ref a), .val (.ref b), .val (.int (1 : Int32)), .val (.ref ax), .val (.ref ay), .val (.ref ad), .val (.int (0 : Int32))] [.int (1 : Int32)]))
  refine s_ifY X3 hx (hb hby d1_83) (by decide) (by decide) (pc' := 101) (by decide) ?_
  refine s_iload X3 hx (hb hby d1_101) (pc' := 103) rfl rfl ?_
  refine s_ifY X3 hx (hb hby d1_103) (by decide) (by decide) (pc' := 129) (by decide) ?_
  refine s_iinc X3 hx (1 : Int32) #[.val (.ref a), .val (.ref b), .val (.int (1 : Int32)), .val (.ref ax), .val (.ref ay), .val (.ref ad), .val (.int (1 : Int32))] (hb hby d1_129) (pc' := 132) rfl rfl (by decide) rfl ?_
  refine s_goto X3 hx (hb hby d1_132) (by decide) (pc' := 58) (by decide) ?_
  refine s_iload X3 hx (hb hby d1_58) (pc' := 60) rfl rfl ?_
  refine s_aloadN X3 hx (hb hby d1_60) (pc' := 61) rfl rfl rfl ?_
  refine s_len X3 hx hZ eh3 Vax (hb hby d1_61) (pc' := 62) rfl ?_
  refine s_icmpN X3 hx (hb hby d1_62) (pc' := 65) rfl (by decide) ?_
  refine s_aloadN X3 hx (hb hby d1_65) (pc' := 66) rfl rfl rfl ?_
  refine s_iload X3 hx (hb hby d1_66) (pc' := 68) rfl rfl ?_
  refine s_daload X3 hx hZ eh3 Vax (by decide) (v := .double 0) rfl (hb hby d1_68) (pc' := 69) rfl ?_
  refine c_static X3 hx hZ hown (hw _ (List.mem_of_getElem? (i := 19) rfl)) (hw _ (List.mem_of_getElem? (i := 20) rfl)) (hw _ (List.mem_of_getElem? (i := 4) rfl)) (hw _ (List.mem_of_getElem? (i := 21) rfl)) (by decide) eh3 (rm_3 l Z a0 hw [] h0 n0 (Nat.le_trans Z0 (Nat.le_refl _))) (W := 0) (by decide) (by decide) (by decide) (by decide) (by rw [hml]; rfl) (argsL := [.double 0]) (rest := []) (lenOf pd_0 rfl) rfl rfl (Nat.le_of_eq rfl) (hb hby d1_69) (pc' := 72) rfl ?_
  intro T4 v4 L4 X4 hQ4
  obtain ⟨rfl, Nq4, eh4⟩ := hQ4
  have N4 := Fr.app N3 Nq4
  show Goes p e below _ (T4.setTop (mkF m 72 #[.val (.ref a), .val (.ref b), .val (.int (1 : Int32)), .val (.ref ax), .val (.ref ay), .val (.ref ad), .val (.int (1 : Int32))] [.int (1 : Int32)]))
  refine s_ifN X4 hx (hb hby d1_72) (pc' := 75) rfl (by decide) ?_
  refine s_aload X4 hx (hb hby d1_75) (pc' := 77) rfl rfl rfl ?_
  refine s_iload X4 hx (hb hby d1_77) (pc' := 79) rfl rfl ?_
  refine s_daload X4 hx hZ eh4 Vay (by decide) (v := .double 0) rfl (hb hby d1_79) (pc' := 80) rfl ?_
  refine c_static X4 hx hZ hown (hw _ (List.mem_of_getElem? (i := 19) rfl)) (hw _ (List.mem_of_getElem? (i := 20) rfl)) (hw _ (List.mem_of_getElem? (i := 4) rfl)) (hw _ (List.mem_of_getElem? (i := 21) rfl)) (by decide) eh4 (rm_3 l Z a0 hw [] h0 n0 (Nat.le_trans Z0 (Nat.le_refl _))) (W := 0) (by decide) (by decide) (by decide) (by decide) (by rw [hml]; rfl) (argsL := [.double 0]) (rest := []) (lenOf pd_0 rfl) rfl rfl (Nat.le_of_eq rfl) (hb hby d1_80) (pc' := 83) rfl ?_
  intro T5 v5 L5 X5 hQ5
  obtain ⟨rfl, Nq5, eh5⟩ := hQ5
  have N5 := Fr.app N4 Nq5
  show Goes p e below _ (T5.setTop (mkF m 83 #[.val (.ref a), .val (.ref b), .val (.int (1 : Int32)), .val (.ref ax), .val (.ref ay), .val (.ref ad), .val (.int (1 : Int32))] [.int (1 : Int32)]))
  refine s_ifY X5 hx (hb hby d1_83) (by decide) (by decide) (pc' := 101) (by decide) ?_
  refine s_iload X5 hx (hb hby d1_101) (pc' := 103) rfl rfl ?_
  refine s_ifN X5 hx (hb hby d1_103) (pc' := 106) rfl (by decide) ?_
  refine s_aload X5 hx (hb hby d1_106) (pc' := 108) rfl rfl rfl ?_
  refine s_iload X5 hx (hb hby d1_108) (pc' := 110) rfl rfl ?_
  refine s_iaload X5 hx hZ eh5 Vad (by decide) (v := .int (0 : Int32)) rfl (hb hby d1_110) (pc' := 111) rfl ?_
  refine s_ifY X5 hx (hb hby d1_111) (by decide) (by decide) (pc' := 129) (by decide) ?_
  refine s_iinc X5 hx (2 : Int32) #[.val (.ref a), .val (.ref b), .val (.int (1 : Int32)), .val (.ref ax), .val (.ref ay), .val (.ref ad), .val (.int (2 : Int32))] (hb hby d1_129) (pc' := 132) rfl rfl (by decide) rfl ?_
  refine s_goto X5 hx (hb hby d1_132) (by decide) (pc' := 58) (by decide) ?_
  refine s_iload X5 hx (hb hby d1_58) (pc' := 60) rfl rfl ?_
  refine s_aloadN X5 hx (hb hby d1_60) (pc' := 61) rfl rfl rfl ?_
  refine s_len X5 hx hZ eh5 Vax (hb hby d1_61) (pc' := 62) rfl ?_
  refine s_icmpY X5 hx (hb hby d1_62) (by decide) (by decide) (pc' := 135) (by decide) ?_
  refine s_aloadN X5 hx (hb hby d1_135) (pc' := 136) rfl rfl rfl ?_
  refine s_aloadN X5 hx (hb hby d1_136) (pc' := 137) rfl rfl rfl ?_
  refine s_putF X5 hx hZ hown (hw _ (List.mem_of_getElem? (i := 27) rfl)) eh5 G0 Ea (Or.inr ⟨(hw _ (List.mem_of_getElem? (i := 28) rfl)), rfl, hnm⟩) (hw _ (List.mem_of_getElem? (i := 3) rfl)) (ty := (.object "java/lang/String")) (by decide) rfl rfl (hb hby d1_137) (pc' := 140) rfl ?_
  intro T6 h6 X6 e6 W6
  have N6 := Fr.snoc X6 N5 ga
  have F6 := G0.same W6
  have H6 : h0.size ≤ h6.size := by rw [W6.size]; exact (Nat.le_refl _)
  refine s_aloadN X6 hx (hb hby d1_140) (pc' := 141) rfl rfl rfl ?_
  refine s_iloadN X6 hx (hb hby d1_141) (pc' := 142) rfl rfl ?_
  have fF7 := (G1.other W6 (Or.inr (slot_ne (C := "com/example/vicinity/vicinity/instance/Instance") (t := .int) (t' := (.object "java/lang/String")) (Or.inr (hw _ (List.mem_of_getElem? (i := 30) rfl))) (Or.inr (hw _ (List.mem_of_getElem? (i := 28) rfl))) (by decide) (by decide) (by decide))))
  have fE8 := (Ea.wr W6)
  refine s_putF X6 hx hZ hown (hw _ (List.mem_of_getElem? (i := 29) rfl)) e6 fF7 fE8 (Or.inr ⟨(hw _ (List.mem_of_getElem? (i := 30) rfl)), rfl, hnm⟩) (hw _ (List.mem_of_getElem? (i := 3) rfl)) (ty := .int) (by decide) rfl rfl (hb hby d1_142) (pc' := 145) rfl ?_
  intro T9 h9 X9 e9 W9
  have N9 := Fr.snoc X9 N6 ga
  have F9 := fF7.same W9
  have H9 : h0.size ≤ h9.size := by rw [W9.size]; exact H6
  refine s_aloadN X9 hx (hb hby d1_145) (pc' := 146) rfl rfl rfl ?_
  refine s_aloadN X9 hx (hb hby d1_146) (pc' := 147) rfl rfl rfl ?_
  have fV11 := ((Vax.other W6 nax).other W9 nax)
  have fE12 := ((Eax.wr W6).wr W9)
  refine s_clone X9 hx hZ hown (hw _ (List.mem_of_getElem? (i := 31) rfl)) (hw _ (List.mem_of_getElem? (i := 32) rfl)) (hw _ (List.mem_of_getElem? (i := 36) rfl)) (hw _ (List.mem_of_getElem? (i := 34) rfl)) (hw _ (List.mem_of_getElem? (i := 35) rfl)) (hw _ (List.mem_of_getElem? (i := 37) rfl)) e9 fV11 fE12 (hb hby d1_147) (pc' := 150) rfl (by rw [hml]; rfl) (by decide) (W := 1) (Nat.le_of_eq rfl) (by decide) 2 (by decide) (by decide) (by decide) ?_
  intro T10 h10 o10 X10 e10 E10 g10 V10 Ex10
  have fE13 := (fE8.wr W9)
  have ne10_a : a ≠ o10 := Nat.ne_of_lt (by rw [g10]; exact fE13.lt)
  have ne10_ax : ax ≠ o10 := Nat.ne_of_lt (by rw [g10]; exact fE12.lt)
  have fE14 := ((Eay.wr W6).wr W9)
  have ne10_ay : ay ≠ o10 := Nat.ne_of_lt (by rw [g10]; exact fE14.lt)
  have fE15 := ((Ead.wr W6).wr W9)
  have ne10_ad : ad ≠ o10 := Nat.ne_of_lt (by rw [g10]; exact fE15.lt)
  have hg10 : h0.size ≤ o10 := by rw [g10]; exact H9
  have H10 : h0.size ≤ h10.size := Nat.le_trans H9 E10.1
  refine s_castY X10 hx hZ hown (hw _ (List.mem_of_getElem? (i := 38) rfl)) e10 (Ins.self Ex10) (hb hby d1_150) (pc' := 153) rfl ?_
  intro T16 X16 e16
  have fF17 := (((G2.other W6 (Or.inr (slot_ne (C := "com/example/vicinity/vicinity/instance/Instance") (t := (.array .double)) (t' := (.object "java/lang/String")) (Or.inr (hw _ (List.mem_of_getElem? (i := 41) rfl))) (Or.inr (hw _ (List.mem_of_getElem? (i := 28) rfl))) (by decide) (by decide) (by decide)))).other W9 (Or.inr (slot_ne (C := "com/example/vicinity/vicinity/instance/Instance") (t := (.array .double)) (t' := .int) (Or.inr (hw _ (List.mem_of_getElem? (i := 41) rfl))) (Or.inr (hw _ (List.mem_of_getElem? (i := 30) rfl))) (by decide) (by decide) (by decide)))).ext E10)
  have fE18 := (fE13.ext E10)
  refine s_putF X16 hx hZ hown (hw _ (List.mem_of_getElem? (i := 40) rfl)) e16 fF17 fE18 (Or.inr ⟨(hw _ (List.mem_of_getElem? (i := 41) rfl)), rfl, hnm⟩) (hw _ (List.mem_of_getElem? (i := 3) rfl)) (ty := (.array .double)) (by decide) rfl rfl (hb hby d1_153) (pc' := 156) rfl ?_
  intro T19 h19 X19 e19 W19
  have N19 := Fr.snoc X19 N9 ga
  have F19 := fF17.same W19
  have H19 : h0.size ≤ h19.size := by rw [W19.size]; exact H10
  refine s_aloadN X19 hx (hb hby d1_156) (pc' := 157) rfl rfl rfl ?_
  refine s_aload X19 hx (hb hby d1_157) (pc' := 159) rfl rfl rfl ?_
  have fV21 := ((((Vay.other W6 nay).other W9 nay).ext E10).other W19 nay)
  have fE22 := ((fE14.ext E10).wr W19)
  refine s_clone X19 hx hZ hown (hw _ (List.mem_of_getElem? (i := 31) rfl)) (hw _ (List.mem_of_getElem? (i := 32) rfl)) (hw _ (List.mem_of_getElem? (i := 36) rfl)) (hw _ (List.mem_of_getElem? (i := 34) rfl)) (hw _ (List.mem_of_getElem? (i := 35) rfl)) (hw _ (List.mem_of_getElem? (i := 37) rfl)) e19 fV21 fE22 (hb hby d1_159) (pc' := 162) rfl (by rw [hml]; rfl) (by decide) (W := 1) (Nat.le_of_eq rfl) (by decide) 2 (by decide) (by decide) (by decide) ?_
  intro T20 h20 o20 X20 e20 E20 g20 V20 Ex20
  have fE23 := (fE18.wr W19)
  have ne20_a : a ≠ o20 := Nat.ne_of_lt (by rw [g20]; exact fE23.lt)
  have fE24 := ((fE12.ext E10).wr W19)
  have ne20_ax : ax ≠ o20 := Nat.ne_of_lt (by rw [g20]; exact fE24.lt)
  have ne20_ay : ay ≠ o20 := Nat.ne_of_lt (by rw [g20]; exact fE22.lt)
  have fE25 := ((fE15.ext E10).wr W19)
  have ne20_ad : ad ≠ o20 := Nat.ne_of_lt (by rw [g20]; exact fE25.lt)
  have fE26 := (Ex10.wr W19)
  have ne20_o10 : o10 ≠ o20 := Nat.ne_of_lt (by rw [g20]; exact fE26.lt)
  have hg20 : h0.size ≤ o20 := by rw [g20]; exact H19
  have H20 : h0.size ≤ h20.size := Nat.le_trans H19 E20.1
  refine s_castY X20 hx hZ hown (hw _ (List.mem_of_getElem? (i := 38) rfl)) e20 (Ins.self Ex20) (hb hby d1_162) (pc' := 165) rfl ?_
  intro T27 X27 e27
  have fF28 := (((((G3.other W6 (Or.inr (slot_ne (C := "com/example/vicinity/vicinity/instance/Instance") (t := (.array .double)) (t' := (.object "java/lang/String")) (Or.inr (hw _ (List.mem_of_getElem? (i := 43) rfl))) (Or.inr (hw _ (List.mem_of_getElem? (i := 28) rfl))) (by decide) (by decide) (by decide)))).other W9 (Or.inr (slot_ne (C := "com/example/vicinity/vicinity/instance/Instance") (t := (.array .double)) (t' := .int) (Or.inr (hw _ (List.mem_of_getElem? (i := 43) rfl))) (Or.inr (hw _ (List.mem_of_getElem? (i := 30) rfl))) (by decide) (by decide) (by decide)))).ext E10).other W19 (Or.inr (slot_ne (C := "com/example/vicinity/vicinity/instance/Instance") (t := (.array .double)) (t' := (.array .double)) (Or.inr (hw _ (List.mem_of_getElem? (i := 43) rfl))) (Or.inr (hw _ (List.mem_of_getElem? (i := 41) rfl))) (by decide) (by decide) (by decide)))).ext E20)
  have fE29 := (fE23.ext E20)
  refine s_putF X27 hx hZ hown (hw _ (List.mem_of_getElem? (i := 42) rfl)) e27 fF28 fE29 (Or.inr ⟨(hw _ (List.mem_of_getElem? (i := 43) rfl)), rfl, hnm⟩) (hw _ (List.mem_of_getElem? (i := 3) rfl)) (ty := (.array .double)) (by decide) rfl rfl (hb hby d1_165) (pc' := 168) rfl ?_
  intro T30 h30 X30 e30 W30
  have N30 := Fr.snoc X30 N19 ga
  have F30 := fF28.same W30
  have H30 : h0.size ≤ h30.size := by rw [W30.size]; exact H20
  refine s_aloadN X30 hx (hb hby d1_168) (pc' := 169) rfl rfl rfl ?_
  refine s_aload X30 hx (hb hby d1_169) (pc' := 171) rfl rfl rfl ?_
  have fV32 := ((((((Vad.other W6 nad).other W9 nad).ext E10).other W19 nad).ext E20).other W30 nad)
  have fE33 := ((fE25.ext E20).wr W30)
  refine s_clone X30 hx hZ hown (hw _ (List.mem_of_getElem? (i := 44) rfl)) (hw _ (List.mem_of_getElem? (i := 45) rfl)) (hw _ (List.mem_of_getElem? (i := 36) rfl)) (hw _ (List.mem_of_getElem? (i := 34) rfl)) (hw _ (List.mem_of_getElem? (i := 46) rfl)) (hw _ (List.mem_of_getElem? (i := 47) rfl)) e30 fV32 fE33 (hb hby d1_171) (pc' := 174) rfl (by rw [hml]; rfl) (by decide) (W := 1) (Nat.le_of_eq rfl) (by decide) 2 (by decide) (by decide) (by decide) ?_
  intro T31 h31 o31 X31 e31 E31 g31 V31 Ex31
  have fE34 := (fE29.wr W30)
  have ne31_a : a ≠ o31 := Nat.ne_of_lt (by rw [g31]; exact fE34.lt)
  have fE35 := ((fE24.ext E20).wr W30)
  have ne31_ax : ax ≠ o31 := Nat.ne_of_lt (by rw [g31]; exact fE35.lt)
  have fE36 := ((fE22.ext E20).wr W30)
  have ne31_ay : ay ≠ o31 := Nat.ne_of_lt (by rw [g31]; exact fE36.lt)
  have ne31_ad : ad ≠ o31 := Nat.ne_of_lt (by rw [g31]; exact fE33.lt)
  have fE37 := ((fE26.ext E20).wr W30)
  have ne31_o10 : o10 ≠ o31 := Nat.ne_of_lt (by rw [g31]; exact fE37.lt)
  have fE38 := (Ex20.wr W30)
  have ne31_o20 : o20 ≠ o31 := Nat.ne_of_lt (by rw [g31]; exact fE38.lt)
  have hg31 : h0.size ≤ o31 := by rw [g31]; exact H30
  have H31 : h0.size ≤ h31.size := Nat.le_trans H30 E31.1
  refine s_castY X31 hx hZ hown (hw _ (List.mem_of_getElem? (i := 48) rfl)) e31 (Ins.self Ex31) (hb hby d1_174) (pc' := 177) rfl ?_
  intro T39 X39 e39
  have fF40 := (((((((G4.other W6 (Or.inr (slot_ne (C := "com/example/vicinity/vicinity/instance/Instance") (t := (.array .int)) (t' := (.object "java/lang/String")) (Or.inr (hw _ (List.mem_of_getElem? (i := 51) rfl))) (Or.inr (hw _ (List.mem_of_getElem? (i := 28) rfl))) (by decide) (by decide) (by decide)))).other W9 (Or.inr (slot_ne (C := "com/example/vicinity/vicinity/instance/Instance") (t := (.array .int)) (t' := .int) (Or.inr (hw _ (List.mem_of_getElem? (i := 51) rfl))) (Or.inr (hw _ (List.mem_of_getElem? (i := 30) rfl))) (by decide) (by decide) (by decide)))).ext E10).other W19 (Or.inr (slot_ne (C := "com/example/vicinity/vicinity/instance/Instance") (t := (.array .int)) (t' := (.array .double)) (Or.inr (hw _ (List.mem_of_getElem? (i := 51) rfl))) (Or.inr (hw _ (List.mem_of_getElem? (i := 41) rfl))) (by decide) (by decide) (by decide)))).ext E20).other W30 (Or.inr (slot_ne (C := "com/example/vicinity/vicinity/instance/Instance") (t := (.array .int)) (t' := (.array .double)) (Or.inr (hw _ (List.mem_of_getElem? (i := 51) rfl))) (Or.inr (hw _ (List.mem_of_getElem? (i := 43) rfl))) (by decide) (by decide) (by decide)))).ext E31)
  have fE41 := (fE34.ext E31)
  refine s_putF X39 hx hZ hown (hw _ (List.mem_of_getElem? (i := 50) rfl)) e39 fF40 fE41 (Or.inr ⟨(hw _ (List.mem_of_getElem? (i := 51) rfl)), rfl, hnm⟩) (hw _ (List.mem_of_getElem? (i := 3) rfl)) (ty := (.array .int)) (by decide) rfl rfl (hb hby d1_177) (pc' := 180) rfl ?_
  intro T42 h42 X42 e42 W42
  have N42 := Fr.snoc X42 N30 ga
  have F42 := fF40.same W42
  have H42 : h0.size ≤ h42.size := by rw [W42.size]; exact H31
  have KK43 : Keep h0 h42 [a] := (((((((((Keep.refl _ _).wr W6 (Or.inl (List.mem_of_getElem? (i := 0) rfl))).wr W9 (Or.inl (List.mem_of_getElem? (i := 0) rfl))).ext E10).wr W19 (Or.inl (List.mem_of_getElem? (i := 0) rfl))).ext E20).wr W30 (Or.inl (List.mem_of_getElem? (i := 0) rfl))).ext E31).wr W42 (Or.inl (List.mem_of_getElem? (i := 0) rfl)))
  have fE44 := (fE41.wr W42)
  have fF45 := ((((F19.ext E20).other W30 (Or.inr (slot_ne (C := "com/example/vicinity/vicinity/instance/Instance") (t := (.array .double)) (t' := (.array .double)) (Or.inr (hw _ (List.mem_of_getElem? (i := 41) rfl))) (Or.inr (hw _ (List.mem_of_getElem? (i := 43) rfl))) (by decide) (by decide) (by decide)))).ext E31).other W42 (Or.inr (slot_ne (C := "com/example/vicinity/vicinity/instance/Instance") (t := (.array .double)) (t' := (.array .int)) (Or.inr (hw _ (List.mem_of_getElem? (i := 41) rfl))) (Or.inr (hw _ (List.mem_of_getElem? (i := 51) rfl))) (by decide) (by decide) (by decide))))
  have fV46 := (((((V10.other W19 (Ne.symm ne10_a)).ext E20).other W30 (Ne.symm ne10_a)).ext E31).other W42 (Ne.symm ne10_a))
  exact s_ret X42 hx hlk hret (hb hby d1_180) (by decide) (by decide) (by rw [e42]; exact ⟨rfl, N42, KK43, fE44, _, _, fF45, fV46⟩)
set_option maxRecDepth 65536 in
set_option maxHeartbeats 40000000 in
theorem rm_1_3 (l : Launch) (Z : State) (a0 : Array Value) (hw : ∀ d ∈ tables_1, d.before a0 Z = true) (ws : List Jvm.Cond) (a : Addr) (b : Addr) (ax : Addr) (ay : Addr) (ad : Addr) (kax : ClassId) (kay : ClassId) (kad : ClassId) (vo0 : Value) (vo1 : Value) (vo2 : Value) (vo3 : Value) (vo4 : Value) (h0 : Heap) (n0 : Nat) (Z0 : n0 ≤ h0.size) (Ea : Exa Z h0 a "com/example/vicinity/vicinity/instance/Instance") (G0 : (Fld Z h0 a "com/example/vicinity/vicinity/instance/Instance" "name" "Ljava/lang/String;" vo0)) (G1 : (Fld Z h0 a "com/example/vicinity/vicinity/instance/Instance" "capacity" "I" vo1)) (G2 : (Fld Z h0 a "com/example/vicinity/vicinity/instance/Instance" "x" "[D" vo2)) (G3 : (Fld Z h0 a "com/example/vicinity/vicinity/instance/Instance" "y" "[D" vo3)) (G4 : (Fld Z h0 a "com/example/vicinity/vicinity/instance/Instance" "demands" "[I" vo4)) (Vax : Arv Z h0 ax kax .double (3 : Int32) [.double 0, .double 0, .double 0] (.double 0)) (Vay : Arv Z h0 ay kay .double (3 : Int32) [.double 0, .double 0, .double 0] (.double 0)) (Vad : Arv Z h0 ad kad .int (3 : Int32) [.int 0, .int 0, .int 0] (.int 0)) (Eax : Exa Z h0 ax "[D") (Eay : Exa Z h0 ay "[D") (Ead : Exa Z h0 ad "[I") (nax : ax ≠ a) (nay : ay ≠ a) (nad : ad ≠ a) (ga : n0 ≤ a) :
    OwnMet l Z (⟨"com/example/vicinity/vicinity/instance/Instance", "<init>", "(Ljava/lang/String;I[D[D[I)V"⟩ : MethodName) prog_8_method_1_code 7 none ws ({ frames := 2, cells := 3, slots := 15, locals := 26 } : Room) #[.ref a, .ref b, .int (1 : Int32), .ref ax, .ref ay, .ref ad] h0 (fun v h L => v = none ∧ Fr n0 L ∧ Keep h0 h [a] ∧ Exa Z h a "com/example/vicinity/vicinity/instance/Instance" ∧ ∃ (rx : Addr) (kx : ClassId), (Fld Z h a "com/example/vicinity/vicinity/instance/Instance" "x" "[D" (.ref rx)) ∧ Arv Z h rx kx .double (3 : Int32) [.double 0, .double 0, .double 0] (.double 0)) := by
  refine own_met (plainFor_of_name pn_1) (ef_1 a b (1 : Int32) ax ay ad) ?_
  intro p e s m below meth c s₁ hx hby hml hZ hown hnm hret hlk X0 e0
  have N0 := Fr.nil n0
  refine s_aloadN X0 hx (hb hby d1_0) (pc' := 1) rfl rfl rfl ?_
  refine s_initO X0 hx hZ hown (hw _ (List.mem_of_getElem? (i := 16) rfl)) (hw _ (List.mem_of_getElem? (i := 17) rfl)) (hw _ (List.mem_of_getElem? (i := 18) rfl)) e0 (hb hby d1_1) (pc' := 4) rfl (by rw [hml]; rfl) (by decide) (W := 0) (Nat.le_of_eq rfl) (by decide) ?_
  intro T1 X1 e1
  refine s_aloadN X1 hx (hb hby d1_4) (pc' := 5) rfl rfl rfl ?_
  refine s_len X1 hx hZ e1 Vax (hb hby d1_5) (pc' := 6) rfl ?_
  refine s_iconst X1 hx (2 : Int32) (hb hby d1_6) (pc' := 7) rfl rfl ?_
  refine s_icmpN X1 hx (hb hby d1_7) (pc' := 10) rfl (by decide) ?_
  refine s_aload X1 hx (hb hby d1_10) (pc' := 12) rfl rfl rfl ?_
  refine s_len X1 hx hZ e1 Vay (hb hby d1_12) (pc' := 13) rfl ?_
  refine s_aloadN X1 hx (hb hby d1_13) (pc' := 14) rfl rfl rfl ?_
  refine s_len X1 hx hZ e1 Vax (hb hby d1_14) (pc' := 15) rfl ?_
  refine s_icmpN X1 hx (hb hby d1_15) (pc' := 18) rfl (by decide) ?_
  refine s_aload X1 hx (hb hby d1_18) (pc' := 20) rfl rfl rfl ?_
  refine s_len X1 hx hZ e1 Vad (hb hby d1_20) (pc' := 21) rfl ?_
  refine s_aloadN X1 hx (hb hby d1_21) (pc' := 22) rfl rfl rfl ?_
  refine s_len X1 hx hZ e1 Vax (hb hby d1_22) (pc' := 23) rfl ?_
  refine s_icmpY X1 hx (hb hby d1_23) (by decide) (by decide) (pc' := 36) (by decide) ?_
  refine s_iloadN X1 hx (hb hby d1_36) (pc' := 37) rfl rfl ?_
  refine s_iconst X1 hx (1 : Int32) (hb hby d1_37) (pc' := 38) rfl rfl ?_
  refine s_icmpY X1 hx (hb hby d1_38) (by decide) (by decide) (pc' := 55) (by decide) ?_
  refine s_iconst X1 hx (0 : Int32) (hb hby d1_55) (pc' := 56) rfl rfl ?_
  refine s_istore X1 hx #[.val (.ref a), .val (.ref b), .val (.int (1 : Int32)), .val (.ref ax), .val (.ref ay), .val (.ref ad), .val (.int (0 : Int32))] (hb hby d1_56) (pc' := 58) rfl rfl ?_
  refine s_iload X1 hx (hb hby d1_58) (pc' := 60) rfl rfl ?_
  refine s_aloadN X1 hx (hb hby d1_60) (pc' := 61) rfl rfl rfl ?_
  refine s_len X1 hx hZ e1 Vax (hb hby d1_61) (pc' := 62) rfl ?_
  refine s_icmpN X1 hx (hb hby d1_62) (pc' := 65) rfl (by decide) ?_
  refine s_aloadN X1 hx (hb hby d1_65) (pc' := 66) rfl rfl rfl ?_
  refine s_iload X1 hx (hb hby d1_66) (pc' := 68) rfl rfl ?_
  refine s_daload X1 hx hZ e1 Vax (by decide) (v := .double 0) rfl (hb hby d1_68) (pc' := 69) rfl ?_
  refine c_static X1 hx hZ hown (hw _ (List.mem_of_getElem? (i := 19) rfl)) (hw _ (List.mem_of_getElem? (i := 20) rfl)) (hw _ (List.mem_of_getElem? (i := 4) rfl)) (hw _ (List.mem_of_getElem? (i := 21) rfl)) (by decide) e1 (rm_3 l Z a0 hw [] h0 n0 (Nat.le_trans Z0 (Nat.le_refl _))) (W := 0) (by decide) (by decide) (by decide) (by decide) (by rw [hml]; rfl) (argsL := [.double 0]) (rest := []) (lenOf pd_0 rfl) rfl rfl (Nat.le_of_eq rfl) (hb hby d1_69) (pc' := 72) rfl ?_
  intro T2 v2 L2 X2 hQ2
  obtain ⟨rfl, Nq2, eh2⟩ := hQ2
  have N2 := Fr.app N0 Nq2
  show Goes p e below _ (T2.setTop (mkF m 72 #[.val (.ref a), .val (.ref b), .val (.int (1 : Int32)), .val (.ref ax), .val (.ref ay), .val (.ref ad), .val (.int (0 : Int32))] [.int (1 : Int32)]))
  refine s_ifN X2 hx (hb hby d1_72) (pc' := 75) rfl (by decide) ?_
  refine s_aload X2 hx (hb hby d1_75) (pc' := 77) rfl rfl rfl ?_
  refine s_iload X2 hx (hb hby d1_77) (pc' := 79) rfl rfl ?_
  refine s_daload X2 hx hZ eh2 Vay (by decide) (v := .double 0) rfl (hb hby d1_79) (pc' := 80) rfl ?_
  refine c_static X2 hx hZ hown (hw _ (List.mem_of_getElem? (i := 19) rfl)) (hw _ (List.mem_of_getElem? (i := 20) rfl)) (hw _ (List.mem_of_getElem? (i := 4) rfl)) (hw _ (List.mem_of_getElem? (i := 21) rfl)) (by decide) eh2 (rm_3 l Z a0 hw [] h0 n0 (Nat.le_trans Z0 (Nat.le_refl _))) (W := 0) (by decide) (by decide) (by decide) (by decide) (by rw [hml]; rfl) (argsL := [.double 0]) (rest := []) (lenOf pd_0 rfl) rfl rfl (Nat.le_of_eq rfl) (hb hby d1_80) (pc' := 83) rfl ?_
  intro T3 v3 L3 X3 hQ3
  obtain ⟨rfl, Nq3, eh3⟩ := hQ3
  have N3 := Fr.app N2 Nq3
  show Goes p e below _ (T3.setTop (mkF m 83 #[.val (.ref a), .val (.ref b), .val (.int (1 : Int32)), .val (.ref ax), .val (.ref ay), .val (.ref ad), .val (.int (0 : Int32))] [.int (1 : Int32)]))
  refine s_ifY X3 hx (hb hby d1_83) (by decide) (by decide) (pc' := 101) (by decide) ?_
  refine s_iload X3 hx (hb hby d1_101) (pc' := 103) rfl rfl ?_
  refine s_ifY X3 hx (hb hby d1_103) (by decide) (by decide) (pc' := 129) (by decide) ?_
  refine s_iinc X3 hx (1 : Int32) #[.val (.ref a), .val (.ref b), .val (.int (1 : Int32)), .val (.ref ax), .val (.ref ay), .val (.ref ad), .val (.int (1 : Int32))] (hb hby d1_129) (pc' := 132) rfl rfl (by decide) rfl ?_
  refine s_goto X3 hx (hb hby d1_132) (by decide) (pc' := 58) (by decide) ?_
  refine s_iload X3 hx (hb hby d1_58) (pc' := 60) rfl rfl ?_
  refine s_aloadN X3 hx (hb hby d1_60) (pc' := 61) rfl rfl rfl ?_
  refine s_len X3 hx hZ eh3 Vax (hb hby d1_61) (pc' := 62) rfl ?_
  refine s_icmpN X3 hx (hb hby d1_62) (pc' := 65) rfl (by decide) ?_
  refine s_aloadN X3 hx (hb hby d1_65) (pc' := 66) rfl rfl rfl ?_
  refine s_iload X3 hx (hb hby d1_66) (pc' := 68) rfl rfl ?_
  refine s_daload X3 hx hZ eh3 Vax (by decide) (v := .double 0) rfl (hb hby d1_68) (pc' := 69) rfl ?_
  refine c_static X3 hx hZ hown (hw _ (List.mem_of_getElem? (i := 19) rfl)) (hw _ (List.mem_of_getElem? (i := 20) rfl)) (hw _ (List.mem_of_getElem? (i := 4) rfl)) (hw _ (List.mem_of_getElem? (i := 21) rfl)) (by decide) eh3 (rm_3 l Z a0 hw [] h0 n0 (Nat.le_trans Z0 (Nat.le_refl _))) (W := 0) (by decide) (by decide) (by decide) (by decide) (by rw [hml]; rfl) (argsL := [.double 0]) (rest := []) (lenOf pd_0 rfl) rfl rfl (Nat.le_of_eq rfl) (hb hby d1_69) (pc' := 72) rfl ?_
  intro T4 v4 L4 X4 hQ4
  obtain ⟨rfl, Nq4, eh4⟩ := hQ4
  have N4 := Fr.app N3 Nq4
  show Goes p e below _ (T4.setTop (mkF m 72 #[.val (.ref a), .val (.ref b), .val (.int (1 : Int32)), .val (.ref ax), .val (.ref ay), .val (.ref ad), .val (.int (1 : Int32))] [.int (1 : Int32)]))
  refine s_ifN X4 hx (hb hby d1_72) (pc' := 75) rfl (by decide) ?_
  refine s_aload X4 hx (hb hby d1_75) (pc' := 77) rfl rfl rfl ?_
  refine s_iload X4 hx (hb hby d1_77) (pc' := 79) rfl rfl ?_
  refine s_daload X4 hx hZ eh4 Vay (by decide) (v := .double 0) rfl (hb hby d1_79) (pc' := 80) rfl ?_
  refine c_static X4 hx hZ hown (hw _ (List.mem_of_getElem? (i := 19) rfl)) (hw _ (List.mem_of_getElem? (i := 20) rfl)) (hw _ (List.mem_of_getElem? (i := 4) rfl)) (hw _ (List.mem_of_getElem? (i := 21) rfl)) (by decide) eh4 (rm_3 l Z a0 hw [] h0 n0 (Nat.le_trans Z0 (Nat.le_refl _))) (W := 0) (by decide) (by decide) (by decide) (by decide) (by rw [hml]; rfl) (argsL := [.double 0]) (rest := []) (lenOf pd_0 rfl) rfl rfl (Nat.le_of_eq rfl) (hb hby d1_80) (pc' := 83) rfl ?_
  intro T5 v5 L5 X5 hQ5
  obtain ⟨rfl, Nq5, eh5⟩ := hQ5
  have N5 := Fr.app N4 Nq5
  show Goes p e below _ (T5.setTop (mkF m 83 #[.val (.ref a), .val (.ref b), .val (.int (1 : Int32)), .val (.ref ax), .val (.ref ay), .val (.ref ad), .val (.int (1 : Int32))] [.int (1 : Int32)]))
  refine s_ifY X5 hx (hb hby d1_83) (by decide) (by decide) (pc' := 101) (by decide) ?_
  refine s_iload X5 hx (hb hby d1_101) (pc' := 103) rfl rfl ?_
  refine s_ifN X5 hx (hb hby d1_103) (pc' := 106) rfl (by decide) ?_
  refine s_aload X5 hx (hb hby d1_106) (pc' := 108) rfl rfl rfl ?_
  refine s_iload X5 hx (hb hby d1_108) (pc' := 110) rfl rfl ?_
  refine s_iaload X5 hx hZ eh5 Vad (by decide) (v := .int (0 : Int32)) rfl (hb hby d1_110) (pc' := 111) rfl ?_
  refine s_ifY X5 hx (hb hby d1_111) (by decide) (by decide) (pc' := 129) (by decide) ?_
  refine s_iinc X5 hx (2 : Int32) #[.val (.ref a), .val (.ref b), .val (.int (1 : Int32)), .val (.ref ax), .val (.ref ay), .val (.ref ad), .val (.int (2 : Int32))] (hb hby d1_129) (pc' := 132) rfl rfl (by decide) rfl ?_
  refine s_goto X5 hx (hb hby d1_132) (by decide) (pc' := 58) (by decide) ?_
  refine s_iload X5 hx (hb hby d1_58) (pc' := 60) rfl rfl ?_
  refine s_aloadN X5 hx (hb hby d1_60) (pc' := 61) rfl rfl rfl ?_
  refine s_len X5 hx hZ eh5 Vax (hb hby d1_61) (pc' := 62) rfl ?_
  refine s_icmpN X5 hx (hb hby d1_62) (pc' := 65) rfl (by decide) ?_
  refine s_aloadN X5 hx (hb hby d1_65) (pc' := 66) rfl rfl rfl ?_
  refine s_iload X5 hx (hb hby d1_66) (pc' := 68) rfl rfl ?_
  refine s_daload X5 hx hZ eh5 Vax (by decide) (v := .double 0) rfl (hb hby d1_68) (pc' := 69) rfl ?_
  refine c_static X5 hx hZ hown (hw _ (List.mem_of_getElem? (i := 19) rfl)) (hw _ (List.mem_of_getElem? (i := 20) rfl)) (hw _ (List.mem_of_getElem? (i := 4) rfl)) (hw _ (List.mem_of_getElem? (i := 21) rfl)) (by decide) eh5 (rm_3 l Z a0 hw [] h0 n0 (Nat.le_trans Z0 (Nat.le_refl _))) (W := 0) (by decide) (by decide) (by decide) (by decide) (by rw [hml]; rfl) (argsL := [.double 0]) (rest := []) (lenOf pd_0 rfl) rfl rfl (Nat.le_of_eq rfl) (hb hby d1_69) (pc' := 72) rfl ?_
  intro T6 v6 L6 X6 hQ6
  obtain ⟨rfl, Nq6, eh6⟩ := hQ6
  have N6 := Fr.app N5 Nq6
  show Goes p e below _ (T6.setTop (mkF m 72 #[.val (.ref a), .val (.ref b), .val (.int (1 : Int32)), .val (.ref ax), .val (.ref ay), .val (.ref ad), .val (.int (2 : Int32))] [.int (1 : Int32)]))
  refine s_ifN X6 hx (hb hby d1_72) (pc' := 75) rfl (by decide) ?_
  refine s_aload X6 hx (hb hby d1_75) (pc' := 77) rfl rfl rfl ?_
  refine s_iload X6 hx (hb hby d1_77) (pc' := 79) rfl rfl ?_
  refine s_daload X6 hx hZ eh6 Vay (by decide) (v := .double 0) rfl (hb hby d1_79) (pc' := 80) rfl ?_
  refine c_static X6 hx hZ hown (hw _ (List.mem_of_getElem? (i := 19) rfl)) (hw _ (List.mem_of_getElem? (i := 20) rfl)) (hw _ (List.mem_of_getElem? (i := 4) rfl)) (hw _ (List.mem_of_getElem? (i := 21) rfl)) (by decide) eh6 (rm_3 l Z a0 hw [] h0 n0 (Nat.le_trans Z0 (Nat.le_refl _))) (W := 0) (by decide) (by decide) (by decide) (by decide) (by rw [hml]; rfl) (argsL := [.double 0]) (rest := []) (lenOf pd_0 rfl) rfl rfl (Nat.le_of_eq rfl) (hb hby d1_80) (pc' := 83) rfl ?_
  intro T7 v7 L7 X7 hQ7
  obtain ⟨rfl, Nq7, eh7⟩ := hQ7
  have N7 := Fr.app N6 Nq7
  show Goes p e below _ (T7.setTop (mkF m 83 #[.val (.ref a), .val (.ref b), .val (.int (1 : Int32)), .val (.ref ax), .val (.ref ay), .val (.ref ad), .val (.int (2 : Int32))] [.int (1 : Int32)]))
  refine s_ifY X7 hx (hb hby d1_83) (by decide) (by decide) (pc' := 101) (by decide) ?_
  refine s_iload X7 hx (hb hby d1_101) (pc' := 103) rfl rfl ?_
  refine s_ifN X7 hx (hb hby d1_103) (pc' := 106) rfl (by decide) ?_
  refine s_aload X7 hx (hb hby d1_106) (pc' := 108) rfl rfl rfl ?_
  refine s_iload X7 hx (hb hby d1_108) (pc' := 110) rfl rfl ?_
  refine s_iaload X7 hx hZ eh7 Vad (by decide) (v := .int (0 : Int32)) rfl (hb hby d1_110) (pc' := 111) rfl ?_
  refine s_ifY X7 hx (hb hby d1_111) (by decide) (by decide) (pc' := 129) (by decide) ?_
  refine s_iinc X7 hx (3 : Int32) #[.val (.ref a), .val (.ref b), .val (.int (1 : Int32)), .val (.ref ax), .val (.ref ay), .val (.ref ad), .val (.int (3 : Int32))] (hb hby d1_129) (pc' := 132) rfl rfl (by decide) rfl ?_
  refine s_goto X7 hx (hb hby d1_132) (by decide) (pc' := 58) (by decide) ?_
  refine s_iload X7 hx (hb hby d1_58) (pc' := 60) rfl rfl ?_
  refine s_aloadN X7 hx (hb hby d1_60) (pc' := 61) rfl rfl rfl ?_
  refine s_len X7 hx hZ eh7 Vax (hb hby d1_61) (pc' := 62) rfl ?_
  refine s_icmpY X7 hx (hb hby d1_62) (by decide) (by decide) (pc' := 135) (by decide) ?_
  refine s_aloadN X7 hx (hb hby d1_135) (pc' := 136) rfl rfl rfl ?_
  refine s_aloadN X7 hx (hb hby d1_136) (pc' := 137) rfl rfl rfl ?_
  refine s_putF X7 hx hZ hown (hw _ (List.mem_of_getElem? (i := 27) rfl)) eh7 G0 Ea (Or.inr ⟨(hw _ (List.mem_of_getElem? (i := 28) rfl)), rfl, hnm⟩) (hw _ (List.mem_of_getElem? (i := 3) rfl)) (ty := (.object "java/lang/String")) (by decide) rfl rfl (hb hby d1_137) (pc' := 140) rfl ?_
  intro T8 h8 X8 e8 W8
  have N8 := Fr.snoc X8 N7 ga
  have F8 := G0.same W8
  have H8 : h0.size ≤ h8.size := by rw [W8.size]; exact (Nat.le_refl _)
  refine s_aloadN X8 hx (hb hby d1_140) (pc' := 141) rfl rfl rfl ?_
  refine s_iloadN X8 hx (hb hby d1_141) (pc' := 142) rfl rfl ?_
  have fF9 := (G1.other W8 (Or.inr (slot_ne (C := "com/example/vicinity/vicinity/instance/Instance") (t := .int) (t' := (.object "java/lang/String")) (Or.inr (hw _ (List.mem_of_getElem? (i := 30) rfl))) (Or.inr (hw _ (List.mem_of_getElem? (i := 28) rfl))) (by decide) (by decide) (by decide))))
  have fE10 := (Ea.wr W8)
  refine s_putF X8 hx hZ hown (hw _ (List.mem_of_getElem? (i := 29) rfl)) e8 fF9 fE10 (Or.inr ⟨(hw _ (List.mem_of_getElem? (i := 30) rfl)), rfl, hnm⟩) (hw _ (List.mem_of_getElem? (i := 3) rfl)) (ty := .int) (by decide) rfl rfl (hb hby d1_142) (pc' := 145) rfl ?_
  intro T11 h11 X11 e11 W11
  have N11 := Fr.snoc X11 N8 ga
  have F11 := fF9.same W11
  have H11 : h0.size ≤ h11.size := by rw [W11.size]; exact H8
  refine s_aloadN X11 hx (hb hby d1_145) (pc' := 146) rfl rfl rfl ?_
  refine s_aloadN X11 hx (hb hby d1_146) (pc' := 147) rfl rfl rfl ?_
  have fV13 := ((Vax.other W8 nax).other W11 nax)
  have fE14 := ((Eax.wr W8).wr W11)
  refine s_clone X11 hx hZ hown (hw _ (List.mem_of_getElem? (i := 31) rfl)) (hw _ (List.mem_of_getElem? (i := 32) rfl)) (hw _ (List.mem_of_getElem? (i := 36) rfl)) (hw _ (List.mem_of_getElem? (i := 34) rfl)) (hw _ (List.mem_of_getElem? (i := 35) rfl)) (hw _ (List.mem_of_getElem? (i := 37) rfl)) e11 fV13 fE14 (hb hby d1_147) (pc' := 150) rfl (by rw [hml]; rfl) (by decide) (W := 1) (Nat.le_of_eq rfl) (by decide) 3 (by decide) (by decide) (by decide) ?_
  intro T12 h12 o12 X12 e12 E12 g12 V12 Ex12
  have fE15 := (fE10.wr W11)
  have ne12_a : a ≠ o12 := Nat.ne_of_lt (by rw [g12]; exact fE15.lt)
  have ne12_ax : ax ≠ o12 := Nat.ne_of_lt (by rw [g12]; exact fE14.lt)
  have fE16 := ((Eay.wr W8).wr W11)
  have ne12_ay : ay ≠ o12 := Nat.ne_of_lt (by rw [g12]; exact fE16.lt)
  have fE17 := ((Ead.wr W8).wr W11)
  have ne12_ad : ad ≠ o12 := Nat.ne_of_lt (by rw [g12]; exact fE17.lt)
  have hg12 : h0.size ≤ o12 := by rw [g12]; exact H11
  have H12 : h0.size ≤ h12.size := Nat.le_trans H11 E12.1
  refine s_castY X12 hx hZ hown (hw _ (List.mem_of_getElem? (i := 38) rfl)) e12 (Ins.self Ex12) (hb hby d1_150) (pc' := 153) rfl ?_
  intro T18 X18 e18
  have fF19 := (((G2.other W8 (Or.inr (slot_ne (C := "com/example/vicinity/vicinity/instance/Instance") (t := (.array .double)) (t' := (.object "java/lang/String")) (Or.inr (hw _ (List.mem_of_getElem? (i := 41) rfl))) (Or.inr (hw _ (List.mem_of_getElem? (i := 28) rfl))) (by decide) (by decide) (by decide)))).other W11 (Or.inr (slot_ne (C := "com/example/vicinity/vicinity/instance/Instance") (t := (.array .double)) (t' := .int) (Or.inr (hw _ (List.mem_of_getElem? (i := 41) rfl))) (Or.inr (hw _ (List.mem_of_getElem? (i := 30) rfl))) (by decide) (by decide) (by decide)))).ext E12)
  have fE20 := (fE15.ext E12)
  refine s_putF X18 hx hZ hown (hw _ (List.mem_of_getElem? (i := 40) rfl)) e18 fF19 fE20 (Or.inr ⟨(hw _ (List.mem_of_getElem? (i := 41) rfl)), rfl, hnm⟩) (hw _ (List.mem_of_getElem? (i := 3) rfl)) (ty := (.array .double)) (by decide) rfl rfl (hb hby d1_153) (pc' := 156) rfl ?_
  intro T21 h21 X21 e21 W21
  have N21 := Fr.snoc X21 N11 ga
  have F21 := fF19.same W21
  have H21 : h0.size ≤ h21.size := by rw [W21.size]; exact H12
  refine s_aloadN X21 hx (hb hby d1_156) (pc' := 157) rfl rfl rfl ?_
  refine s_aload X21 hx (hb hby d1_157) (pc' := 159) rfl rfl rfl ?_
  have fV23 := ((((Vay.other W8 nay).other W11 nay).ext E12).other W21 nay)
  have fE24 := ((fE16.ext E12).wr W21)
  refine s_clone X21 hx hZ hown (hw _ (List.mem_of_getElem? (i := 31) rfl)) (hw _ (List.mem_of_getElem? (i := 32) rfl)) (hw _ (List.mem_of_getElem? (i := 36) rfl)) (hw _ (List.mem_of_getElem? (i := 34) rfl)) (hw _ (List.mem_of_getElem? (i := 35) rfl)) (hw _ (List.mem_of_getElem? (i := 37) rfl)) e21 fV23 fE24 (hb hby d1_159) (pc' := 162) rfl (by rw [hml]; rfl) (by decide) (W := 1) (Nat.le_of_eq rfl) (by decide) 3 (by decide) (by decide) (by decide) ?_
  intro T22 h22 o22 X22 e22 E22 g22 V22 Ex22
  have fE25 := (fE20.wr W21)
  have ne22_a : a ≠ o22 := Nat.ne_of_lt (by rw [g22]; exact fE25.lt)
  have fE26 := ((fE14.ext E12).wr W21)
  have ne22_ax : ax ≠ o22 := Nat.ne_of_lt (by rw [g22]; exact fE26.lt)
  have ne22_ay : ay ≠ o22 := Nat.ne_of_lt (by rw [g22]; exact fE24.lt)
  have fE27 := ((fE17.ext E12).wr W21)
  have ne22_ad : ad ≠ o22 := Nat.ne_of_lt (by rw [g22]; exact fE27.lt)
  have fE28 := (Ex12.wr W21)
  have ne22_o12 : o12 ≠ o22 := Nat.ne_of_lt (by rw [g22]; exact fE28.lt)
  have hg22 : h0.size ≤ o22 := by rw [g22]; exact H21
  have H22 : h0.size ≤ h22.size := Nat.le_trans H21 E22.1
  refine s_castY X22 hx hZ hown (hw _ (List.mem_of_getElem? (i := 38) rfl)) e22 (Ins.self Ex22) (hb hby d1_162) (pc' := 165) rfl ?_
  intro T29 X29 e29
  have fF30 := (((((G3.other W8 (Or.inr (slot_ne (C := "com/example/vicinity/vicinity/instance/Instance") (t := (.array .double)) (t' := (.object "java/lang/String")) (Or.inr (hw _ (List.mem_of_getElem? (i := 43) rfl))) (Or.inr (hw _ (List.mem_of_getElem? (i := 28) rfl))) (by decide) (by decide) (by decide)))).other W11 (Or.inr (slot_ne (C := "com/example/vicinity/vicinity/instance/Instance") (t := (.array .double)) (t' := .int) (Or.inr (hw _ (List.mem_of_getElem? (i := 43) rfl))) (Or.inr (hw _ (List.mem_of_getElem? (i := 30) rfl))) (by decide) (by decide) (by decide)))).ext E12).other W21 (Or.inr (slot_ne (C := "com/example/vicinity/vicinity/instance/Instance") (t := (.array .double)) (t' := (.array .double)) (Or.inr (hw _ (List.mem_of_getElem? (i := 43) rfl))) (Or.inr (hw _ (List.mem_of_getElem? (i := 41) rfl))) (by decide) (by decide) (by decide)))).ext E22)
  have fE31 := (fE25.ext E22)
  refine s_putF X29 hx hZ hown (hw _ (List.mem_of_getElem? (i := 42) rfl)) e29 fF30 fE31 (Or.inr ⟨(hw _ (List.mem_of_getElem? (i := 43) rfl)), rfl, hnm⟩) (hw _ (List.mem_of_getElem? (i := 3) rfl)) (ty := (.array .double)) (by decide) rfl rfl (hb hby d1_165) (pc' := 168) rfl ?_
  intro T32 h32 X32 e32 W32
  have N32 := Fr.snoc X32 N21 ga
  have F32 := fF30.same W32
  have H32 : h0.size ≤ h32.size := by rw [W32.size]; exact H22
  refine s_aloadN X32 hx (hb hby d1_168) (pc' := 169) rfl rfl rfl ?_
  refine s_aload X32 hx (hb hby d1_169) (pc' := 171) rfl rfl rfl ?_
  have fV34 := ((((((Vad.other W8 nad).other W11 nad).ext E12).other W21 nad).ext E22).other W32 nad)
  have fE35 := ((fE27.ext E22).wr W32)
  refine s_clone X32 hx hZ hown (hw _ (List.mem_of_getElem? (i := 44) rfl)) (hw _ (List.mem_of_getElem? (i := 45) rfl)) (hw _ (List.mem_of_getElem? (i := 36) rfl)) (hw _ (List.mem_of_getElem? (i := 34) rfl)) (hw _ (List.mem_of_getElem? (i := 46) rfl)) (hw _ (List.mem_of_getElem? (i := 47) rfl)) e32 fV34 fE35 (hb hby d1_171) (pc' := 174) rfl (by rw [hml]; rfl) (by decide) (W := 1) (Nat.le_of_eq rfl) (by decide) 3 (by decide) (by decide) (by decide) ?_
  intro T33 h33 o33 X33 e33 E33 g33 V33 Ex33
  have fE36 := (fE31.wr W32)
  have ne33_a : a ≠ o33 := Nat.ne_of_lt (by rw [g33]; exact fE36.lt)
  have fE37 := ((fE26.ext E22).wr W32)
  have ne33_ax : ax ≠ o33 := Nat.ne_of_lt (by rw [g33]; exact fE37.lt)
  have fE38 := ((fE24.ext E22).wr W32)
  have ne33_ay : ay ≠ o33 := Nat.ne_of_lt (by rw [g33]; exact fE38.lt)
  have ne33_ad : ad ≠ o33 := Nat.ne_of_lt (by rw [g33]; exact fE35.lt)
  have fE39 := ((fE28.ext E22).wr W32)
  have ne33_o12 : o12 ≠ o33 := Nat.ne_of_lt (by rw [g33]; exact fE39.lt)
  have fE40 := (Ex22.wr W32)
  have ne33_o22 : o22 ≠ o33 := Nat.ne_of_lt (by rw [g33]; exact fE40.lt)
  have hg33 : h0.size ≤ o33 := by rw [g33]; exact H32
  have H33 : h0.size ≤ h33.size := Nat.le_trans H32 E33.1
  refine s_castY X33 hx hZ hown (hw _ (List.mem_of_getElem? (i := 48) rfl)) e33 (Ins.self Ex33) (hb hby d1_174) (pc' := 177) rfl ?_
  intro T41 X41 e41
  have fF42 := (((((((G4.other W8 (Or.inr (slot_ne (C := "com/example/vicinity/vicinity/instance/Instance") (t := (.array .int)) (t' := (.object "java/lang/String")) (Or.inr (hw _ (List.mem_of_getElem? (i := 51) rfl))) (Or.inr (hw _ (List.mem_of_getElem? (i := 28) rfl))) (by decide) (by decide) (by decide)))).other W11 (Or.inr (slot_ne (C := "com/example/vicinity/vicinity/instance/Instance") (t := (.array .int)) (t' := .int) (Or.inr (hw _ (List.mem_of_getElem? (i := 51) rfl))) (Or.inr (hw _ (List.mem_of_getElem? (i := 30) rfl))) (by decide) (by decide) (by decide)))).ext E12).other W21 (Or.inr (slot_ne (C := "com/example/vicinity/vicinity/instance/Instance") (t := (.array .int)) (t' := (.array .double)) (Or.inr (hw _ (List.mem_of_getElem? (i := 51) rfl))) (Or.inr (hw _ (List.mem_of_getElem? (i := 41) rfl))) (by decide) (by decide) (by decide)))).ext E22).other W32 (Or.inr (slot_ne (C := "com/example/vicinity/vicinity/instance/Instance") (t := (.array .int)) (t' := (.array .double)) (Or.inr (hw _ (List.mem_of_getElem? (i := 51) rfl))) (Or.inr (hw _ (List.mem_of_getElem? (i := 43) rfl))) (by decide) (by decide) (by decide)))).ext E33)
  have fE43 := (fE36.ext E33)
  refine s_putF X41 hx hZ hown (hw _ (List.mem_of_getElem? (i := 50) rfl)) e41 fF42 fE43 (Or.inr ⟨(hw _ (List.mem_of_getElem? (i := 51) rfl)), rfl, hnm⟩) (hw _ (List.mem_of_getElem? (i := 3) rfl)) (ty := (.array .int)) (by decide) rfl rfl (hb hby d1_177) (pc' := 180) rfl ?_
  intro T44 h44 X44 e44 W44
  have N44 := Fr.snoc X44 N32 ga
  have F44 := fF42.same W44
  have H44 : h0.size ≤ h44.size := by rw [W44.size]; exact H33
  have KK45 : Keep h0 h44 [a] := (((((((((Keep.refl _ _).wr W8 (Or.inl (List.mem_of_getElem? (i := 0) rfl))).wr W11 (Or.inl (List.mem_of_getElem? (i := 0) rfl))).ext E12).wr W21 (Or.inl (List.mem_of_getElem? (i := 0) rfl))).ext E22).wr W32 (Or.inl (List.mem_of_getElem? (i := 0) rfl))).ext E33).wr W44 (Or.inl (List.mem_of_getElem? (i := 0) rfl)))
  have fE46 := (fE43.wr W44)
  have fF47 := ((((F21.ext E22).other W32 (Or.inr (slot_ne (C := "com/example/vicinity/vicinity/instance/Instance") (t := (.array .double)) (t' := (.array .double)) (Or.inr (hw _ (List.mem_of_getElem? (i := 41) rfl))) (Or.inr (hw _ (List.mem_of_getElem? (i := 43) rfl))) (by decide) (by decide) (by decide)))).ext E33).other W44 (Or.inr (slot_ne (C := "com/example/vicinity/vicinity/instance/Instance") (t := (.array .double)) (t' := (.array .int)) (Or.inr (hw _ (List.mem_of_getElem? (i := 41) rfl))) (Or.inr (hw _ (List.mem_of_getElem? (i := 51) rfl))) (by decide) (by decide) (by decide))))
  have fV48 := (((((V12.other W21 (Ne.symm ne12_a)).ext E22).other W32 (Ne.symm ne12_a)).ext E33).other W44 (Ne.symm ne12_a))
  exact s_ret X44 hx hlk hret (hb hby d1_180) (by decide) (by decide) (by rw [e44]; exact ⟨rfl, N44, KK45, fE46, _, _, fF47, fV48⟩)
set_option maxRecDepth 65536 in
set_option maxHeartbeats 40000000 in
theorem rm_1_4 (l : Launch) (Z : State) (a0 : Array Value) (hw : ∀ d ∈ tables_1, d.before a0 Z = true) (ws : List Jvm.Cond) (a : Addr) (b : Addr) (ax : Addr) (ay : Addr) (ad : Addr) (kax : ClassId) (kay : ClassId) (kad : ClassId) (vo0 : Value) (vo1 : Value) (vo2 : Value) (vo3 : Value) (vo4 : Value) (h0 : Heap) (n0 : Nat) (Z0 : n0 ≤ h0.size) (Ea : Exa Z h0 a "com/example/vicinity/vicinity/instance/Instance") (G0 : (Fld Z h0 a "com/example/vicinity/vicinity/instance/Instance" "name" "Ljava/lang/String;" vo0)) (G1 : (Fld Z h0 a "com/example/vicinity/vicinity/instance/Instance" "capacity" "I" vo1)) (G2 : (Fld Z h0 a "com/example/vicinity/vicinity/instance/Instance" "x" "[D" vo2)) (G3 : (Fld Z h0 a "com/example/vicinity/vicinity/instance/Instance" "y" "[D" vo3)) (G4 : (Fld Z h0 a "com/example/vicinity/vicinity/instance/Instance" "demands" "[I" vo4)) (Vax : Arv Z h0 ax kax .double (4 : Int32) [.double 0, .double 0, .double 0, .double 0] (.double 0)) (Vay : Arv Z h0 ay kay .double (4 : Int32) [.double 0, .double 0, .double 0, .double 0] (.double 0)) (Vad : Arv Z h0 ad kad .int (4 : Int32) [.int 0, .int 0, .int 0, .int 0] (.int 0)) (Eax : Exa Z h0 ax "[D") (Eay : Exa Z h0 ay "[D") (Ead : Exa Z h0 ad "[I") (nax : ax ≠ a) (nay : ay ≠ a) (nad : ad ≠ a) (ga : n0 ≤ a) :
    OwnMet l Z (⟨"com/example/vicinity/vicinity/instance/Instance", "<init>", "(Ljava/lang/String;I[D[D[I)V"⟩ : MethodName) prog_8_method_1_code 7 none ws ({ frames := 2, cells := 3, slots := 15, locals := 26 } : Room) #[.ref a, .ref b, .int (1 : Int32), .ref ax, .ref ay, .ref ad] h0 (fun v h L => v = none ∧ Fr n0 L ∧ Keep h0 h [a] ∧ Exa Z h a "com/example/vicinity/vicinity/instance/Instance" ∧ ∃ (rx : Addr) (kx : ClassId), (Fld Z h a "com/example/vicinity/vicinity/instance/Instance" "x" "[D" (.ref rx)) ∧ Arv Z h rx kx .double (4 : Int32) [.double 0, .double 0, .double 0, .double 0] (.double 0)) := by
  refine own_met (plainFor_of_name pn_1) (ef_1 a b (1 : Int32) ax ay ad) ?_
  intro p e s m below meth c s₁ hx hby hml hZ hown hnm hret hlk X0 e0
  have N0 := Fr.nil n0
  refine s_aloadN X0 hx (hb hby d1_0) (pc' := 1) rfl rfl rfl ?_
  refine s_initO X0 hx hZ hown (hw _ (List.mem_of_getElem? (i := 16) rfl)) (hw _ (List.mem_of_getElem? (i := 17) rfl)) (hw _ (List.mem_of_getElem? (i := 18) rfl)) e0 (hb hby d1_1) (pc' := 4) rfl (by rw [hml]; rfl) (by decide) (W := 0) (Nat.le_of_eq rfl) (by decide) ?_
  intro T1 X1 e1
  refine s_aloadN X1 hx (hb hby d1_4) (pc' := 5) rfl rfl rfl ?_
  refine s_len X1 hx hZ e1 Vax (hb hby d1_5) (pc' := 6) rfl ?_
  refine s_iconst X1 hx (2 : Int32) (hb hby d1_6) (pc' := 7) rfl rfl ?_
  refine s_icmpN X1 hx (hb hby d1_7) (pc' := 10) rfl (by decide) ?_
  refine s_aload X1 hx (hb hby d1_10) (pc' := 12) rfl rfl rfl ?_
  refine s_len X1 hx hZ e1 Vay (hb hby d1_12) (pc' := 13) rfl ?_
  refine s_aloadN X1 hx (hb hby d1_13) (pc' := 14) rfl rfl rfl ?_
  refine s_len X1 hx hZ e1 Vax (hb hby d1_14) (pc' := 15) rfl ?_
  refine s_icmpN X1 hx (hb hby d1_15) (pc' := 18) rfl (by decide) ?_
  refine s_aload X1 hx (hb hby d1_18) (pc' := 20) rfl rfl rfl ?_
  refine s_len X1 hx hZ e1 Vad (hb hby d1_20) (pc' := 21) rfl ?_
  refine s_aloadN X1 hx (hb hby d1_21) (pc' := 22) rfl rfl rfl ?_
  refine s_len X1 hx hZ e1 Vax (hb hby d1_22) (pc' := 23) rfl ?_
  refine s_icmpY X1 hx (hb hby d1_23) (by decide) (by decide) (pc' := 36) (by decide) ?_
  refine s_iloadN X1 hx (hb hby d1_36) (pc' := 37) rfl rfl ?_
  refine s_iconst X1 hx (1 : Int32) (hb hby d1_37) (pc' := 38) rfl rfl ?_
  refine s_icmpY X1 hx (hb hby d1_38) (by decide) (by decide) (pc' := 55) (by decide) ?_
  refine s_iconst X1 hx (0 : Int32) (hb hby d1_55) (pc' := 56) rfl rfl ?_
  refine s_istore X1 hx #[.val (.ref a), .val (.ref b), .val (.int (1 : Int32)), .val (.ref ax), .val (.ref ay), .val (.ref ad), .val (.int (0 : Int32))] (hb hby d1_56) (pc' := 58) rfl rfl ?_
  refine s_iload X1 hx (hb hby d1_58) (pc' := 60) rfl rfl ?_
  refine s_aloadN X1 hx (hb hby d1_60) (pc' := 61) rfl rfl rfl ?_
  refine s_len X1 hx hZ e1 Vax (hb hby d1_61) (pc' := 62) rfl ?_
  refine s_icmpN X1 hx (hb hby d1_62) (pc' := 65) rfl (by decide) ?_
  refine s_aloadN X1 hx (hb hby d1_65) (pc' := 66) rfl rfl rfl ?_
  refine s_iload X1 hx (hb hby d1_66) (pc' := 68) rfl rfl ?_
  refine s_daload X1 hx hZ e1 Vax (by decide) (v := .double 0) rfl (hb hby d1_68) (pc' := 69) rfl ?_
  refine c_static X1 hx hZ hown (hw _ (List.mem_of_getElem? (i := 19) rfl)) (hw _ (List.mem_of_getElem? (i := 20) rfl)) (hw _ (List.mem_of_getElem? (i := 4) rfl)) (hw _ (List.mem_of_getElem? (i := 21) rfl)) (by decide) e1 (rm_3 l Z a0 hw [] h0 n0 (Nat.le_trans Z0 (Nat.le_refl _))) (W := 0) (by decide) (by decide) (by decide) (by decide) (by rw [hml]; rfl) (argsL := [.double 0]) (rest := []) (lenOf pd_0 rfl) rfl rfl (Nat.le_of_eq rfl) (hb hby d1_69) (pc' := 72) rfl ?_
  intro T2 v2 L2 X2 hQ2
  obtain ⟨rfl, Nq2, eh2⟩ := hQ2
  have N2 := Fr.app N0 Nq2
  show Goes p e below _ (T2.setTop (mkF m 72 #[.val (.ref a), .val (.ref b), .val (.int (1 : Int32)), .val (.ref ax), .val (.ref ay), .val (.ref ad), .val (.int (0 : Int32))] [.int (1 : Int32)]))
  refine s_ifN X2 hx (hb hby d1_72) (pc' := 75) rfl (by decide) ?_
  refine s_aload X2 hx (hb hby d1_75) (pc' := 77) rfl rfl rfl ?_
  refine s_iload X2 hx (hb hby d1_77) (pc' := 79) rfl rfl ?_
  refine s_daload X2 hx hZ eh2 Vay (by decide) (v := .double 0) rfl (hb hby d1_79) (pc' := 80) rfl ?_
  refine c_static X2 hx hZ hown (hw _ (List.mem_of_getElem? (i := 19) rfl)) (hw _ (List.mem_of_getElem? (i := 20) rfl)) (hw _ (List.mem_of_getElem? (i := 4) rfl)) (hw _ (List.mem_of_getElem? (i := 21) rfl)) (by decide) eh2 (rm_3 l Z a0 hw [] h0 n0 (Nat.le_trans Z0 (Nat.le_refl _))) (W := 0) (by decide) (by decide) (by decide) (by decide) (by rw [hml]; rfl) (argsL := [.double 0]) (rest := []) (lenOf pd_0 rfl) rfl rfl (Nat.le_of_eq rfl) (hb hby d1_80) (pc' := 83) rfl ?_
  intro T3 v3 L3 X3 hQ3
  obtain ⟨rfl, Nq3, eh3⟩ := hQ3
  have N3 := Fr.app N2 Nq3
  show Goes p e below _ (T3.setTop (mkF m 83 #[.val (.ref a), .val (.ref b), .val (.int (1 : Int32)), .val (.ref ax), .val (.ref ay), .val (.ref ad), .val (.int (0 : Int32))] [.int (1 : Int32)]))
  refine s_ifY X3 hx (hb hby d1_83) (by decide) (by decide) (pc' := 101) (by decide) ?_
  refine s_iload X3 hx (hb hby d1_101) (pc' := 103) rfl rfl ?_
  refine s_ifY X3 hx (hb hby d1_103) (by decide) (by decide) (pc' := 129) (by decide) ?_
  refine s_iinc X3 hx (1 : Int32) #[.val (.ref a), .val (.ref b), .val (.int (1 : Int32)), .val (.ref ax), .val (.ref ay), .val (.ref ad), .val (.int (1 : Int32))] (hb hby d1_129) (pc' := 132) rfl rfl (by decide) rfl ?_
  refine s_goto X3 hx (hb hby d1_132) (by decide) (pc' := 58) (by decide) ?_
  refine s_iload X3 hx (hb hby d1_58) (pc' := 60) rfl rfl ?_
  refine s_aloadN X3 hx (hb hby d1_60) (pc' := 61) rfl rfl rfl ?_
  refine s_len X3 hx hZ eh3 Vax (hb hby d1_61) (pc' := 62) rfl ?_
  refine s_icmpN X3 hx (hb hby d1_62) (pc' := 65) rfl (by decide) ?_
  refine s_aloadN X3 hx (hb hby d1_65) (pc' := 66) rfl rfl rfl ?_
  refine s_iload X3 hx (hb hby d1_66) (pc' := 68) rfl rfl ?_
  refine s_daload X3 hx hZ eh3 Vax (by decide) (v := .double 0) rfl (hb hby d1_68) (pc' := 69) rfl ?_
  refine c_static X3 hx hZ hown (hw _ (List.mem_of_getElem? (i := 19) rfl)) (hw _ (List.mem_of_getElem? (i := 20) rfl)) (hw _ (List.mem_of_getElem? (i := 4) rfl)) (hw _ (List.mem_of_getElem? (i := 21) rfl)) (by decide) eh3 (rm_3 l Z a0 hw [] h0 n0 (Nat.le_trans Z0 (Nat.le_refl _))) (W := 0) (by decide) (by decide) (by decide) (by decide) (by rw [hml]; rfl) (argsL := [.double 0]) (rest := []) (lenOf pd_0 rfl) rfl rfl (Nat.le_of_eq rfl) (hb hby d1_69) (pc' := 72) rfl ?_
  intro T4 v4 L4 X4 hQ4
  obtain ⟨rfl, Nq4, eh4⟩ := hQ4
  have N4 := Fr.app N3 Nq4
  show Goes p e below _ (T4.setTop (mkF m 72 #[.val (.ref a), .val (.ref b), .val (.int (1 : Int32)), .val (.ref ax), .val (.ref ay), .val (.ref ad), .val (.int (1 : Int32))] [.int (1 : Int32)]))
  refine s_ifN X4 hx (hb hby d1_72) (pc' := 75) rfl (by decide) ?_
  refine s_aload X4 hx (hb hby d1_75) (pc' := 77) rfl rfl rfl ?_
  refine s_iload X4 hx (hb hby d1_77) (pc' := 79) rfl rfl ?_
  refine s_daload X4 hx hZ eh4 Vay (by decide) (v := .double 0) rfl (hb hby d1_79) (pc' := 80) rfl ?_
  refine c_static X4 hx hZ hown (hw _ (List.mem_of_getElem? (i := 19) rfl)) (hw _ (List.mem_of_getElem? (i := 20) rfl)) (hw _ (List.mem_of_getElem? (i := 4) rfl)) (hw _ (List.mem_of_getElem? (i := 21) rfl)) (by decide) eh4 (rm_3 l Z a0 hw [] h0 n0 (Nat.le_trans Z0 (Nat.le_refl _))) (W := 0) (by decide) (by decide) (by decide) (by decide) (by rw [hml]; rfl) (argsL := [.double 0]) (rest := []) (lenOf pd_0 rfl) rfl rfl (Nat.le_of_eq rfl) (hb hby d1_80) (pc' := 83) rfl ?_
  intro T5 v5 L5 X5 hQ5
  obtain ⟨rfl, Nq5, eh5⟩ := hQ5
  have N5 := Fr.app N4 Nq5
  show Goes p e below _ (T5.setTop (mkF m 83 #[.val (.ref a), .val (.ref b), .val (.int (1 : Int32)), .val (.ref ax), .val (.ref ay), .val (.ref ad), .val (.int (1 : Int32))] [.int (1 : Int32)]))
  refine s_ifY X5 hx (hb hby d1_83) (by decide) (by decide) (pc' := 101) (by decide) ?_
  refine s_iload X5 hx (hb hby d1_101) (pc' := 103) rfl rfl ?_
  refine s_ifN X5 hx (hb hby d1_103) (pc' := 106) rfl (by decide) ?_
  refine s_aload X5 hx (hb hby d1_106) (pc' := 108) rfl rfl rfl ?_
  refine s_iload X5 hx (hb hby d1_108) (pc' := 110) rfl rfl ?_
  refine s_iaload X5 hx hZ eh5 Vad (by decide) (v := .int (0 : Int32)) rfl (hb hby d1_110) (pc' := 111) rfl ?_
  refine s_ifY X5 hx (hb hby d1_111) (by decide) (by decide) (pc' := 129) (by decide) ?_
  refine s_iinc X5 hx (2 : Int32) #[.val (.ref a), .val (.ref b), .val (.int (1 : Int32)), .val (.ref ax), .val (.ref ay), .val (.ref ad), .val (.int (2 : Int32))] (hb hby d1_129) (pc' := 132) rfl rfl (by decide) rfl ?_
  refine s_goto X5 hx (hb hby d1_132) (by decide) (pc' := 58) (by decide) ?_
  refine s_iload X5 hx (hb hby d1_58) (pc' := 60) rfl rfl ?_
  refine s_aloadN X5 hx (hb hby d1_60) (pc' := 61) rfl rfl rfl ?_
  refine s_len X5 hx hZ eh5 Vax (hb hby d1_61) (pc' := 62) rfl ?_
  refine s_icmpN X5 hx (hb hby d1_62) (pc' := 65) rfl (by decide) ?_
  refine s_aloadN X5 hx (hb hby d1_65) (pc' := 66) rfl rfl rfl ?_
  refine s_iload X5 hx (hb hby d1_66) (pc' := 68) rfl rfl ?_
  refine s_daload X5 hx hZ eh5 Vax (by decide) (v := .double 0) rfl (hb hby d1_68) (pc' := 69) rfl ?_
  refine c_static X5 hx hZ hown (hw _ (List.mem_of_getElem? (i := 19) rfl)) (hw _ (List.mem_of_getElem? (i := 20) rfl)) (hw _ (List.mem_of_getElem? (i := 4) rfl)) (hw _ (List.mem_of_getElem? (i := 21) rfl)) (by decide) eh5 (rm_3 l Z a0 hw [] h0 n0 (Nat.le_trans Z0 (Nat.le_refl _))) (W := 0) (by decide) (by decide) (by decide) (by decide) (by rw [hml]; rfl) (argsL := [.double 0]) (rest := []) (lenOf pd_0 rfl) rfl rfl (Nat.le_of_eq rfl) (hb hby d1_69) (pc' := 72) rfl ?_
  intro T6 v6 L6 X6 hQ6
  obtain ⟨rfl, Nq6, eh6⟩ := hQ6
  have N6 := Fr.app N5 Nq6
  show Goes p e below _ (T6.setTop (mkF m 72 #[.val (.ref a), .val (.ref b), .val (.int (1 : Int32)), .val (.ref ax), .val (.ref ay), .val (.ref ad), .val (.int (2 : Int32))] [.int (1 : Int32)]))
  refine s_ifN X6 hx (hb hby d1_72) (pc' := 75) rfl (by decide) ?_
  refine s_aload X6 hx (hb hby d1_75) (pc' := 77) rfl rfl rfl ?_
  refine s_iload X6 hx (hb hby d1_77) (pc' := 79) rfl rfl ?_
  refine s_daload X6 hx hZ eh6 Vay (by decide) (v := .double 0) rfl (hb hby d1_79) (pc' := 80) rfl ?_
  refine c_static X6 hx hZ hown (hw _ (List.mem_of_getElem? (i := 19) rfl)) (hw _ (List.mem_of_getElem? (i := 20) rfl)) (hw _ (List.mem_of_getElem? (i := 4) rfl)) (hw _ (List.mem_of_getElem? (i := 21) rfl)) (by decide) eh6 (rm_3 l Z a0 hw [] h0 n0 (Nat.le_trans Z0 (Nat.le_refl _))) (W := 0) (by decide) (by decide) (by decide) (by decide) (by rw [hml]; rfl) (argsL := [.double 0]) (rest := []) (lenOf pd_0 rfl) rfl rfl (Nat.le_of_eq rfl) (hb hby d1_80) (pc' := 83) rfl ?_
  intro T7 v7 L7 X7 hQ7
  obtain ⟨rfl, Nq7, eh7⟩ := hQ7
  have N7 := Fr.app N6 Nq7
  show Goes p e below _ (T7.setTop (mkF m 83 #[.val (.ref a), .val (.ref b), .val (.int (1 : Int32)), .val (.ref ax), .val (.ref ay), .val (.ref ad), .val (.int (2 : Int32))] [.int (1 : Int32)]))
  refine s_ifY X7 hx (hb hby d1_83) (by decide) (by decide) (pc' := 101) (by decide) ?_
  refine s_iload X7 hx (hb hby d1_101) (pc' := 103) rfl rfl ?_
  refine s_ifN X7 hx (hb hby d1_103) (pc' := 106) rfl (by decide) ?_
  refine s_aload X7 hx (hb hby d1_106) (pc' := 108) rfl rfl rfl ?_
  refine s_iload X7 hx (hb hby d1_108) (pc' := 110) rfl rfl ?_
  refine s_iaload X7 hx hZ eh7 Vad (by decide) (v := .int (0 : Int32)) rfl (hb hby d1_110) (pc' := 111) rfl ?_
  refine s_ifY X7 hx (hb hby d1_111) (by decide) (by decide) (pc' := 129) (by decide) ?_
  refine s_iinc X7 hx (3 : Int32) #[.val (.ref a), .val (.ref b), .val (.int (1 : Int32)), .val (.ref ax), .val (.ref ay), .val (.ref ad), .val (.int (3 : Int32))] (hb hby d1_129) (pc' := 132) rfl rfl (by decide) rfl ?_
  refine s_goto X7 hx (hb hby d1_132) (by decide) (pc' := 58) (by decide) ?_
  refine s_iload X7 hx (hb hby d1_58) (pc' := 60) rfl rfl ?_
  refine s_aloadN X7 hx (hb hby d1_60) (pc' := 61) rfl rfl rfl ?_
  refine s_len X7 hx hZ eh7 Vax (hb hby d1_61) (pc' := 62) rfl ?_
  refine s_icmpN X7 hx (hb hby d1_62) (pc' := 65) rfl (by decide) ?_
  refine s_aloadN X7 hx (hb hby d1_65) (pc' := 66) rfl rfl rfl ?_
  refine s_iload X7 hx (hb hby d1_66) (pc' := 68) rfl rfl ?_
  refine s_daload X7 hx hZ eh7 Vax (by decide) (v := .double 0) rfl (hb hby d1_68) (pc' := 69) rfl ?_
  refine c_static X7 hx hZ hown (hw _ (List.mem_of_getElem? (i := 19) rfl)) (hw _ (List.mem_of_getElem? (i := 20) rfl)) (hw _ (List.mem_of_getElem? (i := 4) rfl)) (hw _ (List.mem_of_getElem? (i := 21) rfl)) (by decide) eh7 (rm_3 l Z a0 hw [] h0 n0 (Nat.le_trans Z0 (Nat.le_refl _))) (W := 0) (by decide) (by decide) (by decide) (by decide) (by rw [hml]; rfl) (argsL := [.double 0]) (rest := []) (lenOf pd_0 rfl) rfl rfl (Nat.le_of_eq rfl) (hb hby d1_69) (pc' := 72) rfl ?_
  intro T8 v8 L8 X8 hQ8
  obtain ⟨rfl, Nq8, eh8⟩ := hQ8
  have N8 := Fr.app N7 Nq8
  show Goes p e below _ (T8.setTop (mkF m 72 #[.val (.ref a), .val (.ref b), .val (.int (1 : Int32)), .val (.ref ax), .val (.ref ay), .val (.ref ad), .val (.int (3 : Int32))] [.int (1 : Int32)]))
  refine s_ifN X8 hx (hb hby d1_72) (pc' := 75) rfl (by decide) ?_
  refine s_aload X8 hx (hb hby d1_75) (pc' := 77) rfl rfl rfl ?_
  refine s_iload X8 hx (hb hby d1_77) (pc' := 79) rfl rfl ?_
  refine s_daload X8 hx hZ eh8 Vay (by decide) (v := .double 0) rfl (hb hby d1_79) (pc' := 80) rfl ?_
  refine c_static X8 hx hZ hown (hw _ (List.mem_of_getElem? (i := 19) rfl)) (hw _ (List.mem_of_getElem? (i := 20) rfl)) (hw _ (List.mem_of_getElem? (i := 4) rfl)) (hw _ (List.mem_of_getElem? (i := 21) rfl)) (by decide) eh8 (rm_3 l Z a0 hw [] h0 n0 (Nat.le_trans Z0 (Nat.le_refl _))) (W := 0) (by decide) (by decide) (by decide) (by decide) (by rw [hml]; rfl) (argsL := [.double 0]) (rest := []) (lenOf pd_0 rfl) rfl rfl (Nat.le_of_eq rfl) (hb hby d1_80) (pc' := 83) rfl ?_
  intro T9 v9 L9 X9 hQ9
  obtain ⟨rfl, Nq9, eh9⟩ := hQ9
  have N9 := Fr.app N8 Nq9
  show Goes p e below _ (T9.setTop (mkF m 83 #[.val (.ref a), .val (.ref b), .val (.int (1 : Int32)), .val (.ref ax), .val (.ref ay), .val (.ref ad), .val (.int (3 : Int32))] [.int (1 : Int32)]))
  refine s_ifY X9 hx (hb hby d1_83) (by decide) (by decide) (pc' := 101) (by decide) ?_
  refine s_iload X9 hx (hb hby d1_101) (pc' := 103) rfl rfl ?_
  refine s_ifN X9 hx (hb hby d1_103) (pc' := 106) rfl (by decide) ?_
  refine s_aload X9 hx (hb hby d1_106) (pc' := 108) rfl rfl rfl ?_
  refine s_iload X9 hx (hb hby d1_108) (pc' := 110) rfl rfl ?_
  refine s_iaload X9 hx hZ eh9 Vad (by decide) (v := .int (0 : Int32)) rfl (hb hby d1_110) (pc' := 111) rfl ?_
  refine s_ifY X9 hx (hb hby d1_111) (by decide) (by decide) (pc' := 129) (by decide) ?_
  refine s_iinc X9 hx (4 : Int32) #[.val (.ref a), .val (.ref b), .val (.int (1 : Int32)), .val (.ref ax), .val (.ref ay), .val (.ref ad), .val (.int (4 : Int32))] (hb hby d1_129) (pc' := 132) rfl rfl (by decide) rfl ?_
  refine s_goto X9 hx (hb hby d1_132) (by decide) (pc' := 58) (by decide) ?_
  refine s_iload X9 hx (hb hby d1_58) (pc' := 60) rfl rfl ?_
  refine s_aloadN X9 hx (hb hby d1_60) (pc' := 61) rfl rfl rfl ?_
  refine s_len X9 hx hZ eh9 Vax (hb hby d1_61) (pc' := 62) rfl ?_
  refine s_icmpY X9 hx (hb hby d1_62) (by decide) (by decide) (pc' := 135) (by decide) ?_
  refine s_aloadN X9 hx (hb hby d1_135) (pc' := 136) rfl rfl rfl ?_
  refine s_aloadN X9 hx (hb hby d1_136) (pc' := 137) rfl rfl rfl ?_
  refine s_putF X9 hx hZ hown (hw _ (List.mem_of_getElem? (i := 27) rfl)) eh9 G0 Ea (Or.inr ⟨(hw _ (List.mem_of_getElem? (i := 28) rfl)), rfl, hnm⟩) (hw _ (List.mem_of_getElem? (i := 3) rfl)) (ty := (.object "java/lang/String")) (by decide) rfl rfl (hb hby d1_137) (pc' := 140) rfl ?_
  intro T10 h10 X10 e10 W10
  have N10 := Fr.snoc X10 N9 ga
  have F10 := G0.same W10
  have H10 : h0.size ≤ h10.size := by rw [W10.size]; exact (Nat.le_refl _)
  refine s_aloadN X10 hx (hb hby d1_140) (pc' := 141) rfl rfl rfl ?_
  refine s_iloadN X10 hx (hb hby d1_141) (pc' := 142) rfl rfl ?_
  have fF11 := (G1.other W10 (Or.inr (slot_ne (C := "com/example/vicinity/vicinity/instance/Instance") (t := .int) (t' := (.object "java/lang/String")) (Or.inr (hw _ (List.mem_of_getElem? (i := 30) rfl))) (Or.inr (hw _ (List.mem_of_getElem? (i := 28) rfl))) (by decide) (by decide) (by decide))))
  have fE12 := (Ea.wr W10)
  refine s_putF X10 hx hZ hown (hw _ (List.mem_of_getElem? (i := 29) rfl)) e10 fF11 fE12 (Or.inr ⟨(hw _ (List.mem_of_getElem? (i := 30) rfl)), rfl, hnm⟩) (hw _ (List.mem_of_getElem? (i := 3) rfl)) (ty := .int) (by decide) rfl rfl (hb hby d1_142) (pc' := 145) rfl ?_
  intro T13 h13 X13 e13 W13
  have N13 := Fr.snoc X13 N10 ga
  have F13 := fF11.same W13
  have H13 : h0.size ≤ h13.size := by rw [W13.size]; exact H10
  refine s_aloadN X13 hx (hb hby d1_145) (pc' := 146) rfl rfl rfl ?_
  refine s_aloadN X13 hx (hb hby d1_146) (pc' := 147) rfl rfl rfl ?_
  have fV15 := ((Vax.other W10 nax).other W13 nax)
  have fE16 := ((Eax.wr W10).wr W13)
  refine s_clone X13 hx hZ hown (hw _ (List.mem_of_getElem? (i := 31) rfl)) (hw _ (List.mem_of_getElem? (i := 32) rfl)) (hw _ (List.mem_of_getElem? (i := 36) rfl)) (hw _ (List.mem_of_getElem? (i := 34) rfl)) (hw _ (List.mem_of_getElem? (i := 35) rfl)) (hw _ (List.mem_of_getElem? (i := 37) rfl)) e13 fV15 fE16 (hb hby d1_147) (pc' := 150) rfl (by rw [hml]; rfl) (by decide) (W := 1) (Nat.le_of_eq rfl) (by decide) 4 (by decide) (by decide) (by decide) ?_
  intro T14 h14 o14 X14 e14 E14 g14 V14 Ex14
  have fE17 := (fE12.wr W13)
  have ne14_a : a ≠ o14 := Nat.ne_of_lt (by rw [g14]; exact fE17.lt)
  have ne14_ax : ax ≠ o14 := Nat.ne_of_lt (by rw [g14]; exact fE16.lt)
  have fE18 := ((Eay.wr W10).wr W13)
  have ne14_ay : ay ≠ o14 := Nat.ne_of_lt (by rw [g14]; exact fE18.lt)
  have fE19 := ((Ead.wr W10).wr W13)
  have ne14_ad : ad ≠ o14 := Nat.ne_of_lt (by rw [g14]; exact fE19.lt)
  have hg14 : h0.size ≤ o14 := by rw [g14]; exact H13
  have H14 : h0.size ≤ h14.size := Nat.le_trans H13 E14.1
  refine s_castY X14 hx hZ hown (hw _ (List.mem_of_getElem? (i := 38) rfl)) e14 (Ins.self Ex14) (hb hby d1_150) (pc' := 153) rfl ?_
  intro T20 X20 e20
  have fF21 := (((G2.other W10 (Or.inr (slot_ne (C := "com/example/vicinity/vicinity/instance/Instance") (t := (.array .double)) (t' := (.object "java/lang/String")) (Or.inr (hw _ (List.mem_of_getElem? (i := 41) rfl))) (Or.inr (hw _ (List.mem_of_getElem? (i := 28) rfl))) (by decide) (by decide) (by decide)))).other W13 (Or.inr (slot_ne (C := "com/example/vicinity/vicinity/instance/Instance") (t := (.array .double)) (t' := .int) (Or.inr (hw _ (List.mem_of_getElem? (i := 41) rfl))) (Or.inr (hw _ (List.mem_of_getElem? (i := 30) rfl))) (by decide) (by decide) (by decide)))).ext E14)
  have fE22 := (fE17.ext E14)
  refine s_putF X20 hx hZ hown (hw _ (List.mem_of_getElem? (i := 40) rfl)) e20 fF21 fE22 (Or.inr ⟨(hw _ (List.mem_of_getElem? (i := 41) rfl)), rfl, hnm⟩) (hw _ (List.mem_of_getElem? (i := 3) rfl)) (ty := (.array .double)) (by decide) rfl rfl (hb hby d1_153) (pc' := 156) rfl ?_
  intro T23 h23 X23 e23 W23
  have N23 := Fr.snoc X23 N13 ga
  have F23 := fF21.same W23
  have H23 : h0.size ≤ h23.size := by rw [W23.size]; exact H14
  refine s_aloadN X23 hx (hb hby d1_156) (pc' := 157) rfl rfl rfl ?_
  refine s_aload X23 hx (hb hby d1_157) (pc' := 159) rfl rfl rfl ?_
  have fV25 := ((((Vay.other W10 nay).other W13 nay).ext E14).other W23 nay)
  have fE26 := ((fE18.ext E14).wr W23)
  refine s_clone X23 hx hZ hown (hw _ (List.mem_of_getElem? (i := 31) rfl)) (hw _ (List.mem_of_getElem? (i := 32) rfl)) (hw _ (List.mem_of_getElem? (i := 36) rfl)) (hw _ (List.mem_of_getElem? (i := 34) rfl)) (hw _ (List.mem_of_getElem? (i := 35) rfl)) (hw _ (List.mem_of_getElem? (i := 37) rfl)) e23 fV25 fE26 (hb hby d1_159) (pc' := 162) rfl (by rw [hml]; rfl) (by decide) (W := 1) (Nat.le_of_eq rfl) (by decide) 4 (by decide) (by decide) (by decide) ?_
  intro T24 h24 o24 X24 e24 E24 g24 V24 Ex24
  have fE27 := (fE22.wr W23)
  have ne24_a : a ≠ o24 := Nat.ne_of_lt (by rw [g24]; exact fE27.lt)
  have fE28 := ((fE16.ext E14).wr W23)
  have ne24_ax : ax ≠ o24 := Nat.ne_of_lt (by rw [g24]; exact fE28.lt)
  have ne24_ay : ay ≠ o24 := Nat.ne_of_lt (by rw [g24]; exact fE26.lt)
  have fE29 := ((fE19.ext E14).wr W23)
  have ne24_ad : ad ≠ o24 := Nat.ne_of_lt (by rw [g24]; exact fE29.lt)
  have fE30 := (Ex14.wr W23)
  have ne24_o14 : o14 ≠ o24 := Nat.ne_of_lt (by rw [g24]; exact fE30.lt)
  have hg24 : h0.size ≤ o24 := by rw [g24]; exact H23
  have H24 : h0.size ≤ h24.size := Nat.le_trans H23 E24.1
  refine s_castY X24 hx hZ hown (hw _ (List.mem_of_getElem? (i := 38) rfl)) e24 (Ins.self Ex24) (hb hby d1_162) (pc' := 165) rfl ?_
  intro T31 X31 e31
  have fF32 := (((((G3.other W10 (Or.inr (slot_ne (C := "com/example/vicinity/vicinity/instance/Instance") (t := (.array .double)) (t' := (.object "java/lang/String")) (Or.inr (hw _ (List.mem_of_getElem? (i := 43) rfl))) (Or.inr (hw _ (List.mem_of_getElem? (i := 28) rfl))) (by decide) (by decide) (by decide)))).other W13 (Or.inr (slot_ne (C := "com/example/vicinity/vicinity/instance/Instance") (t := (.array .double)) (t' := .int) (Or.inr (hw _ (List.mem_of_getElem? (i := 43) rfl))) (Or.inr (hw _ (List.mem_of_getElem? (i := 30) rfl))) (by decide) (by decide) (by decide)))).ext E14).other W23 (Or.inr (slot_ne (C := "com/example/vicinity/vicinity/instance/Instance") (t := (.array .double)) (t' := (.array .double)) (Or.inr (hw _ (List.mem_of_getElem? (i := 43) rfl))) (Or.inr (hw _ (List.mem_of_getElem? (i := 41) rfl))) (by decide) (by decide) (by decide)))).ext E24)
  have fE33 := (fE27.ext E24)
  refine s_putF X31 hx hZ hown (hw _ (List.mem_of_getElem? (i := 42) rfl)) e31 fF32 fE33 (Or.inr ⟨(hw _ (List.mem_of_getElem? (i := 43) rfl)), rfl, hnm⟩) (hw _ (List.mem_of_getElem? (i := 3) rfl)) (ty := (.array .double)) (by decide) rfl rfl (hb hby d1_165) (pc' := 168) rfl ?_
  intro T34 h34 X34 e34 W34
  have N34 := Fr.snoc X34 N23 ga
  have F34 := fF32.same W34
  have H34 : h0.size ≤ h34.size := by rw [W34.size]; exact H24
  refine s_aloadN X34 hx (hb hby d1_168) (pc' := 169) rfl rfl rfl ?_
  refine s_aload X34 hx (hb hby d1_169) (pc' := 171) rfl rfl rfl ?_
  have fV36 := ((((((Vad.other W10 nad).other W13 nad).ext E14).other W23 nad).ext E24).other W34 nad)
  have fE37 := ((fE29.ext E24).wr W34)
  refine s_clone X34 hx hZ hown (hw _ (List.mem_of_getElem? (i := 44) rfl)) (hw _ (List.mem_of_getElem? (i := 45) rfl)) (hw _ (List.mem_of_getElem? (i := 36) rfl)) (hw _ (List.mem_of_getElem? (i := 34) rfl)) (hw _ (List.mem_of_getElem? (i := 46) rfl)) (hw _ (List.mem_of_getElem? (i := 47) rfl)) e34 fV36 fE37 (hb hby d1_171) (pc' := 174) rfl (by rw [hml]; rfl) (by decide) (W := 1) (Nat.le_of_eq rfl) (by decide) 4 (by decide) (by decide) (by decide) ?_
  intro T35 h35 o35 X35 e35 E35 g35 V35 Ex35
  have fE38 := (fE33.wr W34)
  have ne35_a : a ≠ o35 := Nat.ne_of_lt (by rw [g35]; exact fE38.lt)
  have fE39 := ((fE28.ext E24).wr W34)
  have ne35_ax : ax ≠ o35 := Nat.ne_of_lt (by rw [g35]; exact fE39.lt)
  have fE40 := ((fE26.ext E24).wr W34)
  have ne35_ay : ay ≠ o35 := Nat.ne_of_lt (by rw [g35]; exact fE40.lt)
  have ne35_ad : ad ≠ o35 := Nat.ne_of_lt (by rw [g35]; exact fE37.lt)
  have fE41 := ((fE30.ext E24).wr W34)
  have ne35_o14 : o14 ≠ o35 := Nat.ne_of_lt (by rw [g35]; exact fE41.lt)
  have fE42 := (Ex24.wr W34)
  have ne35_o24 : o24 ≠ o35 := Nat.ne_of_lt (by rw [g35]; exact fE42.lt)
  have hg35 : h0.size ≤ o35 := by rw [g35]; exact H34
  have H35 : h0.size ≤ h35.size := Nat.le_trans H34 E35.1
  refine s_castY X35 hx hZ hown (hw _ (List.mem_of_getElem? (i := 48) rfl)) e35 (Ins.self Ex35) (hb hby d1_174) (pc' := 177) rfl ?_
  intro T43 X43 e43
  have fF44 := (((((((G4.other W10 (Or.inr (slot_ne (C := "com/example/vicinity/vicinity/instance/Instance") (t := (.array .int)) (t' := (.object "java/lang/String")) (Or.inr (hw _ (List.mem_of_getElem? (i := 51) rfl))) (Or.inr (hw _ (List.mem_of_getElem? (i := 28) rfl))) (by decide) (by decide) (by decide)))).other W13 (Or.inr (slot_ne (C := "com/example/vicinity/vicinity/instance/Instance") (t := (.array .int)) (t' := .int) (Or.inr (hw _ (List.mem_of_getElem? (i := 51) rfl))) (Or.inr (hw _ (List.mem_of_getElem? (i := 30) rfl))) (by decide) (by decide) (by decide)))).ext E14).other W23 (Or.inr (slot_ne (C := "com/example/vicinity/vicinity/instance/Instance") (t := (.array .int)) (t' := (.array .double)) (Or.inr (hw _ (List.mem_of_getElem? (i := 51) rfl))) (Or.inr (hw _ (List.mem_of_getElem? (i := 41) rfl))) (by decide) (by decide) (by decide)))).ext E24).other W34 (Or.inr (slot_ne (C := "com/example/vicinity/vicinity/instance/Instance") (t := (.array .int)) (t' := (.array .double)) (Or.inr (hw _ (List.mem_of_getElem? (i := 51) rfl))) (Or.inr (hw _ (List.mem_of_getElem? (i := 43) rfl))) (by decide) (by decide) (by decide)))).ext E35)
  have fE45 := (fE38.ext E35)
  refine s_putF X43 hx hZ hown (hw _ (List.mem_of_getElem? (i := 50) rfl)) e43 fF44 fE45 (Or.inr ⟨(hw _ (List.mem_of_getElem? (i := 51) rfl)), rfl, hnm⟩) (hw _ (List.mem_of_getElem? (i := 3) rfl)) (ty := (.array .int)) (by decide) rfl rfl (hb hby d1_177) (pc' := 180) rfl ?_
  intro T46 h46 X46 e46 W46
  have N46 := Fr.snoc X46 N34 ga
  have F46 := fF44.same W46
  have H46 : h0.size ≤ h46.size := by rw [W46.size]; exact H35
  have KK47 : Keep h0 h46 [a] := (((((((((Keep.refl _ _).wr W10 (Or.inl (List.mem_of_getElem? (i := 0) rfl))).wr W13 (Or.inl (List.mem_of_getElem? (i := 0) rfl))).ext E14).wr W23 (Or.inl (List.mem_of_getElem? (i := 0) rfl))).ext E24).wr W34 (Or.inl (List.mem_of_getElem? (i := 0) rfl))).ext E35).wr W46 (Or.inl (List.mem_of_getElem? (i := 0) rfl)))
  have fE48 := (fE45.wr W46)
  have fF49 := ((((F23.ext E24).other W34 (Or.inr (slot_ne (C := "com/example/vicinity/vicinity/instance/Instance") (t := (.array .double)) (t' := (.array .double)) (Or.inr (hw _ (List.mem_of_getElem? (i := 41) rfl))) (Or.inr (hw _ (List.mem_of_getElem? (i := 43) rfl))) (by decide) (by decide) (by decide)))).ext E35).other W46 (Or.inr (slot_ne (C := "com/example/vicinity/vicinity/instance/Instance") (t := (.array .double)) (t' := (.array .int)) (Or.inr (hw _ (List.mem_of_getElem? (i := 41) rfl))) (Or.inr (hw _ (List.mem_of_getElem? (i := 51) rfl))) (by decide) (by decide) (by decide))))
  have fV50 := (((((V14.other W23 (Ne.symm ne14_a)).ext E24).other W34 (Ne.symm ne14_a)).ext E35).other W46 (Ne.symm ne14_a))
  exact s_ret X46 hx hlk hret (hb hby d1_180) (by decide) (by decide) (by rw [e46]; exact ⟨rfl, N46, KK47, fE48, _, _, fF49, fV50⟩)
set_option maxRecDepth 65536 in
set_option maxHeartbeats 40000000 in
theorem rm_1_5 (l : Launch) (Z : State) (a0 : Array Value) (hw : ∀ d ∈ tables_1, d.before a0 Z = true) (ws : List Jvm.Cond) (a : Addr) (b : Addr) (ax : Addr) (ay : Addr) (ad : Addr) (kax : ClassId) (kay : ClassId) (kad : ClassId) (vo0 : Value) (vo1 : Value) (vo2 : Value) (vo3 : Value) (vo4 : Value) (h0 : Heap) (n0 : Nat) (Z0 : n0 ≤ h0.size) (Ea : Exa Z h0 a "com/example/vicinity/vicinity/instance/Instance") (G0 : (Fld Z h0 a "com/example/vicinity/vicinity/instance/Instance" "name" "Ljava/lang/String;" vo0)) (G1 : (Fld Z h0 a "com/example/vicinity/vicinity/instance/Instance" "capacity" "I" vo1)) (G2 : (Fld Z h0 a "com/example/vicinity/vicinity/instance/Instance" "x" "[D" vo2)) (G3 : (Fld Z h0 a "com/example/vicinity/vicinity/instance/Instance" "y" "[D" vo3)) (G4 : (Fld Z h0 a "com/example/vicinity/vicinity/instance/Instance" "demands" "[I" vo4)) (Vax : Arv Z h0 ax kax .double (5 : Int32) [.double 0, .double 0, .double 0, .double 0, .double 0] (.double 0)) (Vay : Arv Z h0 ay kay .double (5 : Int32) [.double 0, .double 0, .double 0, .double 0, .double 0] (.double 0)) (Vad : Arv Z h0 ad kad .int (5 : Int32) [.int 0, .int 0, .int 0, .int 0, .int 0] (.int 0)) (Eax : Exa Z h0 ax "[D") (Eay : Exa Z h0 ay "[D") (Ead : Exa Z h0 ad "[I") (nax : ax ≠ a) (nay : ay ≠ a) (nad : ad ≠ a) (ga : n0 ≤ a) :
    OwnMet l Z (⟨"com/example/vicinity/vicinity/instance/Instance", "<init>", "(Ljava/lang/String;I[D[D[I)V"⟩ : MethodName) prog_8_method_1_code 7 none ws ({ frames := 2, cells := 3, slots := 15, locals := 26 } : Room) #[.ref a, .ref b, .int (1 : Int32), .ref ax, .ref ay, .ref ad] h0 (fun v h L => v = none ∧ Fr n0 L ∧ Keep h0 h [a] ∧ Exa Z h a "com/example/vicinity/vicinity/instance/Instance" ∧ ∃ (rx : Addr) (kx : ClassId), (Fld Z h a "com/example/vicinity/vicinity/instance/Instance" "x" "[D" (.ref rx)) ∧ Arv Z h rx kx .double (5 : Int32) [.double 0, .double 0, .double 0, .double 0, .double 0] (.double 0)) := by
  refine own_met (plainFor_of_name pn_1) (ef_1 a b (1 : Int32) ax ay ad) ?_
  intro p e s m below meth c s₁ hx hby hml hZ hown hnm hret hlk X0 e0
  have N0 := Fr.nil n0
  refine s_aloadN X0 hx (hb hby d1_0) (pc' := 1) rfl rfl rfl ?_
  refine s_initO X0 hx hZ hown (hw _ (List.mem_of_getElem? (i := 16) rfl)) (hw _ (List.mem_of_getElem? (i := 17) rfl)) (hw _ (List.mem_of_getElem? (i := 18) rfl)) e0 (hb hby d1_1) (pc' := 4) rfl (by rw [hml]; rfl) (by decide) (W := 0) (Nat.le_of_eq rfl) (by decide) ?_
  intro T1 X1 e1
  refine s_aloadN X1 hx (hb hby d1_4) (pc' := 5) rfl rfl rfl ?_
  refine s_len X1 hx hZ e1 Vax (hb hby d1_5) (pc' := 6) rfl ?_
  refine s_iconst X1 hx (2 : Int32) (hb hby d1_6) (pc' := 7) rfl rfl ?_
  refine s_icmpN X1 hx (hb hby d1_7) (pc' := 10) rfl (by decide) ?_
  refine s_aload X1 hx (hb hby d1_10) (pc' := 12) rfl rfl rfl ?_
  refine s_len X1 hx hZ e1 Vay (hb hby d1_12) (pc' := 13) rfl ?_
  refine s_aloadN X1 hx (hb hby d1_13) (pc' := 14) rfl rfl rfl ?_
  refine s_len X1 hx hZ e1 Vax (hb hby d1_14) (pc' := 15) rfl ?_
  refine s_icmpN X1 hx (hb hby d1_15) (pc' := 18) rfl (by decide) ?_
  refine s_aload X1 hx (hb hby d1_18) (pc' := 20) rfl rfl rfl ?_
  refine s_len X1 hx hZ e1 Vad (hb hby d1_20) (pc' := 21) rfl ?_
  refine s_aloadN X1 hx (hb hby d1_21) (pc' := 22) rfl rfl rfl ?_
  refine s_len X1 hx hZ e1 Vax (hb hby d1_22) (pc' := 23) rfl ?_
  refine s_icmpY X1 hx (hb hby d1_23) (by decide) (by decide) (pc' := 36) (by decide) ?_
  refine s_iloadN X1 hx (hb hby d1_36) (pc' := 37) rfl rfl ?_
  refine s_iconst X1 hx (1 : Int32) (hb hby d1_37) (pc' := 38) rfl rfl ?_
  refine s_icmpY X1 hx (hb hby d1_38) (by decide) (by decide) (pc' := 55) (by decide) ?_
  refine s_iconst X1 hx (0 : Int32) (hb hby d1_55) (pc' := 56) rfl rfl ?_
  refine s_istore X1 hx #[.val (.ref a), .val (.ref b), .val (.int (1 : Int32)), .val (.ref ax), .val (.ref ay), .val (.ref ad), .val (.int (0 : Int32))] (hb hby d1_56) (pc' := 58) rfl rfl ?_
  refine s_iload X1 hx (hb hby d1_58) (pc' := 60) rfl rfl ?_
  refine s_aloadN X1 hx (hb hby d1_60) (pc' := 61) rfl rfl rfl ?_
  refine s_len X1 hx hZ e1 Vax (hb hby d1_61) (pc' := 62) rfl ?_
  refine s_icmpN X1 hx (hb hby d1_62) (pc' := 65) rfl (by decide) ?_
  refine s_aloadN X1 hx (hb hby d1_65) (pc' := 66) rfl rfl rfl ?_
  refine s_iload X1 hx (hb hby d1_66) (pc' := 68) rfl rfl ?_
  refine s_daload X1 hx hZ e1 Vax (by decide) (v := .double 0) rfl (hb hby d1_68) (pc' := 69) rfl ?_
  refine c_static X1 hx hZ hown (hw _ (List.mem_of_getElem? (i := 19) rfl)) (hw _ (List.mem_of_getElem? (i := 20) rfl)) (hw _ (List.mem_of_getElem? (i := 4) rfl)) (hw _ (List.mem_of_getElem? (i := 21) rfl)) (by decide) e1 (rm_3 l Z a0 hw [] h0 n0 (Nat.le_trans Z0 (Nat.le_refl _))) (W := 0) (by decide) (by decide) (by decide) (by decide) (by rw [hml]; rfl) (argsL := [.double 0]) (rest := []) (lenOf pd_0 rfl) rfl rfl (Nat.le_of_eq rfl) (hb hby d1_69) (pc' := 72) rfl ?_
  intro T2 v2 L2 X2 hQ2
  obtain ⟨rfl, Nq2, eh2⟩ := hQ2
  have N2 := Fr.app N0 Nq2
  show Goes p e below _ (T2.setTop (mkF m 72 #[.val (.ref a), .val (.ref b), .val (.int (1 : Int32)), .val (.ref ax), .val (.ref ay), .val (.ref ad), .val (.int (0 : Int32))] [.int (1 : Int32)]))
  refine s_ifN X2 hx (hb hby d1_72) (pc' := 75) rfl (by decide) ?_
  refine s_aload X2 hx (hb hby d1_75) (pc' := 77) rfl rfl rfl ?_
  refine s_iload X2 hx (hb hby d1_77) (pc' := 79) rfl rfl ?_
  refine s_daload X2 hx hZ eh2 Vay (by decide) (v := .double 0) rfl (hb hby d1_79) (pc' := 80) rfl ?_
  refine c_static X2 hx hZ hown (hw _ (List.mem_of_getElem? (i := 19) rfl)) (hw _ (List.mem_of_getElem? (i := 20) rfl)) (hw _ (List.mem_of_getElem? (i := 4) rfl)) (hw _ (List.mem_of_getElem? (i := 21) rfl)) (by decide) eh2 (rm_3 l Z a0 hw [] h0 n0 (Nat.le_trans Z0 (Nat.le_refl _))) (W := 0) (by decide) (by decide) (by decide) (by decide) (by rw [hml]; rfl) (argsL := [.double 0]) (rest := []) (lenOf pd_0 rfl) rfl rfl (Nat.le_of_eq rfl) (hb hby d1_80) (pc' := 83) rfl ?_
  intro T3 v3 L3 X3 hQ3
  obtain ⟨rfl, Nq3, eh3⟩ := hQ3
  have N3 := Fr.app N2 Nq3
  show Goes p e below _ (T3.setTop (mkF m 83 #[.val (.ref a), .val (.ref b), .val (.int (1 : Int32)), .val (.ref ax), .val (.ref ay), .val (.ref ad), .val (.int (0 : Int32))] [.int (1 : Int32)]))
  refine s_ifY X3 hx (hb hby d1_83) (by decide) (by decide) (pc' := 101) (by decide) ?_
  refine s_iload X3 hx (hb hby d1_101) (pc' := 103) rfl rfl ?_
  refine s_ifY X3 hx (hb hby d1_103) (by decide) (by decide) (pc' := 129) (by decide) ?_
  refine s_iinc X3 hx (1 : Int32) #[.val (.ref a), .val (.ref b), .val (.int (1 : Int32)), .val (.ref ax), .val (.ref ay), .val (.ref ad), .val (.int (1 : Int32))] (hb hby d1_129) (pc' := 132) rfl rfl (by decide) rfl ?_
  refine s_goto X3 hx (hb hby d1_132) (by decide) (pc' := 58) (by decide) ?_
  refine s_iload X3 hx (hb hby d1_58) (pc' := 60) rfl rfl ?_
  refine s_aloadN X3 hx (hb hby d1_60) (pc' := 61) rfl rfl rfl ?_
  refine s_len X3 hx hZ eh3 Vax (hb hby d1_61) (pc' := 62) rfl ?_
  refine s_icmpN X3 hx (hb hby d1_62) (pc' := 65) rfl (by decide) ?_
  refine s_aloadN X3 hx (hb hby d1_65) (pc' := 66) rfl rfl rfl ?_
  refine s_iload X3 hx (hb hby d1_66) (pc' := 68) rfl rfl ?_
  refine s_daload X3 hx hZ eh3 Vax (by decide) (v := .double 0) rfl (hb hby d1_68) (pc' := 69) rfl ?_
  refine c_static X3 hx hZ hown (hw _ (List.mem_of_getElem? (i := 19) rfl)) (hw _ (List.mem_of_getElem? (i := 20) rfl)) (hw _ (List.mem_of_getElem? (i := 4) rfl)) (hw _ (List.mem_of_getElem? (i := 21) rfl)) (by decide) eh3 (rm_3 l Z a0 hw [] h0 n0 (Nat.le_trans Z0 (Nat.le_refl _))) (W := 0) (by decide) (by decide) (by decide) (by decide) (by rw [hml]; rfl) (argsL := [.double 0]) (rest := []) (lenOf pd_0 rfl) rfl rfl (Nat.le_of_eq rfl) (hb hby d1_69) (pc' := 72) rfl ?_
  intro T4 v4 L4 X4 hQ4
  obtain ⟨rfl, Nq4, eh4⟩ := hQ4
  have N4 := Fr.app N3 Nq4
  show Goes p e below _ (T4.setTop (mkF m 72 #[.val (.ref a), .val (.ref b), .val (.int (1 : Int32)), .val (.ref ax), .val (.ref ay), .val (.ref ad), .val (.int (1 : Int32))] [.int (1 : Int32)]))
  refine s_ifN X4 hx (hb hby d1_72) (pc' := 75) rfl (by decide) ?_
  refine s_aload X4 hx (hb hby d1_75) (pc' := 77) rfl rfl rfl ?_
  refine s_iload X4 hx (hb hby d1_77) (pc' := 79) rfl rfl ?_
  refine s_daload X4 hx hZ eh4 Vay (by decide) (v := .double 0) rfl (hb hby d1_79) (pc' := 80) rfl ?_
  refine c_static X4 hx hZ hown (hw _ (List.mem_of_getElem? (i := 19) rfl)) (hw _ (List.mem_of_getElem? (i := 20) rfl)) (hw _ (List.mem_of_getElem? (i := 4) rfl)) (hw _ (List.mem_of_getElem? (i := 21) rfl)) (by decide) eh4 (rm_3 l Z a0 hw [] h0 n0 (Nat.le_trans Z0 (Nat.le_refl _))) (W := 0) (by decide) (by decide) (by decide) (by decide) (by rw [hml]; rfl) (argsL := [.double 0]) (rest := []) (lenOf pd_0 rfl) rfl rfl (Nat.le_of_eq rfl) (hb hby d1_80) (pc' := 83) rfl ?_
  intro T5 v5 L5 X5 hQ5
  obtain ⟨rfl, Nq5, eh5⟩ := hQ5
  have N5 := Fr.app N4 Nq5
  show Goes p e below _ (T5.setTop (mkF m 83 #[.val (.ref a), .val (.ref b), .val (.int (1 : Int32)), .val (.ref ax), .val (.ref ay), .val (.ref ad), .val (.int (1 : Int32))] [.int (1 : Int32)]))
  refine s_ifY X5 hx (hb hby d1_83) (by decide) (by decide) (pc' := 101) (by decide) ?_
  refine s_iload X5 hx (hb hby d1_101) (pc' := 103) rfl rfl ?_
  refine s_ifN X5 hx (hb hby d1_103) (pc' := 106) rfl (by decide) ?_
  refine s_aload X5 hx (hb hby d1_106) (pc' := 108) rfl rfl rfl ?_
  refine s_iload X5 hx (hb hby d1_108) (pc' := 110) rfl rfl ?_
  refine s_iaload X5 hx hZ eh5 Vad (by decide) (v := .int (0 : Int32)) rfl (hb hby d1_110) (pc' := 111) rfl ?_
  refine s_ifY X5 hx (hb hby d1_111) (by decide) (by decide) (pc' := 129) (by decide) ?_
  refine s_iinc X5 hx (2 : Int32) #[.val (.ref a), .val (.ref b), .val (.int (1 : Int32)), .val (.ref ax), .val (.ref ay), .val (.ref ad), .val (.int (2 : Int32))] (hb hby d1_129) (pc' := 132) rfl rfl (by decide) rfl ?_
  refine s_goto X5 hx (hb hby d1_132) (by decide) (pc' := 58) (by decide) ?_
  refine s_iload X5 hx (hb hby d1_58) (pc' := 60) rfl rfl ?_
  refine s_aloadN X5 hx (hb hby d1_60) (pc' := 61) rfl rfl rfl ?_
  refine s_len X5 hx hZ eh5 Vax (hb hby d1_61) (pc' := 62) rfl ?_
  refine s_icmpN X5 hx (hb hby d1_62) (pc' := 65) rfl (by decide) ?_
  refine s_aloadN X5 hx (hb hby d1_65) (pc' := 66) rfl rfl rfl ?_
  refine s_iload X5 hx (hb hby d1_66) (pc' := 68) rfl rfl ?_
  refine s_daload X5 hx hZ eh5 Vax (by decide) (v := .double 0) rfl (hb hby d1_68) (pc' := 69) rfl ?_
  refine c_static X5 hx hZ hown (hw _ (List.mem_of_getElem? (i := 19) rfl)) (hw _ (List.mem_of_getElem? (i := 20) rfl)) (hw _ (List.mem_of_getElem? (i := 4) rfl)) (hw _ (List.mem_of_getElem? (i := 21) rfl)) (by decide) eh5 (rm_3 l Z a0 hw [] h0 n0 (Nat.le_trans Z0 (Nat.le_refl _))) (W := 0) (by decide) (by decide) (by decide) (by decide) (by rw [hml]; rfl) (argsL := [.double 0]) (rest := []) (lenOf pd_0 rfl) rfl rfl (Nat.le_of_eq rfl) (hb hby d1_69) (pc' := 72) rfl ?_
  intro T6 v6 L6 X6 hQ6
  obtain ⟨rfl, Nq6, eh6⟩ := hQ6
  have N6 := Fr.app N5 Nq6
  show Goes p e below _ (T6.setTop (mkF m 72 #[.val (.ref a), .val (.ref b), .val (.int (1 : Int32)), .val (.ref ax), .val (.ref ay), .val (.ref ad), .val (.int (2 : Int32))] [.int (1 : Int32)]))
  refine s_ifN X6 hx (hb hby d1_72) (pc' := 75) rfl (by decide) ?_
  refine s_aload X6 hx (hb hby d1_75) (pc' := 77) rfl rfl rfl ?_
  refine s_iload X6 hx (hb hby d1_77) (pc' := 79) rfl rfl ?_
  refine s_daload X6 hx hZ eh6 Vay (by decide) (v := .double 0) rfl (hb hby d1_79) (pc' := 80) rfl ?_
  refine c_static X6 hx hZ hown (hw _ (List.mem_of_getElem? (i := 19) rfl)) (hw _ (List.mem_of_getElem? (i := 20) rfl)) (hw _ (List.mem_of_getElem? (i := 4) rfl)) (hw _ (List.mem_of_getElem? (i := 21) rfl)) (by decide) eh6 (rm_3 l Z a0 hw [] h0 n0 (Nat.le_trans Z0 (Nat.le_refl _))) (W := 0) (by decide) (by decide) (by decide) (by decide) (by rw [hml]; rfl) (argsL := [.double 0]) (rest := []) (lenOf pd_0 rfl) rfl rfl (Nat.le_of_eq rfl) (hb hby d1_80) (pc' := 83) rfl ?_
  intro T7 v7 L7 X7 hQ7
  obtain ⟨rfl, Nq7, eh7⟩ := hQ7
  have N7 := Fr.app N6 Nq7
  show Goes p e below _ (T7.setTop (mkF m 83 #[.val (.ref a), .val (.ref b), .val (.int (1 : Int32)), .val (.ref ax), .val (.ref ay), .val (.ref ad), .val (.int (2 : Int32))] [.int (1 : Int32)]))
  refine s_ifY X7 hx (hb hby d1_83) (by decide) (by decide) (pc' := 101) (by decide) ?_
  refine s_iload X7 hx (hb hby d1_101) (pc' := 103) rfl rfl ?_
  refine s_ifN X7 hx (hb hby d1_103) (pc' := 106) rfl (by decide) ?_
  refine s_aload X7 hx (hb hby d1_106) (pc' := 108) rfl rfl rfl ?_
  refine s_iload X7 hx (hb hby d1_108) (pc' := 110) rfl rfl ?_
  refine s_iaload X7 hx hZ eh7 Vad (by decide) (v := .int (0 : Int32)) rfl (hb hby d1_110) (pc' := 111) rfl ?_
  refine s_ifY X7 hx (hb hby d1_111) (by decide) (by decide) (pc' := 129) (by decide) ?_
  refine s_iinc X7 hx (3 : Int32) #[.val (.ref a), .val (.ref b), .val (.int (1 : Int32)), .val (.ref ax), .val (.ref ay), .val (.ref ad), .val (.int (3 : Int32))] (hb hby d1_129) (pc' := 132) rfl rfl (by decide) rfl ?_
  refine s_goto X7 hx (hb hby d1_132) (by decide) (pc' := 58) (by decide) ?_
  refine s_iload X7 hx (hb hby d1_58) (pc' := 60) rfl rfl ?_
  refine s_aloadN X7 hx (hb hby d1_60) (pc' := 61) rfl rfl rfl ?_
  refine s_len X7 hx hZ eh7 Vax (hb hby d1_61) (pc' := 62) rfl ?_
  refine s_icmpN X7 hx (hb hby d1_62) (pc' := 65) rfl (by decide) ?_
  refine s_aloadN X7 hx (hb hby d1_65) (pc' := 66) rfl rfl rfl ?_
  refine s_iload X7 hx (hb hby d1_66) (pc' := 68) rfl rfl ?_
  refine s_daload X7 hx hZ eh7 Vax (by decide) (v := .double 0) rfl (hb hby d1_68) (pc' := 69) rfl ?_
  refine c_static X7 hx hZ hown (hw _ (List.mem_of_getElem? (i := 19) rfl)) (hw _ (List.mem_of_getElem? (i := 20) rfl)) (hw _ (List.mem_of_getElem? (i := 4) rfl)) (hw _ (List.mem_of_getElem? (i := 21) rfl)) (by decide) eh7 (rm_3 l Z a0 hw [] h0 n0 (Nat.le_trans Z0 (Nat.le_refl _))) (W := 0) (by decide) (by decide) (by decide) (by decide) (by rw [hml]; rfl) (argsL := [.double 0]) (rest := []) (lenOf pd_0 rfl) rfl rfl (Nat.le_of_eq rfl) (hb hby d1_69) (pc' := 72) rfl ?_
  intro T8 v8 L8 X8 hQ8
  obtain ⟨rfl, Nq8, eh8⟩ := hQ8
  have N8 := Fr.app N7 Nq8
  show Goes p e below _ (T8.setTop (mkF m 72 #[.val (.ref a), .val (.ref b), .val (.int (1 : Int32)), .val (.ref ax), .val (.ref ay), .val (.ref ad), .val (.int (3 : Int32))] [.int (1 : Int32)]))
  refine s_ifN X8 hx (hb hby d1_72) (pc' := 75) rfl (by decide) ?_
  refine s_aload X8 hx (hb hby d1_75) (pc' := 77) rfl rfl rfl ?_
  refine s_iload X8 hx (hb hby d1_77) (pc' := 79) rfl rfl ?_
  refine s_daload X8 hx hZ eh8 Vay (by decide) (v := .double 0) rfl (hb hby d1_79) (pc' := 80) rfl ?_
  refine c_static X8 hx hZ hown (hw _ (List.mem_of_getElem? (i := 19) rfl)) (hw _ (List.mem_of_getElem? (i := 20) rfl)) (hw _ (List.mem_of_getElem? (i := 4) rfl)) (hw _ (List.mem_of_getElem? (i := 21) rfl)) (by decide) eh8 (rm_3 l Z a0 hw [] h0 n0 (Nat.le_trans Z0 (Nat.le_refl _))) (W := 0) (by decide) (by decide) (by decide) (by decide) (by rw [hml]; rfl) (argsL := [.double 0]) (rest := []) (lenOf pd_0 rfl) rfl rfl (Nat.le_of_eq rfl) (hb hby d1_80) (pc' := 83) rfl ?_
  intro T9 v9 L9 X9 hQ9
  obtain ⟨rfl, Nq9, eh9⟩ := hQ9
  have N9 := Fr.app N8 Nq9
  show Goes p e below _ (T9.setTop (mkF m 83 #[.val (.ref a), .val (.ref b), .val (.int (1 : Int32)), .val (.ref ax), .val (.ref ay), .val (.ref ad), .val (.int (3 : Int32))] [.int (1 : Int32)]))
  refine s_ifY X9 hx (hb hby d1_83) (by decide) (by decide) (pc' := 101) (by decide) ?_
  refine s_iload X9 hx (hb hby d1_101) (pc' := 103) rfl rfl ?_
  refine s_ifN X9 hx (hb hby d1_103) (pc' := 106) rfl (by decide) ?_
  refine s_aload X9 hx (hb hby d1_106) (pc' := 108) rfl rfl rfl ?_
  refine s_iload X9 hx (hb hby d1_108) (pc' := 110) rfl rfl ?_
  refine s_iaload X9 hx hZ eh9 Vad (by decide) (v := .int (0 : Int32)) rfl (hb hby d1_110) (pc' := 111) rfl ?_
  refine s_ifY X9 hx (hb hby d1_111) (by decide) (by decide) (pc' := 129) (by decide) ?_
  refine s_iinc X9 hx (4 : Int32) #[.val (.ref a), .val (.ref b), .val (.int (1 : Int32)), .val (.ref ax), .val (.ref ay), .val (.ref ad), .val (.int (4 : Int32))] (hb hby d1_129) (pc' := 132) rfl rfl (by decide) rfl ?_
  refine s_goto X9 hx (hb hby d1_132) (by decide) (pc' := 58) (by decide) ?_
  refine s_iload X9 hx (hb hby d1_58) (pc' := 60) rfl rfl ?_
  refine s_aloadN X9 hx (hb hby d1_60) (pc' := 61) rfl rfl rfl ?_
  refine s_len X9 hx hZ eh9 Vax (hb hby d1_61) (pc' := 62) rfl ?_
  refine s_icmpN X9 hx (hb hby d1_62) (pc' := 65) rfl (by decide) ?_
  refine s_aloadN X9 hx (hb hby d1_65) (pc' := 66) rfl rfl rfl ?_
  refine s_iload X9 hx (hb hby d1_66) (pc' := 68) rfl rfl ?_
  refine s_daload X9 hx hZ eh9 Vax (by decide) (v := .double 0) rfl (hb hby d1_68) (pc' := 69) rfl ?_
  refine c_static X9 hx hZ hown (hw _ (List.mem_of_getElem? (i := 19) rfl)) (hw _ (List.mem_of_getElem? (i := 20) rfl)) (hw _ (List.mem_of_getElem? (i := 4) rfl)) (hw _ (List.mem_of_getElem? (i := 21) rfl)) (by decide) eh9 (rm_3 l Z a0 hw [] h0 n0 (Nat.le_trans Z0 (Nat.le_refl _))) (W := 0) (by decide) (by decide) (by decide) (by decide) (by rw [hml]; rfl) (argsL := [.double 0]) (rest := []) (lenOf pd_0 rfl) rfl rfl (Nat.le_of_eq rfl) (hb hby d1_69) (pc' := 72) rfl ?_
  intro T10 v10 L10 X10 hQ10
  obtain ⟨rfl, Nq10, eh10⟩ := hQ10
  have N10 := Fr.app N9 Nq10
  show Goes p e below _ (T10.setTop (mkF m 72 #[.val (.ref a), .val (.ref b), .val (.int (1 : Int32)), .val (.ref ax), .val (.ref ay), .val (.ref ad), .val (.int (4 : Int32))] [.int (1 : Int32)]))
  refine s_ifN X10 hx (hb hby d1_72) (pc' := 75) rfl (by decide) ?_
  refine s_aload X10 hx (hb hby d1_75) (pc' := 77) rfl rfl rfl ?_
  refine s_iload X10 hx (hb hby d1_77) (pc' := 79) rfl rfl ?_
  refine s_daload X10 hx hZ eh10 Vay (by decide) (v := .double 0) rfl (hb hby d1_79) (pc' := 80) rfl ?_
  refine c_static X10 hx hZ hown (hw _ (List.mem_of_getElem? (i := 19) rfl)) (hw _ (List.mem_of_getElem? (i := 20) rfl)) (hw _ (List.mem_of_getElem? (i := 4) rfl)) (hw _ (List.mem_of_getElem? (i := 21) rfl)) (by decide) eh10 (rm_3 l Z a0 hw [] h0 n0 (Nat.le_trans Z0 (Nat.le_refl _))) (W := 0) (by decide) (by decide) (by decide) (by decide) (by rw [hml]; rfl) (argsL := [.double 0]) (rest := []) (lenOf pd_0 rfl) rfl rfl (Nat.le_of_eq rfl) (hb hby d1_80) (pc' := 83) rfl ?_
  intro T11 v11 L11 X11 hQ11
  obtain ⟨rfl, Nq11, eh11⟩ := hQ11
  have N11 := Fr.app N10 Nq11
  show Goes p e below _ (T11.setTop (mkF m 83 #[.val (.ref a), .val (.ref b), .val (.int (1 : Int32)), .val (.ref ax), .val (.ref ay), .val (.ref ad), .val (.int (4 : Int32))] [.int (1 : Int32)]))
  refine s_ifY X11 hx (hb hby d1_83) (by decide) (by decide) (pc' := 101) (by decide) ?_
  refine s_iload X11 hx (hb hby d1_101) (pc' := 103) rfl rfl ?_
  refine s_ifN X11 hx (hb hby d1_103) (pc' := 106) rfl (by decide) ?_
  refine s_aload X11 hx (hb hby d1_106) (pc' := 108) rfl rfl rfl ?_
  refine s_iload X11 hx (hb hby d1_108) (pc' := 110) rfl rfl ?_
  refine s_iaload X11 hx hZ eh11 Vad (by decide) (v := .int (0 : Int32)) rfl (hb hby d1_110) (pc' := 111) rfl ?_
  refine s_ifY X11 hx (hb hby d1_111) (by decide) (by decide) (pc' := 129) (by decide) ?_
  refine s_iinc X11 hx (5 : Int32) #[.val (.ref a), .val (.ref b), .val (.int (1 : Int32)), .val (.ref ax), .val (.ref ay), .val (.ref ad), .val (.int (5 : Int32))] (hb hby d1_129) (pc' := 132) rfl rfl (by decide) rfl ?_
  refine s_goto X11 hx (hb hby d1_132) (by decide) (pc' := 58) (by decide) ?_
  refine s_iload X11 hx (hb hby d1_58) (pc' := 60) rfl rfl ?_
  refine s_aloadN X11 hx (hb hby d1_60) (pc' := 61) rfl rfl rfl ?_
  refine s_len X11 hx hZ eh11 Vax (hb hby d1_61) (pc' := 62) rfl ?_
  refine s_icmpY X11 hx (hb hby d1_62) (by decide) (by decide) (pc' := 135) (by decide) ?_
  refine s_aloadN X11 hx (hb hby d1_135) (pc' := 136) rfl rfl rfl ?_
  refine s_aloadN X11 hx (hb hby d1_136) (pc' := 137) rfl rfl rfl ?_
  refine s_putF X11 hx hZ hown (hw _ (List.mem_of_getElem? (i := 27) rfl)) eh11 G0 Ea (Or.inr ⟨(hw _ (List.mem_of_getElem? (i := 28) rfl)), rfl, hnm⟩) (hw _ (List.mem_of_getElem? (i := 3) rfl)) (ty := (.object "java/lang/String")) (by decide) rfl rfl (hb hby d1_137) (pc' := 140) rfl ?_
  intro T12 h12 X12 e12 W12
  have N12 := Fr.snoc X12 N11 ga
  have F12 := G0.same W12
  have H12 : h0.size ≤ h12.size := by rw [W12.size]; exact (Nat.le_refl _)
  refine s_aloadN X12 hx (hb hby d1_140) (pc' := 141) rfl rfl rfl ?_
  refine s_iloadN X12 hx (hb hby d1_141) (pc' := 142) rfl rfl ?_
  have fF13 := (G1.other W12 (Or.inr (slot_ne (C := "com/example/vicinity/vicinity/instance/Instance") (t := .int) (t' := (.object "java/lang/String")) (Or.inr (hw _ (List.mem_of_getElem? (i := 30) rfl))) (Or.inr (hw _ (List.mem_of_getElem? (i := 28) rfl))) (by decide) (by decide) (by decide))))
  have fE14 := (Ea.wr W12)
  refine s_putF X12 hx hZ hown (hw _ (List.mem_of_getElem? (i := 29) rfl)) e12 fF13 fE14 (Or.inr ⟨(hw _ (List.mem_of_getElem? (i := 30) rfl)), rfl, hnm⟩) (hw _ (List.mem_of_getElem? (i := 3) rfl)) (ty := .int) (by decide) rfl rfl (hb hby d1_142) (pc' := 145) rfl ?_
  intro T15 h15 X15 e15 W15
  have N15 := Fr.snoc X15 N12 ga
  have F15 := fF13.same W15
  have H15 : h0.size ≤ h15.size := by rw [W15.size]; exact H12
  refine s_aloadN X15 hx (hb hby d1_145) (pc' := 146) rfl rfl rfl ?_
  refine s_aloadN X15 hx (hb hby d1_146) (pc' := 147) rfl rfl rfl ?_
  have fV17 := ((Vax.other W12 nax).other W15 nax)
  have fE18 := ((Eax.wr W12).wr W15)
  refine s_clone X15 hx hZ hown (hw _ (List.mem_of_getElem? (i := 31) rfl)) (hw _ (List.mem_of_getElem? (i := 32) rfl)) (hw _ (List.mem_of_getElem? (i := 36) rfl)) (hw _ (List.mem_of_getElem? (i := 34) rfl)) (hw _ (List.mem_of_getElem? (i := 35) rfl)) (hw _ (List.mem_of_getElem? (i := 37) rfl)) e15 fV17 fE18 (hb hby d1_147) (pc' := 150) rfl (by rw [hml]; rfl) (by decide) (W := 1) (Nat.le_of_eq rfl) (by decide) 5 (by decide) (by decide) (by decide) ?_
  intro T16 h16 o16 X16 e16 E16 g16 V16 Ex16
  have fE19 := (fE14.wr W15)
  have ne16_a : a ≠ o16 := Nat.ne_of_lt (by rw [g16]; exact fE19.lt)
  have ne16_ax : ax ≠ o16 := Nat.ne_of_lt (by rw [g16]; exact fE18.lt)
  have fE20 := ((Eay.wr W12).wr W15)
  have ne16_ay : ay ≠ o16 := Nat.ne_of_lt (by rw [g16]; exact fE20.lt)
  have fE21 := ((Ead.wr W12).wr W15)
  have ne16_ad : ad ≠ o16 := Nat.ne_of_lt (by rw [g16]; exact fE21.lt)
  have hg16 : h0.size ≤ o16 := by rw [g16]; exact H15
  have H16 : h0.size ≤ h16.size := Nat.le_trans H15 E16.1
  refine s_castY X16 hx hZ hown (hw _ (List.mem_of_getElem? (i := 38) rfl)) e16 (Ins.self Ex16) (hb hby d1_150) (pc' := 153) rfl ?_
  intro T22 X22 e22
  have fF23 := (((G2.other W12 (Or.inr (slot_ne (C := "com/example/vicinity/vicinity/instance/Instance") (t := (.array .double)) (t' := (.object "java/lang/String")) (Or.inr (hw _ (List.mem_of_getElem? (i := 41) rfl))) (Or.inr (hw _ (List.mem_of_getElem? (i := 28) rfl))) (by decide) (by decide) (by decide)))).other W15 (Or.inr (slot_ne (C := "com/example/vicinity/vicinity/instance/Instance") (t := (.array .double)) (t' := .int) (Or.inr (hw _ (List.mem_of_getElem? (i := 41) rfl))) (Or.inr (hw _ (List.mem_of_getElem? (i := 30) rfl))) (by decide) (by decide) (by decide)))).ext E16)
  have fE24 := (fE19.ext E16)
  refine s_putF X22 hx hZ hown (hw _ (List.mem_of_getElem? (i := 40) rfl)) e22 fF23 fE24 (Or.inr ⟨(hw _ (List.mem_of_getElem? (i := 41) rfl)), rfl, hnm⟩) (hw _ (List.mem_of_getElem? (i := 3) rfl)) (ty := (.array .double)) (by decide) rfl rfl (hb hby d1_153) (pc' := 156) rfl ?_
  intro T25 h25 X25 e25 W25
  have N25 := Fr.snoc X25 N15 ga
  have F25 := fF23.same W25
  have H25 : h0.size ≤ h25.size := by rw [W25.size]; exact H16
  refine s_aloadN X25 hx (hb hby d1_156) (pc' := 157) rfl rfl rfl ?_
  refine s_aload X25 hx (hb hby d1_157) (pc' := 159) rfl rfl rfl ?_
  have fV27 := ((((Vay.other W12 nay).other W15 nay).ext E16).other W25 nay)
  have fE28 := ((fE20.ext E16).wr W25)
  refine s_clone X25 hx hZ hown (hw _ (List.mem_of_getElem? (i := 31) rfl)) (hw _ (List.mem_of_getElem? (i := 32) rfl)) (hw _ (List.mem_of_getElem? (i := 36) rfl)) (hw _ (List.mem_of_getElem? (i := 34) rfl)) (hw _ (List.mem_of_getElem? (i := 35) rfl)) (hw _ (List.mem_of_getElem? (i := 37) rfl)) e25 fV27 fE28 (hb hby d1_159) (pc' := 162) rfl (by rw [hml]; rfl) (by decide) (W := 1) (Nat.le_of_eq rfl) (by decide) 5 (by decide) (by decide) (by decide) ?_
  intro T26 h26 o26 X26 e26 E26 g26 V26 Ex26
  have fE29 := (fE24.wr W25)
  have ne26_a : a ≠ o26 := Nat.ne_of_lt (by rw [g26]; exact fE29.lt)
  have fE30 := ((fE18.ext E16).wr W25)
  have ne26_ax : ax ≠ o26 := Nat.ne_of_lt (by rw [g26]; exact fE30.lt)
  have ne26_ay : ay ≠ o26 := Nat.ne_of_lt (by rw [g26]; exact fE28.lt)
  have fE31 := ((fE21.ext E16).wr W25)
  have ne26_ad : ad ≠ o26 := Nat.ne_of_lt (by rw [g26]; exact fE31.lt)
  have fE32 := (Ex16.wr W25)
  have ne26_o16 : o16 ≠ o26 := Nat.ne_of_lt (by rw [g26]; exact fE32.lt)
  have hg26 : h0.size ≤ o26 := by rw [g26]; exact H25
  have H26 : h0.size ≤ h26.size := Nat.le_trans H25 E26.1
  refine s_castY X26 hx hZ hown (hw _ (List.mem_of_getElem? (i := 38) rfl)) e26 (Ins.self Ex26) (hb hby d1_162) (pc' := 165) rfl ?_
  intro T33 X33 e33
  have fF34 := (((((G3.other W12 (Or.inr (slot_ne (C := "com/example/vicinity/vicinity/instance/Instance") (t := (.array .double)) (t' := (.object "java/lang/String")) (Or.inr (hw _ (List.mem_of_getElem? (i := 43) rfl))) (Or.inr (hw _ (List.mem_of_getElem? (i := 28) rfl))) (by decide) (by decide) (by decide)))).other W15 (Or.inr (slot_ne (C := "com/example/vicinity/vicinity/instance/Instance") (t := (.array .double)) (t' := .int) (Or.inr (hw _ (List.mem_of_getElem? (i := 43) rfl))) (Or.inr (hw _ (List.mem_of_getElem? (i := 30) rfl))) (by decide) (by decide) (by decide)))).ext E16).other W25 (Or.inr (slot_ne (C := "com/example/vicinity/vicinity/instance/Instance") (t := (.array .double)) (t' := (.array .double)) (Or.inr (hw _ (List.mem_of_getElem? (i := 43) rfl))) (Or.inr (hw _ (List.mem_of_getElem? (i := 41) rfl))) (by decide) (by decide) (by decide)))).ext E26)
  have fE35 := (fE29.ext E26)
  refine s_putF X33 hx hZ hown (hw _ (List.mem_of_getElem? (i := 42) rfl)) e33 fF34 fE35 (Or.inr ⟨(hw _ (List.mem_of_getElem? (i := 43) rfl)), rfl, hnm⟩) (hw _ (List.mem_of_getElem? (i := 3) rfl)) (ty := (.array .double)) (by decide) rfl rfl (hb hby d1_165) (pc' := 168) rfl ?_
  intro T36 h36 X36 e36 W36
  have N36 := Fr.snoc X36 N25 ga
  have F36 := fF34.same W36
  have H36 : h0.size ≤ h36.size := by rw [W36.size]; exact H26
  refine s_aloadN X36 hx (hb hby d1_168) (pc' := 169) rfl rfl rfl ?_
  refine s_aload X36 hx (hb hby d1_169) (pc' := 171) rfl rfl rfl ?_
  have fV38 := ((((((Vad.other W12 nad).other W15 nad).ext E16).other W25 nad).ext E26).other W36 nad)
  have fE39 := ((fE31.ext E26).wr W36)
  refine s_clone X36 hx hZ hown (hw _ (List.mem_of_getElem? (i := 44) rfl)) (hw _ (List.mem_of_getElem? (i := 45) rfl)) (hw _ (List.mem_of_getElem? (i := 36) rfl)) (hw _ (List.mem_of_getElem? (i := 34) rfl)) (hw _ (List.mem_of_getElem? (i := 46) rfl)) (hw _ (List.mem_of_getElem? (i := 47) rfl)) e36 fV38 fE39 (hb hby d1_171) (pc' := 174) rfl (by rw [hml]; rfl) (by decide) (W := 1) (Nat.le_of_eq rfl) (by decide) 5 (by decide) (by decide) (by decide) ?_
  intro T37 h37 o37 X37 e37 E37 g37 V37 Ex37
  have fE40 := (fE35.wr W36)
  have ne37_a : a ≠ o37 := Nat.ne_of_lt (by rw [g37]; exact fE40.lt)
  have fE41 := ((fE30.ext E26).wr W36)
  have ne37_ax : ax ≠ o37 := Nat.ne_of_lt (by rw [g37]; exact fE41.lt)
  have fE42 := ((fE28.ext E26).wr W36)
  have ne37_ay : ay ≠ o37 := Nat.ne_of_lt (by rw [g37]; exact fE42.lt)
  have ne37_ad : ad ≠ o37 := Nat.ne_of_lt (by rw [g37]; exact fE39.lt)
  have fE43 := ((fE32.ext E26).wr W36)
  have ne37_o16 : o16 ≠ o37 := Nat.ne_of_lt (by rw [g37]; exact fE43.lt)
  have fE44 := (Ex26.wr W36)
  have ne37_o26 : o26 ≠ o37 := Nat.ne_of_lt (by rw [g37]; exact fE44.lt)
  have hg37 : h0.size ≤ o37 := by rw [g37]; exact H36
  have H37 : h0.size ≤ h37.size := Nat.le_trans H36 E37.1
  refine s_castY X37 hx hZ hown (hw _ (List.mem_of_getElem? (i := 48) rfl)) e37 (Ins.self Ex37) (hb hby d1_174) (pc' := 177) rfl ?_
  intro T45 X45 e45
  have fF46 := (((((((G4.other W12 (Or.inr (slot_ne (C := "com/example/vicinity/vicinity/instance/Instance") (t := (.array .int)) (t' := (.object "java/lang/String")) (Or.inr (hw _ (List.mem_of_getElem? (i := 51) rfl))) (Or.inr (hw _ (List.mem_of_getElem? (i := 28) rfl))) (by decide) (by decide) (by decide)))).other W15 (Or.inr (slot_ne (C := "com/example/vicinity/vicinity/instance/Instance") (t := (.array .int)) (t' := .int) (Or.inr (hw _ (List.mem_of_getElem? (i := 51) rfl))) (Or.inr (hw _ (List.mem_of_getElem? (i := 30) rfl))) (by decide) (by decide) (by decide)))).ext E16).other W25 (Or.inr (slot_ne (C := "com/example/vicinity/vicinity/instance/Instance") (t := (.array .int)) (t' := (.array .double)) (Or.inr (hw _ (List.mem_of_getElem? (i := 51) rfl))) (Or.inr (hw _ (List.mem_of_getElem? (i := 41) rfl))) (by decide) (by decide) (by decide)))).ext E26).other W36 (Or.inr (slot_ne (C := "com/example/vicinity/vicinity/instance/Instance") (t := (.array .int)) (t' := (.array .double)) (Or.inr (hw _ (List.mem_of_getElem? (i := 51) rfl))) (Or.inr (hw _ (List.mem_of_getElem? (i := 43) rfl))) (by decide) (by decide) (by decide)))).ext E37)
  have fE47 := (fE40.ext E37)
  refine s_putF X45 hx hZ hown (hw _ (List.mem_of_getElem? (i := 50) rfl)) e45 fF46 fE47 (Or.inr ⟨(hw _ (List.mem_of_getElem? (i := 51) rfl)), rfl, hnm⟩) (hw _ (List.mem_of_getElem? (i := 3) rfl)) (ty := (.array .int)) (by decide) rfl rfl (hb hby d1_177) (pc' := 180) rfl ?_
  intro T48 h48 X48 e48 W48
  have N48 := Fr.snoc X48 N36 ga
  have F48 := fF46.same W48
  have H48 : h0.size ≤ h48.size := by rw [W48.size]; exact H37
  have KK49 : Keep h0 h48 [a] := (((((((((Keep.refl _ _).wr W12 (Or.inl (List.mem_of_getElem? (i := 0) rfl))).wr W15 (Or.inl (List.mem_of_getElem? (i := 0) rfl))).ext E16).wr W25 (Or.inl (List.mem_of_getElem? (i := 0) rfl))).ext E26).wr W36 (Or.inl (List.mem_of_getElem? (i := 0) rfl))).ext E37).wr W48 (Or.inl (List.mem_of_getElem? (i := 0) rfl)))
  have fE50 := (fE47.wr W48)
  have fF51 := ((((F25.ext E26).other W36 (Or.inr (slot_ne (C := "com/example/vicinity/vicinity/instance/Instance") (t := (.array .double)) (t' := (.array .double)) (Or.inr (hw _ (List.mem_of_getElem? (i := 41) rfl))) (Or.inr (hw _ (List.mem_of_getElem? (i := 43) rfl))) (by decide) (by decide) (by decide)))).ext E37).other W48 (Or.inr (slot_ne (C := "com/example/vicinity/vicinity/instance/Instance") (t := (.array .double)) (t' := (.array .int)) (Or.inr (hw _ (List.mem_of_getElem? (i := 41) rfl))) (Or.inr (hw _ (List.mem_of_getElem? (i := 51) rfl))) (by decide) (by decide) (by decide))))
  have fV52 := (((((V16.other W25 (Ne.symm ne16_a)).ext E26).other W36 (Ne.symm ne16_a)).ext E37).other W48 (Ne.symm ne16_a))
  exact s_ret X48 hx hlk hret (hb hby d1_180) (by decide) (by decide) (by rw [e48]; exact ⟨rfl, N48, KK49, fE50, _, _, fF51, fV52⟩)
theorem pn_0 : plainName "com/example/vicinity/vicinity/instance/InstanceIsCustomerPinLaw" = true := by first | (simp [plainName, overriddenIn]; done) | decide +kernel
def Q0 (n0 : Nat) (v : Option Value) (h : Heap) (L : List Loc) : Prop := v = some (.int 1) ∧ Fr n0 L
theorem pd_1 : parseMethodDescriptor "(Ljava/lang/String;I[D[D[I)V" = some ⟨[(.object "java/lang/String"), .int, (.array .double), (.array .double), (.array .int)], none⟩ := by decide +kernel
theorem pd_2 : parseMethodDescriptor "(I)Z" = some ⟨[.int], some .boolean⟩ := by decide +kernel
theorem ef_0 (z0 : Int32) (z1 : Int32) (z2 : Int32) (m : MethodId) : entryFrame m #[.int z0, .int z1, .int z2] maxLocals = mkF m 0 #[.val (.int z0), .val (.int z1), .val (.int z2), .unset, .unset, .unset, .unset, .unset, .unset, .unset, .unset, .unset, .unset] [] := by first | (simp [entryFrame, mkF, argsToLocals, Value.category, maxLocals]; done) | rfl
set_option maxRecDepth 65536 in
set_option maxHeartbeats 40000000 in
theorem rm_0 (l : Launch) (Z : State) (a0 : Array Value) (hw : ∀ d ∈ tables_1, d.before a0 Z = true) (ws : List Jvm.Cond) (p0 : Int32) (p1 : Int32) (p2 : Int32) (h0 : Heap) (n0 : Nat) (Z0 : n0 ≤ h0.size)  :
    OwnMetW l Z x code maxLocals ret ws room_1 #[.int p0, .int p1, .int p2] h0 (Q0 n0) := by
  refine own_metW (plainFor_of_name pn_0) (ef_0 p0 p1 p2) ?_
  intro p e s m below meth c s₁ hx hby hml hZ hown hnm hret hlk X0 e0 hS0 J0
  have N0 := Fr.nil n0
  have hstr := own_str hw
  refine s_iloadN X0 hx (hb hby at_0) (pc' := 1) rfl rfl ?_
  refine s_iconst X0 hx (3 : Int32) (hb hby at_1) (pc' := 2) rfl rfl ?_
  refine s_iand X0 hx (hb hby at_2) (pc' := 3) rfl ?_
  refine s_iconst X0 hx (2 : Int32) (hb hby at_3) (pc' := 4) rfl rfl ?_
  refine s_iadd X0 hx (hb hby at_4) (pc' := 5) rfl ?_
  refine s_istoreN X0 hx #[.val (.int p0), .val (.int p1), .val (.int p2), .val (.int ((p0 &&& (3 : Int32)) + (2 : Int32))), .unset, .unset, .unset, .unset, .unset, .unset, .unset, .unset, .unset] (hb hby at_5) (pc' := 6) rfl rfl ?_
  have hk := own_k p0
  generalize ek : ((p0 &&& (3 : Int32)) + (2 : Int32)) = k
  simp only [ek] at hk
  rcases hk with rfl | rfl | rfl | rfl
  ·
    refine s_iloadN X0 hx (hb hby at_6) (pc' := 7) rfl rfl ?_
    refine s_iconst X0 hx (1 : Int32) (hb hby at_7) (pc' := 8) rfl rfl ?_
    refine s_isub X0 hx (hb hby at_8) (pc' := 9) rfl ?_
    rw [show ((2 : Int32) - (1 : Int32)) = (1 : Int32) by decide]
    refine s_istore X0 hx #[.val (.int p0), .val (.int p1), .val (.int p2), .val (.int (2 : Int32)), .val (.int (1 : Int32)), .unset, .unset, .unset, .unset, .unset, .unset, .unset, .unset] (hb hby at_9) (pc' := 11) rfl rfl ?_
    refine s_iloadN X0 hx (hb hby at_11) (pc' := 12) rfl rfl ?_
    refine s_newP X0 hx hZ (hw _ (List.mem_of_getElem? (i := 0) rfl)) e0 (hb hby at_12) (pc' := 14) rfl (by decide) 2 (by decide) (by decide) (by decide) (by decide) (ad := "[D") (by decide) ?_
    intro T1 h1 c1 o1 X1 e1 E1 g1 V1 Ex1
    have hg1 : h0.size ≤ o1 := by rw [g1]; exact (Nat.le_refl _)
    have J1 := Nat.le_trans J0 (E1.1)
    have H1 : h0.size ≤ h1.size := Nat.le_trans (Nat.le_refl _) E1.1
    have U1 : Arv Z h1 o1 c1 .double (2 : Int32) [.double 0, .double 0] (.double 0) := V1.pad (pad_rep [] _ 2)
    refine s_astore X1 hx #[.val (.int p0), .val (.int p1), .val (.int p2), .val (.int (2 : Int32)), .val (.int (1 : Int32)), .val (.ref o1), .unset, .unset, .unset, .unset, .unset, .unset, .unset] (hb hby at_14) (pc' := 16) rfl rfl rfl ?_
    refine s_iloadN X1 hx (hb hby at_16) (pc' := 17) rfl rfl ?_
    refine s_newP X1 hx hZ (hw _ (List.mem_of_getElem? (i := 0) rfl)) e1 (hb hby at_17) (pc' := 19) rfl (by decide) 2 (by decide) (by decide) (by decide) (by decide) (ad := "[D") (by decide) ?_
    intro T2 h2 c2 o2 X2 e2 E2 g2 V2 Ex2
    have ne2_o1 : o1 ≠ o2 := Nat.ne_of_lt (by rw [g2]; exact Ex1.lt)
    have hg2 : h0.size ≤ o2 := by rw [g2]; exact H1
    have J2 := Nat.le_trans J1 (E2.1)
    have H2 : h0.size ≤ h2.size := Nat.le_trans H1 E2.1
    have U2 : Arv Z h2 o2 c2 .double (2 : Int32) [.double 0, .double 0] (.double 0) := V2.pad (pad_rep [] _ 2)
    refine s_astore X2 hx #[.val (.int p0), .val (.int p1), .val (.int p2), .val (.int (2 : Int32)), .val (.int (1 : Int32)), .val (.ref o1), .val (.ref o2), .unset, .unset, .unset, .unset, .unset, .unset] (hb hby at_19) (pc' := 21) rfl rfl rfl ?_
    refine s_iloadN X2 hx (hb hby at_21) (pc' := 22) rfl rfl ?_
    refine s_newP X2 hx hZ (hw _ (List.mem_of_getElem? (i := 1) rfl)) e2 (hb hby at_22) (pc' := 24) rfl (by decide) 2 (by decide) (by decide) (by decide) (by decide) (ad := "[I") (by decide) ?_
    intro T3 h3 c3 o3 X3 e3 E3 g3 V3 Ex3
    have fE4 := (Ex1.ext E2)
    have ne3_o1 : o1 ≠ o3 := Nat.ne_of_lt (by rw [g3]; exact fE4.lt)
    have ne3_o2 : o2 ≠ o3 := Nat.ne_of_lt (by rw [g3]; exact Ex2.lt)
    have hg3 : h0.size ≤ o3 := by rw [g3]; exact H2
    have J3 := Nat.le_trans J2 (E3.1)
    have H3 : h0.size ≤ h3.size := Nat.le_trans H2 E3.1
    have U3 : Arv Z h3 o3 c3 .int (2 : Int32) [.int 0, .int 0] (.int 0) := V3.pad (pad_rep [] _ 2)
    refine s_astore X3 hx #[.val (.int p0), .val (.int p1), .val (.int p2), .val (.int (2 : Int32)), .val (.int (1 : Int32)), .val (.ref o1), .val (.ref o2), .val (.ref o3), .unset, .unset, .unset, .unset, .unset] (hb hby at_24) (pc' := 26) rfl rfl rfl ?_
    refine s_new X3 hx hZ hown (hw _ (List.mem_of_getElem? (i := 2) rfl)) (hw _ (List.mem_of_getElem? (i := 3) rfl)) (hw _ (List.mem_of_getElem? (i := 4) rfl)) e3 (hb hby at_26) (pc' := 29) rfl (by decide) (by decide) ?_
    intro T5 h5 o5 X5 e5 E5 g5 A5 D5
    have fE6 := (fE4.ext E3)
    have ne5_o1 : o1 ≠ o5 := Nat.ne_of_lt (by rw [g5]; exact fE6.lt)
    have fE7 := (Ex2.ext E3)
    have ne5_o2 : o2 ≠ o5 := Nat.ne_of_lt (by rw [g5]; exact fE7.lt)
    have ne5_o3 : o3 ≠ o5 := Nat.ne_of_lt (by rw [g5]; exact Ex3.lt)
    have hg5 : h0.size ≤ o5 := by rw [g5]; exact H3
    have J5 := Nat.le_trans J3 (E5.1)
    have H5 : h0.size ≤ h5.size := Nat.le_trans H3 E5.1
    have F5_name := D5 (O := "com/example/vicinity/vicinity/instance/Instance") (nm := "name") (d := "Ljava/lang/String;") (Or.inr (hw _ (List.mem_of_getElem? (i := 28) rfl))) (ty := (.object "java/lang/String")) (by decide)
    have F5_capacity := D5 (O := "com/example/vicinity/vicinity/instance/Instance") (nm := "capacity") (d := "I") (Or.inr (hw _ (List.mem_of_getElem? (i := 30) rfl))) (ty := .int) (by decide)
    have F5_x := D5 (O := "com/example/vicinity/vicinity/instance/Instance") (nm := "x") (d := "[D") (Or.inr (hw _ (List.mem_of_getElem? (i := 41) rfl))) (ty := (.array .double)) (by decide)
    have F5_y := D5 (O := "com/example/vicinity/vicinity/instance/Instance") (nm := "y") (d := "[D") (Or.inr (hw _ (List.mem_of_getElem? (i := 43) rfl))) (ty := (.array .double)) (by decide)
    have F5_demands := D5 (O := "com/example/vicinity/vicinity/instance/Instance") (nm := "demands") (d := "[I") (Or.inr (hw _ (List.mem_of_getElem? (i := 51) rfl))) (ty := (.array .int)) (by decide)
    refine s_dup X5 hx (hb hby at_29) (pc' := 30) rfl rfl ?_
    refine s_ldcS X5 hx hZ hown (hw _ (List.mem_of_getElem? (i := 5) rfl)) hstr e5 hS0 J5 (hb hby at_30) (pc' := 32) rfl 4 (by decide) (by decide) (by decide) (by decide) ?_
    intro a8 T8 h8 k8 X8 e8 E8 hS8 J8 hZ8 ho8
    have H8 : h0.size ≤ h8.size := Nat.le_trans H5 E8.1
    refine s_iconst X8 hx (1 : Int32) (hb hby at_32) (pc' := 33) rfl rfl ?_
    refine s_aload X8 hx (hb hby at_33) (pc' := 35) rfl rfl rfl ?_
    refine s_aload X8 hx (hb hby at_35) (pc' := 37) rfl rfl rfl ?_
    refine s_aload X8 hx (hb hby at_37) (pc' := 39) rfl rfl rfl ?_
    have fE9 := (A5.ext E8)
    have fF10 := (F5_name.ext E8)
    have fF11 := (F5_capacity.ext E8)
    have fF12 := (F5_x.ext E8)
    have fF13 := (F5_y.ext E8)
    have fF14 := (F5_demands.ext E8)
    have fV15 := ((((U1.ext E2).ext E3).ext E5).ext E8)
    have fV16 := (((U2.ext E3).ext E5).ext E8)
    have fV17 := ((U3.ext E5).ext E8)
    have fE18 := ((fE6.ext E5).ext E8)
    have fE19 := ((fE7.ext E5).ext E8)
    have fE20 := ((Ex3.ext E5).ext E8)
    refine c_special X8 hx hZ8 rfl ho8 (hw _ (List.mem_of_getElem? (i := 13) rfl)) (hw _ (List.mem_of_getElem? (i := 14) rfl)) (hw _ (List.mem_of_getElem? (i := 4) rfl)) (hw _ (List.mem_of_getElem? (i := 15) rfl)) (by decide) e8 (rm_1_2 l Z a0 hw [] o5 a8 o1 o2 o3 c1 c2 c3 _ _ _ _ _ h8 n0 (Nat.le_trans Z0 H8) fE9 fF10 fF11 fF12 fF13 fF14 fV15 fV16 fV17 fE18 fE19 fE20 ne5_o1 ne5_o2 ne5_o3 (Nat.le_trans Z0 hg5)) (W := 1) (by decide) (by decide) (by decide) (by decide) (by rw [hml]; rfl) (argsL := [.ref a8, .int (1 : Int32), .ref o1, .ref o2, .ref o3]) (rest := [.ref o5]) (a := o5) (lenOf pd_1 rfl) rfl rfl (Nat.le_of_eq rfl) (hb hby at_39) (pc' := 42) rfl ?_
    intro T21 v21 L21 X21 hQ21
    obtain ⟨rfl, Nq21, K21, E21, rx21, kx21, Fx21, Vx21⟩ := hQ21
    have N21 := Fr.app N0 Nq21
    have J21 := Nat.le_trans J8 (K21.1)
    have H21 : h0.size ≤ T21.heap.size := Nat.le_trans H8 K21.1
    show Goes p e below _ (T21.setTop (mkF m 42 #[.val (.int p0), .val (.int p1), .val (.int p2), .val (.int (2 : Int32)), .val (.int (1 : Int32)), .val (.ref o1), .val (.ref o2), .val (.ref o3), .unset, .unset, .unset, .unset, .unset] [.ref o5]))
    refine s_astore X21 hx #[.val (.int p0), .val (.int p1), .val (.int p2), .val (.int (2 : Int32)), .val (.int (1 : Int32)), .val (.ref o1), .val (.ref o2), .val (.ref o3), .val (.ref o5), .unset, .unset, .unset, .unset] (hb hby at_42) (pc' := 44) rfl rfl rfl ?_
    refine s_iloadN X21 hx (hb hby at_44) (pc' := 45) rfl rfl ?_
    refine s_bipush X21 hx (7 : Int32) (hb hby at_45) (pc' := 47) rfl rfl ?_
    refine s_iand X21 hx (hb hby at_47) (pc' := 48) rfl ?_
    refine s_iconst X21 hx (2 : Int32) (hb hby at_48) (pc' := 49) rfl rfl ?_
    refine s_isub X21 hx (hb hby at_49) (pc' := 50) rfl ?_
    refine s_istore X21 hx #[.val (.int p0), .val (.int p1), .val (.int p2), .val (.int (2 : Int32)), .val (.int (1 : Int32)), .val (.ref o1), .val (.ref o2), .val (.ref o3), .val (.ref o5), .val (.int ((p2 &&& (7 : Int32)) - (2 : Int32))), .unset, .unset, .unset] (hb hby at_50) (pc' := 52) rfl rfl ?_
    generalize ec2 : ((p2 &&& (7 : Int32)) - (2 : Int32)) = c2
    refine s_aload X21 hx (hb hby at_52) (pc' := 54) rfl rfl rfl ?_
    refine s_iloadN X21 hx (hb hby at_54) (pc' := 55) rfl rfl ?_
    refine c_virtual X21 hx hZ8 ho8 (hw _ (List.mem_of_getElem? (i := 52) rfl)) (hw _ (List.mem_of_getElem? (i := 53) rfl)) (hw _ (List.mem_of_getElem? (i := 55) rfl)) (hw _ (List.mem_of_getElem? (i := 54) rfl)) (hw _ (List.mem_of_getElem? (i := 4) rfl)) (hw _ (List.mem_of_getElem? (i := 56) rfl)) (by decide) rfl E21 (rm_5 l Z a0 hw [] o5 p1 rx21 kx21 (2 : Int32) [.double 0, .double 0] T21.heap n0 (Nat.le_trans Z0 H21) Fx21 Vx21) (W := 0) (by decide) (by decide) (by decide) (by decide) (by rw [hml]; rfl) (argsL := [.int p1]) (rest := []) (lenOf pd_2 rfl) rfl rfl (Nat.le_of_eq rfl) (hb hby at_55) (pc' := 58) rfl ?_
    intro T22 v22 L22 X22 hQ22
    obtain ⟨rfl, Nq22, eh22⟩ := hQ22
    have N22 := Fr.app N21 Nq22
    show Goes p e below _ (T22.setTop (mkF m 58 #[.val (.int p0), .val (.int p1), .val (.int p2), .val (.int (2 : Int32)), .val (.int (1 : Int32)), .val (.ref o1), .val (.ref o2), .val (.ref o3), .val (.ref o5), .val (.int c2), .unset, .unset, .unset] [.int (own_cust p1 (2 : Int32))]))
    have t1 : Goes p e below (EndsAsW (Q0 n0) s room_1.cells room_1.slots) (T22.setTop (mkF m 77 #[.val (.int p0), .val (.int p1), .val (.int p2), .val (.int (2 : Int32)), .val (.int (1 : Int32)), .val (.ref o1), .val (.ref o2), .val (.ref o3), .val (.ref o5), .val (.int c2), .unset, .unset, .unset] [])) := by
      refine s_iconst X22 hx (1 : Int32) (hb hby at_77) (pc' := 78) rfl rfl ?_
      refine s_goto X22 hx (hb hby at_78) (by decide) (pc' := 82) (by decide) ?_
      refine s_istore X22 hx #[.val (.int p0), .val (.int p1), .val (.int p2), .val (.int (2 : Int32)), .val (.int (1 : Int32)), .val (.ref o1), .val (.ref o2), .val (.ref o3), .val (.ref o5), .val (.int c2), .val (.int (1 : Int32)), .unset, .unset] (hb hby at_82) (pc' := 84) rfl rfl ?_
      refine s_aload X22 hx (hb hby at_84) (pc' := 86) rfl rfl rfl ?_
      refine s_iload X22 hx (hb hby at_86) (pc' := 88) rfl rfl ?_
      refine c_virtual X22 hx hZ8 ho8 (hw _ (List.mem_of_getElem? (i := 52) rfl)) (hw _ (List.mem_of_getElem? (i := 53) rfl)) (hw _ (List.mem_of_getElem? (i := 55) rfl)) (hw _ (List.mem_of_getElem? (i := 54) rfl)) (hw _ (List.mem_of_getElem? (i := 4) rfl)) (hw _ (List.mem_of_getElem? (i := 56) rfl)) (by decide) eh22 E21 (rm_5 l Z a0 hw [] o5 c2 rx21 kx21 (2 : Int32) [.double 0, .double 0] T21.heap n0 (Nat.le_trans Z0 H21) Fx21 Vx21) (W := 0) (by decide) (by decide) (by decide) (by decide) (by rw [hml]; rfl) (argsL := [.int c2]) (rest := []) (lenOf pd_2 rfl) rfl rfl (Nat.le_of_eq rfl) (hb hby at_88) (pc' := 91) rfl ?_
      intro T23 v23 L23 X23 hQ23
      obtain ⟨rfl, Nq23, eh23⟩ := hQ23
      have N23 := Fr.app N22 Nq23
      show Goes p e below _ (T23.setTop (mkF m 91 #[.val (.int p0), .val (.int p1), .val (.int p2), .val (.int (2 : Int32)), .val (.int (1 : Int32)), .val (.ref o1), .val (.ref o2), .val (.ref o3), .val (.ref o5), .val (.int c2), .val (.int (1 : Int32)), .unset, .unset] [.int (own_cust c2 (2 : Int32))]))
      have t2 : Goes p e below (EndsAsW (Q0 n0) s room_1.cells room_1.slots) (T23.setTop (mkF m 112 #[.val (.int p0), .val (.int p1), .val (.int p2), .val (.int (2 : Int32)), .val (.int (1 : Int32)), .val (.ref o1), .val (.ref o2), .val (.ref o3), .val (.ref o5), .val (.int c2), .val (.int (1 : Int32)), .unset, .unset] [])) := by
        refine s_iconst X23 hx (1 : Int32) (hb hby at_112) (pc' := 113) rfl rfl ?_
        refine s_goto X23 hx (hb hby at_113) (by decide) (pc' := 117) (by decide) ?_
        refine s_istore X23 hx #[.val (.int p0), .val (.int p1), .val (.int p2), .val (.int (2 : Int32)), .val (.int (1 : Int32)), .val (.ref o1), .val (.ref o2), .val (.ref o3), .val (.ref o5), .val (.int c2), .val (.int (1 : Int32)), .val (.int (1 : Int32)), .unset] (hb hby at_117) (pc' := 119) rfl rfl ?_
        refine s_aload X23 hx (hb hby at_119) (pc' := 121) rfl rfl rfl ?_
        refine s_iconst X23 hx (1 : Int32) (hb hby at_121) (pc' := 122) rfl rfl ?_
        refine c_virtual X23 hx hZ8 ho8 (hw _ (List.mem_of_getElem? (i := 52) rfl)) (hw _ (List.mem_of_getElem? (i := 53) rfl)) (hw _ (List.mem_of_getElem? (i := 55) rfl)) (hw _ (List.mem_of_getElem? (i := 54) rfl)) (hw _ (List.mem_of_getElem? (i := 4) rfl)) (hw _ (List.mem_of_getElem? (i := 56) rfl)) (by decide) eh23 E21 (rm_5 l Z a0 hw [] o5 (1 : Int32) rx21 kx21 (2 : Int32) [.double 0, .double 0] T21.heap n0 (Nat.le_trans Z0 H21) Fx21 Vx21) (W := 0) (by decide) (by decide) (by decide) (by decide) (by rw [hml]; rfl) (argsL := [.int (1 : Int32)]) (rest := []) (lenOf pd_2 rfl) rfl rfl (Nat.le_of_eq rfl) (hb hby at_122) (pc' := 125) rfl ?_
        intro T24 v24 L24 X24 hQ24
        obtain ⟨hv24, Nq24, eh24⟩ := hQ24
        rw [show own_cust (1 : Int32) (2 : Int32) = (1 : Int32) from by decide] at hv24
        subst hv24
        have N24 := Fr.app N23 Nq24
        show Goes p e below _ (T24.setTop (mkF m 125 #[.val (.int p0), .val (.int p1), .val (.int p2), .val (.int (2 : Int32)), .val (.int (1 : Int32)), .val (.ref o1), .val (.ref o2), .val (.ref o3), .val (.ref o5), .val (.int c2), .val (.int (1 : Int32)), .val (.int (1 : Int32)), .unset] [.int (1 : Int32)]))
        refine s_ifN X24 hx (hb hby at_125) (pc' := 128) rfl (by decide) ?_
        refine s_aload X24 hx (hb hby at_128) (pc' := 130) rfl rfl rfl ?_
        refine s_iload X24 hx (hb hby at_130) (pc' := 132) rfl rfl ?_
        refine c_virtual X24 hx hZ8 ho8 (hw _ (List.mem_of_getElem? (i := 52) rfl)) (hw _ (List.mem_of_getElem? (i := 53) rfl)) (hw _ (List.mem_of_getElem? (i := 55) rfl)) (hw _ (List.mem_of_getElem? (i := 54) rfl)) (hw _ (List.mem_of_getElem? (i := 4) rfl)) (hw _ (List.mem_of_getElem? (i := 56) rfl)) (by decide) eh24 E21 (rm_5 l Z a0 hw [] o5 (1 : Int32) rx21 kx21 (2 : Int32) [.double 0, .double 0] T21.heap n0 (Nat.le_trans Z0 H21) Fx21 Vx21) (W := 0) (by decide) (by decide) (by decide) (by decide) (by rw [hml]; rfl) (argsL := [.int (1 : Int32)]) (rest := []) (lenOf pd_2 rfl) rfl rfl (Nat.le_of_eq rfl) (hb hby at_132) (pc' := 135) rfl ?_
        intro T25 v25 L25 X25 hQ25
        obtain ⟨hv25, Nq25, eh25⟩ := hQ25
        rw [show own_cust (1 : Int32) (2 : Int32) = (1 : Int32) from by decide] at hv25
        subst hv25
        have N25 := Fr.app N24 Nq25
        show Goes p e below _ (T25.setTop (mkF m 135 #[.val (.int p0), .val (.int p1), .val (.int p2), .val (.int (2 : Int32)), .val (.int (1 : Int32)), .val (.ref o1), .val (.ref o2), .val (.ref o3), .val (.ref o5), .val (.int c2), .val (.int (1 : Int32)), .val (.int (1 : Int32)), .unset] [.int (1 : Int32)]))
        refine s_ifN X25 hx (hb hby at_135) (pc' := 138) rfl (by decide) ?_
        refine s_aload X25 hx (hb hby at_138) (pc' := 140) rfl rfl rfl ?_
        refine s_iconst X25 hx (0 : Int32) (hb hby at_140) (pc' := 141) rfl rfl ?_
        refine c_virtual X25 hx hZ8 ho8 (hw _ (List.mem_of_getElem? (i := 52) rfl)) (hw _ (List.mem_of_getElem? (i := 53) rfl)) (hw _ (List.mem_of_getElem? (i := 55) rfl)) (hw _ (List.mem_of_getElem? (i := 54) rfl)) (hw _ (List.mem_of_getElem? (i := 4) rfl)) (hw _ (List.mem_of_getElem? (i := 56) rfl)) (by decide) eh25 E21 (rm_5 l Z a0 hw [] o5 (0 : Int32) rx21 kx21 (2 : Int32) [.double 0, .double 0] T21.heap n0 (Nat.le_trans Z0 H21) Fx21 Vx21) (W := 0) (by decide) (by decide) (by decide) (by decide) (by rw [hml]; rfl) (argsL := [.int (0 : Int32)]) (rest := []) (lenOf pd_2 rfl) rfl rfl (Nat.le_of_eq rfl) (hb hby at_141) (pc' := 144) rfl ?_
        intro T26 v26 L26 X26 hQ26
        obtain ⟨hv26, Nq26, eh26⟩ := hQ26
        rw [show own_cust (0 : Int32) (2 : Int32) = (0 : Int32) from by decide] at hv26
        subst hv26
        have N26 := Fr.app N25 Nq26
        show Goes p e below _ (T26.setTop (mkF m 144 #[.val (.int p0), .val (.int p1), .val (.int p2), .val (.int (2 : Int32)), .val (.int (1 : Int32)), .val (.ref o1), .val (.ref o2), .val (.ref o3), .val (.ref o5), .val (.int c2), .val (.int (1 : Int32)), .val (.int (1 : Int32)), .unset] [.int (0 : Int32)]))
        refine s_ifN X26 hx (hb hby at_144) (pc' := 147) rfl (by decide) ?_
        refine s_aload X26 hx (hb hby at_147) (pc' := 149) rfl rfl rfl ?_
        refine s_iload X26 hx (hb hby at_149) (pc' := 151) rfl rfl ?_
        refine s_iconst X26 hx (1 : Int32) (hb hby at_151) (pc' := 152) rfl rfl ?_
        refine s_iadd X26 hx (hb hby at_152) (pc' := 153) rfl ?_
        rw [show ((1 : Int32) + (1 : Int32)) = (2 : Int32) by decide]
        refine c_virtual X26 hx hZ8 ho8 (hw _ (List.mem_of_getElem? (i := 52) rfl)) (hw _ (List.mem_of_getElem? (i := 53) rfl)) (hw _ (List.mem_of_getElem? (i := 55) rfl)) (hw _ (List.mem_of_getElem? (i := 54) rfl)) (hw _ (List.mem_of_getElem? (i := 4) rfl)) (hw _ (List.mem_of_getElem? (i := 56) rfl)) (by decide) eh26 E21 (rm_5 l Z a0 hw [] o5 (2 : Int32) rx21 kx21 (2 : Int32) [.double 0, .double 0] T21.heap n0 (Nat.le_trans Z0 H21) Fx21 Vx21) (W := 0) (by decide) (by decide) (by decide) (by decide) (by rw [hml]; rfl) (argsL := [.int (2 : Int32)]) (rest := []) (lenOf pd_2 rfl) rfl rfl (Nat.le_of_eq rfl) (hb hby at_153) (pc' := 156) rfl ?_
        intro T27 v27 L27 X27 hQ27
        obtain ⟨hv27, Nq27, eh27⟩ := hQ27
        rw [show own_cust (2 : Int32) (2 : Int32) = (0 : Int32) from by decide] at hv27
        subst hv27
        have N27 := Fr.app N26 Nq27
        show Goes p e below _ (T27.setTop (mkF m 156 #[.val (.int p0), .val (.int p1), .val (.int p2), .val (.int (2 : Int32)), .val (.int (1 : Int32)), .val (.ref o1), .val (.ref o2), .val (.ref o3), .val (.ref o5), .val (.int c2), .val (.int (1 : Int32)), .val (.int (1 : Int32)), .unset] [.int (0 : Int32)]))
        refine s_ifN X27 hx (hb hby at_156) (pc' := 159) rfl (by decide) ?_
        refine s_iconst X27 hx (1 : Int32) (hb hby at_159) (pc' := 160) rfl rfl ?_
        refine s_goto X27 hx (hb hby at_160) (by decide) (pc' := 164) (by decide) ?_
        refine s_istore X27 hx #[.val (.int p0), .val (.int p1), .val (.int p2), .val (.int (2 : Int32)), .val (.int (1 : Int32)), .val (.ref o1), .val (.ref o2), .val (.ref o3), .val (.ref o5), .val (.int c2), .val (.int (1 : Int32)), .val (.int (1 : Int32)), .val (.int (1 : Int32))] (hb hby at_164) (pc' := 166) rfl rfl ?_
        refine s_iload X27 hx (hb hby at_166) (pc' := 168) rfl rfl ?_
        refine s_ifN X27 hx (hb hby at_168) (pc' := 171) rfl (by decide) ?_
        refine s_iload X27 hx (hb hby at_171) (pc' := 173) rfl rfl ?_
        refine s_ifN X27 hx (hb hby at_173) (pc' := 176) rfl (by decide) ?_
        refine s_iload X27 hx (hb hby at_176) (pc' := 178) rfl rfl ?_
        refine s_ifN X27 hx (hb hby at_178) (pc' := 181) rfl (by decide) ?_
        refine s_iconst X27 hx (1 : Int32) (hb hby at_181) (pc' := 182) rfl rfl ?_
        refine s_goto X27 hx (hb hby at_182) (by decide) (pc' := 186) (by decide) ?_
        exact s_retIW X27 hx hlk hS8 (by rw [eh27]; exact J21) hret (hb hby at_186) rfl (Or.inl ⟨rfl, by simp, _, rfl⟩) (by decide) (by decide) ⟨rfl, N27⟩
      refine s_iload X23 hx (hb hby at_91) (pc' := 93) rfl rfl ?_
      refine s_iconst X23 hx (1 : Int32) (hb hby at_93) (pc' := 94) rfl rfl ?_
      by_cases h1 : c2 < 1
      ·
        refine s_icmpY X23 hx (hb hby at_94) (cy_lt h1) (by decide) (pc' := 108) (by decide) ?_
        refine s_iconst X23 hx (0 : Int32) (hb hby at_108) (pc' := 109) rfl rfl ?_
        refine s_icmpN X23 hx (hb hby at_109) (pc' := 112) rfl (cn_ne (own_cust_lo h1 _)) ?_
        exact t2
      ·
        refine s_icmpN X23 hx (hb hby at_94) (pc' := 97) rfl (cn_lt h1) ?_
        refine s_iload X23 hx (hb hby at_97) (pc' := 99) rfl rfl ?_
        refine s_iload X23 hx (hb hby at_99) (pc' := 101) rfl rfl ?_
        by_cases h2 : (1 : Int32) < c2
        ·
          refine s_icmpY X23 hx (hb hby at_101) (cy_gt h2) (by decide) (pc' := 108) (by decide) ?_
          refine s_iconst X23 hx (0 : Int32) (hb hby at_108) (pc' := 109) rfl rfl ?_
          refine s_icmpN X23 hx (hb hby at_109) (pc' := 112) rfl (cn_ne (own_cust_hi (by decide : ((1 : Int32)).toInt + 1 = ((2 : Int32)).toInt) h1 h2)) ?_
          exact t2
        ·
          refine s_icmpN X23 hx (hb hby at_101) (pc' := 104) rfl (cn_gt h2) ?_
          refine s_iconst X23 hx (1 : Int32) (hb hby at_104) (pc' := 105) rfl rfl ?_
          refine s_goto X23 hx (hb hby at_105) (by decide) (pc' := 109) (by decide) ?_
          refine s_icmpN X23 hx (hb hby at_109) (pc' := 112) rfl (cn_ne (own_cust_in (by decide : ((1 : Int32)).toInt + 1 = ((2 : Int32)).toInt) h1 h2)) ?_
          exact t2
    refine s_iloadN X22 hx (hb hby at_58) (pc' := 59) rfl rfl ?_
    refine s_iconst X22 hx (1 : Int32) (hb hby at_59) (pc' := 60) rfl rfl ?_
    by_cases h1 : p1 < 1
    ·
      refine s_icmpY X22 hx (hb hby at_60) (cy_lt h1) (by decide) (pc' := 73) (by decide) ?_
      refine s_iconst X22 hx (0 : Int32) (hb hby at_73) (pc' := 74) rfl rfl ?_
      refine s_icmpN X22 hx (hb hby at_74) (pc' := 77) rfl (cn_ne (own_cust_lo h1 _)) ?_
      exact t1
    ·
      refine s_icmpN X22 hx (hb hby at_60) (pc' := 63) rfl (cn_lt h1) ?_
      refine s_iloadN X22 hx (hb hby at_63) (pc' := 64) rfl rfl ?_
      refine s_iload X22 hx (hb hby at_64) (pc' := 66) rfl rfl ?_
      by_cases h2 : (1 : Int32) < p1
      ·
        refine s_icmpY X22 hx (hb hby at_66) (cy_gt h2) (by decide) (pc' := 73) (by decide) ?_
        refine s_iconst X22 hx (0 : Int32) (hb hby at_73) (pc' := 74) rfl rfl ?_
        refine s_icmpN X22 hx (hb hby at_74) (pc' := 77) rfl (cn_ne (own_cust_hi (by decide : ((1 : Int32)).toInt + 1 = ((2 : Int32)).toInt) h1 h2)) ?_
        exact t1
      ·
        refine s_icmpN X22 hx (hb hby at_66) (pc' := 69) rfl (cn_gt h2) ?_
        refine s_iconst X22 hx (1 : Int32) (hb hby at_69) (pc' := 70) rfl rfl ?_
        refine s_goto X22 hx (hb hby at_70) (by decide) (pc' := 74) (by decide) ?_
        refine s_icmpN X22 hx (hb hby at_74) (pc' := 77) rfl (cn_ne (own_cust_in (by decide : ((1 : Int32)).toInt + 1 = ((2 : Int32)).toInt) h1 h2)) ?_
        exact t1
  ·
    refine s_iloadN X0 hx (hb hby at_6) (pc' := 7) rfl rfl ?_
    refine s_iconst X0 hx (1 : Int32) (hb hby at_7) (pc' := 8) rfl rfl ?_
    refine s_isub X0 hx (hb hby at_8) (pc' := 9) rfl ?_
    rw [show ((3 : Int32) - (1 : Int32)) = (2 : Int32) by decide]
    refine s_istore X0 hx #[.val (.int p0), .val (.int p1), .val (.int p2), .val (.int (3 : Int32)), .val (.int (2 : Int32)), .unset, .unset, .unset, .unset, .unset, .unset, .unset, .unset] (hb hby at_9) (pc' := 11) rfl rfl ?_
    refine s_iloadN X0 hx (hb hby at_11) (pc' := 12) rfl rfl ?_
    refine s_newP X0 hx hZ (hw _ (List.mem_of_getElem? (i := 0) rfl)) e0 (hb hby at_12) (pc' := 14) rfl (by decide) 3 (by decide) (by decide) (by decide) (by decide) (ad := "[D") (by decide) ?_
    intro T28 h28 c28 o28 X28 e28 E28 g28 V28 Ex28
    have hg28 : h0.size ≤ o28 := by rw [g28]; exact (Nat.le_refl _)
    have J28 := Nat.le_trans J0 (E28.1)
    have H28 : h0.size ≤ h28.size := Nat.le_trans (Nat.le_refl _) E28.1
    have U28 : Arv Z h28 o28 c28 .double (3 : Int32) [.double 0, .double 0, .double 0] (.double 0) := V28.pad (pad_rep [] _ 3)
    refine s_astore X28 hx #[.val (.int p0), .val (.int p1), .val (.int p2), .val (.int (3 : Int32)), .val (.int (2 : Int32)), .val (.ref o28), .unset, .unset, .unset, .unset, .unset, .unset, .unset] (hb hby at_14) (pc' := 16) rfl rfl rfl ?_
    refine s_iloadN X28 hx (hb hby at_16) (pc' := 17) rfl rfl ?_
    refine s_newP X28 hx hZ (hw _ (List.mem_of_getElem? (i := 0) rfl)) e28 (hb hby at_17) (pc' := 19) rfl (by decide) 3 (by decide) (by decide) (by decide) (by decide) (ad := "[D") (by decide) ?_
    intro T29 h29 c29 o29 X29 e29 E29 g29 V29 Ex29
    have ne29_o28 : o28 ≠ o29 := Nat.ne_of_lt (by rw [g29]; exact Ex28.lt)
    have hg29 : h0.size ≤ o29 := by rw [g29]; exact H28
    have J29 := Nat.le_trans J28 (E29.1)
    have H29 : h0.size ≤ h29.size := Nat.le_trans H28 E29.1
    have U29 : Arv Z h29 o29 c29 .double (3 : Int32) [.double 0, .double 0, .double 0] (.double 0) := V29.pad (pad_rep [] _ 3)
    refine s_astore X29 hx #[.val (.int p0), .val (.int p1), .val (.int p2), .val (.int (3 : Int32)), .val (.int (2 : Int32)), .val (.ref o28), .val (.ref o29), .unset, .unset, .unset, .unset, .unset, .unset] (hb hby at_19) (pc' := 21) rfl rfl rfl ?_
    refine s_iloadN X29 hx (hb hby at_21) (pc' := 22) rfl rfl ?_
    refine s_newP X29 hx hZ (hw _ (List.mem_of_getElem? (i := 1) rfl)) e29 (hb hby at_22) (pc' := 24) rfl (by decide) 3 (by decide) (by decide) (by decide) (by decide) (ad := "[I") (by decide) ?_
    intro T30 h30 c30 o30 X30 e30 E30 g30 V30 Ex30
    have fE31 := (Ex28.ext E29)
    have ne30_o28 : o28 ≠ o30 := Nat.ne_of_lt (by rw [g30]; exact fE31.lt)
    have ne30_o29 : o29 ≠ o30 := Nat.ne_of_lt (by rw [g30]; exact Ex29.lt)
    have hg30 : h0.size ≤ o30 := by rw [g30]; exact H29
    have J30 := Nat.le_trans J29 (E30.1)
    have H30 : h0.size ≤ h30.size := Nat.le_trans H29 E30.1
    have U30 : Arv Z h30 o30 c30 .int (3 : Int32) [.int 0, .int 0, .int 0] (.int 0) := V30.pad (pad_rep [] _ 3)
    refine s_astore X30 hx #[.val (.int p0), .val (.int p1), .val (.int p2), .val (.int (3 : Int32)), .val (.int (2 : Int32)), .val (.ref o28), .val (.ref o29), .val (.ref o30), .unset, .unset, .unset, .unset, .unset] (hb hby at_24) (pc' := 26) rfl rfl rfl ?_
    refine s_new X30 hx hZ hown (hw _ (List.mem_of_getElem? (i := 2) rfl)) (hw _ (List.mem_of_getElem? (i := 3) rfl)) (hw _ (List.mem_of_getElem? (i := 4) rfl)) e30 (hb hby at_26) (pc' := 29) rfl (by decide) (by decide) ?_
    intro T32 h32 o32 X32 e32 E32 g32 A32 D32
    have fE33 := (fE31.ext E30)
    have ne32_o28 : o28 ≠ o32 := Nat.ne_of_lt (by rw [g32]; exact fE33.lt)
    have fE34 := (Ex29.ext E30)
    have ne32_o29 : o29 ≠ o32 := Nat.ne_of_lt (by rw [g32]; exact fE34.lt)
    have ne32_o30 : o30 ≠ o32 := Nat.ne_of_lt (by rw [g32]; exact Ex30.lt)
    have hg32 : h0.size ≤ o32 := by rw [g32]; exact H30
    have J32 := Nat.le_trans J30 (E32.1)
    have H32 : h0.size ≤ h32.size := Nat.le_trans H30 E32.1
    have F32_name := D32 (O := "com/example/vicinity/vicinity/instance/Instance") (nm := "name") (d := "Ljava/lang/String;") (Or.inr (hw _ (List.mem_of_getElem? (i := 28) rfl))) (ty := (.object "java/lang/String")) (by decide)
    have F32_capacity := D32 (O := "com/example/vicinity/vicinity/instance/Instance") (nm := "capacity") (d := "I") (Or.inr (hw _ (List.mem_of_getElem? (i := 30) rfl))) (ty := .int) (by decide)
    have F32_x := D32 (O := "com/example/vicinity/vicinity/instance/Instance") (nm := "x") (d := "[D") (Or.inr (hw _ (List.mem_of_getElem? (i := 41) rfl))) (ty := (.array .double)) (by decide)
    have F32_y := D32 (O := "com/example/vicinity/vicinity/instance/Instance") (nm := "y") (d := "[D") (Or.inr (hw _ (List.mem_of_getElem? (i := 43) rfl))) (ty := (.array .double)) (by decide)
    have F32_demands := D32 (O := "com/example/vicinity/vicinity/instance/Instance") (nm := "demands") (d := "[I") (Or.inr (hw _ (List.mem_of_getElem? (i := 51) rfl))) (ty := (.array .int)) (by decide)
    refine s_dup X32 hx (hb hby at_29) (pc' := 30) rfl rfl ?_
    refine s_ldcS X32 hx hZ hown (hw _ (List.mem_of_getElem? (i := 5) rfl)) hstr e32 hS0 J32 (hb hby at_30) (pc' := 32) rfl 4 (by decide) (by decide) (by decide) (by decide) ?_
    intro a35 T35 h35 k35 X35 e35 E35 hS35 J35 hZ35 ho35
    have H35 : h0.size ≤ h35.size := Nat.le_trans H32 E35.1
    refine s_iconst X35 hx (1 : Int32) (hb hby at_32) (pc' := 33) rfl rfl ?_
    refine s_aload X35 hx (hb hby at_33) (pc' := 35) rfl rfl rfl ?_
    refine s_aload X35 hx (hb hby at_35) (pc' := 37) rfl rfl rfl ?_
    refine s_aload X35 hx (hb hby at_37) (pc' := 39) rfl rfl rfl ?_
    have fE36 := (A32.ext E35)
    have fF37 := (F32_name.ext E35)
    have fF38 := (F32_capacity.ext E35)
    have fF39 := (F32_x.ext E35)
    have fF40 := (F32_y.ext E35)
    have fF41 := (F32_demands.ext E35)
    have fV42 := ((((U28.ext E29).ext E30).ext E32).ext E35)
    have fV43 := (((U29.ext E30).ext E32).ext E35)
    have fV44 := ((U30.ext E32).ext E35)
    have fE45 := ((fE33.ext E32).ext E35)
    have fE46 := ((fE34.ext E32).ext E35)
    have fE47 := ((Ex30.ext E32).ext E35)
    refine c_special X35 hx hZ35 rfl ho35 (hw _ (List.mem_of_getElem? (i := 13) rfl)) (hw _ (List.mem_of_getElem? (i := 14) rfl)) (hw _ (List.mem_of_getElem? (i := 4) rfl)) (hw _ (List.mem_of_getElem? (i := 15) rfl)) (by decide) e35 (rm_1_3 l Z a0 hw [] o32 a35 o28 o29 o30 c28 c29 c30 _ _ _ _ _ h35 n0 (Nat.le_trans Z0 H35) fE36 fF37 fF38 fF39 fF40 fF41 fV42 fV43 fV44 fE45 fE46 fE47 ne32_o28 ne32_o29 ne32_o30 (Nat.le_trans Z0 hg32)) (W := 1) (by decide) (by decide) (by decide) (by decide) (by rw [hml]; rfl) (argsL := [.ref a35, .int (1 : Int32), .ref o28, .ref o29, .ref o30]) (rest := [.ref o32]) (a := o32) (lenOf pd_1 rfl) rfl rfl (Nat.le_of_eq rfl) (hb hby at_39) (pc' := 42) rfl ?_
    intro T48 v48 L48 X48 hQ48
    obtain ⟨rfl, Nq48, K48, E48, rx48, kx48, Fx48, Vx48⟩ := hQ48
    have N48 := Fr.app N0 Nq48
    have J48 := Nat.le_trans J35 (K48.1)
    have H48 : h0.size ≤ T48.heap.size := Nat.le_trans H35 K48.1
    show Goes p e below _ (T48.setTop (mkF m 42 #[.val (.int p0), .val (.int p1), .val (.int p2), .val (.int (3 : Int32)), .val (.int (2 : Int32)), .val (.ref o28), .val (.ref o29), .val (.ref o30), .unset, .unset, .unset, .unset, .unset] [.ref o32]))
    refine s_astore X48 hx #[.val (.int p0), .val (.int p1), .val (.int p2), .val (.int (3 : Int32)), .val (.int (2 : Int32)), .val (.ref o28), .val (.ref o29), .val (.ref o30), .val (.ref o32), .unset, .unset, .unset, .unset] (hb hby at_42) (pc' := 44) rfl rfl rfl ?_
    refine s_iloadN X48 hx (hb hby at_44) (pc' := 45) rfl rfl ?_
    refine s_bipush X48 hx (7 : Int32) (hb hby at_45) (pc' := 47) rfl rfl ?_
    refine s_iand X48 hx (hb hby at_47) (pc' := 48) rfl ?_
    refine s_iconst X48 hx (2 : Int32) (hb hby at_48) (pc' := 49) rfl rfl ?_
    refine s_isub X48 hx (hb hby at_49) (pc' := 50) rfl ?_
    refine s_istore X48 hx #[.val (.int p0), .val (.int p1), .val (.int p2), .val (.int (3 : Int32)), .val (.int (2 : Int32)), .val (.ref o28), .val (.ref o29), .val (.ref o30), .val (.ref o32), .val (.int ((p2 &&& (7 : Int32)) - (2 : Int32))), .unset, .unset, .unset] (hb hby at_50) (pc' := 52) rfl rfl ?_
    generalize ec2 : ((p2 &&& (7 : Int32)) - (2 : Int32)) = c2
    refine s_aload X48 hx (hb hby at_52) (pc' := 54) rfl rfl rfl ?_
    refine s_iloadN X48 hx (hb hby at_54) (pc' := 55) rfl rfl ?_
    refine c_virtual X48 hx hZ35 ho35 (hw _ (List.mem_of_getElem? (i := 52) rfl)) (hw _ (List.mem_of_getElem? (i := 53) rfl)) (hw _ (List.mem_of_getElem? (i := 55) rfl)) (hw _ (List.mem_of_getElem? (i := 54) rfl)) (hw _ (List.mem_of_getElem? (i := 4) rfl)) (hw _ (List.mem_of_getElem? (i := 56) rfl)) (by decide) rfl E48 (rm_5 l Z a0 hw [] o32 p1 rx48 kx48 (3 : Int32) [.double 0, .double 0, .double 0] T48.heap n0 (Nat.le_trans Z0 H48) Fx48 Vx48) (W := 0) (by decide) (by decide) (by decide) (by decide) (by rw [hml]; rfl) (argsL := [.int p1]) (rest := []) (lenOf pd_2 rfl) rfl rfl (Nat.le_of_eq rfl) (hb hby at_55) (pc' := 58) rfl ?_
    intro T49 v49 L49 X49 hQ49
    obtain ⟨rfl, Nq49, eh49⟩ := hQ49
    have N49 := Fr.app N48 Nq49
    show Goes p e below _ (T49.setTop (mkF m 58 #[.val (.int p0), .val (.int p1), .val (.int p2), .val (.int (3 : Int32)), .val (.int (2 : Int32)), .val (.ref o28), .val (.ref o29), .val (.ref o30), .val (.ref o32), .val (.int c2), .unset, .unset, .unset] [.int (own_cust p1 (3 : Int32))]))
    have t1 : Goes p e below (EndsAsW (Q0 n0) s room_1.cells room_1.slots) (T49.setTop (mkF m 77 #[.val (.int p0), .val (.int p1), .val (.int p2), .val (.int (3 : Int32)), .val (.int (2 : Int32)), .val (.ref o28), .val (.ref o29), .val (.ref o30), .val (.ref o32), .val (.int c2), .unset, .unset, .unset] [])) := by
      refine s_iconst X49 hx (1 : Int32) (hb hby at_77) (pc' := 78) rfl rfl ?_
      refine s_goto X49 hx (hb hby at_78) (by decide) (pc' := 82) (by decide) ?_
      refine s_istore X49 hx #[.val (.int p0), .val (.int p1), .val (.int p2), .val (.int (3 : Int32)), .val (.int (2 : Int32)), .val (.ref o28), .val (.ref o29), .val (.ref o30), .val (.ref o32), .val (.int c2), .val (.int (1 : Int32)), .unset, .unset] (hb hby at_82) (pc' := 84) rfl rfl ?_
      refine s_aload X49 hx (hb hby at_84) (pc' := 86) rfl rfl rfl ?_
      refine s_iload X49 hx (hb hby at_86) (pc' := 88) rfl rfl ?_
      refine c_virtual X49 hx hZ35 ho35 (hw _ (List.mem_of_getElem? (i := 52) rfl)) (hw _ (List.mem_of_getElem? (i := 53) rfl)) (hw _ (List.mem_of_getElem? (i := 55) rfl)) (hw _ (List.mem_of_getElem? (i := 54) rfl)) (hw _ (List.mem_of_getElem? (i := 4) rfl)) (hw _ (List.mem_of_getElem? (i := 56) rfl)) (by decide) eh49 E48 (rm_5 l Z a0 hw [] o32 c2 rx48 kx48 (3 : Int32) [.double 0, .double 0, .double 0] T48.heap n0 (Nat.le_trans Z0 H48) Fx48 Vx48) (W := 0) (by decide) (by decide) (by decide) (by decide) (by rw [hml]; rfl) (argsL := [.int c2]) (rest := []) (lenOf pd_2 rfl) rfl rfl (Nat.le_of_eq rfl) (hb hby at_88) (pc' := 91) rfl ?_
      intro T50 v50 L50 X50 hQ50
      obtain ⟨rfl, Nq50, eh50⟩ := hQ50
      have N50 := Fr.app N49 Nq50
      show Goes p e below _ (T50.setTop (mkF m 91 #[.val (.int p0), .val (.int p1), .val (.int p2), .val (.int (3 : Int32)), .val (.int (2 : Int32)), .val (.ref o28), .val (.ref o29), .val (.ref o30), .val (.ref o32), .val (.int c2), .val (.int (1 : Int32)), .unset, .unset] [.int (own_cust c2 (3 : Int32))]))
      have t2 : Goes p e below (EndsAsW (Q0 n0) s room_1.cells room_1.slots) (T50.setTop (mkF m 112 #[.val (.int p0), .val (.int p1), .val (.int p2), .val (.int (3 : Int32)), .val (.int (2 : Int32)), .val (.ref o28), .val (.ref o29), .val (.ref o30), .val (.ref o32), .val (.int c2), .val (.int (1 : Int32)), .unset, .unset] [])) := by
        refine s_iconst X50 hx (1 : Int32) (hb hby at_112) (pc' := 113) rfl rfl ?_
        refine s_goto X50 hx (hb hby at_113) (by decide) (pc' := 117) (by decide) ?_
        refine s_istore X50 hx #[.val (.int p0), .val (.int p1), .val (.int p2), .val (.int (3 : Int32)), .val (.int (2 : Int32)), .val (.ref o28), .val (.ref o29), .val (.ref o30), .val (.ref o32), .val (.int c2), .val (.int (1 : Int32)), .val (.int (1 : Int32)), .unset] (hb hby at_117) (pc' := 119) rfl rfl ?_
        refine s_aload X50 hx (hb hby at_119) (pc' := 121) rfl rfl rfl ?_
        refine s_iconst X50 hx (1 : Int32) (hb hby at_121) (pc' := 122) rfl rfl ?_
        refine c_virtual X50 hx hZ35 ho35 (hw _ (List.mem_of_getElem? (i := 52) rfl)) (hw _ (List.mem_of_getElem? (i := 53) rfl)) (hw _ (List.mem_of_getElem? (i := 55) rfl)) (hw _ (List.mem_of_getElem? (i := 54) rfl)) (hw _ (List.mem_of_getElem? (i := 4) rfl)) (hw _ (List.mem_of_getElem? (i := 56) rfl)) (by decide) eh50 E48 (rm_5 l Z a0 hw [] o32 (1 : Int32) rx48 kx48 (3 : Int32) [.double 0, .double 0, .double 0] T48.heap n0 (Nat.le_trans Z0 H48) Fx48 Vx48) (W := 0) (by decide) (by decide) (by decide) (by decide) (by rw [hml]; rfl) (argsL := [.int (1 : Int32)]) (rest := []) (lenOf pd_2 rfl) rfl rfl (Nat.le_of_eq rfl) (hb hby at_122) (pc' := 125) rfl ?_
        intro T51 v51 L51 X51 hQ51
        obtain ⟨hv51, Nq51, eh51⟩ := hQ51
        rw [show own_cust (1 : Int32) (3 : Int32) = (1 : Int32) from by decide] at hv51
        subst hv51
        have N51 := Fr.app N50 Nq51
        show Goes p e below _ (T51.setTop (mkF m 125 #[.val (.int p0), .val (.int p1), .val (.int p2), .val (.int (3 : Int32)), .val (.int (2 : Int32)), .val (.ref o28), .val (.ref o29), .val (.ref o30), .val (.ref o32), .val (.int c2), .val (.int (1 : Int32)), .val (.int (1 : Int32)), .unset] [.int (1 : Int32)]))
        refine s_ifN X51 hx (hb hby at_125) (pc' := 128) rfl (by decide) ?_
        refine s_aload X51 hx (hb hby at_128) (pc' := 130) rfl rfl rfl ?_
        refine s_iload X51 hx (hb hby at_130) (pc' := 132) rfl rfl ?_
        refine c_virtual X51 hx hZ35 ho35 (hw _ (List.mem_of_getElem? (i := 52) rfl)) (hw _ (List.mem_of_getElem? (i := 53) rfl)) (hw _ (List.mem_of_getElem? (i := 55) rfl)) (hw _ (List.mem_of_getElem? (i := 54) rfl)) (hw _ (List.mem_of_getElem? (i := 4) rfl)) (hw _ (List.mem_of_getElem? (i := 56) rfl)) (by decide) eh51 E48 (rm_5 l Z a0 hw [] o32 (2 : Int32) rx48 kx48 (3 : Int32) [.double 0, .double 0, .double 0] T48.heap n0 (Nat.le_trans Z0 H48) Fx48 Vx48) (W := 0) (by decide) (by decide) (by decide) (by decide) (by rw [hml]; rfl) (argsL := [.int (2 : Int32)]) (rest := []) (lenOf pd_2 rfl) rfl rfl (Nat.le_of_eq rfl) (hb hby at_132) (pc' := 135) rfl ?_
        intro T52 v52 L52 X52 hQ52
        obtain ⟨hv52, Nq52, eh52⟩ := hQ52
        rw [show own_cust (2 : Int32) (3 : Int32) = (1 : Int32) from by decide] at hv52
        subst hv52
        have N52 := Fr.app N51 Nq52
        show Goes p e below _ (T52.setTop (mkF m 135 #[.val (.int p0), .val (.int p1), .val (.int p2), .val (.int (3 : Int32)), .val (.int (2 : Int32)), .val (.ref o28), .val (.ref o29), .val (.ref o30), .val (.ref o32), .val (.int c2), .val (.int (1 : Int32)), .val (.int (1 : Int32)), .unset] [.int (1 : Int32)]))
        refine s_ifN X52 hx (hb hby at_135) (pc' := 138) rfl (by decide) ?_
        refine s_aload X52 hx (hb hby at_138) (pc' := 140) rfl rfl rfl ?_
        refine s_iconst X52 hx (0 : Int32) (hb hby at_140) (pc' := 141) rfl rfl ?_
        refine c_virtual X52 hx hZ35 ho35 (hw _ (List.mem_of_getElem? (i := 52) rfl)) (hw _ (List.mem_of_getElem? (i := 53) rfl)) (hw _ (List.mem_of_getElem? (i := 55) rfl)) (hw _ (List.mem_of_getElem? (i := 54) rfl)) (hw _ (List.mem_of_getElem? (i := 4) rfl)) (hw _ (List.mem_of_getElem? (i := 56) rfl)) (by decide) eh52 E48 (rm_5 l Z a0 hw [] o32 (0 : Int32) rx48 kx48 (3 : Int32) [.double 0, .double 0, .double 0] T48.heap n0 (Nat.le_trans Z0 H48) Fx48 Vx48) (W := 0) (by decide) (by decide) (by decide) (by decide) (by rw [hml]; rfl) (argsL := [.int (0 : Int32)]) (rest := []) (lenOf pd_2 rfl) rfl rfl (Nat.le_of_eq rfl) (hb hby at_141) (pc' := 144) rfl ?_
        intro T53 v53 L53 X53 hQ53
        obtain ⟨hv53, Nq53, eh53⟩ := hQ53
        rw [show own_cust (0 : Int32) (3 : Int32) = (0 : Int32) from by decide] at hv53
        subst hv53
        have N53 := Fr.app N52 Nq53
        show Goes p e below _ (T53.setTop (mkF m 144 #[.val (.int p0), .val (.int p1), .val (.int p2), .val (.int (3 : Int32)), .val (.int (2 : Int32)), .val (.ref o28), .val (.ref o29), .val (.ref o30), .val (.ref o32), .val (.int c2), .val (.int (1 : Int32)), .val (.int (1 : Int32)), .unset] [.int (0 : Int32)]))
        refine s_ifN X53 hx (hb hby at_144) (pc' := 147) rfl (by decide) ?_
        refine s_aload X53 hx (hb hby at_147) (pc' := 149) rfl rfl rfl ?_
        refine s_iload X53 hx (hb hby at_149) (pc' := 151) rfl rfl ?_
        refine s_iconst X53 hx (1 : Int32) (hb hby at_151) (pc' := 152) rfl rfl ?_
        refine s_iadd X53 hx (hb hby at_152) (pc' := 153) rfl ?_
        rw [show ((2 : Int32) + (1 : Int32)) = (3 : Int32) by decide]
        refine c_virtual X53 hx hZ35 ho35 (hw _ (List.mem_of_getElem? (i := 52) rfl)) (hw _ (List.mem_of_getElem? (i := 53) rfl)) (hw _ (List.mem_of_getElem? (i := 55) rfl)) (hw _ (List.mem_of_getElem? (i := 54) rfl)) (hw _ (List.mem_of_getElem? (i := 4) rfl)) (hw _ (List.mem_of_getElem? (i := 56) rfl)) (by decide) eh53 E48 (rm_5 l Z a0 hw [] o32 (3 : Int32) rx48 kx48 (3 : Int32) [.double 0, .double 0, .double 0] T48.heap n0 (Nat.le_trans Z0 H48) Fx48 Vx48) (W := 0) (by decide) (by decide) (by decide) (by decide) (by rw [hml]; rfl) (argsL := [.int (3 : Int32)]) (rest := []) (lenOf pd_2 rfl) rfl rfl (Nat.le_of_eq rfl) (hb hby at_153) (pc' := 156) rfl ?_
        intro T54 v54 L54 X54 hQ54
        obtain ⟨hv54, Nq54, eh54⟩ := hQ54
        rw [show own_cust (3 : Int32) (3 : Int32) = (0 : Int32) from by decide] at hv54
        subst hv54
        have N54 := Fr.app N53 Nq54
        show Goes p e below _ (T54.setTop (mkF m 156 #[.val (.int p0), .val (.int p1), .val (.int p2), .val (.int (3 : Int32)), .val (.int (2 : Int32)), .val (.ref o28), .val (.ref o29), .val (.ref o30), .val (.ref o32), .val (.int c2), .val (.int (1 : Int32)), .val (.int (1 : Int32)), .unset] [.int (0 : Int32)]))
        refine s_ifN X54 hx (hb hby at_156) (pc' := 159) rfl (by decide) ?_
        refine s_iconst X54 hx (1 : Int32) (hb hby at_159) (pc' := 160) rfl rfl ?_
        refine s_goto X54 hx (hb hby at_160) (by decide) (pc' := 164) (by decide) ?_
        refine s_istore X54 hx #[.val (.int p0), .val (.int p1), .val (.int p2), .val (.int (3 : Int32)), .val (.int (2 : Int32)), .val (.ref o28), .val (.ref o29), .val (.ref o30), .val (.ref o32), .val (.int c2), .val (.int (1 : Int32)), .val (.int (1 : Int32)), .val (.int (1 : Int32))] (hb hby at_164) (pc' := 166) rfl rfl ?_
        refine s_iload X54 hx (hb hby at_166) (pc' := 168) rfl rfl ?_
        refine s_ifN X54 hx (hb hby at_168) (pc' := 171) rfl (by decide) ?_
        refine s_iload X54 hx (hb hby at_171) (pc' := 173) rfl rfl ?_
        refine s_ifN X54 hx (hb hby at_173) (pc' := 176) rfl (by decide) ?_
        refine s_iload X54 hx (hb hby at_176) (pc' := 178) rfl rfl ?_
        refine s_ifN X54 hx (hb hby at_178) (pc' := 181) rfl (by decide) ?_
        refine s_iconst X54 hx (1 : Int32) (hb hby at_181) (pc' := 182) rfl rfl ?_
        refine s_goto X54 hx (hb hby at_182) (by decide) (pc' := 186) (by decide) ?_
        exact s_retIW X54 hx hlk hS35 (by rw [eh54]; exact J48) hret (hb hby at_186) rfl (Or.inl ⟨rfl, by simp, _, rfl⟩) (by decide) (by decide) ⟨rfl, N54⟩
      refine s_iload X50 hx (hb hby at_91) (pc' := 93) rfl rfl ?_
      refine s_iconst X50 hx (1 : Int32) (hb hby at_93) (pc' := 94) rfl rfl ?_
      by_cases h1 : c2 < 1
      ·
        refine s_icmpY X50 hx (hb hby at_94) (cy_lt h1) (by decide) (pc' := 108) (by decide) ?_
        refine s_iconst X50 hx (0 : Int32) (hb hby at_108) (pc' := 109) rfl rfl ?_
        refine s_icmpN X50 hx (hb hby at_109) (pc' := 112) rfl (cn_ne (own_cust_lo h1 _)) ?_
        exact t2
      ·
        refine s_icmpN X50 hx (hb hby at_94) (pc' := 97) rfl (cn_lt h1) ?_
        refine s_iload X50 hx (hb hby at_97) (pc' := 99) rfl rfl ?_
        refine s_iload X50 hx (hb hby at_99) (pc' := 101) rfl rfl ?_
        by_cases h2 : (2 : Int32) < c2
        ·
          refine s_icmpY X50 hx (hb hby at_101) (cy_gt h2) (by decide) (pc' := 108) (by decide) ?_
          refine s_iconst X50 hx (0 : Int32) (hb hby at_108) (pc' := 109) rfl rfl ?_
          refine s_icmpN X50 hx (hb hby at_109) (pc' := 112) rfl (cn_ne (own_cust_hi (by decide : ((2 : Int32)).toInt + 1 = ((3 : Int32)).toInt) h1 h2)) ?_
          exact t2
        ·
          refine s_icmpN X50 hx (hb hby at_101) (pc' := 104) rfl (cn_gt h2) ?_
          refine s_iconst X50 hx (1 : Int32) (hb hby at_104) (pc' := 105) rfl rfl ?_
          refine s_goto X50 hx (hb hby at_105) (by decide) (pc' := 109) (by decide) ?_
          refine s_icmpN X50 hx (hb hby at_109) (pc' := 112) rfl (cn_ne (own_cust_in (by decide : ((2 : Int32)).toInt + 1 = ((3 : Int32)).toInt) h1 h2)) ?_
          exact t2
    refine s_iloadN X49 hx (hb hby at_58) (pc' := 59) rfl rfl ?_
    refine s_iconst X49 hx (1 : Int32) (hb hby at_59) (pc' := 60) rfl rfl ?_
    by_cases h1 : p1 < 1
    ·
      refine s_icmpY X49 hx (hb hby at_60) (cy_lt h1) (by decide) (pc' := 73) (by decide) ?_
      refine s_iconst X49 hx (0 : Int32) (hb hby at_73) (pc' := 74) rfl rfl ?_
      refine s_icmpN X49 hx (hb hby at_74) (pc' := 77) rfl (cn_ne (own_cust_lo h1 _)) ?_
      exact t1
    ·
      refine s_icmpN X49 hx (hb hby at_60) (pc' := 63) rfl (cn_lt h1) ?_
      refine s_iloadN X49 hx (hb hby at_63) (pc' := 64) rfl rfl ?_
      refine s_iload X49 hx (hb hby at_64) (pc' := 66) rfl rfl ?_
      by_cases h2 : (2 : Int32) < p1
      ·
        refine s_icmpY X49 hx (hb hby at_66) (cy_gt h2) (by decide) (pc' := 73) (by decide) ?_
        refine s_iconst X49 hx (0 : Int32) (hb hby at_73) (pc' := 74) rfl rfl ?_
        refine s_icmpN X49 hx (hb hby at_74) (pc' := 77) rfl (cn_ne (own_cust_hi (by decide : ((2 : Int32)).toInt + 1 = ((3 : Int32)).toInt) h1 h2)) ?_
        exact t1
      ·
        refine s_icmpN X49 hx (hb hby at_66) (pc' := 69) rfl (cn_gt h2) ?_
        refine s_iconst X49 hx (1 : Int32) (hb hby at_69) (pc' := 70) rfl rfl ?_
        refine s_goto X49 hx (hb hby at_70) (by decide) (pc' := 74) (by decide) ?_
        refine s_icmpN X49 hx (hb hby at_74) (pc' := 77) rfl (cn_ne (own_cust_in (by decide : ((2 : Int32)).toInt + 1 = ((3 : Int32)).toInt) h1 h2)) ?_
        exact t1
  ·
    refine s_iloadN X0 hx (hb hby at_6) (pc' := 7) rfl rfl ?_
    refine s_iconst X0 hx (1 : Int32) (hb hby at_7) (pc' := 8) rfl rfl ?_
    refine s_isub X0 hx (hb hby at_8) (pc' := 9) rfl ?_
    rw [show ((4 : Int32) - (1 : Int32)) = (3 : Int32) by decide]
    refine s_istore X0 hx #[.val (.int p0), .val (.int p1), .val (.int p2), .val (.int (4 : Int32)), .val (.int (3 : Int32)), .unset, .unset, .unset, .unset, .unset, .unset, .unset, .unset] (hb hby at_9) (pc' := 11) rfl rfl ?_
    refine s_iloadN X0 hx (hb hby at_11) (pc' := 12) rfl rfl ?_
    refine s_newP X0 hx hZ (hw _ (List.mem_of_getElem? (i := 0) rfl)) e0 (hb hby at_12) (pc' := 14) rfl (by decide) 4 (by decide) (by decide) (by decide) (by decide) (ad := "[D") (by decide) ?_
    intro T55 h55 c55 o55 X55 e55 E55 g55 V55 Ex55
    have hg55 : h0.size ≤ o55 := by rw [g55]; exact (Nat.le_refl _)
    have J55 := Nat.le_trans J0 (E55.1)
    have H55 : h0.size ≤ h55.size := Nat.le_trans (Nat.le_refl _) E55.1
    have U55 : Arv Z h55 o55 c55 .double (4 : Int32) [.double 0, .double 0, .double 0, .double 0] (.double 0) := V55.pad (pad_rep [] _ 4)
    refine s_astore X55 hx #[.val (.int p0), .val (.int p1), .val (.int p2), .val (.int (4 : Int32)), .val (.int (3 : Int32)), .val (.ref o55), .unset, .unset, .unset, .unset, .unset, .unset, .unset] (hb hby at_14) (pc' := 16) rfl rfl rfl ?_
    refine s_iloadN X55 hx (hb hby at_16) (pc' := 17) rfl rfl ?_
    refine s_newP X55 hx hZ (hw _ (List.mem_of_getElem? (i := 0) rfl)) e55 (hb hby at_17) (pc' := 19) rfl (by decide) 4 (by decide) (by decide) (by decide) (by decide) (ad := "[D") (by decide) ?_
    intro T56 h56 c56 o56 X56 e56 E56 g56 V56 Ex56
    have ne56_o55 : o55 ≠ o56 := Nat.ne_of_lt (by rw [g56]; exact Ex55.lt)
    have hg56 : h0.size ≤ o56 := by rw [g56]; exact H55
    have J56 := Nat.le_trans J55 (E56.1)
    have H56 : h0.size ≤ h56.size := Nat.le_trans H55 E56.1
    have U56 : Arv Z h56 o56 c56 .double (4 : Int32) [.double 0, .double 0, .double 0, .double 0] (.double 0) := V56.pad (pad_rep [] _ 4)
    refine s_astore X56 hx #[.val (.int p0), .val (.int p1), .val (.int p2), .val (.int (4 : Int32)), .val (.int (3 : Int32)), .val (.ref o55), .val (.ref o56), .unset, .unset, .unset, .unset, .unset, .unset] (hb hby at_19) (pc' := 21) rfl rfl rfl ?_
    refine s_iloadN X56 hx (hb hby at_21) (pc' := 22) rfl rfl ?_
    refine s_newP X56 hx hZ (hw _ (List.mem_of_getElem? (i := 1) rfl)) e56 (hb hby at_22) (pc' := 24) rfl (by decide) 4 (by decide) (by decide) (by decide) (by decide) (ad := "[I") (by decide) ?_
    intro T57 h57 c57 o57 X57 e57 E57 g57 V57 Ex57
    have fE58 := (Ex55.ext E56)
    have ne57_o55 : o55 ≠ o57 := Nat.ne_of_lt (by rw [g57]; exact fE58.lt)
    have ne57_o56 : o56 ≠ o57 := Nat.ne_of_lt (by rw [g57]; exact Ex56.lt)
    have hg57 : h0.size ≤ o57 := by rw [g57]; exact H56
    have J57 := Nat.le_trans J56 (E57.1)
    have H57 : h0.size ≤ h57.size := Nat.le_trans H56 E57.1
    have U57 : Arv Z h57 o57 c57 .int (4 : Int32) [.int 0, .int 0, .int 0, .int 0] (.int 0) := V57.pad (pad_rep [] _ 4)
    refine s_astore X57 hx #[.val (.int p0), .val (.int p1), .val (.int p2), .val (.int (4 : Int32)), .val (.int (3 : Int32)), .val (.ref o55), .val (.ref o56), .val (.ref o57), .unset, .unset, .unset, .unset, .unset] (hb hby at_24) (pc' := 26) rfl rfl rfl ?_
    refine s_new X57 hx hZ hown (hw _ (List.mem_of_getElem? (i := 2) rfl)) (hw _ (List.mem_of_getElem? (i := 3) rfl)) (hw _ (List.mem_of_getElem? (i := 4) rfl)) e57 (hb hby at_26) (pc' := 29) rfl (by decide) (by decide) ?_
    intro T59 h59 o59 X59 e59 E59 g59 A59 D59
    have fE60 := (fE58.ext E57)
    have ne59_o55 : o55 ≠ o59 := Nat.ne_of_lt (by rw [g59]; exact fE60.lt)
    have fE61 := (Ex56.ext E57)
    have ne59_o56 : o56 ≠ o59 := Nat.ne_of_lt (by rw [g59]; exact fE61.lt)
    have ne59_o57 : o57 ≠ o59 := Nat.ne_of_lt (by rw [g59]; exact Ex57.lt)
    have hg59 : h0.size ≤ o59 := by rw [g59]; exact H57
    have J59 := Nat.le_trans J57 (E59.1)
    have H59 : h0.size ≤ h59.size := Nat.le_trans H57 E59.1
    have F59_name := D59 (O := "com/example/vicinity/vicinity/instance/Instance") (nm := "name") (d := "Ljava/lang/String;") (Or.inr (hw _ (List.mem_of_getElem? (i := 28) rfl))) (ty := (.object "java/lang/String")) (by decide)
    have F59_capacity := D59 (O := "com/example/vicinity/vicinity/instance/Instance") (nm := "capacity") (d := "I") (Or.inr (hw _ (List.mem_of_getElem? (i := 30) rfl))) (ty := .int) (by decide)
    have F59_x := D59 (O := "com/example/vicinity/vicinity/instance/Instance") (nm := "x") (d := "[D") (Or.inr (hw _ (List.mem_of_getElem? (i := 41) rfl))) (ty := (.array .double)) (by decide)
    have F59_y := D59 (O := "com/example/vicinity/vicinity/instance/Instance") (nm := "y") (d := "[D") (Or.inr (hw _ (List.mem_of_getElem? (i := 43) rfl))) (ty := (.array .double)) (by decide)
    have F59_demands := D59 (O := "com/example/vicinity/vicinity/instance/Instance") (nm := "demands") (d := "[I") (Or.inr (hw _ (List.mem_of_getElem? (i := 51) rfl))) (ty := (.array .int)) (by decide)
    refine s_dup X59 hx (hb hby at_29) (pc' := 30) rfl rfl ?_
    refine s_ldcS X59 hx hZ hown (hw _ (List.mem_of_getElem? (i := 5) rfl)) hstr e59 hS0 J59 (hb hby at_30) (pc' := 32) rfl 4 (by decide) (by decide) (by decide) (by decide) ?_
    intro a62 T62 h62 k62 X62 e62 E62 hS62 J62 hZ62 ho62
    have H62 : h0.size ≤ h62.size := Nat.le_trans H59 E62.1
    refine s_iconst X62 hx (1 : Int32) (hb hby at_32) (pc' := 33) rfl rfl ?_
    refine s_aload X62 hx (hb hby at_33) (pc' := 35) rfl rfl rfl ?_
    refine s_aload X62 hx (hb hby at_35) (pc' := 37) rfl rfl rfl ?_
    refine s_aload X62 hx (hb hby at_37) (pc' := 39) rfl rfl rfl ?_
    have fE63 := (A59.ext E62)
    have fF64 := (F59_name.ext E62)
    have fF65 := (F59_capacity.ext E62)
    have fF66 := (F59_x.ext E62)
    have fF67 := (F59_y.ext E62)
    have fF68 := (F59_demands.ext E62)
    have fV69 := ((((U55.ext E56).ext E57).ext E59).ext E62)
    have fV70 := (((U56.ext E57).ext E59).ext E62)
    have fV71 := ((U57.ext E59).ext E62)
    have fE72 := ((fE60.ext E59).ext E62)
    have fE73 := ((fE61.ext E59).ext E62)
    have fE74 := ((Ex57.ext E59).ext E62)
    refine c_special X62 hx hZ62 rfl ho62 (hw _ (List.mem_of_getElem? (i := 13) rfl)) (hw _ (List.mem_of_getElem? (i := 14) rfl)) (hw _ (List.mem_of_getElem? (i := 4) rfl)) (hw _ (List.mem_of_getElem? (i := 15) rfl)) (by decide) e62 (rm_1_4 l Z a0 hw [] o59 a62 o55 o56 o57 c55 c56 c57 _ _ _ _ _ h62 n0 (Nat.le_trans Z0 H62) fE63 fF64 fF65 fF66 fF67 fF68 fV69 fV70 fV71 fE72 fE73 fE74 ne59_o55 ne59_o56 ne59_o57 (Nat.le_trans Z0 hg59)) (W := 1) (by decide) (by decide) (by decide) (by decide) (by rw [hml]; rfl) (argsL := [.ref a62, .int (1 : Int32), .ref o55, .ref o56, .ref o57]) (rest := [.ref o59]) (a := o59) (lenOf pd_1 rfl) rfl rfl (Nat.le_of_eq rfl) (hb hby at_39) (pc' := 42) rfl ?_
    intro T75 v75 L75 X75 hQ75
    obtain ⟨rfl, Nq75, K75, E75, rx75, kx75, Fx75, Vx75⟩ := hQ75
    have N75 := Fr.app N0 Nq75
    have J75 := Nat.le_trans J62 (K75.1)
    have H75 : h0.size ≤ T75.heap.size := Nat.le_trans H62 K75.1
    show Goes p e below _ (T75.setTop (mkF m 42 #[.val (.int p0), .val (.int p1), .val (.int p2), .val (.int (4 : Int32)), .val (.int (3 : Int32)), .val (.ref o55), .val (.ref o56), .val (.ref o57), .unset, .unset, .unset, .unset, .unset] [.ref o59]))
    refine s_astore X75 hx #[.val (.int p0), .val (.int p1), .val (.int p2), .val (.int (4 : Int32)), .val (.int (3 : Int32)), .val (.ref o55), .val (.ref o56), .val (.ref o57), .val (.ref o59), .unset, .unset, .unset, .unset] (hb hby at_42) (pc' := 44) rfl rfl rfl ?_
    refine s_iloadN X75 hx (hb hby at_44) (pc' := 45) rfl rfl ?_
    refine s_bipush X75 hx (7 : Int32) (hb hby at_45) (pc' := 47) rfl rfl ?_
    refine s_iand X75 hx (hb hby at_47) (pc' := 48) rfl ?_
    refine s_iconst X75 hx (2 : Int32) (hb hby at_48) (pc' := 49) rfl rfl ?_
    refine s_isub X75 hx (hb hby at_49) (pc' := 50) rfl ?_
    refine s_istore X75 hx #[.val (.int p0), .val (.int p1), .val (.int p2), .val (.int (4 : Int32)), .val (.int (3 : Int32)), .val (.ref o55), .val (.ref o56), .val (.ref o57), .val (.ref o59), .val (.int ((p2 &&& (7 : Int32)) - (2 : Int32))), .unset, .unset, .unset] (hb hby at_50) (pc' := 52) rfl rfl ?_
    generalize ec2 : ((p2 &&& (7 : Int32)) - (2 : Int32)) = c2
    refine s_aload X75 hx (hb hby at_52) (pc' := 54) rfl rfl rfl ?_
    refine s_iloadN X75 hx (hb hby at_54) (pc' := 55) rfl rfl ?_
    refine c_virtual X75 hx hZ62 ho62 (hw _ (List.mem_of_getElem? (i := 52) rfl)) (hw _ (List.mem_of_getElem? (i := 53) rfl)) (hw _ (List.mem_of_getElem? (i := 55) rfl)) (hw _ (List.mem_of_getElem? (i := 54) rfl)) (hw _ (List.mem_of_getElem? (i := 4) rfl)) (hw _ (List.mem_of_getElem? (i := 56) rfl)) (by decide) rfl E75 (rm_5 l Z a0 hw [] o59 p1 rx75 kx75 (4 : Int32) [.double 0, .double 0, .double 0, .double 0] T75.heap n0 (Nat.le_trans Z0 H75) Fx75 Vx75) (W := 0) (by decide) (by decide) (by decide) (by decide) (by rw [hml]; rfl) (argsL := [.int p1]) (rest := []) (lenOf pd_2 rfl) rfl rfl (Nat.le_of_eq rfl) (hb hby at_55) (pc' := 58) rfl ?_
    intro T76 v76 L76 X76 hQ76
    obtain ⟨rfl, Nq76, eh76⟩ := hQ76
    have N76 := Fr.app N75 Nq76
    show Goes p e below _ (T76.setTop (mkF m 58 #[.val (.int p0), .val (.int p1), .val (.int p2), .val (.int (4 : Int32)), .val (.int (3 : Int32)), .val (.ref o55), .val (.ref o56), .val (.ref o57), .val (.ref o59), .val (.int c2), .unset, .unset, .unset] [.int (own_cust p1 (4 : Int32))]))
    have t1 : Goes p e below (EndsAsW (Q0 n0) s room_1.cells room_1.slots) (T76.setTop (mkF m 77 #[.val (.int p0), .val (.int p1), .val (.int p2), .val (.int (4 : Int32)), .val (.int (3 : Int32)), .val (.ref o55), .val (.ref o56), .val (.ref o57), .val (.ref o59), .val (.int c2), .unset, .unset, .unset] [])) := by
      refine s_iconst X76 hx (1 : Int32) (hb hby at_77) (pc' := 78) rfl rfl ?_
      refine s_goto X76 hx (hb hby at_78) (by decide) (pc' := 82) (by decide) ?_
      refine s_istore X76 hx #[.val (.int p0), .val (.int p1), .val (.int p2), .val (.int (4 : Int32)), .val (.int (3 : Int32)), .val (.ref o55), .val (.ref o56), .val (.ref o57), .val (.ref o59), .val (.int c2), .val (.int (1 : Int32)), .unset, .unset] (hb hby at_82) (pc' := 84) rfl rfl ?_
      refine s_aload X76 hx (hb hby at_84) (pc' := 86) rfl rfl rfl ?_
      refine s_iload X76 hx (hb hby at_86) (pc' := 88) rfl rfl ?_
      refine c_virtual X76 hx hZ62 ho62 (hw _ (List.mem_of_getElem? (i := 52) rfl)) (hw _ (List.mem_of_getElem? (i := 53) rfl)) (hw _ (List.mem_of_getElem? (i := 55) rfl)) (hw _ (List.mem_of_getElem? (i := 54) rfl)) (hw _ (List.mem_of_getElem? (i := 4) rfl)) (hw _ (List.mem_of_getElem? (i := 56) rfl)) (by decide) eh76 E75 (rm_5 l Z a0 hw [] o59 c2 rx75 kx75 (4 : Int32) [.double 0, .double 0, .double 0, .double 0] T75.heap n0 (Nat.le_trans Z0 H75) Fx75 Vx75) (W := 0) (by decide) (by decide) (by decide) (by decide) (by rw [hml]; rfl) (argsL := [.int c2]) (rest := []) (lenOf pd_2 rfl) rfl rfl (Nat.le_of_eq rfl) (hb hby at_88) (pc' := 91) rfl ?_
      intro T77 v77 L77 X77 hQ77
      obtain ⟨rfl, Nq77, eh77⟩ := hQ77
      have N77 := Fr.app N76 Nq77
      show Goes p e below _ (T77.setTop (mkF m 91 #[.val (.int p0), .val (.int p1), .val (.int p2), .val (.int (4 : Int32)), .val (.int (3 : Int32)), .val (.ref o55), .val (.ref o56), .val (.ref o57), .val (.ref o59), .val (.int c2), .val (.int (1 : Int32)), .unset, .unset] [.int (own_cust c2 (4 : Int32))]))
      have t2 : Goes p e below (EndsAsW (Q0 n0) s room_1.cells room_1.slots) (T77.setTop (mkF m 112 #[.val (.int p0), .val (.int p1), .val (.int p2), .val (.int (4 : Int32)), .val (.int (3 : Int32)), .val (.ref o55), .val (.ref o56), .val (.ref o57), .val (.ref o59), .val (.int c2), .val (.int (1 : Int32)), .unset, .unset] [])) := by
        refine s_iconst X77 hx (1 : Int32) (hb hby at_112) (pc' := 113) rfl rfl ?_
        refine s_goto X77 hx (hb hby at_113) (by decide) (pc' := 117) (by decide) ?_
        refine s_istore X77 hx #[.val (.int p0), .val (.int p1), .val (.int p2), .val (.int (4 : Int32)), .val (.int (3 : Int32)), .val (.ref o55), .val (.ref o56), .val (.ref o57), .val (.ref o59), .val (.int c2), .val (.int (1 : Int32)), .val (.int (1 : Int32)), .unset] (hb hby at_117) (pc' := 119) rfl rfl ?_
        refine s_aload X77 hx (hb hby at_119) (pc' := 121) rfl rfl rfl ?_
        refine s_iconst X77 hx (1 : Int32) (hb hby at_121) (pc' := 122) rfl rfl ?_
        refine c_virtual X77 hx hZ62 ho62 (hw _ (List.mem_of_getElem? (i := 52) rfl)) (hw _ (List.mem_of_getElem? (i := 53) rfl)) (hw _ (List.mem_of_getElem? (i := 55) rfl)) (hw _ (List.mem_of_getElem? (i := 54) rfl)) (hw _ (List.mem_of_getElem? (i := 4) rfl)) (hw _ (List.mem_of_getElem? (i := 56) rfl)) (by decide) eh77 E75 (rm_5 l Z a0 hw [] o59 (1 : Int32) rx75 kx75 (4 : Int32) [.double 0, .double 0, .double 0, .double 0] T75.heap n0 (Nat.le_trans Z0 H75) Fx75 Vx75) (W := 0) (by decide) (by decide) (by decide) (by decide) (by rw [hml]; rfl) (argsL := [.int (1 : Int32)]) (rest := []) (lenOf pd_2 rfl) rfl rfl (Nat.le_of_eq rfl) (hb hby at_122) (pc' := 125) rfl ?_
        intro T78 v78 L78 X78 hQ78
        obtain ⟨hv78, Nq78, eh78⟩ := hQ78
        rw [show own_cust (1 : Int32) (4 : Int32) = (1 : Int32) from by decide] at hv78
        subst hv78
        have N78 := Fr.app N77 Nq78
        show Goes p e below _ (T78.setTop (mkF m 125 #[.val (.int p0), .val (.int p1), .val (.int p2), .val (.int (4 : Int32)), .val (.int (3 : Int32)), .val (.ref o55), .val (.ref o56), .val (.ref o57), .val (.ref o59), .val (.int c2), .val (.int (1 : Int32)), .val (.int (1 : Int32)), .unset] [.int (1 : Int32)]))
        refine s_ifN X78 hx (hb hby at_125) (pc' := 128) rfl (by decide) ?_
        refine s_aload X78 hx (hb hby at_128) (pc' := 130) rfl rfl rfl ?_
        refine s_iload X78 hx (hb hby at_130) (pc' := 132) rfl rfl ?_
        refine c_virtual X78 hx hZ62 ho62 (hw _ (List.mem_of_getElem? (i := 52) rfl)) (hw _ (List.mem_of_getElem? (i := 53) rfl)) (hw _ (List.mem_of_getElem? (i := 55) rfl)) (hw _ (List.mem_of_getElem? (i := 54) rfl)) (hw _ (List.mem_of_getElem? (i := 4) rfl)) (hw _ (List.mem_of_getElem? (i := 56) rfl)) (by decide) eh78 E75 (rm_5 l Z a0 hw [] o59 (3 : Int32) rx75 kx75 (4 : Int32) [.double 0, .double 0, .double 0, .double 0] T75.heap n0 (Nat.le_trans Z0 H75) Fx75 Vx75) (W := 0) (by decide) (by decide) (by decide) (by decide) (by rw [hml]; rfl) (argsL := [.int (3 : Int32)]) (rest := []) (lenOf pd_2 rfl) rfl rfl (Nat.le_of_eq rfl) (hb hby at_132) (pc' := 135) rfl ?_
        intro T79 v79 L79 X79 hQ79
        obtain ⟨hv79, Nq79, eh79⟩ := hQ79
        rw [show own_cust (3 : Int32) (4 : Int32) = (1 : Int32) from by decide] at hv79
        subst hv79
        have N79 := Fr.app N78 Nq79
        show Goes p e below _ (T79.setTop (mkF m 135 #[.val (.int p0), .val (.int p1), .val (.int p2), .val (.int (4 : Int32)), .val (.int (3 : Int32)), .val (.ref o55), .val (.ref o56), .val (.ref o57), .val (.ref o59), .val (.int c2), .val (.int (1 : Int32)), .val (.int (1 : Int32)), .unset] [.int (1 : Int32)]))
        refine s_ifN X79 hx (hb hby at_135) (pc' := 138) rfl (by decide) ?_
        refine s_aload X79 hx (hb hby at_138) (pc' := 140) rfl rfl rfl ?_
        refine s_iconst X79 hx (0 : Int32) (hb hby at_140) (pc' := 141) rfl rfl ?_
        refine c_virtual X79 hx hZ62 ho62 (hw _ (List.mem_of_getElem? (i := 52) rfl)) (hw _ (List.mem_of_getElem? (i := 53) rfl)) (hw _ (List.mem_of_getElem? (i := 55) rfl)) (hw _ (List.mem_of_getElem? (i := 54) rfl)) (hw _ (List.mem_of_getElem? (i := 4) rfl)) (hw _ (List.mem_of_getElem? (i := 56) rfl)) (by decide) eh79 E75 (rm_5 l Z a0 hw [] o59 (0 : Int32) rx75 kx75 (4 : Int32) [.double 0, .double 0, .double 0, .double 0] T75.heap n0 (Nat.le_trans Z0 H75) Fx75 Vx75) (W := 0) (by decide) (by decide) (by decide) (by decide) (by rw [hml]; rfl) (argsL := [.int (0 : Int32)]) (rest := []) (lenOf pd_2 rfl) rfl rfl (Nat.le_of_eq rfl) (hb hby at_141) (pc' := 144) rfl ?_
        intro T80 v80 L80 X80 hQ80
        obtain ⟨hv80, Nq80, eh80⟩ := hQ80
        rw [show own_cust (0 : Int32) (4 : Int32) = (0 : Int32) from by decide] at hv80
        subst hv80
        have N80 := Fr.app N79 Nq80
        show Goes p e below _ (T80.setTop (mkF m 144 #[.val (.int p0), .val (.int p1), .val (.int p2), .val (.int (4 : Int32)), .val (.int (3 : Int32)), .val (.ref o55), .val (.ref o56), .val (.ref o57), .val (.ref o59), .val (.int c2), .val (.int (1 : Int32)), .val (.int (1 : Int32)), .unset] [.int (0 : Int32)]))
        refine s_ifN X80 hx (hb hby at_144) (pc' := 147) rfl (by decide) ?_
        refine s_aload X80 hx (hb hby at_147) (pc' := 149) rfl rfl rfl ?_
        refine s_iload X80 hx (hb hby at_149) (pc' := 151) rfl rfl ?_
        refine s_iconst X80 hx (1 : Int32) (hb hby at_151) (pc' := 152) rfl rfl ?_
        refine s_iadd X80 hx (hb hby at_152) (pc' := 153) rfl ?_
        rw [show ((3 : Int32) + (1 : Int32)) = (4 : Int32) by decide]
        refine c_virtual X80 hx hZ62 ho62 (hw _ (List.mem_of_getElem? (i := 52) rfl)) (hw _ (List.mem_of_getElem? (i := 53) rfl)) (hw _ (List.mem_of_getElem? (i := 55) rfl)) (hw _ (List.mem_of_getElem? (i := 54) rfl)) (hw _ (List.mem_of_getElem? (i := 4) rfl)) (hw _ (List.mem_of_getElem? (i := 56) rfl)) (by decide) eh80 E75 (rm_5 l Z a0 hw [] o59 (4 : Int32) rx75 kx75 (4 : Int32) [.double 0, .double 0, .double 0, .double 0] T75.heap n0 (Nat.le_trans Z0 H75) Fx75 Vx75) (W := 0) (by decide) (by decide) (by decide) (by decide) (by rw [hml]; rfl) (argsL := [.int (4 : Int32)]) (rest := []) (lenOf pd_2 rfl) rfl rfl (Nat.le_of_eq rfl) (hb hby at_153) (pc' := 156) rfl ?_
        intro T81 v81 L81 X81 hQ81
        obtain ⟨hv81, Nq81, eh81⟩ := hQ81
        rw [show own_cust (4 : Int32) (4 : Int32) = (0 : Int32) from by decide] at hv81
        subst hv81
        have N81 := Fr.app N80 Nq81
        show Goes p e below _ (T81.setTop (mkF m 156 #[.val (.int p0), .val (.int p1), .val (.int p2), .val (.int (4 : Int32)), .val (.int (3 : Int32)), .val (.ref o55), .val (.ref o56), .val (.ref o57), .val (.ref o59), .val (.int c2), .val (.int (1 : Int32)), .val (.int (1 : Int32)), .unset] [.int (0 : Int32)]))
        refine s_ifN X81 hx (hb hby at_156) (pc' := 159) rfl (by decide) ?_
        refine s_iconst X81 hx (1 : Int32) (hb hby at_159) (pc' := 160) rfl rfl ?_
        refine s_goto X81 hx (hb hby at_160) (by decide) (pc' := 164) (by decide) ?_
        refine s_istore X81 hx #[.val (.int p0), .val (.int p1), .val (.int p2), .val (.int (4 : Int32)), .val (.int (3 : Int32)), .val (.ref o55), .val (.ref o56), .val (.ref o57), .val (.ref o59), .val (.int c2), .val (.int (1 : Int32)), .val (.int (1 : Int32)), .val (.int (1 : Int32))] (hb hby at_164) (pc' := 166) rfl rfl ?_
        refine s_iload X81 hx (hb hby at_166) (pc' := 168) rfl rfl ?_
        refine s_ifN X81 hx (hb hby at_168) (pc' := 171) rfl (by decide) ?_
        refine s_iload X81 hx (hb hby at_171) (pc' := 173) rfl rfl ?_
        refine s_ifN X81 hx (hb hby at_173) (pc' := 176) rfl (by decide) ?_
        refine s_iload X81 hx (hb hby at_176) (pc' := 178) rfl rfl ?_
        refine s_ifN X81 hx (hb hby at_178) (pc' := 181) rfl (by decide) ?_
        refine s_iconst X81 hx (1 : Int32) (hb hby at_181) (pc' := 182) rfl rfl ?_
        refine s_goto X81 hx (hb hby at_182) (by decide) (pc' := 186) (by decide) ?_
        exact s_retIW X81 hx hlk hS62 (by rw [eh81]; exact J75) hret (hb hby at_186) rfl (Or.inl ⟨rfl, by simp, _, rfl⟩) (by decide) (by decide) ⟨rfl, N81⟩
      refine s_iload X77 hx (hb hby at_91) (pc' := 93) rfl rfl ?_
      refine s_iconst X77 hx (1 : Int32) (hb hby at_93) (pc' := 94) rfl rfl ?_
      by_cases h1 : c2 < 1
      ·
        refine s_icmpY X77 hx (hb hby at_94) (cy_lt h1) (by decide) (pc' := 108) (by decide) ?_
        refine s_iconst X77 hx (0 : Int32) (hb hby at_108) (pc' := 109) rfl rfl ?_
        refine s_icmpN X77 hx (hb hby at_109) (pc' := 112) rfl (cn_ne (own_cust_lo h1 _)) ?_
        exact t2
      ·
        refine s_icmpN X77 hx (hb hby at_94) (pc' := 97) rfl (cn_lt h1) ?_
        refine s_iload X77 hx (hb hby at_97) (pc' := 99) rfl rfl ?_
        refine s_iload X77 hx (hb hby at_99) (pc' := 101) rfl rfl ?_
        by_cases h2 : (3 : Int32) < c2
        ·
          refine s_icmpY X77 hx (hb hby at_101) (cy_gt h2) (by decide) (pc' := 108) (by decide) ?_
          refine s_iconst X77 hx (0 : Int32) (hb hby at_108) (pc' := 109) rfl rfl ?_
          refine s_icmpN X77 hx (hb hby at_109) (pc' := 112) rfl (cn_ne (own_cust_hi (by decide : ((3 : Int32)).toInt + 1 = ((4 : Int32)).toInt) h1 h2)) ?_
          exact t2
        ·
          refine s_icmpN X77 hx (hb hby at_101) (pc' := 104) rfl (cn_gt h2) ?_
          refine s_iconst X77 hx (1 : Int32) (hb hby at_104) (pc' := 105) rfl rfl ?_
          refine s_goto X77 hx (hb hby at_105) (by decide) (pc' := 109) (by decide) ?_
          refine s_icmpN X77 hx (hb hby at_109) (pc' := 112) rfl (cn_ne (own_cust_in (by decide : ((3 : Int32)).toInt + 1 = ((4 : Int32)).toInt) h1 h2)) ?_
          exact t2
    refine s_iloadN X76 hx (hb hby at_58) (pc' := 59) rfl rfl ?_
    refine s_iconst X76 hx (1 : Int32) (hb hby at_59) (pc' := 60) rfl rfl ?_
    by_cases h1 : p1 < 1
    ·
      refine s_icmpY X76 hx (hb hby at_60) (cy_lt h1) (by decide) (pc' := 73) (by decide) ?_
      refine s_iconst X76 hx (0 : Int32) (hb hby at_73) (pc' := 74) rfl rfl ?_
      refine s_icmpN X76 hx (hb hby at_74) (pc' := 77) rfl (cn_ne (own_cust_lo h1 _)) ?_
      exact t1
    ·
      refine s_icmpN X76 hx (hb hby at_60) (pc' := 63) rfl (cn_lt h1) ?_
      refine s_iloadN X76 hx (hb hby at_63) (pc' := 64) rfl rfl ?_
      refine s_iload X76 hx (hb hby at_64) (pc' := 66) rfl rfl ?_
      by_cases h2 : (3 : Int32) < p1
      ·
        refine s_icmpY X76 hx (hb hby at_66) (cy_gt h2) (by decide) (pc' := 73) (by decide) ?_
        refine s_iconst X76 hx (0 : Int32) (hb hby at_73) (pc' := 74) rfl rfl ?_
        refine s_icmpN X76 hx (hb hby at_74) (pc' := 77) rfl (cn_ne (own_cust_hi (by decide : ((3 : Int32)).toInt + 1 = ((4 : Int32)).toInt) h1 h2)) ?_
        exact t1
      ·
        refine s_icmpN X76 hx (hb hby at_66) (pc' := 69) rfl (cn_gt h2) ?_
        refine s_iconst X76 hx (1 : Int32) (hb hby at_69) (pc' := 70) rfl rfl ?_
        refine s_goto X76 hx (hb hby at_70) (by decide) (pc' := 74) (by decide) ?_
        refine s_icmpN X76 hx (hb hby at_74) (pc' := 77) rfl (cn_ne (own_cust_in (by decide : ((3 : Int32)).toInt + 1 = ((4 : Int32)).toInt) h1 h2)) ?_
        exact t1
  ·
    refine s_iloadN X0 hx (hb hby at_6) (pc' := 7) rfl rfl ?_
    refine s_iconst X0 hx (1 : Int32) (hb hby at_7) (pc' := 8) rfl rfl ?_
    refine s_isub X0 hx (hb hby at_8) (pc' := 9) rfl ?_
    rw [show ((5 : Int32) - (1 : Int32)) = (4 : Int32) by decide]
    refine s_istore X0 hx #[.val (.int p0), .val (.int p1), .val (.int p2), .val (.int (5 : Int32)), .val (.int (4 : Int32)), .unset, .unset, .unset, .unset, .unset, .unset, .unset, .unset] (hb hby at_9) (pc' := 11) rfl rfl ?_
    refine s_iloadN X0 hx (hb hby at_11) (pc' := 12) rfl rfl ?_
    refine s_newP X0 hx hZ (hw _ (List.mem_of_getElem? (i := 0) rfl)) e0 (hb hby at_12) (pc' := 14) rfl (by decide) 5 (by decide) (by decide) (by decide) (by decide) (ad := "[D") (by decide) ?_
    intro T82 h82 c82 o82 X82 e82 E82 g82 V82 Ex82
    have hg82 : h0.size ≤ o82 := by rw [g82]; exact (Nat.le_refl _)
    have J82 := Nat.le_trans J0 (E82.1)
    have H82 : h0.size ≤ h82.size := Nat.le_trans (Nat.le_refl _) E82.1
    have U82 : Arv Z h82 o82 c82 .double (5 : Int32) [.double 0, .double 0, .double 0, .double 0, .double 0] (.double 0) := V82.pad (pad_rep [] _ 5)
    refine s_astore X82 hx #[.val (.int p0), .val (.int p1), .val (.int p2), .val (.int (5 : Int32)), .val (.int (4 : Int32)), .val (.ref o82), .unset, .unset, .unset, .unset, .unset, .unset, .unset] (hb hby at_14) (pc' := 16) rfl rfl rfl ?_
    refine s_iloadN X82 hx (hb hby at_16) (pc' := 17) rfl rfl ?_
    refine s_newP X82 hx hZ (hw _ (List.mem_of_getElem? (i := 0) rfl)) e82 (hb hby at_17) (pc' := 19) rfl (by decide) 5 (by decide) (by decide) (by decide) (by decide) (ad := "[D") (by decide) ?_
    intro T83 h83 c83 o83 X83 e83 E83 g83 V83 Ex83
    have ne83_o82 : o82 ≠ o83 := Nat.ne_of_lt (by rw [g83]; exact Ex82.lt)
    have hg83 : h0.size ≤ o83 := by rw [g83]; exact H82
    have J83 := Nat.le_trans J82 (E83.1)
    have H83 : h0.size ≤ h83.size := Nat.le_trans H82 E83.1
    have U83 : Arv Z h83 o83 c83 .double (5 : Int32) [.double 0, .double 0, .double 0, .double 0, .double 0] (.double 0) := V83.pad (pad_rep [] _ 5)
    refine s_astore X83 hx #[.val (.int p0), .val (.int p1), .val (.int p2), .val (.int (5 : Int32)), .val (.int (4 : Int32)), .val (.ref o82), .val (.ref o83), .unset, .unset, .unset, .unset, .unset, .unset] (hb hby at_19) (pc' := 21) rfl rfl rfl ?_
    refine s_iloadN X83 hx (hb hby at_21) (pc' := 22) rfl rfl ?_
    refine s_newP X83 hx hZ (hw _ (List.mem_of_getElem? (i := 1) rfl)) e83 (hb hby at_22) (pc' := 24) rfl (by decide) 5 (by decide) (by decide) (by decide) (by decide) (ad := "[I") (by decide) ?_
    intro T84 h84 c84 o84 X84 e84 E84 g84 V84 Ex84
    have fE85 := (Ex82.ext E83)
    have ne84_o82 : o82 ≠ o84 := Nat.ne_of_lt (by rw [g84]; exact fE85.lt)
    have ne84_o83 : o83 ≠ o84 := Nat.ne_of_lt (by rw [g84]; exact Ex83.lt)
    have hg84 : h0.size ≤ o84 := by rw [g84]; exact H83
    have J84 := Nat.le_trans J83 (E84.1)
    have H84 : h0.size ≤ h84.size := Nat.le_trans H83 E84.1
    have U84 : Arv Z h84 o84 c84 .int (5 : Int32) [.int 0, .int 0, .int 0, .int 0, .int 0] (.int 0) := V84.pad (pad_rep [] _ 5)
    refine s_astore X84 hx #[.val (.int p0), .val (.int p1), .val (.int p2), .val (.int (5 : Int32)), .val (.int (4 : Int32)), .val (.ref o82), .val (.ref o83), .val (.ref o84), .unset, .unset, .unset, .unset, .unset] (hb hby at_24) (pc' := 26) rfl rfl rfl ?_
    refine s_new X84 hx hZ hown (hw _ (List.mem_of_getElem? (i := 2) rfl)) (hw _ (List.mem_of_getElem? (i := 3) rfl)) (hw _ (List.mem_of_getElem? (i := 4) rfl)) e84 (hb hby at_26) (pc' := 29) rfl (by decide) (by decide) ?_
    intro T86 h86 o86 X86 e86 E86 g86 A86 D86
    have fE87 := (fE85.ext E84)
    have ne86_o82 : o82 ≠ o86 := Nat.ne_of_lt (by rw [g86]; exact fE87.lt)
    have fE88 := (Ex83.ext E84)
    have ne86_o83 : o83 ≠ o86 := Nat.ne_of_lt (by rw [g86]; exact fE88.lt)
    have ne86_o84 : o84 ≠ o86 := Nat.ne_of_lt (by rw [g86]; exact Ex84.lt)
    have hg86 : h0.size ≤ o86 := by rw [g86]; exact H84
    have J86 := Nat.le_trans J84 (E86.1)
    have H86 : h0.size ≤ h86.size := Nat.le_trans H84 E86.1
    have F86_name := D86 (O := "com/example/vicinity/vicinity/instance/Instance") (nm := "name") (d := "Ljava/lang/String;") (Or.inr (hw _ (List.mem_of_getElem? (i := 28) rfl))) (ty := (.object "java/lang/String")) (by decide)
    have F86_capacity := D86 (O := "com/example/vicinity/vicinity/instance/Instance") (nm := "capacity") (d := "I") (Or.inr (hw _ (List.mem_of_getElem? (i := 30) rfl))) (ty := .int) (by decide)
    have F86_x := D86 (O := "com/example/vicinity/vicinity/instance/Instance") (nm := "x") (d := "[D") (Or.inr (hw _ (List.mem_of_getElem? (i := 41) rfl))) (ty := (.array .double)) (by decide)
    have F86_y := D86 (O := "com/example/vicinity/vicinity/instance/Instance") (nm := "y") (d := "[D") (Or.inr (hw _ (List.mem_of_getElem? (i := 43) rfl))) (ty := (.array .double)) (by decide)
    have F86_demands := D86 (O := "com/example/vicinity/vicinity/instance/Instance") (nm := "demands") (d := "[I") (Or.inr (hw _ (List.mem_of_getElem? (i := 51) rfl))) (ty := (.array .int)) (by decide)
    refine s_dup X86 hx (hb hby at_29) (pc' := 30) rfl rfl ?_
    refine s_ldcS X86 hx hZ hown (hw _ (List.mem_of_getElem? (i := 5) rfl)) hstr e86 hS0 J86 (hb hby at_30) (pc' := 32) rfl 4 (by decide) (by decide) (by decide) (by decide) ?_
    intro a89 T89 h89 k89 X89 e89 E89 hS89 J89 hZ89 ho89
    have H89 : h0.size ≤ h89.size := Nat.le_trans H86 E89.1
    refine s_iconst X89 hx (1 : Int32) (hb hby at_32) (pc' := 33) rfl rfl ?_
    refine s_aload X89 hx (hb hby at_33) (pc' := 35) rfl rfl rfl ?_
    refine s_aload X89 hx (hb hby at_35) (pc' := 37) rfl rfl rfl ?_
    refine s_aload X89 hx (hb hby at_37) (pc' := 39) rfl rfl rfl ?_
    have fE90 := (A86.ext E89)
    have fF91 := (F86_name.ext E89)
    have fF92 := (F86_capacity.ext E89)
    have fF93 := (F86_x.ext E89)
    have fF94 := (F86_y.ext E89)
    have fF95 := (F86_demands.ext E89)
    have fV96 := ((((U82.ext E83).ext E84).ext E86).ext E89)
    have fV97 := (((U83.ext E84).ext E86).ext E89)
    have fV98 := ((U84.ext E86).ext E89)
    have fE99 := ((fE87.ext E86).ext E89)
    have fE100 := ((fE88.ext E86).ext E89)
    have fE101 := ((Ex84.ext E86).ext E89)
    refine c_special X89 hx hZ89 rfl ho89 (hw _ (List.mem_of_getElem? (i := 13) rfl)) (hw _ (List.mem_of_getElem? (i := 14) rfl)) (hw _ (List.mem_of_getElem? (i := 4) rfl)) (hw _ (List.mem_of_getElem? (i := 15) rfl)) (by decide) e89 (rm_1_5 l Z a0 hw [] o86 a89 o82 o83 o84 c82 c83 c84 _ _ _ _ _ h89 n0 (Nat.le_trans Z0 H89) fE90 fF91 fF92 fF93 fF94 fF95 fV96 fV97 fV98 fE99 fE100 fE101 ne86_o82 ne86_o83 ne86_o84 (Nat.le_trans Z0 hg86)) (W := 1) (by decide) (by decide) (by decide) (by decide) (by rw [hml]; rfl) (argsL := [.ref a89, .int (1 : Int32), .ref o82, .ref o83, .ref o84]) (rest := [.ref o86]) (a := o86) (lenOf pd_1 rfl) rfl rfl (Nat.le_of_eq rfl) (hb hby at_39) (pc' := 42) rfl ?_
    intro T102 v102 L102 X102 hQ102
    obtain ⟨rfl, Nq102, K102, E102, rx102, kx102, Fx102, Vx102⟩ := hQ102
    have N102 := Fr.app N0 Nq102
    have J102 := Nat.le_trans J89 (K102.1)
    have H102 : h0.size ≤ T102.heap.size := Nat.le_trans H89 K102.1
    show Goes p e below _ (T102.setTop (mkF m 42 #[.val (.int p0), .val (.int p1), .val (.int p2), .val (.int (5 : Int32)), .val (.int (4 : Int32)), .val (.ref o82), .val (.ref o83), .val (.ref o84), .unset, .unset, .unset, .unset, .unset] [.ref o86]))
    refine s_astore X102 hx #[.val (.int p0), .val (.int p1), .val (.int p2), .val (.int (5 : Int32)), .val (.int (4 : Int32)), .val (.ref o82), .val (.ref o83), .val (.ref o84), .val (.ref o86), .unset, .unset, .unset, .unset] (hb hby at_42) (pc' := 44) rfl rfl rfl ?_
    refine s_iloadN X102 hx (hb hby at_44) (pc' := 45) rfl rfl ?_
    refine s_bipush X102 hx (7 : Int32) (hb hby at_45) (pc' := 47) rfl rfl ?_
    refine s_iand X102 hx (hb hby at_47) (pc' := 48) rfl ?_
    refine s_iconst X102 hx (2 : Int32) (hb hby at_48) (pc' := 49) rfl rfl ?_
    refine s_isub X102 hx (hb hby at_49) (pc' := 50) rfl ?_
    refine s_istore X102 hx #[.val (.int p0), .val (.int p1), .val (.int p2), .val (.int (5 : Int32)), .val (.int (4 : Int32)), .val (.ref o82), .val (.ref o83), .val (.ref o84), .val (.ref o86), .val (.int ((p2 &&& (7 : Int32)) - (2 : Int32))), .unset, .unset, .unset] (hb hby at_50) (pc' := 52) rfl rfl ?_
    generalize ec2 : ((p2 &&& (7 : Int32)) - (2 : Int32)) = c2
    refine s_aload X102 hx (hb hby at_52) (pc' := 54) rfl rfl rfl ?_
    refine s_iloadN X102 hx (hb hby at_54) (pc' := 55) rfl rfl ?_
    refine c_virtual X102 hx hZ89 ho89 (hw _ (List.mem_of_getElem? (i := 52) rfl)) (hw _ (List.mem_of_getElem? (i := 53) rfl)) (hw _ (List.mem_of_getElem? (i := 55) rfl)) (hw _ (List.mem_of_getElem? (i := 54) rfl)) (hw _ (List.mem_of_getElem? (i := 4) rfl)) (hw _ (List.mem_of_getElem? (i := 56) rfl)) (by decide) rfl E102 (rm_5 l Z a0 hw [] o86 p1 rx102 kx102 (5 : Int32) [.double 0, .double 0, .double 0, .double 0, .double 0] T102.heap n0 (Nat.le_trans Z0 H102) Fx102 Vx102) (W := 0) (by decide) (by decide) (by decide) (by decide) (by rw [hml]; rfl) (argsL := [.int p1]) (rest := []) (lenOf pd_2 rfl) rfl rfl (Nat.le_of_eq rfl) (hb hby at_55) (pc' := 58) rfl ?_
    intro T103 v103 L103 X103 hQ103
    obtain ⟨rfl, Nq103, eh103⟩ := hQ103
    have N103 := Fr.app N102 Nq103
    show Goes p e below _ (T103.setTop (mkF m 58 #[.val (.int p0), .val (.int p1), .val (.int p2), .val (.int (5 : Int32)), .val (.int (4 : Int32)), .val (.ref o82), .val (.ref o83), .val (.ref o84), .val (.ref o86), .val (.int c2), .unset, .unset, .unset] [.int (own_cust p1 (5 : Int32))]))
    have t1 : Goes p e below (EndsAsW (Q0 n0) s room_1.cells room_1.slots) (T103.setTop (mkF m 77 #[.val (.int p0), .val (.int p1), .val (.int p2), .val (.int (5 : Int32)), .val (.int (4 : Int32)), .val (.ref o82), .val (.ref o83), .val (.ref o84), .val (.ref o86), .val (.int c2), .unset, .unset, .unset] [])) := by
      refine s_iconst X103 hx (1 : Int32) (hb hby at_77) (pc' := 78) rfl rfl ?_
      refine s_goto X103 hx (hb hby at_78) (by decide) (pc' := 82) (by decide) ?_
      refine s_istore X103 hx #[.val (.int p0), .val (.int p1), .val (.int p2), .val (.int (5 : Int32)), .val (.int (4 : Int32)), .val (.ref o82), .val (.ref o83), .val (.ref o84), .val (.ref o86), .val (.int c2), .val (.int (1 : Int32)), .unset, .unset] (hb hby at_82) (pc' := 84) rfl rfl ?_
      refine s_aload X103 hx (hb hby at_84) (pc' := 86) rfl rfl rfl ?_
      refine s_iload X103 hx (hb hby at_86) (pc' := 88) rfl rfl ?_
      refine c_virtual X103 hx hZ89 ho89 (hw _ (List.mem_of_getElem? (i := 52) rfl)) (hw _ (List.mem_of_getElem? (i := 53) rfl)) (hw _ (List.mem_of_getElem? (i := 55) rfl)) (hw _ (List.mem_of_getElem? (i := 54) rfl)) (hw _ (List.mem_of_getElem? (i := 4) rfl)) (hw _ (List.mem_of_getElem? (i := 56) rfl)) (by decide) eh103 E102 (rm_5 l Z a0 hw [] o86 c2 rx102 kx102 (5 : Int32) [.double 0, .double 0, .double 0, .double 0, .double 0] T102.heap n0 (Nat.le_trans Z0 H102) Fx102 Vx102) (W := 0) (by decide) (by decide) (by decide) (by decide) (by rw [hml]; rfl) (argsL := [.int c2]) (rest := []) (lenOf pd_2 rfl) rfl rfl (Nat.le_of_eq rfl) (hb hby at_88) (pc' := 91) rfl ?_
      intro T104 v104 L104 X104 hQ104
      obtain ⟨rfl, Nq104, eh104⟩ := hQ104
      have N104 := Fr.app N103 Nq104
      show Goes p e below _ (T104.setTop (mkF m 91 #[.val (.int p0), .val (.int p1), .val (.int p2), .val (.int (5 : Int32)), .val (.int (4 : Int32)), .val (.ref o82), .val (.ref o83), .val (.ref o84), .val (.ref o86), .val (.int c2), .val (.int (1 : Int32)), .unset, .unset] [.int (own_cust c2 (5 : Int32))]))
      have t2 : Goes p e below (EndsAsW (Q0 n0) s room_1.cells room_1.slots) (T104.setTop (mkF m 112 #[.val (.int p0), .val (.int p1), .val (.int p2), .val (.int (5 : Int32)), .val (.int (4 : Int32)), .val (.ref o82), .val (.ref o83), .val (.ref o84), .val (.ref o86), .val (.int c2), .val (.int (1 : Int32)), .unset, .unset] [])) := by
        refine s_iconst X104 hx (1 : Int32) (hb hby at_112) (pc' := 113) rfl rfl ?_
        refine s_goto X104 hx (hb hby at_113) (by decide) (pc' := 117) (by decide) ?_
        refine s_istore X104 hx #[.val (.int p0), .val (.int p1), .val (.int p2), .val (.int (5 : Int32)), .val (.int (4 : Int32)), .val (.ref o82), .val (.ref o83), .val (.ref o84), .val (.ref o86), .val (.int c2), .val (.int (1 : Int32)), .val (.int (1 : Int32)), .unset] (hb hby at_117) (pc' := 119) rfl rfl ?_
        refine s_aload X104 hx (hb hby at_119) (pc' := 121) rfl rfl rfl ?_
        refine s_iconst X104 hx (1 : Int32) (hb hby at_121) (pc' := 122) rfl rfl ?_
        refine c_virtual X104 hx hZ89 ho89 (hw _ (List.mem_of_getElem? (i := 52) rfl)) (hw _ (List.mem_of_getElem? (i := 53) rfl)) (hw _ (List.mem_of_getElem? (i := 55) rfl)) (hw _ (List.mem_of_getElem? (i := 54) rfl)) (hw _ (List.mem_of_getElem? (i := 4) rfl)) (hw _ (List.mem_of_getElem? (i := 56) rfl)) (by decide) eh104 E102 (rm_5 l Z a0 hw [] o86 (1 : Int32) rx102 kx102 (5 : Int32) [.double 0, .double 0, .double 0, .double 0, .double 0] T102.heap n0 (Nat.le_trans Z0 H102) Fx102 Vx102) (W := 0) (by decide) (by decide) (by decide) (by decide) (by rw [hml]; rfl) (argsL := [.int (1 : Int32)]) (rest := []) (lenOf pd_2 rfl) rfl rfl (Nat.le_of_eq rfl) (hb hby at_122) (pc' := 125) rfl ?_
        intro T105 v105 L105 X105 hQ105
        obtain ⟨hv105, Nq105, eh105⟩ := hQ105
        rw [show own_cust (1 : Int32) (5 : Int32) = (1 : Int32) from by decide] at hv105
        subst hv105
        have N105 := Fr.app N104 Nq105
        show Goes p e below _ (T105.setTop (mkF m 125 #[.val (.int p0), .val (.int p1), .val (.int p2), .val (.int (5 : Int32)), .val (.int (4 : Int32)), .val (.ref o82), .val (.ref o83), .val (.ref o84), .val (.ref o86), .val (.int c2), .val (.int (1 : Int32)), .val (.int (1 : Int32)), .unset] [.int (1 : Int32)]))
        refine s_ifN X105 hx (hb hby at_125) (pc' := 128) rfl (by decide) ?_
        refine s_aload X105 hx (hb hby at_128) (pc' := 130) rfl rfl rfl ?_
        refine s_iload X105 hx (hb hby at_130) (pc' := 132) rfl rfl ?_
        refine c_virtual X105 hx hZ89 ho89 (hw _ (List.mem_of_getElem? (i := 52) rfl)) (hw _ (List.mem_of_getElem? (i := 53) rfl)) (hw _ (List.mem_of_getElem? (i := 55) rfl)) (hw _ (List.mem_of_getElem? (i := 54) rfl)) (hw _ (List.mem_of_getElem? (i := 4) rfl)) (hw _ (List.mem_of_getElem? (i := 56) rfl)) (by decide) eh105 E102 (rm_5 l Z a0 hw [] o86 (4 : Int32) rx102 kx102 (5 : Int32) [.double 0, .double 0, .double 0, .double 0, .double 0] T102.heap n0 (Nat.le_trans Z0 H102) Fx102 Vx102) (W := 0) (by decide) (by decide) (by decide) (by decide) (by rw [hml]; rfl) (argsL := [.int (4 : Int32)]) (rest := []) (lenOf pd_2 rfl) rfl rfl (Nat.le_of_eq rfl) (hb hby at_132) (pc' := 135) rfl ?_
        intro T106 v106 L106 X106 hQ106
        obtain ⟨hv106, Nq106, eh106⟩ := hQ106
        rw [show own_cust (4 : Int32) (5 : Int32) = (1 : Int32) from by decide] at hv106
        subst hv106
        have N106 := Fr.app N105 Nq106
        show Goes p e below _ (T106.setTop (mkF m 135 #[.val (.int p0), .val (.int p1), .val (.int p2), .val (.int (5 : Int32)), .val (.int (4 : Int32)), .val (.ref o82), .val (.ref o83), .val (.ref o84), .val (.ref o86), .val (.int c2), .val (.int (1 : Int32)), .val (.int (1 : Int32)), .unset] [.int (1 : Int32)]))
        refine s_ifN X106 hx (hb hby at_135) (pc' := 138) rfl (by decide) ?_
        refine s_aload X106 hx (hb hby at_138) (pc' := 140) rfl rfl rfl ?_
        refine s_iconst X106 hx (0 : Int32) (hb hby at_140) (pc' := 141) rfl rfl ?_
        refine c_virtual X106 hx hZ89 ho89 (hw _ (List.mem_of_getElem? (i := 52) rfl)) (hw _ (List.mem_of_getElem? (i := 53) rfl)) (hw _ (List.mem_of_getElem? (i := 55) rfl)) (hw _ (List.mem_of_getElem? (i := 54) rfl)) (hw _ (List.mem_of_getElem? (i := 4) rfl)) (hw _ (List.mem_of_getElem? (i := 56) rfl)) (by decide) eh106 E102 (rm_5 l Z a0 hw [] o86 (0 : Int32) rx102 kx102 (5 : Int32) [.double 0, .double 0, .double 0, .double 0, .double 0] T102.heap n0 (Nat.le_trans Z0 H102) Fx102 Vx102) (W := 0) (by decide) (by decide) (by decide) (by decide) (by rw [hml]; rfl) (argsL := [.int (0 : Int32)]) (rest := []) (lenOf pd_2 rfl) rfl rfl (Nat.le_of_eq rfl) (hb hby at_141) (pc' := 144) rfl ?_
        intro T107 v107 L107 X107 hQ107
        obtain ⟨hv107, Nq107, eh107⟩ := hQ107
        rw [show own_cust (0 : Int32) (5 : Int32) = (0 : Int32) from by decide] at hv107
        subst hv107
        have N107 := Fr.app N106 Nq107
        show Goes p e below _ (T107.setTop (mkF m 144 #[.val (.int p0), .val (.int p1), .val (.int p2), .val (.int (5 : Int32)), .val (.int (4 : Int32)), .val (.ref o82), .val (.ref o83), .val (.ref o84), .val (.ref o86), .val (.int c2), .val (.int (1 : Int32)), .val (.int (1 : Int32)), .unset] [.int (0 : Int32)]))
        refine s_ifN X107 hx (hb hby at_144) (pc' := 147) rfl (by decide) ?_
        refine s_aload X107 hx (hb hby at_147) (pc' := 149) rfl rfl rfl ?_
        refine s_iload X107 hx (hb hby at_149) (pc' := 151) rfl rfl ?_
        refine s_iconst X107 hx (1 : Int32) (hb hby at_151) (pc' := 152) rfl rfl ?_
        refine s_iadd X107 hx (hb hby at_152) (pc' := 153) rfl ?_
        rw [show ((4 : Int32) + (1 : Int32)) = (5 : Int32) by decide]
        refine c_virtual X107 hx hZ89 ho89 (hw _ (List.mem_of_getElem? (i := 52) rfl)) (hw _ (List.mem_of_getElem? (i := 53) rfl)) (hw _ (List.mem_of_getElem? (i := 55) rfl)) (hw _ (List.mem_of_getElem? (i := 54) rfl)) (hw _ (List.mem_of_getElem? (i := 4) rfl)) (hw _ (List.mem_of_getElem? (i := 56) rfl)) (by decide) eh107 E102 (rm_5 l Z a0 hw [] o86 (5 : Int32) rx102 kx102 (5 : Int32) [.double 0, .double 0, .double 0, .double 0, .double 0] T102.heap n0 (Nat.le_trans Z0 H102) Fx102 Vx102) (W := 0) (by decide) (by decide) (by decide) (by decide) (by rw [hml]; rfl) (argsL := [.int (5 : Int32)]) (rest := []) (lenOf pd_2 rfl) rfl rfl (Nat.le_of_eq rfl) (hb hby at_153) (pc' := 156) rfl ?_
        intro T108 v108 L108 X108 hQ108
        obtain ⟨hv108, Nq108, eh108⟩ := hQ108
        rw [show own_cust (5 : Int32) (5 : Int32) = (0 : Int32) from by decide] at hv108
        subst hv108
        have N108 := Fr.app N107 Nq108
        show Goes p e below _ (T108.setTop (mkF m 156 #[.val (.int p0), .val (.int p1), .val (.int p2), .val (.int (5 : Int32)), .val (.int (4 : Int32)), .val (.ref o82), .val (.ref o83), .val (.ref o84), .val (.ref o86), .val (.int c2), .val (.int (1 : Int32)), .val (.int (1 : Int32)), .unset] [.int (0 : Int32)]))
        refine s_ifN X108 hx (hb hby at_156) (pc' := 159) rfl (by decide) ?_
        refine s_iconst X108 hx (1 : Int32) (hb hby at_159) (pc' := 160) rfl rfl ?_
        refine s_goto X108 hx (hb hby at_160) (by decide) (pc' := 164) (by decide) ?_
        refine s_istore X108 hx #[.val (.int p0), .val (.int p1), .val (.int p2), .val (.int (5 : Int32)), .val (.int (4 : Int32)), .val (.ref o82), .val (.ref o83), .val (.ref o84), .val (.ref o86), .val (.int c2), .val (.int (1 : Int32)), .val (.int (1 : Int32)), .val (.int (1 : Int32))] (hb hby at_164) (pc' := 166) rfl rfl ?_
        refine s_iload X108 hx (hb hby at_166) (pc' := 168) rfl rfl ?_
        refine s_ifN X108 hx (hb hby at_168) (pc' := 171) rfl (by decide) ?_
        refine s_iload X108 hx (hb hby at_171) (pc' := 173) rfl rfl ?_
        refine s_ifN X108 hx (hb hby at_173) (pc' := 176) rfl (by decide) ?_
        refine s_iload X108 hx (hb hby at_176) (pc' := 178) rfl rfl ?_
        refine s_ifN X108 hx (hb hby at_178) (pc' := 181) rfl (by decide) ?_
        refine s_iconst X108 hx (1 : Int32) (hb hby at_181) (pc' := 182) rfl rfl ?_
        refine s_goto X108 hx (hb hby at_182) (by decide) (pc' := 186) (by decide) ?_
        exact s_retIW X108 hx hlk hS89 (by rw [eh108]; exact J102) hret (hb hby at_186) rfl (Or.inl ⟨rfl, by simp, _, rfl⟩) (by decide) (by decide) ⟨rfl, N108⟩
      refine s_iload X104 hx (hb hby at_91) (pc' := 93) rfl rfl ?_
      refine s_iconst X104 hx (1 : Int32) (hb hby at_93) (pc' := 94) rfl rfl ?_
      by_cases h1 : c2 < 1
      ·
        refine s_icmpY X104 hx (hb hby at_94) (cy_lt h1) (by decide) (pc' := 108) (by decide) ?_
        refine s_iconst X104 hx (0 : Int32) (hb hby at_108) (pc' := 109) rfl rfl ?_
        refine s_icmpN X104 hx (hb hby at_109) (pc' := 112) rfl (cn_ne (own_cust_lo h1 _)) ?_
        exact t2
      ·
        refine s_icmpN X104 hx (hb hby at_94) (pc' := 97) rfl (cn_lt h1) ?_
        refine s_iload X104 hx (hb hby at_97) (pc' := 99) rfl rfl ?_
        refine s_iload X104 hx (hb hby at_99) (pc' := 101) rfl rfl ?_
        by_cases h2 : (4 : Int32) < c2
        ·
          refine s_icmpY X104 hx (hb hby at_101) (cy_gt h2) (by decide) (pc' := 108) (by decide) ?_
          refine s_iconst X104 hx (0 : Int32) (hb hby at_108) (pc' := 109) rfl rfl ?_
          refine s_icmpN X104 hx (hb hby at_109) (pc' := 112) rfl (cn_ne (own_cust_hi (by decide : ((4 : Int32)).toInt + 1 = ((5 : Int32)).toInt) h1 h2)) ?_
          exact t2
        ·
          refine s_icmpN X104 hx (hb hby at_101) (pc' := 104) rfl (cn_gt h2) ?_
          refine s_iconst X104 hx (1 : Int32) (hb hby at_104) (pc' := 105) rfl rfl ?_
          refine s_goto X104 hx (hb hby at_105) (by decide) (pc' := 109) (by decide) ?_
          refine s_icmpN X104 hx (hb hby at_109) (pc' := 112) rfl (cn_ne (own_cust_in (by decide : ((4 : Int32)).toInt + 1 = ((5 : Int32)).toInt) h1 h2)) ?_
          exact t2
    refine s_iloadN X103 hx (hb hby at_58) (pc' := 59) rfl rfl ?_
    refine s_iconst X103 hx (1 : Int32) (hb hby at_59) (pc' := 60) rfl rfl ?_
    by_cases h1 : p1 < 1
    ·
      refine s_icmpY X103 hx (hb hby at_60) (cy_lt h1) (by decide) (pc' := 73) (by decide) ?_
      refine s_iconst X103 hx (0 : Int32) (hb hby at_73) (pc' := 74) rfl rfl ?_
      refine s_icmpN X103 hx (hb hby at_74) (pc' := 77) rfl (cn_ne (own_cust_lo h1 _)) ?_
      exact t1
    ·
      refine s_icmpN X103 hx (hb hby at_60) (pc' := 63) rfl (cn_lt h1) ?_
      refine s_iloadN X103 hx (hb hby at_63) (pc' := 64) rfl rfl ?_
      refine s_iload X103 hx (hb hby at_64) (pc' := 66) rfl rfl ?_
      by_cases h2 : (4 : Int32) < p1
      ·
        refine s_icmpY X103 hx (hb hby at_66) (cy_gt h2) (by decide) (pc' := 73) (by decide) ?_
        refine s_iconst X103 hx (0 : Int32) (hb hby at_73) (pc' := 74) rfl rfl ?_
        refine s_icmpN X103 hx (hb hby at_74) (pc' := 77) rfl (cn_ne (own_cust_hi (by decide : ((4 : Int32)).toInt + 1 = ((5 : Int32)).toInt) h1 h2)) ?_
        exact t1
      ·
        refine s_icmpN X103 hx (hb hby at_66) (pc' := 69) rfl (cn_gt h2) ?_
        refine s_iconst X103 hx (1 : Int32) (hb hby at_69) (pc' := 70) rfl rfl ?_
        refine s_goto X103 hx (hb hby at_70) (by decide) (pc' := 74) (by decide) ?_
        refine s_icmpN X103 hx (hb hby at_74) (pc' := 77) rfl (cn_ne (own_cust_in (by decide : ((4 : Int32)).toInt + 1 = ((5 : Int32)).toInt) h1 h2)) ?_
        exact t1
set_option maxRecDepth 65536 in
set_option maxHeartbeats 40000000 in
theorem comes_1 {Post : Tables → Env → Array Value → State → Outcome → State → Prop} (hpost : ∀ tb e args s v u, (limb_1_1.after args s (.returned v) u = true ∧ limb_1_2.after args s (.returned v) u = true ∧ True) → ReturnedEndW s (.returned v) u (Jvm.fieldLocs frame_1_writes args s ++ Jvm.arrayLocs frame_1_arrays args s ++ Jvm.staticLocs frame_1_statics s) 24 1216 → Post tb e args s (.returned v) u) :
    ArmFor flags0 classFile x code maxLocals ret World_1 tables_1 room_1 Calls_1 rest_1 Pre_1 Post := by
  intro l hfl _ _ p e ha hc hk s m args below hf hA hF happ hP
  obtain ⟨hcalls, hrest, hpre⟩ := hP
  obtain ⟨-, -, -, hnamed, -, -, -, hat⟩ := (Spec.applies_iff hf).mp happ
  obtain ⟨hg, hn⟩ := and_e (Cond.before_iff.mp (show (Jvm.Cond.and given_1 narrow_1).before args s = true from hpre))
  obtain ⟨g0, gr0⟩ := and_e hg
  obtain ⟨g1, gr1⟩ := and_e gr0
  obtain ⟨g2, gr2⟩ := and_e gr1
  obtain ⟨w0, w1, w2, rfl⟩ : ∃ w0 w1 w2 : Value, args = #[w0, w1, w2] := by
    have hs : args.size = 3 := by simpa [Cond.value, given_1] using g0
    obtain ⟨L⟩ := args
    match L, hs with
    | [w0, w1, w2], _ => exact ⟨w0, w1, w2, rfl⟩
  have hw := fun d (hd : d ∈ tables_1) => atoms_spec (ws := Jvm.Cond.code x code maxLocals ret :: tables_1) hat d (List.mem_cons_of_mem _ hd)
  have hfit : Fit s := fun {y c} hc i hi => by
    obtain ⟨ha, rfl⟩ := Array.getElem?_eq_some_iff.mp hc
    have q := List.all_eq_true.mp ((Array.all_eq_true_iff_forall_mem.mp hF) _ (Array.getElem_mem ha)) i (List.mem_range.mpr hi)
    simpa [Array.getElem?_eq_getElem hi] using q
  obtain ⟨i0, q0⟩ := is_v g1
  obtain rfl : w0 = (.int i0) := Option.some.inj q0
  obtain ⟨i1, q1⟩ := is_v g2
  obtain rfl : w1 = (.int i1) := Option.some.inj q1
  obtain ⟨i2, q2⟩ := is_v gr2
  obtain rfl : w2 = (.int i2) := Option.some.inj q2
  obtain ⟨n, o, h1, h2, h3, _, L, rfl, ⟨rfl, N⟩, hq⟩ := rm_0 l s _ hw tables_1 i0 i1 i2 s.heap s.heap.size (Nat.le_refl _)  p e ha hc hk s m _ below hf ((Spec.applies_iff_loose hf).mp happ).1 ⟨rfl, State.Warmed39.refl s, rfl⟩ trivial
  refine ⟨n, _, h1, h2, h3, hpost _ _ _ _ _ _ ⟨Cond.after_iff.mpr rfl, Cond.after_iff.mpr (eq_i res_at (Term.int_eval (1)) rfl), trivial⟩ ⟨hq.1, hq.2.1, hq.2.2.1, (hq.2.2.2.sift fun y hy => Or.inr (N y hy)).mono (by decide) (by decide)⟩⟩
theorem main_1_1 : Claimed_1_1 := comes_1 fun _ _ _ _ _ _ h hF => ⟨h.1, hF⟩
theorem main_1_2 : Claimed_1_2 := comes_1 fun _ _ _ _ _ _ h hF => ⟨h.2.1, hF⟩
end Jvm.Pilot.@@N@@
namespace Jvm.Pilot.@@N@@
open Jvm Jvm.ClassFile Sem Op Lib Jvm.Free Jvm.Stand Jvm.Pilot.@@N@@.Jvm.D
/-! MADE BY PROGRAM (witnessworld.py) out of the Statement's table words and the real class files: 17 classes; the members and pool entries that the words name. The judged class is class 1, her method 1. -/
namespace start1
open Jvm.ClassFile
def u (s : String) : CpInfo := .utf8 (stringToUtf16 s)
/-- a pool by its gaps: so many unusable entries, then the entry; so many at the end -/
def gap : Nat → List CpInfo → List CpInfo
  | 0, r => r
  | n + 1, r => .unusable :: gap n r
def poolList (es : List (Nat × CpInfo)) (last : Nat) : List CpInfo := es.foldr (fun e r => gap e.1 (e.2 :: r)) (gap last [])
def pool (es : List (Nat × CpInfo)) (last : Nat) : Array CpInfo := ⟨poolList es last⟩
def fileOf (pool : Array CpInfo) (this : Nat) (attrs : Array Attribute := #[]) (ms : Array MethodInfo := #[]) (fl : Nat := 33) (sup : Nat := 0) (ifs : Array Nat := #[]) (fds : Array FieldInfo := #[]) : ClassFile where
  minorVersion := 0
  majorVersion := 65
  constantPool := pool
  accessFlags := fl
  thisClass := this
  superClass := sup
  interfaces := ifs
  fields := fds
  methods := ms
  attributes := attrs
def plain (name : String) (sup : Option ClassId) : Class where
  name := name
  kind := .ordinary
  loader := none
  accessFlags := 33
  super := sup
  interfaces := #[]
  cf := none
  fields := #[]
  methods := #[]
  instanceTypes := #[]
  staticTypes := #[]
  resolved := #[]
  callSites := []
  init := .initialized
  statics := none
  mirror := none

def pool0 : Array CpInfo := pool [(5, u "<init>"), (0, u "()V"), (1, .class_ 10), (1, u "java/lang/Object"), (85, u "clone"), (0, u "()Ljava/lang/Object;")] 26

def k0c0 : Code := { maxStack := 0, maxLocals := 1, code := object_method_1_code, exceptionTable := #[], attributes := #[] }
def k0m0 : Method := { name := "<init>", desc := "()V", sig := { parameters := [], returnType := none }, accessFlags := 1, code := some k0c0 }
def k0m1 : Method := { name := "clone", desc := "()Ljava/lang/Object;", sig := { parameters := [], returnType := some (.object "java/lang/Object") }, accessFlags := 260, code := none }
/-- java/lang/Object -/
def k0 : Class := { plain "java/lang/Object" none with
  accessFlags := 33
  interfaces := #[]
  cf := some (fileOf pool0 8 #[] #[{ accessFlags := 1, nameIndex := 5, descriptorIndex := 6, attributes := #[] }, { accessFlags := 260, nameIndex := 96, descriptorIndex := 97, attributes := #[] }] 33 0 #[] #[])
  fields := #[]
  methods := #[k0m0, k0m1]
  instanceTypes := #[]
  staticTypes := #[]
  resolved := Array.replicate 124 none
  statics := none }

def pool1 : Array CpInfo := pool [(2, .class_ 4), (1, u "java/lang/Object"), (0, u "<init>"), (0, u "()V"), (0, .class_ 8), (0, u "com/example/vicinity/vicinity/instance/Instance"), (0, .string 10), (0, u "i"), (0, .methodref 7 12), (0, .nameAndType 5 13), (0, u "(Ljava/lang/String;I[D[D[I)V"), (0, .methodref 7 15), (0, .nameAndType 16 17), (0, u "isCustomer"), (0, u "(I)Z"), (0, .class_ 19), (0, u "com/example/vicinity/vicinity/instance/InstanceIsCustomerPinLaw"), (2, u "law"), (0, u "(III)Z")] 7

def k1m0 : Method := { name := "<init>", desc := "()V", sig := { parameters := [], returnType := none }, accessFlags := 1, code := none }
def k1c1 : Code := { maxStack := 7, maxLocals := 13, code := code, exceptionTable := #[], attributes := #[] }
def k1m1 : Method := { name := "law", desc := "(III)Z", sig := { parameters := [.int, .int, .int], returnType := some .boolean }, accessFlags := 9, code := some k1c1 }
/-- com/example/vicinity/vicinity/instance/InstanceIsCustomerPinLaw -/
def k1 : Class := { plain "com/example/vicinity/vicinity/instance/InstanceIsCustomerPinLaw" (some 0) with
  accessFlags := 49
  interfaces := #[]
  cf := some (fileOf pool1 18 #[] #[{ accessFlags := 1, nameIndex := 5, descriptorIndex := 6, attributes := #[] }, { accessFlags := 9, nameIndex := 22, descriptorIndex := 23, attributes := #[] }] 49 2 #[] #[])
  fields := #[]
  methods := #[k1m0, k1m1]
  instanceTypes := #[]
  staticTypes := #[]
  resolved := Array.replicate 31 none
  statics := none }

def pool2 : Array CpInfo := pool [(1, .methodref 2 3), (0, .class_ 4), (0, .nameAndType 5 6), (0, u "java/lang/Object"), (0, u "<init>"), (0, u "()V"), (11, .methodref 19 20), (0, .class_ 21), (0, .nameAndType 22 23), (0, u "com/example/vicinity/vicinity/instance/Instance"), (0, u "isCoordinate"), (0, u "(D)Z"), (2, .fieldref 19 27), (0, .nameAndType 28 29), (0, u "name"), (0, u "Ljava/lang/String;"), (0, .fieldref 19 31), (0, .nameAndType 32 33), (0, u "capacity"), (0, u "I"), (0, .methodref 35 36), (0, .class_ 37), (0, .nameAndType 38 39), (0, u "[D"), (0, u "clone"), (0, u "()Ljava/lang/Object;"), (0, .fieldref 19 41), (0, .nameAndType 42 37), (0, u "x"), (0, .fieldref 19 44), (0, .nameAndType 45 37), (0, u "y"), (0, .methodref 47 36), (0, .class_ 48), (0, u "[I"), (0, .fieldref 19 50), (0, .nameAndType 51 48), (0, u "demands"), (0, .methodref 53 54), (0, .class_ 55), (0, .nameAndType 56 57), (0, u "java/lang/Math"), (0, u "abs"), (0, u "(D)D"), (0, .double 4741671816366391296), (3, u "isCustomer"), (0, u "(I)Z"), (19, u "MAX_COORDINATE"), (0, u "D"), (1, u "(Ljava/lang/String;I[D[D[I)V")] 33

def k2c0 : Code := { maxStack := 3, maxLocals := 7, code := prog_8_method_1_code, exceptionTable := #[], attributes := #[] }
def k2m0 : Method := { name := "<init>", desc := "(Ljava/lang/String;I[D[D[I)V", sig := { parameters := [(.object "java/lang/String"), .int, (.array .double), (.array .double), (.array .int)], returnType := none }, accessFlags := 1, code := some k2c0 }
def k2c1 : Code := { maxStack := 4, maxLocals := 2, code := prog_8_method_2_code, exceptionTable := #[], attributes := #[] }
def k2m1 : Method := { name := "isCoordinate", desc := "(D)Z", sig := { parameters := [.double], returnType := some .boolean }, accessFlags := 9, code := some k2c1 }
def k2c2 : Code := { maxStack := 2, maxLocals := 2, code := prog_8_method_6_code, exceptionTable := #[], attributes := #[] }
def k2m2 : Method := { name := "isCustomer", desc := "(I)Z", sig := { parameters := [.int], returnType := some .boolean }, accessFlags := 1, code := some k2c2 }
/-- com/example/vicinity/vicinity/instance/Instance -/
def k2 : Class := { plain "com/example/vicinity/vicinity/instance/Instance" (some 0) with
  accessFlags := 49
  interfaces := #[]
  cf := some (fileOf pool2 19 #[] #[{ accessFlags := 1, nameIndex := 5, descriptorIndex := 86, attributes := #[] }, { accessFlags := 9, nameIndex := 22, descriptorIndex := 23, attributes := #[] }, { accessFlags := 1, nameIndex := 62, descriptorIndex := 63, attributes := #[] }] 49 2 #[] #[{ accessFlags := 25, nameIndex := 83, descriptorIndex := 84, attributes := #[] }, { accessFlags := 18, nameIndex := 28, descriptorIndex := 29, attributes := #[] }, { accessFlags := 18, nameIndex := 32, descriptorIndex := 33, attributes := #[] }, { accessFlags := 18, nameIndex := 42, descriptorIndex := 37, attributes := #[] }, { accessFlags := 18, nameIndex := 45, descriptorIndex := 37, attributes := #[] }, { accessFlags := 18, nameIndex := 51, descriptorIndex := 48, attributes := #[] }])
  fields := #[{ name := "MAX_COORDINATE", type := .double, accessFlags := 25, slot := 0, constantValue := 0 }, { name := "name", type := (.object "java/lang/String"), accessFlags := 18, slot := 0, constantValue := 0 }, { name := "capacity", type := .int, accessFlags := 18, slot := 1, constantValue := 0 }, { name := "x", type := (.array .double), accessFlags := 18, slot := 2, constantValue := 0 }, { name := "y", type := (.array .double), accessFlags := 18, slot := 3, constantValue := 0 }, { name := "demands", type := (.array .int), accessFlags := 18, slot := 4, constantValue := 0 }]
  methods := #[k2m0, k2m1, k2m2]
  instanceTypes := #[(.object "java/lang/String"), .int, (.array .double), (.array .double), (.array .int)]
  staticTypes := #[.double]
  resolved := Array.replicate 120 none
  statics := none }

def pool3 : Array CpInfo := pool [(1, .class_ 2), (0, u "java/io/Serializable"), (0, .class_ 4), (0, u "java/lang/Object")] 2

/-- java/io/Serializable -/
def k3 : Class := { plain "java/io/Serializable" (some 0) with
  accessFlags := 1537
  interfaces := #[]
  cf := some (fileOf pool3 1 #[] #[] 1537 3 #[] #[])
  fields := #[]
  methods := #[]
  instanceTypes := #[]
  staticTypes := #[]
  resolved := Array.replicate 7 none
  statics := none }

def pool4 : Array CpInfo := pool [(1, .class_ 2), (0, u "java/lang/Comparable"), (0, .class_ 4), (0, u "java/lang/Object")] 7

/-- java/lang/Comparable -/
def k4 : Class := { plain "java/lang/Comparable" (some 0) with
  accessFlags := 1537
  interfaces := #[]
  cf := some (fileOf pool4 1 #[] #[] 1537 3 #[] #[])
  fields := #[]
  methods := #[]
  instanceTypes := #[]
  staticTypes := #[]
  resolved := Array.replicate 12 none
  statics := none }

def pool5 : Array CpInfo := pool [(2, .class_ 4), (1, u "java/lang/CharSequence"), (42, .class_ 48), (0, u "java/lang/CharSequence$1CodePointIterator"), (10, .class_ 60), (0, u "java/lang/CharSequence$1CharIterator"), (5, .class_ 67), (0, u "java/lang/Object")] 63

/-- java/lang/CharSequence -/
def k5 : Class := { plain "java/lang/CharSequence" (some 0) with
  accessFlags := 1537
  interfaces := #[]
  cf := some (fileOf pool5 2 #[.nestMembers #[47, 59]] #[] 1537 66 #[] #[])
  fields := #[]
  methods := #[]
  instanceTypes := #[]
  staticTypes := #[]
  resolved := Array.replicate 131 none
  statics := none }

def pool6 : Array CpInfo := pool [(1, .class_ 2), (0, u "java/lang/constant/Constable"), (0, .class_ 4), (0, u "java/lang/Object")] 6

/-- java/lang/constant/Constable -/
def k6 : Class := { plain "java/lang/constant/Constable" (some 0) with
  accessFlags := 1537
  interfaces := #[]
  cf := some (fileOf pool6 1 #[] #[] 1537 3 #[] #[])
  fields := #[]
  methods := #[]
  instanceTypes := #[]
  staticTypes := #[]
  resolved := Array.replicate 11 none
  statics := none }

def pool7 : Array CpInfo := pool [(1, .class_ 2), (0, u "java/lang/constant/ConstantDesc"), (0, .class_ 4), (0, u "java/lang/Object")] 32

/-- java/lang/constant/ConstantDesc -/
def k7 : Class := { plain "java/lang/constant/ConstantDesc" (some 0) with
  accessFlags := 1537
  interfaces := #[]
  cf := some (fileOf pool7 1 #[] #[] 1537 3 #[] #[])
  fields := #[]
  methods := #[]
  instanceTypes := #[]
  staticTypes := #[]
  resolved := Array.replicate 37 none
  statics := none }

def pool8 : Array CpInfo := pool [(2, .class_ 4), (1, u "java/lang/Object"), (0, u "<init>"), (0, u "()V"), (3, .class_ 12), (1, u "java/lang/String"), (0, u "value"), (0, u "[B"), (2, u "coder"), (0, u "B"), (2, u "hash"), (0, u "I"), (2, u "hashIsZero"), (0, u "Z"), (13, u "COMPACT_STRINGS"), (534, .class_ 576), (0, u "java/lang/CharSequence"), (22, u "CASE_INSENSITIVE_ORDER"), (0, u "Ljava/util/Comparator;"), (500, u "serialPersistentFields"), (0, u "[Ljava/io/ObjectStreamField;"), (0, .class_ 1104), (0, u "java/lang/String$CaseInsensitiveComparator"), (1, .class_ 1107), (0, u "java/io/Serializable"), (0, .class_ 1109), (0, u "java/lang/Comparable"), (0, .class_ 1111), (0, u "java/lang/constant/Constable"), (0, .class_ 1113), (0, u "java/lang/constant/ConstantDesc"), (2, u "serialVersionUID"), (0, u "J"), (3, u "REPL"), (0, u "C"), (2, u "LATIN1"), (1, u "UTF16")] 323

def k8m0 : Method := { name := "<init>", desc := "()V", sig := { parameters := [], returnType := none }, accessFlags := 1, code := none }
/-- java/lang/String -/
def k8 : Class := { plain "java/lang/String" (some 0) with
  accessFlags := 49
  interfaces := #[3, 4, 5, 6, 7]
  cf := some (fileOf pool8 10 #[.nestMembers #[1103]] #[{ accessFlags := 1, nameIndex := 5, descriptorIndex := 6, attributes := #[] }] 49 2 #[1106, 1108, 575, 1110, 1112] #[{ accessFlags := 18, nameIndex := 13, descriptorIndex := 14, attributes := #[] }, { accessFlags := 18, nameIndex := 17, descriptorIndex := 18, attributes := #[] }, { accessFlags := 2, nameIndex := 21, descriptorIndex := 22, attributes := #[] }, { accessFlags := 2, nameIndex := 25, descriptorIndex := 26, attributes := #[] }, { accessFlags := 26, nameIndex := 1116, descriptorIndex := 1117, attributes := #[] }, { accessFlags := 24, nameIndex := 40, descriptorIndex := 26, attributes := #[] }, { accessFlags := 26, nameIndex := 1101, descriptorIndex := 1102, attributes := #[] }, { accessFlags := 26, nameIndex := 1121, descriptorIndex := 1122, attributes := #[] }, { accessFlags := 25, nameIndex := 599, descriptorIndex := 600, attributes := #[] }, { accessFlags := 24, nameIndex := 1125, descriptorIndex := 18, attributes := #[] }, { accessFlags := 24, nameIndex := 1127, descriptorIndex := 18, attributes := #[] }])
  fields := #[{ name := "value", type := (.array .byte), accessFlags := 18, slot := 0, constantValue := 0 }, { name := "coder", type := .byte, accessFlags := 18, slot := 1, constantValue := 0 }, { name := "hash", type := .int, accessFlags := 2, slot := 2, constantValue := 0 }, { name := "hashIsZero", type := .boolean, accessFlags := 2, slot := 3, constantValue := 0 }, { name := "serialVersionUID", type := .long, accessFlags := 26, slot := 0, constantValue := 0 }, { name := "COMPACT_STRINGS", type := .boolean, accessFlags := 24, slot := 1, constantValue := 0 }, { name := "serialPersistentFields", type := (.array (.object "java/io/ObjectStreamField")), accessFlags := 26, slot := 2, constantValue := 0 }, { name := "REPL", type := .char, accessFlags := 26, slot := 3, constantValue := 0 }, { name := "CASE_INSENSITIVE_ORDER", type := (.object "java/util/Comparator"), accessFlags := 25, slot := 4, constantValue := 0 }, { name := "LATIN1", type := .byte, accessFlags := 24, slot := 5, constantValue := 0 }, { name := "UTF16", type := .byte, accessFlags := 24, slot := 6, constantValue := 0 }]
  methods := #[k8m0]
  instanceTypes := #[(.array .byte), .byte, .int, .boolean]
  staticTypes := #[.long, .boolean, (.array (.object "java/io/ObjectStreamField")), .char, (.object "java/util/Comparator"), .byte, .byte]
  resolved := Array.replicate 1451 none
  statics := none }

def pool9 : Array CpInfo := pool [(1, .class_ 2), (0, u "java/lang/Math"), (1, .class_ 6), (1, u "java/lang/Object"), (0, u "<init>"), (0, u "()V"), (5, u "(D)D"), (83, .class_ 100), (1, u "java/lang/Math$RandomNumberGeneratorHolder"), (23, u "abs"), (47, u "negativeZeroFloatBits"), (0, u "J"), (2, u "negativeZeroDoubleBits"), (68, u "$assertionsDisabled"), (0, u "Z"), (91, u "twoToTheDoubleScaleDown"), (0, u "D"), (4, u "twoToTheDoubleScaleUp"), (9, u "E"), (3, u "PI"), (2, u "TAU"), (2, u "DEGREES_TO_RADIANS"), (0, u "RADIANS_TO_DEGREES")] 94

def k9m0 : Method := { name := "<init>", desc := "()V", sig := { parameters := [], returnType := none }, accessFlags := 2, code := none }
def k9c1 : Code := { maxStack := 4, maxLocals := 2, code := jdk_29_method_64_code, exceptionTable := #[], attributes := #[] }
def k9m1 : Method := { name := "abs", desc := "(D)D", sig := { parameters := [.double], returnType := some .double }, accessFlags := 9, code := some k9c1 }
/-- java/lang/Math -/
def k9 : Class := { plain "java/lang/Math" (some 0) with
  accessFlags := 49
  interfaces := #[]
  cf := some (fileOf pool9 1 #[.nestMembers #[98]] #[{ accessFlags := 2, nameIndex := 7, descriptorIndex := 8, attributes := #[] }, { accessFlags := 9, nameIndex := 124, descriptorIndex := 14, attributes := #[] }] 49 4 #[] #[{ accessFlags := 25, nameIndex := 354, descriptorIndex := 339, attributes := #[] }, { accessFlags := 25, nameIndex := 358, descriptorIndex := 339, attributes := #[] }, { accessFlags := 25, nameIndex := 361, descriptorIndex := 339, attributes := #[] }, { accessFlags := 26, nameIndex := 364, descriptorIndex := 339, attributes := #[] }, { accessFlags := 26, nameIndex := 365, descriptorIndex := 339, attributes := #[] }, { accessFlags := 26, nameIndex := 172, descriptorIndex := 173, attributes := #[] }, { accessFlags := 26, nameIndex := 176, descriptorIndex := 173, attributes := #[] }, { accessFlags := 8, nameIndex := 344, descriptorIndex := 339, attributes := #[] }, { accessFlags := 8, nameIndex := 338, descriptorIndex := 339, attributes := #[] }, { accessFlags := 4120, nameIndex := 245, descriptorIndex := 246, attributes := #[] }])
  fields := #[{ name := "E", type := .double, accessFlags := 25, slot := 0, constantValue := 0 }, { name := "PI", type := .double, accessFlags := 25, slot := 1, constantValue := 0 }, { name := "TAU", type := .double, accessFlags := 25, slot := 2, constantValue := 0 }, { name := "DEGREES_TO_RADIANS", type := .double, accessFlags := 26, slot := 3, constantValue := 0 }, { name := "RADIANS_TO_DEGREES", type := .double, accessFlags := 26, slot := 4, constantValue := 0 }, { name := "negativeZeroFloatBits", type := .long, accessFlags := 26, slot := 5, constantValue := 0 }, { name := "negativeZeroDoubleBits", type := .long, accessFlags := 26, slot := 6, constantValue := 0 }, { name := "twoToTheDoubleScaleUp", type := .double, accessFlags := 8, slot := 7, constantValue := 0 }, { name := "twoToTheDoubleScaleDown", type := .double, accessFlags := 8, slot := 8, constantValue := 0 }, { name := "$assertionsDisabled", type := .boolean, accessFlags := 4120, slot := 9, constantValue := 0 }]
  methods := #[k9m0, k9m1]
  instanceTypes := #[]
  staticTypes := #[.double, .double, .double, .double, .double, .long, .long, .double, .double, .boolean]
  resolved := Array.replicate 460 none
  statics := none }

def pool10 : Array CpInfo := pool [(1, .class_ 2), (0, u "java/lang/Cloneable"), (0, .class_ 4), (0, u "java/lang/Object")] 2

/-- java/lang/Cloneable -/
def k10 : Class := { plain "java/lang/Cloneable" (some 0) with
  accessFlags := 1537
  interfaces := #[]
  cf := some (fileOf pool10 1 #[] #[] 1537 3 #[] #[])
  fields := #[]
  methods := #[]
  instanceTypes := #[]
  staticTypes := #[]
  resolved := Array.replicate 7 none
  statics := none }

/-- the primitive byte -/
def k11 : Class := { plain "byte" none with kind := .primitive 'B', accessFlags := 0x411 }
/-- [B -/
def k12 : Class := { plain "[B" (some 0) with kind := .array 11 .byte, interfaces := #[10, 3], accessFlags := 1041 }

/-- the primitive double -/
def k13 : Class := { plain "double" none with kind := .primitive 'D', accessFlags := 0x411 }
/-- [D -/
def k14 : Class := { plain "[D" (some 0) with kind := .array 13 .double, interfaces := #[10, 3], accessFlags := 1041 }

/-- the primitive int -/
def k15 : Class := { plain "int" none with kind := .primitive 'I', accessFlags := 0x411 }
/-- [I -/
def k16 : Class := { plain "[I" (some 0) with kind := .array 15 .int, interfaces := #[10, 3], accessFlags := 1041 }

def heap : Heap := #[]
def classes : Array Class := #[k0, k1, k2, k3, k4, k5, k6, k7, k8, k9, k10, k11, k12, k13, k14, k15, k16]
def interned : List (Array UInt16 × Addr) := []
def slotsUsed : Nat := 0
def theMethod : MethodId := ⟨1, 1⟩
def args0 : Array Value := #[.int 0, .int 1, .int 2]
def aboutOver (below : List Frame) : State where
  vm := { classes := classes, interned := interned.toArray }
  heap := heap
  slotsUsed := slotsUsed
  threads := #[{ frames := .invoking theMethod args0 :: below }]
def below0 : List Frame := [.native { method := ⟨0, 0⟩, args := #[] }]
def about1 : State := aboutOver below0
def p0 : Program := .bare "" "" ""
def e0 : Env := launch0.env 0 0 0
theorem w_frames : about1.frames = Frame.invoking theMethod args0 :: below0 := rfl
set_option maxRecDepth 65536 in
theorem w_args : argsFit about1.vm theMethod args0 = true := by decide +kernel
set_option maxRecDepth 65536 in
theorem w_heap : heapFits about1 = true := by decide +kernel
set_option maxRecDepth 65536 in
theorem w_runnable : about1.curStatus? = some .runnable := by decide +kernel
set_option maxRecDepth 65536 in
theorem w_alone : about1.alone = true := by decide +kernel
set_option maxRecDepth 65536 in
theorem w_named : about1.methodNamed? x = some theMethod := by decide +kernel
set_option maxRecDepth 65536 in
theorem w_hears : about1.hears theMethod below0 = true := by decide +kernel
set_option maxRecDepth 65536 in
theorem w_ripe : about1.ripe theMethod args0 below0 = true := by decide +kernel
theorem w_running : about1.status = .running := rfl
set_option maxRecDepth 65536 in
theorem w_room : about1.hasRoom e0.platform room_1 = true :=
  launch0.hasRoom_least _ room_1 (by decide +kernel) (by decide +kernel) (by decide +kernel) (by decide +kernel) (by decide +kernel) (by decide +kernel)
theorem allAtoms_all (ts : List Jvm.Cond) (a : Array Jvm.Value) (st : Jvm.State) : (allAtoms ts).before a st = ts.all (fun c => c.before a st) := by
  induction ts with
  | nil => rfl
  | cons c t ih =>
    show (Jvm.Cond.and c (allAtoms t)).before a st = _
    rw [Jvm.Cond.before_and, ih, List.all_cons]
def words1 : List Jvm.Cond := Jvm.Cond.code x code maxLocals ret :: tables_1
/-- a 'code' word, met by the world's own term for the bytes: nothing is compared byte by byte -/
theorem code_word {y : MethodName} {bytes : ByteArray} {mx : Nat} {rt : Option FieldType} {a : Array Value} {s : State} {m : MethodId} {meth : Method} {c : Code} (h1 : s.methodNamed? y = some m) (h2 : s.vm.method? m = some meth) (h3 : meth.code = some c) (h4 : c.code = bytes)
    (h5 : (c.maxLocals == mx && c.exceptionTable.isEmpty && decide (c.maxStack ≤ mostOperands) && decide (meth.sig.returnType = rt) && !meth.locks && decide (parseMethodDescriptor y.desc = some meth.sig)) = true) : (Jvm.Cond.code y bytes mx rt).before a s = true := by
  simp only [Bool.and_eq_true, beq_iff_eq, Bool.not_eq_true', decide_eq_true_eq] at h5
  obtain ⟨⟨⟨⟨⟨g1, g2⟩, g3⟩, g4⟩, g5⟩, g6⟩ := h5
  simp [Cond.before, Cond.holds, Cond.value, h1, h2, h3, h4, g1, g2, g3, g4, g5, g6]
def isCode : Jvm.Cond → Bool
  | .code _ _ _ _ => true
  | _ => false
theorem all_split {L : List Jvm.Cond} {P : Jvm.Cond → Bool} (h1 : L.all (fun c => isCode c || P c) = true) (h2 : ∀ c ∈ L.filter isCode, P c = true) : L.all P = true := by
  refine List.all_eq_true.mpr fun c hc => ?_
  have h := List.all_eq_true.mp h1 c hc
  rcases Bool.eq_false_or_eq_true (isCode c) with hi | hi
  · exact h2 c (List.mem_filter.mpr ⟨hc, hi⟩)
  · simpa [hi] using h
set_option maxRecDepth 65536 in
theorem w_c0 : (Jvm.Cond.code x code maxLocals ret).before args0 about1 = true := code_word (m := ⟨1, 1⟩) (meth := k1m1) (c := k1c1) (by decide +kernel) rfl rfl rfl (by decide +kernel)
set_option maxRecDepth 65536 in
theorem w_c1 : (Jvm.Cond.code ({ cls := "com/example/vicinity/vicinity/instance/Instance", name := "<init>", desc := "(Ljava/lang/String;I[D[D[I)V" } : Jvm.MethodName) prog_8_method_1_code (7 : Nat) (Option.none : Option Jvm.ClassFile.FieldType)).before args0 about1 = true := code_word (m := ⟨2, 0⟩) (meth := k2m0) (c := k2c0) (by decide +kernel) rfl rfl rfl (by decide +kernel)
set_option maxRecDepth 65536 in
theorem w_c2 : (Jvm.Cond.code ({ cls := "java/lang/Object", name := "<init>", desc := "()V" } : Jvm.MethodName) object_method_1_code (1 : Nat) (Option.none : Option Jvm.ClassFile.FieldType)).before args0 about1 = true := code_word (m := ⟨0, 0⟩) (meth := k0m0) (c := k0c0) (by decide +kernel) rfl rfl rfl (by decide +kernel)
set_option maxRecDepth 65536 in
theorem w_c3 : (Jvm.Cond.code ({ cls := "com/example/vicinity/vicinity/instance/Instance", name := "isCoordinate", desc := "(D)Z" } : Jvm.MethodName) prog_8_method_2_code (2 : Nat) (Option.some Jvm.ClassFile.FieldType.boolean)).before args0 about1 = true := code_word (m := ⟨2, 1⟩) (meth := k2m1) (c := k2c1) (by decide +kernel) rfl rfl rfl (by decide +kernel)
set_option maxRecDepth 65536 in
theorem w_c4 : (Jvm.Cond.code ({ cls := "java/lang/Math", name := "abs", desc := "(D)D" } : Jvm.MethodName) jdk_29_method_64_code (2 : Nat) (Option.some Jvm.ClassFile.FieldType.double)).before args0 about1 = true := code_word (m := ⟨9, 1⟩) (meth := k9m1) (c := k9c1) (by decide +kernel) rfl rfl rfl (by decide +kernel)
set_option maxRecDepth 65536 in
theorem w_c5 : (Jvm.Cond.code ({ cls := "com/example/vicinity/vicinity/instance/Instance", name := "isCustomer", desc := "(I)Z" } : Jvm.MethodName) prog_8_method_6_code (2 : Nat) (Option.some Jvm.ClassFile.FieldType.boolean)).before args0 about1 = true := code_word (m := ⟨2, 2⟩) (meth := k2m2) (c := k2c2) (by decide +kernel) rfl rfl rfl (by decide +kernel)
def codes1 : List Jvm.Cond := [Jvm.Cond.code x code maxLocals ret, Jvm.Cond.code ({ cls := "com/example/vicinity/vicinity/instance/Instance", name := "<init>", desc := "(Ljava/lang/String;I[D[D[I)V" } : Jvm.MethodName) prog_8_method_1_code (7 : Nat) (Option.none : Option Jvm.ClassFile.FieldType), Jvm.Cond.code ({ cls := "java/lang/Object", name := "<init>", desc := "()V" } : Jvm.MethodName) object_method_1_code (1 : Nat) (Option.none : Option Jvm.ClassFile.FieldType), Jvm.Cond.code ({ cls := "com/example/vicinity/vicinity/instance/Instance", name := "isCoordinate", desc := "(D)Z" } : Jvm.MethodName) prog_8_method_2_code (2 : Nat) (Option.some Jvm.ClassFile.FieldType.boolean), Jvm.Cond.code ({ cls := "java/lang/Math", name := "abs", desc := "(D)D" } : Jvm.MethodName) jdk_29_method_64_code (2 : Nat) (Option.some Jvm.ClassFile.FieldType.double), Jvm.Cond.code ({ cls := "com/example/vicinity/vicinity/instance/Instance", name := "isCustomer", desc := "(I)Z" } : Jvm.MethodName) prog_8_method_6_code (2 : Nat) (Option.some Jvm.ClassFile.FieldType.boolean)]
set_option maxRecDepth 65536 in
theorem codes_eq : words1.filter isCode = codes1 := rfl
theorem w_codes : ∀ c ∈ words1.filter isCode, c.before args0 about1 = true := by
  rw [codes_eq]
  intro c hc
  simp only [codes1, List.mem_cons, List.not_mem_nil, or_false] at hc
  rcases hc with rfl | rfl | rfl | rfl | rfl | rfl
  · exact w_c0
  · exact w_c1
  · exact w_c2
  · exact w_c3
  · exact w_c4
  · exact w_c5
set_option maxRecDepth 65536 in
theorem w_t1 : (words1.take 24).all (fun c => isCode c || c.before args0 about1) = true := by decide +kernel
set_option maxRecDepth 65536 in
theorem w_t2 : ((words1.drop 24).take 24).all (fun c => isCode c || c.before args0 about1) = true := by decide +kernel
set_option maxRecDepth 65536 in
theorem w_t3 : ((words1.drop 24).drop 24).all (fun c => isCode c || c.before args0 about1) = true := by decide +kernel
theorem w_tables : (allAtoms (Jvm.Cond.code x code maxLocals ret :: tables_1)).before args0 about1 = true := by
  rw [allAtoms_all]
  show words1.all (fun c => c.before args0 about1) = true
  refine all_split ?_ w_codes
  rw [← List.take_append_drop 24 words1, List.all_append, w_t1, ← List.take_append_drop 24 (words1.drop 24), List.all_append, w_t2, w_t3]
  rfl
set_option maxRecDepth 65536 in
theorem w_case : (Jvm.Cond.and given_1 narrow_1).before args0 about1 = true := by decide +kernel
theorem w_applies : (headSpec (Jvm.Cond.code x code maxLocals ret :: tables_1) room_1).applies x e0.platform about1 = true :=
  (Spec.applies_iff w_frames).mpr ⟨w_running, w_runnable, w_alone, w_named, w_hears, w_ripe, w_room, w_tables⟩
theorem atStart : AtStart classFile x code maxLocals ret World_1 tables_1 room_1 Calls_1 rest_1 Pre_1 launch0 p0 e0 about1 theMethod args0 below0 :=
  ⟨lists_1, trivial, launch0.admits_env _ _ _, launch0.least_env, fairChoices_fair.cas, fairChoices_fair.clock, w_frames, w_args, w_heap, w_applies, trivial, trivial, w_case⟩
end start1
theorem witness_1 : WitnessClaimed_1 := ⟨start1.p0, start1.e0, start1.about1, start1.theMethod, start1.args0, start1.below0, start1.atStart⟩
end Jvm.Pilot.@@N@@
