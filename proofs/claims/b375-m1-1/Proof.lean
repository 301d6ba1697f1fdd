import JvmDerived
import JvmDerived.Pilot.@@N@@Statement
import JvmDerived.Pilot.@@N@@Code
set_option linter.unusedVariables false
set_option linter.unusedSimpArgs false
namespace Jvm.Pilot.@@N@@
open Jvm Jvm.ClassFile Sem Op Lib Jvm.Free Jvm.Stand Jvm.LawKit Jvm.RoadKit Bundle Jvm.Pilot.@@N@@.Jvm.D Jvm.Free.Fl
section Own
variable {p : Program} {l : Launch} {e : Env} {R : Room} {s : State} {m : MethodId} {args : Array Value} {below : List Frame} {meth : Method} {c : Code} {T : State} {locs : List Loc} {cells slots : Nat} {Z : State} {a0 : Array Value} {h : Heap} {G : Outcome → State → Prop}
/-- from S the body comes to its end, and the end is as asked -/
def Goes (p : Program) (e : Env) (below : List Frame) (G : Outcome → State → Prop) (S : State) : Prop :=
  ∃ s₂ o, Steps p.tables e below S s₂ ∧ s₂.status = .running ∧ Ended s₂ below o ∧ G o s₂
theorem own_go {S S' : State} (st : ∀ t, Steps p.tables e below S' t → Steps p.tables e below S t) (k : Goes p e below G S') : Goes p e below G S := by
  obtain ⟨s₂, o, h1, h2⟩ := k
  exact ⟨s₂, o, st _ h1, h2⟩
/-- what a contract says of the end -/
def EndsAs (Q : Option Value → Heap → List Loc → Prop) (s : State) (rc rs : Nat) (o : Outcome) (U : State) : Prop :=
  ∃ v L, o = .returned v ∧ Q v U.heap L ∧ FrameEnd s o U L rc rs
abbrev OwnMet (l : Launch) (Z : State) (y : MethodName) (bytes : ByteArray) (maxL : Nat) (ret : Option FieldType) (ws : List Jvm.Cond) (rm : Room) (as' : Array Value) (h : Heap) (Q : Option Value → Heap → List Loc → Prop) : Prop :=
  MetFree l y (head1 (Jvm.Cond.code y bytes maxL ret :: ws) rm) (fun a U => a = as' ∧ Z.Warmed39 U.vm ∧ U.heap = h) (fun _ _ _ _ _ => True) (fun _ U o U' => ∃ v L, o = .returned v ∧ Q v U'.heap L ∧ FrameEnd U o U' L rm.cells rm.slots)
theorem own_met {y : MethodName} {bytes : ByteArray} {maxL : Nat} {ret : Option FieldType} {ws : List Jvm.Cond} {rm : Room} {as' : Array Value} {h : Heap} {Q : Option Value → Heap → List Loc → Prop} {Ls : Array Slot}
    (hpn : plainFor y = true) (hef : ∀ m, entryFrame m as' maxL = mkF m 0 Ls [])
    (body : ∀ (p : Program) (e : Env) (s : State) (m : MethodId) (below : List Frame) (meth : Method) (c : Code) (s₁ : State), p.tables.exec = Jvm.exec → c.code = bytes → c.maxLocals = maxL → Z.Warmed39 s.vm → s.vm.findClass y.cls = some m.cls → meth.name = y.name → meth.sig.returnType = ret → meth.locks = false →
      Stand p l e rm s m as' below meth c s₁ [] 0 0 → s₁.heap = h → Goes p e below (EndsAs Q s rm.cells rm.slots) (s₁.setTop (mkF m 0 Ls []))) :
    OwnMet l Z y bytes maxL ret ws rm as' h Q := by
  refine MetFree.of_bodySF hpn hisR ?_
  intro p e s m args below meth c s₁ Bd hml0 hP hK
  obtain ⟨rfl, hZ, hh⟩ := hP
  obtain ⟨s₂, o, h1, h2, h3, h4⟩ := body p e s m below meth c s₁ Bd.exec Bd.bytes hml0 hZ (findClass_of_methodNamed Bd.named) (name_of_methodNamed Bd.named Bd.method).1 Bd.returns Bd.notSynchronized (Stand.of_body Bd) (by rw [← hh, Bd.state]; rfl)
  exact ⟨s₂, o, castTop (hef m) h1, h2, h3, h4⟩
theorem s_retI (X : Stand p l e R s m args below meth c T locs cells slots) (hx : p.tables.exec = Jvm.exec) (hlk : meth.locks = false) {Q : Option Value → Heap → List Loc → Prop} {pc rc rs : Nat} {Ls : Array Slot} {st : List Value} {t : FieldType} {w : Value} {i : Instr} (hret : meth.sig.returnType = some t)
    (hd : decode c.code pc = .ok (i, 1)) (hn : narrow t w = w) (hi : (i = .ireturn ∧ (t = .int ∨ t = .boolean ∨ t = .byte ∨ t = .char ∨ t = .short) ∧ ∃ z, w = .int z) ∨ (i = .lreturn ∧ t = .long ∧ ∃ z, w = .long z) ∨ (i = .dreturn ∧ t = .double ∧ ∃ z, w = .double z) ∨ (i = .freturn ∧ t = .float ∧ ∃ z, w = .float z) ∨ (i = .areturn ∧ t.isReference = true ∧ w.isRef = true))
    (hc : cells ≤ rc) (hs : slots ≤ rs) (hq : Q (some w) T.heap locs) : Goes p e below (EndsAs Q s rc rs) (T.setTop (mkF m pc Ls (w :: st))) := by
  obtain ⟨fs, hr, hrun, hended, hW, hsame⟩ := X.leave (v := some w) (fun h => by rw [hret] at h; cases h) hlk
  exact ⟨_, _, retOut X hx hret hn hi hd hr, hrun, hended, _, _, rfl, hq, ⟨_, rfl⟩, hW, hsame.mono hc hs⟩
theorem s_ret (X : Stand p l e R s m args below meth c T locs cells slots) (hx : p.tables.exec = Jvm.exec) (hlk : meth.locks = false) {Q : Option Value → Heap → List Loc → Prop} {pc rc rs : Nat} {Ls : Array Slot} (hret : meth.sig.returnType = none)
    (hd : decode c.code pc = .ok (.return_, 1)) (hc : cells ≤ rc) (hs : slots ≤ rs) (hq : Q none T.heap locs) : Goes p e below (EndsAs Q s rc rs) (T.setTop (mkF m pc Ls [])) := by
  obtain ⟨fs, hr, hrun, hended, hW, hsame⟩ := X.leave (v := none) (fun _ => rfl) hlk
  exact ⟨_, _, X.returnOut hx hret hd hr, hrun, hended, _, _, rfl, hq, ⟨_, rfl⟩, hW, hsame.mono hc hs⟩
theorem c_static (X : Stand p l e R s m args below meth c T locs cells slots) (hx : p.tables.exec = Jvm.exec) (hZ : Z.Warmed39 s.vm) {own : String} {index : Nat} {y : MethodName} (hown : s.vm.findClass own = some m.cls)
    {bytes : ByteArray} {maxL : Nat} {ret : Option FieldType} (w1 : (Jvm.Cond.methodLink own index y).before a0 Z = true) (w2 : (Jvm.Cond.static y).before a0 Z = true) (w3 : (Jvm.Cond.initialized y.cls).before a0 Z = true) (w4 : (Jvm.Cond.code y bytes maxL ret).before a0 Z = true) (hy : y.cls ≠ "java/lang/invoke/MethodHandle" ∧ y.cls ≠ "java/lang/invoke/VarHandle")
    {rm : Room} {as' : Array Value} {Q : Option Value → Heap → List Loc → Prop} (eT : T.heap = h) (hM : OwnMet l Z y bytes maxL ret [] rm as' h Q) {W : Nat} (hf : rm.frames + 1 ≤ R.frames) (hl : W + (maxL + 11) + rm.locals ≤ R.locals) (hc : cells + rm.cells ≤ R.cells) (hs : slots + rm.slots ≤ R.slots)
    {pc pc' : Nat} {Ls : Array Slot} {st : List Value} (hsize : Ls.size = c.maxLocals) {argsL rest : List Value} (hlen : ∀ sig, parseMethodDescriptor y.desc = some sig → argsL.length = sig.parameters.length) (has : argsL.toArray = as') (hst : st = argsL.reverse ++ rest) (hW : (rest.map fun v => v.category).sum ≤ W)
    (hd : decode c.code pc = .ok (.invokestatic index, 3)) (hp : pc + 3 = pc')
    (k : ∀ (T' : State) (v : Option Value) (L : List Loc), Stand p l e R s m args below meth c T' (locs ++ L) (cells + rm.cells) (slots + rm.slots) → Q v T'.heap L → Goes p e below G (T'.setTop (mkF m pc' Ls (v.toList ++ rest)))) :
    Goes p e below G (T.setTop (mkF m pc Ls st)) := by
  subst hp
  obtain ⟨v, _, ⟨T', L', k', n'⟩, -, X', ⟨Lc, hQ, l1, y1, z1⟩, stp⟩ := Jvm.LawKit.callS X hx (y := y) hown (mvT hZ w1) (mvT hZ w2) (mvT hZ w3) (mvT hZ w4) hy (backOf (W := W) hM hZ w4 w3 hf hl) (g := mkF m pc Ls st) rfl hsize (argsL := argsL) (rest := rest) hlen hst (by show 2 * 0 + _ ≤ _; omega) hd (fun _ _ => ⟨has, eT, hc, hs⟩)
  dsimp only [Pt.U, Pt.locs, Pt.cells, Pt.slots] at X' l1 y1 z1 stp hQ
  subst l1 y1 z1
  exact own_go stp (k T' v Lc X' hQ)
theorem c_special (X : Stand p l e R s m args below meth c T locs cells slots) (hx : p.tables.exec = Jvm.exec) (hZ : Z.Warmed39 s.vm) {own : String} {index : Nat} {y : MethodName} (hy1 : y.name = "<init>") (hown : s.vm.findClass own = some m.cls)
    {bytes : ByteArray} {maxL : Nat} (w1 : (Jvm.Cond.methodLink own index y).before a0 Z = true) (w2 : (Jvm.Cond.instanceMethod y).before a0 Z = true) (w3 : (Jvm.Cond.initialized y.cls).before a0 Z = true) (w4 : (Jvm.Cond.code y bytes maxL none).before a0 Z = true) (hy : y.cls ≠ "java/lang/invoke/MethodHandle" ∧ y.cls ≠ "java/lang/invoke/VarHandle")
    {rm : Room} {as' : Array Value} {Q : Option Value → Heap → List Loc → Prop} (eT : T.heap = h) (hM : OwnMet l Z y bytes maxL none [] rm as' h Q) {W : Nat} (hf : rm.frames + 1 ≤ R.frames) (hl : W + (maxL + 11) + rm.locals ≤ R.locals) (hc : cells + rm.cells ≤ R.cells) (hs : slots + rm.slots ≤ R.slots)
    {pc pc' : Nat} {Ls : Array Slot} {st : List Value} (hsize : Ls.size = c.maxLocals) {a : Addr} {argsL rest : List Value} (hlen : ∀ sig, parseMethodDescriptor y.desc = some sig → argsL.length = sig.parameters.length) (has : (.ref a :: argsL).toArray = as') (hst : st = argsL.reverse ++ .ref a :: rest) (hW : (rest.map fun v => v.category).sum ≤ W)
    (hd : decode c.code pc = .ok (.invokespecial index, 3)) (hp : pc + 3 = pc')
    (k : ∀ (T' : State) (v : Option Value) (L : List Loc), Stand p l e R s m args below meth c T' (locs ++ L) (cells + rm.cells) (slots + rm.slots) → Q v T'.heap L → Goes p e below G (T'.setTop (mkF m pc' Ls (v.toList ++ rest)))) :
    Goes p e below G (T.setTop (mkF m pc Ls st)) := by
  subst hp
  obtain ⟨v, _, ⟨T', L', k', n'⟩, -, X', ⟨Lc, hQ, l1, y1, z1⟩, stp⟩ := X.specialBack hx (y := y) hy1 hown (mvT hZ w1) (mvT hZ w2) (mvT hZ w4) hy (backOf (W := W) hM hZ w4 w3 hf hl) (g := mkF m pc Ls st) rfl hsize (Steps.refl _) (a := a) (argsL := argsL) (rest := rest) hlen hst (by show 2 * 0 + _ ≤ _; omega) hd (fun _ _ => ⟨has, eT, hc, hs⟩)
  dsimp only [Pt.U, Pt.locs, Pt.cells, Pt.slots] at X' l1 y1 z1 stp hQ
  subst l1 y1 z1
  exact own_go (fun _ q => stp.trans q) (k T' v Lc X' hQ)
theorem c_virtual (X : Stand p l e R s m args below meth c T locs cells slots) (hx : p.tables.exec = Jvm.exec) (hZ : Z.Warmed39 s.vm) {own C : String} {index : Nat} {y : MethodName} (hown : s.vm.findClass own = some m.cls)
    {bytes : ByteArray} {maxL : Nat} {ret : Option FieldType} (w1 : (Jvm.Cond.methodLink own index y).before a0 Z = true) (w2 : (Jvm.Cond.declares y).before a0 Z = true) (w5 : (Jvm.Cond.selects C y y).before a0 Z = true) (w6 : (Jvm.Cond.instanceMethod y).before a0 Z = true) (w3 : (Jvm.Cond.initialized y.cls).before a0 Z = true) (w4 : (Jvm.Cond.code y bytes maxL ret).before a0 Z = true) (hy : y.cls ≠ "java/lang/invoke/MethodHandle" ∧ y.cls ≠ "java/lang/invoke/VarHandle")
    {rm : Room} {as' : Array Value} {Q : Option Value → Heap → List Loc → Prop} (eT : T.heap = h) {a : Addr} (E : Exa Z h a C) (hM : OwnMet l Z y bytes maxL ret [] rm as' h Q) {W : Nat} (hf : rm.frames + 1 ≤ R.frames) (hl : W + (maxL + 11) + rm.locals ≤ R.locals) (hc : cells + rm.cells ≤ R.cells) (hs : slots + rm.slots ≤ R.slots)
    {pc pc' : Nat} {Ls : Array Slot} {st : List Value} (hsize : Ls.size = c.maxLocals) {argsL rest : List Value} (hlen : ∀ sig, parseMethodDescriptor y.desc = some sig → argsL.length = sig.parameters.length) (has : (.ref a :: argsL).toArray = as') (hst : st = argsL.reverse ++ .ref a :: rest) (hW : (rest.map fun v => v.category).sum ≤ W)
    (hd : decode c.code pc = .ok (.invokevirtual index, 3)) (hp : pc + 3 = pc')
    (k : ∀ (T' : State) (v : Option Value) (L : List Loc), Stand p l e R s m args below meth c T' (locs ++ L) (cells + rm.cells) (slots + rm.slots) → Q v T'.heap L → Goes p e below G (T'.setTop (mkF m pc' Ls (v.toList ++ rest)))) :
    Goes p e below G (T.setTop (mkF m pc Ls st)) := by
  subst hp
  obtain ⟨cq, kq, qa, qb, qc⟩ := isOf hZ eT E
  obtain ⟨v, _, ⟨T', L', k', n'⟩, -, X', ⟨Lc, hQ, l1, y1, z1⟩, stp⟩ := X.virtualBack hx (y := y) (z := y) hown (mvT hZ w1) (mvT hZ w2) (notFace_of_selects (args := #[]) (mvT hZ w5)) (mvT hZ w5) (mvT hZ w6) hy (backOf (W := W) hM hZ w4 w3 hf hl) qa qc (g := mkF m pc Ls st) rfl hsize (Steps.refl _) (argsL := argsL) (rest := rest) hlen hst (by show 2 * 0 + _ ≤ _; omega) hd (fun _ _ => ⟨has, eT, hc, hs⟩)
  dsimp only [Pt.U, Pt.locs, Pt.cells, Pt.slots] at X' l1 y1 z1 stp hQ
  subst l1 y1 z1
  exact own_go (fun _ q => stp.trans q) (k T' v Lc X' hQ)
theorem s_new (X : Stand p l e R s m args below meth c T locs cells slots) (hx : p.tables.exec = Jvm.exec) (hZ : Z.Warmed39 s.vm) {own C : String} {index n : Nat} (hown : s.vm.findClass own = some m.cls) (w : (Jvm.Cond.classLink own index C).before a0 Z = true) (wi : (Jvm.Cond.instantiable C n).before a0 Z = true) (wz : (Jvm.Cond.initialized C).before a0 Z = true) (eT : T.heap = h)
    {pc pc' : Nat} {Ls : Array Slot} {st : List Value} (hd : decode c.code pc = .ok (.new index, 3)) (hp : pc + 3 = pc') (hc : cells + 1 ≤ R.cells) (hl : slots + n ≤ R.slots)
    (k : ∀ (T' : State) (h' : Heap) (a : Addr), Stand p l e R s m args below meth c T' locs (cells + 1) (slots + n) → T'.heap = h' → Ext h h' → a = h.size → Exa Z h' a C → (∀ {O nm d : String} {ty : FieldType}, Laid Z a0 C O nm d → parseFieldDescriptor d = some ty → Fld Z h' a O nm d (defaultValue ty)) → Goes p e below G (T'.setTop (mkF m pc' Ls (.ref a :: st)))) :
    Goes p e below G (T.setTop (mkF m pc Ls st)) := by
  subst hp
  obtain ⟨T', h', X', e', E, A, D, -, stp⟩ := newO X hx hZ hown w wi wz eT (g := mkF m pc Ls st) rfl hd hc hl
  exact own_go stp (k T' h' _ X' e' E rfl A D)
theorem s_initO (X : Stand p l e R s m args below meth c T locs cells slots) (hx : p.tables.exec = Jvm.exec) (hZ : Z.Warmed39 s.vm) {own : String} {index : Nat} (hown : s.vm.findClass own = some m.cls) (w1 : (Jvm.Cond.methodLink own index Lib.objectInit).before a0 Z = true) (w2 : (Jvm.Cond.instanceMethod Lib.objectInit).before a0 Z = true)
    (w3 : (Jvm.Cond.code Lib.objectInit ⟨#[0xb1]⟩ 1 none).before a0 Z = true) (eT : T.heap = h) {pc pc' : Nat} {Ls : Array Slot} {st : List Value} {a : Addr} (hd : decode c.code pc = .ok (.invokespecial index, 3)) (hp : pc + 3 = pc') (hsize : Ls.size = c.maxLocals)
    (hf : 1 ≤ R.frames) {W : Nat} (hW : (st.map fun v => v.category).sum ≤ W) (hl : W + 12 ≤ R.locals)
    (k : ∀ T' : State, Stand p l e R s m args below meth c T' locs cells slots → T'.heap = h → Goes p e below G (T'.setTop (mkF m pc' Ls st))) :
    Goes p e below G (T.setTop (mkF m pc Ls (.ref a :: st))) := by
  subst hp
  obtain ⟨T', X', e', stp⟩ := initO X hx hZ hown w1 w2 w3 eT (g := mkF m pc Ls (.ref a :: st)) rfl hsize rfl hd hf (W := W) (by show 2 * 0 + _ ≤ _; omega) hl
  exact own_go stp (k T' X' e')
theorem s_getF (X : Stand p l e R s m args below meth c T locs cells slots) (hx : p.tables.exec = Jvm.exec) (hZ : Z.Warmed39 s.vm) {own O n d : String} {index : Nat} (hown : s.vm.findClass own = some m.cls) (w : (Jvm.Cond.fieldLink own index O n d).before a0 Z = true)
    (eT : T.heap = h) {a : Addr} {v : Value} (F : Fld Z h a O n d v) {pc pc' : Nat} {Ls : Array Slot} {st : List Value} (hd : decode c.code pc = .ok (.getfield index, 3)) (hp : pc + 3 = pc')
    (k : ∀ T' : State, Stand p l e R s m args below meth c T' locs cells slots → T'.heap = h → Goes p e below G (T'.setTop (mkF m pc' Ls (v :: st)))) :
    Goes p e below G (T.setTop (mkF m pc Ls (.ref a :: st))) := by
  subst hp
  obtain ⟨T', X', e', stp⟩ := getF X hx hZ hown (host := "") (Or.inl w) Via.refl eT F (g := mkF m pc Ls (.ref a :: st)) rfl rfl hd
  exact own_go stp (k T' X' e')
theorem s_getS (X : Stand p l e R s m args below meth c T locs cells slots) (hx : p.tables.exec = Jvm.exec) (hZ : Z.Warmed39 s.vm) {own O n d : String} {index : Nat} (hown : s.vm.findClass own = some m.cls) (w : (Jvm.Cond.fieldLink own index O n d).before a0 Z = true)
    (eT : T.heap = h) {v : Value} (F : Sta Z h O n d v) {pc pc' : Nat} {Ls : Array Slot} {st : List Value} (hd : decode c.code pc = .ok (.getstatic index, 3)) (hp : pc + 3 = pc')
    (k : ∀ T' : State, Stand p l e R s m args below meth c T' locs cells slots → T'.heap = h → Goes p e below G (T'.setTop (mkF m pc' Ls (v :: st)))) :
    Goes p e below G (T.setTop (mkF m pc Ls st)) := by
  subst hp
  obtain ⟨T', X', e', stp⟩ := getS X hx hZ hown (host := "") w Via.refl eT F (g := mkF m pc Ls st) rfl hd
  exact own_go stp (k T' X' e')
theorem s_instY (X : Stand p l e R s m args below meth c T locs cells slots) (hx : p.tables.exec = Jvm.exec) (hZ : Z.Warmed39 s.vm) {own K : String} {index : Nat} (hown : s.vm.findClass own = some m.cls) (w : (Jvm.Cond.classLink own index K).before a0 Z = true)
    (eT : T.heap = h) {a : Addr} (F : Ins Z h a K true) {pc pc' : Nat} {Ls : Array Slot} {st : List Value} (hd : decode c.code pc = .ok (.instanceof index, 3)) (hp : pc + 3 = pc')
    (k : ∀ T' : State, Stand p l e R s m args below meth c T' locs cells slots → T'.heap = h → Goes p e below G (T'.setTop (mkF m pc' Ls (.int 1 :: st)))) :
    Goes p e below G (T.setTop (mkF m pc Ls (.ref a :: st))) := by
  subst hp
  obtain ⟨T', X', e', stp⟩ := instY X hx hZ hown w eT F (g := mkF m pc Ls (.ref a :: st)) rfl rfl hd
  exact own_go stp (k T' X' e')
theorem s_castY (X : Stand p l e R s m args below meth c T locs cells slots) (hx : p.tables.exec = Jvm.exec) (hZ : Z.Warmed39 s.vm) {own K : String} {index : Nat} (hown : s.vm.findClass own = some m.cls) (w : (Jvm.Cond.classLink own index K).before a0 Z = true)
    (eT : T.heap = h) {a : Addr} (F : Ins Z h a K true) {pc pc' : Nat} {Ls : Array Slot} {st : List Value} (hd : decode c.code pc = .ok (.checkcast index, 3)) (hp : pc + 3 = pc')
    (k : ∀ T' : State, Stand p l e R s m args below meth c T' locs cells slots → T'.heap = h → Goes p e below G (T'.setTop (mkF m pc' Ls (.ref a :: st)))) :
    Goes p e below G (T.setTop (mkF m pc Ls (.ref a :: st))) := by
  subst hp
  obtain ⟨T', X', e', stp⟩ := castY X hx hZ hown w eT F (g := mkF m pc Ls (.ref a :: st)) rfl rfl hd
  exact own_go stp (k T' X' e')
theorem s_putF (X : Stand p l e R s m args below meth c T locs cells slots) (hx : p.tables.exec = Jvm.exec) (hZ : Z.Warmed39 s.vm) {own O n d C : String} {index kk : Nat} {ty : FieldType} (hown : s.vm.findClass own = some m.cls) (w : (Jvm.Cond.fieldLink own index O n d).before a0 Z = true)
    (eT : T.heap = h) {a : Addr} {v old : Value} (F : Fld Z h a O n d old) (E : Exa Z h a C) (L : (Jvm.Cond.lays C O n d).before a0 Z = true ∨ ((Jvm.Cond.laysFinal C O n d).before a0 Z = true ∧ own = O ∧ meth.name = "<init>")) (wi : (Jvm.Cond.instantiable C kk).before a0 Z = true)
    (hty : parseFieldDescriptor d = some ty) (hn : narrow ty v = v) (hf : fits ty v = true) {pc pc' : Nat} {Ls : Array Slot} {st : List Value} (hd : decode c.code pc = .ok (.putfield index, 3)) (hp : pc + 3 = pc')
    (k : ∀ (T' : State) (h' : Heap), Stand p l e R s m args below meth c T' (locs ++ [⟨a, Jvm.RoadKit.slotOf Z O n d⟩]) cells slots → T'.heap = h' → Wr h h' a (Jvm.RoadKit.slotOf Z O n d) v → Goes p e below G (T'.setTop (mkF m pc' Ls st))) :
    Goes p e below G (T.setTop (mkF m pc Ls (v :: .ref a :: st))) := by
  subst hp
  obtain ⟨T', h', X', e', W, stp⟩ := putF X hx hZ hown (host := "") (Or.inl w) Via.refl eT F E L wi hty hn hf (g := mkF m pc Ls (v :: .ref a :: st)) rfl rfl hd
  exact own_go stp (k T' h' X' e' W)
theorem s_newP (X : Stand p l e R s m args below meth c T locs cells slots) (hx : p.tables.exec = Jvm.exec) (hZ : Z.Warmed39 s.vm) {aty : ArrayType} (w : (Jvm.Cond.arrayClass (newarray.typeOf aty)).before a0 Z = true) (eT : T.heap = h)
    {pc pc' : Nat} {Ls : Array Slot} {st : List Value} {n : Int32} (hd : decode c.code pc = .ok (.newarray aty, 2)) (hp : pc + 2 = pc') (hn : ¬ n < 0) (cap : Nat) (hcap : n.toNatClampNeg ≤ cap) (hb : cap * 8 ≤ 536870912) (hc : cells + 1 ≤ R.cells) (hl : slots + cap ≤ R.slots)
    {ad : String} (had : "[" ++ (newarray.typeOf aty).toString = ad)
    (k : ∀ (T' : State) (h' : Heap) (cA : ClassId) (a : Addr), Stand p l e R s m args below meth c T' locs (cells + 1) (slots + cap) → T'.heap = h' → Ext h h' → a = h.size → Arv Z h' a cA (newarray.typeOf aty) n [] (defaultValue (newarray.typeOf aty)) → Exa Z h' a ad → Goes p e below G (T'.setTop (mkF m pc' Ls (.ref a :: st)))) :
    Goes p e below G (T.setTop (mkF m pc Ls (.int n :: st))) := by
  subst hp
  obtain ⟨T', h', cA, X', e', E, A, Ex, stp⟩ := newPE X hx hZ w eT (g := mkF m pc Ls (.int n :: st)) rfl hd rfl hn hcap hb hc hl had
  exact own_go stp (k T' h' cA _ X' e' E rfl (Arv.new A hn) Ex)
theorem s_len (X : Stand p l e R s m args below meth c T locs cells slots) (hx : p.tables.exec = Jvm.exec) (hZ : Z.Warmed39 s.vm) (eT : T.heap = h) {a : Addr} {kk : ClassId} {ty : FieldType} {z : Int32} {vs : List Value} {dv : Value} (F : Arv Z h a kk ty z vs dv)
    {pc pc' : Nat} {Ls : Array Slot} {st : List Value} (hd : decode c.code pc = .ok (.arraylength, 1)) (hp : pc + 1 = pc')
    (k : Goes p e below G (T.setTop (mkF m pc' Ls (.int z :: st)))) : Goes p e below G (T.setTop (mkF m pc Ls (.ref a :: st))) := by
  subst hp
  obtain ⟨cl, A, q1, S, q3, H, K⟩ := F
  refine own_go (fun t q => X.arraylength hx (by rw [eT]; exact A.1) (State.isArrayOf_alike hZ.alike A.2.1) (g := mkF m pc Ls (.ref a :: st)) rfl rfl hd t ?_) k
  rw [len_of S q3]; exact q
theorem own_fitD {v : Value} (h : fits .double v = true) : ∃ x, v = .double x := fit_D h
theorem s_daload (X : Stand p l e R s m args below meth c T locs cells slots) (hx : p.tables.exec = Jvm.exec) (hZ : Z.Warmed39 s.vm) (eT : T.heap = h) {a : Addr} {kk : ClassId} {z j : Int32} {vs : List Value} {dv : Value} (F : Arv Z h a kk .double z vs dv) (hj : ¬ j < 0 ∧ j < z) {v : Value} (hv : vs.getD j.toNatClampNeg dv = v)
    {pc pc' : Nat} {Ls : Array Slot} {st : List Value} (hd : decode c.code pc = .ok (.daload, 1)) (hp : pc + 1 = pc')
    (k : Goes p e below G (T.setTop (mkF m pc' Ls (v :: st)))) : Goes p e below G (T.setTop (mkF m pc Ls (.int j :: .ref a :: st))) := by
  subst hp
  obtain ⟨cl, A, q1, S, q3, H, K⟩ := F
  exact own_go (fun t q => X.daload hx (by rw [eT]; exact A.1) (State.isArrayOf_alike hZ.alike A.2.1) A.2.2 (inb_of S hj) (H.at (inb_of S hj) hv) (g := mkF m pc Ls (.int j :: .ref a :: st)) rfl rfl hd t q) k
theorem s_laload (X : Stand p l e R s m args below meth c T locs cells slots) (hx : p.tables.exec = Jvm.exec) (hZ : Z.Warmed39 s.vm) (eT : T.heap = h) {a : Addr} {kk : ClassId} {z j : Int32} {vs : List Value} {dv : Value} (F : Arv Z h a kk .long z vs dv) (hj : ¬ j < 0 ∧ j < z) {v : Value} (hv : vs.getD j.toNatClampNeg dv = v)
    {pc pc' : Nat} {Ls : Array Slot} {st : List Value} (hd : decode c.code pc = .ok (.laload, 1)) (hp : pc + 1 = pc')
    (k : Goes p e below G (T.setTop (mkF m pc' Ls (v :: st)))) : Goes p e below G (T.setTop (mkF m pc Ls (.int j :: .ref a :: st))) := by
  subst hp
  obtain ⟨cl, A, q1, S, q3, H, K⟩ := F
  exact own_go (fun t q => X.laload hx (by rw [eT]; exact A.1) (State.isArrayOf_alike hZ.alike A.2.1) A.2.2 (inb_of S hj) (H.at (inb_of S hj) hv) (g := mkF m pc Ls (.int j :: .ref a :: st)) rfl rfl hd t q) k
theorem s_iaload (X : Stand p l e R s m args below meth c T locs cells slots) (hx : p.tables.exec = Jvm.exec) (hZ : Z.Warmed39 s.vm) (eT : T.heap = h) {a : Addr} {kk : ClassId} {z j : Int32} {vs : List Value} {dv : Value} (F : Arv Z h a kk .int z vs dv) (hj : ¬ j < 0 ∧ j < z) {v : Value} (hv : vs.getD j.toNatClampNeg dv = v)
    {pc pc' : Nat} {Ls : Array Slot} {st : List Value} (hd : decode c.code pc = .ok (.iaload, 1)) (hp : pc + 1 = pc')
    (k : Goes p e below G (T.setTop (mkF m pc' Ls (v :: st)))) : Goes p e below G (T.setTop (mkF m pc Ls (.int j :: .ref a :: st))) := by
  subst hp
  obtain ⟨cl, A, q1, S, q3, H, K⟩ := F
  exact own_go (fun t q => X.iaload hx (by rw [eT]; exact A.1) (State.isArrayOf_alike hZ.alike A.2.1) A.2.2 (inb_of S hj) (H.at (inb_of S hj) hv) (g := mkF m pc Ls (.int j :: .ref a :: st)) rfl rfl hd t q) k
theorem s_aaload (X : Stand p l e R s m args below meth c T locs cells slots) (hx : p.tables.exec = Jvm.exec) (hZ : Z.Warmed39 s.vm) (eT : T.heap = h) {a : Addr} {kk : ClassId} {ty : FieldType} {z j : Int32} {vs : List Value} {dv : Value} (F : Arv Z h a kk ty z vs dv) (hty : ty.isReference = true) (hj : ¬ j < 0 ∧ j < z) {v : Value} (hv : vs.getD j.toNatClampNeg dv = v)
    {pc pc' : Nat} {Ls : Array Slot} {st : List Value} (hd : decode c.code pc = .ok (.aaload, 1)) (hp : pc + 1 = pc')
    (k : Goes p e below G (T.setTop (mkF m pc' Ls (v :: st)))) : Goes p e below G (T.setTop (mkF m pc Ls (.int j :: .ref a :: st))) := by
  subst hp
  obtain ⟨cl, A, q1, S, q3, H, K⟩ := F
  exact own_go (fun t q => X.aaload hx (by rw [eT]; exact A.1) (State.isArrayOf_alike hZ.alike A.2.1) hty A.2.2 (inb_of S hj) (H.at (inb_of S hj) hv) (g := mkF m pc Ls (.int j :: .ref a :: st)) rfl rfl hd t q) k
theorem s_dastore (X : Stand p l e R s m args below meth c T locs cells slots) (hx : p.tables.exec = Jvm.exec) (hZ : Z.Warmed39 s.vm) (eT : T.heap = h) {a : Addr} {kk : ClassId} {z j : Int32} {vs : List Value} {dv : Value} (F : Arv Z h a kk .double z vs dv) (hj : ¬ j < 0 ∧ j < z) (i : Nat) (hi : j.toNatClampNeg = i) (hl : i < vs.length) {x : UInt64}
    {pc pc' : Nat} {Ls : Array Slot} {st : List Value} (hd : decode c.code pc = .ok (.dastore, 1)) (hp : pc + 1 = pc')
    (k : ∀ (T' : State) (h' : Heap), Stand p l e R s m args below meth c T' (locs ++ [⟨a, j.toNatClampNeg⟩]) cells slots → T'.heap = h' → Wr h h' a j.toNatClampNeg (.double x) → Arv Z h' a kk .double z (vs.set i (.double x)) dv → Goes p e below G (T'.setTop (mkF m pc' Ls st))) :
    Goes p e below G (T.setTop (mkF m pc Ls (.double x :: .int j :: .ref a :: st))) := by
  subst hp
  obtain ⟨cl, A, q1, S, q3, H, K⟩ := F
  obtain ⟨T', h', X', e', W, stp⟩ := stD X hx hZ eT A (inb_of S hj) (g := mkF m pc Ls (.double x :: .int j :: .ref a :: st)) rfl rfl hd
  exact own_go stp (k T' h' X' e' W (Arv.set A q1 S q3 H K rfl W i hi hl))
theorem s_lastore (X : Stand p l e R s m args below meth c T locs cells slots) (hx : p.tables.exec = Jvm.exec) (hZ : Z.Warmed39 s.vm) (eT : T.heap = h) {a : Addr} {kk : ClassId} {z j : Int32} {vs : List Value} {dv : Value} (F : Arv Z h a kk .long z vs dv) (hj : ¬ j < 0 ∧ j < z) (i : Nat) (hi : j.toNatClampNeg = i) (hl : i < vs.length) {x : Int64}
    {pc pc' : Nat} {Ls : Array Slot} {st : List Value} (hd : decode c.code pc = .ok (.lastore, 1)) (hp : pc + 1 = pc')
    (k : ∀ (T' : State) (h' : Heap), Stand p l e R s m args below meth c T' (locs ++ [⟨a, j.toNatClampNeg⟩]) cells slots → T'.heap = h' → Wr h h' a j.toNatClampNeg (.long x) → Arv Z h' a kk .long z (vs.set i (.long x)) dv → Goes p e below G (T'.setTop (mkF m pc' Ls st))) :
    Goes p e below G (T.setTop (mkF m pc Ls (.long x :: .int j :: .ref a :: st))) := by
  subst hp
  obtain ⟨cl, A, q1, S, q3, H, K⟩ := F
  obtain ⟨T', h', X', e', W, stp⟩ := stJ X hx hZ eT A (inb_of S hj) (g := mkF m pc Ls (.long x :: .int j :: .ref a :: st)) rfl rfl hd
  exact own_go stp (k T' h' X' e' W (Arv.set A q1 S q3 H K rfl W i hi hl))
theorem s_grid3 (X : Stand p l e R s m args below meth c T locs cells slots) (hx : p.tables.exec = Jvm.exec) (hZ : Z.Warmed39 s.vm) {own : String} {index : Nat} (hown : s.vm.findClass own = some m.cls)
    (w1 : (Jvm.Cond.classLink own index "[[D").before a0 Z = true) (w2 : (Jvm.Cond.arrayOver (.array .double)).before a0 Z = true) (w3 : (Jvm.Cond.arrayClass .double).before a0 Z = true) (eT : T.heap = h)
    {pc pc' : Nat} {Ls : Array Slot} {st : List Value} (hd : decode c.code pc = .ok (.multianewarray index 2, 4)) (hp : pc + 4 = pc') (hc : cells + (1 + 3) ≤ R.cells) (hl : slots + (3 + 3 * 3) ≤ R.slots)
    (k : ∀ (T' : State) (h' : Heap) (cA cC : ClassId) (a b0 b1 b2 : Addr), Stand p l e R s m args below meth c T' locs (cells + (1 + 3)) (slots + (3 + 3 * 3)) → T'.heap = h' → Ext h h' → a = h.size → b0 = h.size + 1 + 0 → b1 = h.size + 1 + 1 → b2 = h.size + 1 + 2 →
      Arv Z h' a cA (.array .double) (3 : Int32) [.ref b0, .ref b1, .ref b2] .null → Arv Z h' b0 cC .double (3 : Int32) [] (.double 0) → Arv Z h' b1 cC .double (3 : Int32) [] (.double 0) → Arv Z h' b2 cC .double (3 : Int32) [] (.double 0) → Goes p e below G (T'.setTop (mkF m pc' Ls (.ref a :: st)))) :
    Goes p e below G (T.setTop (mkF m pc Ls (.int (3 : Int32) :: .int (3 : Int32) :: st))) := by
  subst hp
  obtain ⟨T', h', cA, cC, X', e', E, V, -, -, hin, stp⟩ := gridM X hx hZ hown (C := "[D") (ad := "[[D") (by decide) (by decide) w1 w2 w3 eT (g := mkF m pc Ls (.int (3 : Int32) :: .int (3 : Int32) :: st)) rfl hd rfl (by decide) (by decide) (xs := [h.size + 1 + 0, h.size + 1 + 1, h.size + 1 + 2]) (N := 3) (by decide) rfl (cap := 3) (by decide) (by decide) (by decide) rfl rfl hc hl
  exact own_go stp (k T' h' cA cC _ _ _ _ X' e' E rfl rfl rfl rfl V (Arv.new (hin 0 _ rfl).1 (by decide)) (Arv.new (hin 1 _ rfl).1 (by decide)) (Arv.new (hin 2 _ rfl).1 (by decide)))
theorem s_iload (X : Stand p l e R s m args below meth c T locs cells slots) (hx : p.tables.exec = Jvm.exec) {pc pc' : Nat} {Ls : Array Slot} {st : List Value} {j : Nat} {v : Int32} (hd : decode c.code pc = .ok (.iload j, 2)) (hp : pc + 2 = pc') (hl : Ls[j]? = some (.val (.int v)))
    (k : Goes p e below G (T.setTop (mkF m pc' Ls (.int v :: st)))) : Goes p e below G (T.setTop (mkF m pc Ls (st))) := by
  subst hp
  exact own_go (fun _ k => XS.iload X.here hx rfl hd hl k) k
theorem s_iloadN (X : Stand p l e R s m args below meth c T locs cells slots) (hx : p.tables.exec = Jvm.exec) {pc pc' : Nat} {Ls : Array Slot} {st : List Value} {j : Fin 4} {v : Int32} (hd : decode c.code pc = .ok (.iload_n j, 1)) (hp : pc + 1 = pc') (hl : Ls[j.val]? = some (.val (.int v)))
    (k : Goes p e below G (T.setTop (mkF m pc' Ls (.int v :: st)))) : Goes p e below G (T.setTop (mkF m pc Ls (st))) := by
  subst hp
  exact own_go (fun _ k => XS.iloadN X.here hx rfl hd hl k) k
theorem s_istore (X : Stand p l e R s m args below meth c T locs cells slots) (hx : p.tables.exec = Jvm.exec) {pc pc' : Nat} {Ls : Array Slot} {st : List Value} {j : Nat} {v : Int32} (l' : Array Slot) (hd : decode c.code pc = .ok (.istore j, 2)) (hp : pc + 2 = pc') (hl : storeLocals Ls j (.int v) = some l')
    (k : Goes p e below G (T.setTop (mkF m pc' l' (st)))) : Goes p e below G (T.setTop (mkF m pc Ls (.int v :: st))) := by
  subst hp
  exact own_go (fun _ k => XS.istore X.here hx rfl hd rfl hl k) k
theorem s_istoreN (X : Stand p l e R s m args below meth c T locs cells slots) (hx : p.tables.exec = Jvm.exec) {pc pc' : Nat} {Ls : Array Slot} {st : List Value} {j : Fin 4} {v : Int32} (l' : Array Slot) (hd : decode c.code pc = .ok (.istore_n j, 1)) (hp : pc + 1 = pc') (hl : storeLocals Ls j.val (.int v) = some l')
    (k : Goes p e below G (T.setTop (mkF m pc' l' (st)))) : Goes p e below G (T.setTop (mkF m pc Ls (.int v :: st))) := by
  subst hp
  exact own_go (fun _ k => XS.istoreN X.here hx rfl hd rfl hl k) k
theorem s_lload (X : Stand p l e R s m args below meth c T locs cells slots) (hx : p.tables.exec = Jvm.exec) {pc pc' : Nat} {Ls : Array Slot} {st : List Value} {j : Nat} {v : Int64} (hd : decode c.code pc = .ok (.lload j, 2)) (hp : pc + 2 = pc') (hl : Ls[j]? = some (.val (.long v)))
    (k : Goes p e below G (T.setTop (mkF m pc' Ls (.long v :: st)))) : Goes p e below G (T.setTop (mkF m pc Ls (st))) := by
  subst hp
  exact own_go (fun _ k => XT.lload X.here hx rfl hd hl k) k
theorem s_lloadN (X : Stand p l e R s m args below meth c T locs cells slots) (hx : p.tables.exec = Jvm.exec) {pc pc' : Nat} {Ls : Array Slot} {st : List Value} {j : Fin 4} {v : Int64} (hd : decode c.code pc = .ok (.lload_n j, 1)) (hp : pc + 1 = pc') (hl : Ls[j.val]? = some (.val (.long v)))
    (k : Goes p e below G (T.setTop (mkF m pc' Ls (.long v :: st)))) : Goes p e below G (T.setTop (mkF m pc Ls (st))) := by
  subst hp
  exact own_go (fun _ k => XT.lloadN X.here hx rfl hd hl k) k
theorem s_lstore (X : Stand p l e R s m args below meth c T locs cells slots) (hx : p.tables.exec = Jvm.exec) {pc pc' : Nat} {Ls : Array Slot} {st : List Value} {j : Nat} {v : Int64} (l' : Array Slot) (hd : decode c.code pc = .ok (.lstore j, 2)) (hp : pc + 2 = pc') (hl : storeLocals Ls j (.long v) = some l')
    (k : Goes p e below G (T.setTop (mkF m pc' l' (st)))) : Goes p e below G (T.setTop (mkF m pc Ls (.long v :: st))) := by
  subst hp
  exact own_go (fun _ k => XT.lstore X.here hx rfl hd rfl hl k) k
theorem s_lstoreN (X : Stand p l e R s m args below meth c T locs cells slots) (hx : p.tables.exec = Jvm.exec) {pc pc' : Nat} {Ls : Array Slot} {st : List Value} {j : Fin 4} {v : Int64} (l' : Array Slot) (hd : decode c.code pc = .ok (.lstore_n j, 1)) (hp : pc + 1 = pc') (hl : storeLocals Ls j.val (.long v) = some l')
    (k : Goes p e below G (T.setTop (mkF m pc' l' (st)))) : Goes p e below G (T.setTop (mkF m pc Ls (.long v :: st))) := by
  subst hp
  exact own_go (fun _ k => XT.lstoreN X.here hx rfl hd rfl hl k) k
theorem s_dload (X : Stand p l e R s m args below meth c T locs cells slots) (hx : p.tables.exec = Jvm.exec) {pc pc' : Nat} {Ls : Array Slot} {st : List Value} {j : Nat} {v : UInt64} (hd : decode c.code pc = .ok (.dload j, 2)) (hp : pc + 2 = pc') (hl : Ls[j]? = some (.val (.double v)))
    (k : Goes p e below G (T.setTop (mkF m pc' Ls (.double v :: st)))) : Goes p e below G (T.setTop (mkF m pc Ls (st))) := by
  subst hp
  exact own_go (fun _ k => XS.dload X.here hx rfl hd hl k) k
theorem s_dloadN (X : Stand p l e R s m args below meth c T locs cells slots) (hx : p.tables.exec = Jvm.exec) {pc pc' : Nat} {Ls : Array Slot} {st : List Value} {j : Fin 4} {v : UInt64} (hd : decode c.code pc = .ok (.dload_n j, 1)) (hp : pc + 1 = pc') (hl : Ls[j.val]? = some (.val (.double v)))
    (k : Goes p e below G (T.setTop (mkF m pc' Ls (.double v :: st)))) : Goes p e below G (T.setTop (mkF m pc Ls (st))) := by
  subst hp
  exact own_go (fun _ k => XS.dloadN X.here hx rfl hd hl k) k
theorem s_dstore (X : Stand p l e R s m args below meth c T locs cells slots) (hx : p.tables.exec = Jvm.exec) {pc pc' : Nat} {Ls : Array Slot} {st : List Value} {j : Nat} {v : UInt64} (l' : Array Slot) (hd : decode c.code pc = .ok (.dstore j, 2)) (hp : pc + 2 = pc') (hl : storeLocals Ls j (.double v) = some l')
    (k : Goes p e below G (T.setTop (mkF m pc' l' (st)))) : Goes p e below G (T.setTop (mkF m pc Ls (.double v :: st))) := by
  subst hp
  exact own_go (fun _ k => XS.dstore X.here hx rfl hd rfl hl k) k
theorem s_dstoreN (X : Stand p l e R s m args below meth c T locs cells slots) (hx : p.tables.exec = Jvm.exec) {pc pc' : Nat} {Ls : Array Slot} {st : List Value} {j : Fin 4} {v : UInt64} (l' : Array Slot) (hd : decode c.code pc = .ok (.dstore_n j, 1)) (hp : pc + 1 = pc') (hl : storeLocals Ls j.val (.double v) = some l')
    (k : Goes p e below G (T.setTop (mkF m pc' l' (st)))) : Goes p e below G (T.setTop (mkF m pc Ls (.double v :: st))) := by
  subst hp
  exact own_go (fun _ k => XS.dstoreN X.here hx rfl hd rfl hl k) k
theorem s_aload (X : Stand p l e R s m args below meth c T locs cells slots) (hx : p.tables.exec = Jvm.exec) {pc pc' : Nat} {Ls : Array Slot} {st : List Value} {j : Nat} {v : Value} (hd : decode c.code pc = .ok (.aload j, 2)) (hp : pc + 2 = pc') (hl : Ls[j]? = some (.val v)) (hv : v.isRef = true)
    (k : Goes p e below G (T.setTop (mkF m pc' Ls (v :: st)))) : Goes p e below G (T.setTop (mkF m pc Ls (st))) := by
  subst hp
  exact own_go (fun _ k => XS.aload X.here hx rfl hd hl hv k) k
theorem s_aloadN (X : Stand p l e R s m args below meth c T locs cells slots) (hx : p.tables.exec = Jvm.exec) {pc pc' : Nat} {Ls : Array Slot} {st : List Value} {j : Fin 4} {v : Value} (hd : decode c.code pc = .ok (.aload_n j, 1)) (hp : pc + 1 = pc') (hl : Ls[j.val]? = some (.val v)) (hv : v.isRef = true)
    (k : Goes p e below G (T.setTop (mkF m pc' Ls (v :: st)))) : Goes p e below G (T.setTop (mkF m pc Ls (st))) := by
  subst hp
  exact own_go (fun _ k => XS.aloadN X.here hx rfl hd hl hv k) k
theorem s_astore (X : Stand p l e R s m args below meth c T locs cells slots) (hx : p.tables.exec = Jvm.exec) {pc pc' : Nat} {Ls : Array Slot} {st : List Value} {j : Nat} {v : Value} (l' : Array Slot) (hd : decode c.code pc = .ok (.astore j, 2)) (hp : pc + 2 = pc') (hv : v.isRef = true) (hl : storeLocals Ls j v = some l')
    (k : Goes p e below G (T.setTop (mkF m pc' l' (st)))) : Goes p e below G (T.setTop (mkF m pc Ls (v :: st))) := by
  subst hp
  exact own_go (fun _ k => XS.astore X.here hx rfl hd rfl hv hl k) k
theorem s_astoreN (X : Stand p l e R s m args below meth c T locs cells slots) (hx : p.tables.exec = Jvm.exec) {pc pc' : Nat} {Ls : Array Slot} {st : List Value} {j : Fin 4} {v : Value} (l' : Array Slot) (hd : decode c.code pc = .ok (.astore_n j, 1)) (hp : pc + 1 = pc') (hv : v.isRef = true) (hl : storeLocals Ls j.val v = some l')
    (k : Goes p e below G (T.setTop (mkF m pc' l' (st)))) : Goes p e below G (T.setTop (mkF m pc Ls (v :: st))) := by
  subst hp
  exact own_go (fun _ k => XS.astoreN X.here hx rfl hd rfl hv hl k) k
theorem s_iconst (X : Stand p l e R s m args below meth c T locs cells slots) (hx : p.tables.exec = Jvm.exec) {pc pc' : Nat} {Ls : Array Slot} {st : List Value} {i : Int} (v : Int32) (hd : decode c.code pc = .ok (.iconst i, 1)) (hp : pc + 1 = pc') (hv : Int32.ofInt i = v)
    (k : Goes p e below G (T.setTop (mkF m pc' Ls (.int v :: st)))) : Goes p e below G (T.setTop (mkF m pc Ls (st))) := by
  subst hp
  exact own_go (fun _ k => XS.iconst X.here hx rfl hd (by rw [hv]; exact k)) k
theorem s_bipush (X : Stand p l e R s m args below meth c T locs cells slots) (hx : p.tables.exec = Jvm.exec) {pc pc' : Nat} {Ls : Array Slot} {st : List Value} {i : Int} (v : Int32) (hd : decode c.code pc = .ok (.bipush i, 2)) (hp : pc + 2 = pc') (hv : (Int8.ofInt i).toInt32 = v)
    (k : Goes p e below G (T.setTop (mkF m pc' Ls (.int v :: st)))) : Goes p e below G (T.setTop (mkF m pc Ls (st))) := by
  subst hp
  exact own_go (fun _ k => XS.bipush X.here hx rfl hd (by rw [hv]; exact k)) k
theorem s_sipush (X : Stand p l e R s m args below meth c T locs cells slots) (hx : p.tables.exec = Jvm.exec) {pc pc' : Nat} {Ls : Array Slot} {st : List Value} {i : Int} (v : Int32) (hd : decode c.code pc = .ok (.sipush i, 3)) (hp : pc + 3 = pc') (hv : (Int16.ofInt i).toInt32 = v)
    (k : Goes p e below G (T.setTop (mkF m pc' Ls (.int v :: st)))) : Goes p e below G (T.setTop (mkF m pc Ls (st))) := by
  subst hp
  exact own_go (fun _ k => XS.sipush X.here hx rfl hd (by rw [hv]; exact k)) k
theorem s_lconst (X : Stand p l e R s m args below meth c T locs cells slots) (hx : p.tables.exec = Jvm.exec) {pc pc' : Nat} {Ls : Array Slot} {st : List Value} {i : Fin 2} (v : Int64) (hd : decode c.code pc = .ok (.lconst i, 1)) (hp : pc + 1 = pc') (hv : Int64.ofNat i = v)
    (k : Goes p e below G (T.setTop (mkF m pc' Ls (.long v :: st)))) : Goes p e below G (T.setTop (mkF m pc Ls (st))) := by
  subst hp
  exact own_go (fun _ k => XT.lconst X.here hx rfl hd (by rw [hv]; exact k)) k
theorem s_dconst0 (X : Stand p l e R s m args below meth c T locs cells slots) (hx : p.tables.exec = Jvm.exec) {pc pc' : Nat} {Ls : Array Slot} {st : List Value}  (hd : decode c.code pc = .ok (.dconst 0, 1)) (hp : pc + 1 = pc') 
    (k : Goes p e below G (T.setTop (mkF m pc' Ls (.double 0 :: st)))) : Goes p e below G (T.setTop (mkF m pc Ls (st))) := by
  subst hp
  exact own_go (fun _ k => XS.dconst0 X.here hx rfl hd rfl k) k
theorem s_dconst1 (X : Stand p l e R s m args below meth c T locs cells slots) (hx : p.tables.exec = Jvm.exec) {pc pc' : Nat} {Ls : Array Slot} {st : List Value}  (hd : decode c.code pc = .ok (.dconst 1, 1)) (hp : pc + 1 = pc') 
    (k : Goes p e below G (T.setTop (mkF m pc' Ls (.double 4607182418800017408 :: st)))) : Goes p e below G (T.setTop (mkF m pc Ls (st))) := by
  subst hp
  exact own_go (fun _ k => XS.dconst1 X.here hx rfl hd rfl k) k
theorem s_aconstNull (X : Stand p l e R s m args below meth c T locs cells slots) (hx : p.tables.exec = Jvm.exec) {pc pc' : Nat} {Ls : Array Slot} {st : List Value}  (hd : decode c.code pc = .ok (.aconst_null, 1)) (hp : pc + 1 = pc') 
    (k : Goes p e below G (T.setTop (mkF m pc' Ls (.null :: st)))) : Goes p e below G (T.setTop (mkF m pc Ls (st))) := by
  subst hp
  exact own_go (fun _ k => XS.aconstNull X.here hx rfl hd k) k
theorem s_ldcI (X : Stand p l e R s m args below meth c T locs cells slots) (hx : p.tables.exec = Jvm.exec) {pc pc' : Nat} {Ls : Array Slot} {st : List Value} (hZ : Z.Warmed39 s.vm) {own : String} {j : Nat} {v : Int32} (hown : s.vm.findClass own = some m.cls) (w : (Jvm.Cond.constant own j v).before a0 Z = true) (hd : decode c.code pc = .ok (.ldc j, 2)) (hp : pc + 2 = pc') 
    (k : Goes p e below G (T.setTop (mkF m pc' Ls (.int v :: st)))) : Goes p e below G (T.setTop (mkF m pc Ls (st))) := by
  subst hp
  exact own_go (fun _ k => X.ldcInt hx hown (mvT hZ w) (g := mkF m pc Ls st) rfl hd _ k) k
theorem s_ldcJ (X : Stand p l e R s m args below meth c T locs cells slots) (hx : p.tables.exec = Jvm.exec) {pc pc' : Nat} {Ls : Array Slot} {st : List Value} (hZ : Z.Warmed39 s.vm) {own : String} {j : Nat} {v : Int64} (hown : s.vm.findClass own = some m.cls) (w : (Jvm.Cond.constantLong own j v).before a0 Z = true) (hd : decode c.code pc = .ok (.ldc2_w j, 3)) (hp : pc + 3 = pc') 
    (k : Goes p e below G (T.setTop (mkF m pc' Ls (.long v :: st)))) : Goes p e below G (T.setTop (mkF m pc Ls (st))) := by
  subst hp
  exact own_go (fun _ k => X.ldc2Long hx hown (mvT hZ w) (g := mkF m pc Ls st) rfl hd _ k) k
theorem s_ldcD (X : Stand p l e R s m args below meth c T locs cells slots) (hx : p.tables.exec = Jvm.exec) {pc pc' : Nat} {Ls : Array Slot} {st : List Value} (hZ : Z.Warmed39 s.vm) {own : String} {j : Nat} {v : UInt64} (hown : s.vm.findClass own = some m.cls) (w : (Jvm.Cond.constantDouble own j v).before a0 Z = true) (hd : decode c.code pc = .ok (.ldc2_w j, 3)) (hp : pc + 3 = pc') 
    (k : Goes p e below G (T.setTop (mkF m pc' Ls (.double v :: st)))) : Goes p e below G (T.setTop (mkF m pc Ls (st))) := by
  subst hp
  exact own_go (fun _ k => X.ldc2DoubleC hx hown (mvT hZ w) (g := mkF m pc Ls st) rfl hd _ k) k
theorem s_iadd (X : Stand p l e R s m args below meth c T locs cells slots) (hx : p.tables.exec = Jvm.exec) {pc pc' : Nat} {Ls : Array Slot} {st : List Value} {x y : Int32} (hd : decode c.code pc = .ok (.iadd, 1)) (hp : pc + 1 = pc') 
    (k : Goes p e below G (T.setTop (mkF m pc' Ls (.int (x + y) :: st)))) : Goes p e below G (T.setTop (mkF m pc Ls (.int y :: .int x :: st))) := by
  subst hp
  exact own_go (fun _ k => XS.iadd X.here hx rfl hd rfl k) k
theorem s_isub (X : Stand p l e R s m args below meth c T locs cells slots) (hx : p.tables.exec = Jvm.exec) {pc pc' : Nat} {Ls : Array Slot} {st : List Value} {x y : Int32} (hd : decode c.code pc = .ok (.isub, 1)) (hp : pc + 1 = pc') 
    (k : Goes p e below G (T.setTop (mkF m pc' Ls (.int (x - y) :: st)))) : Goes p e below G (T.setTop (mkF m pc Ls (.int y :: .int x :: st))) := by
  subst hp
  exact own_go (fun _ k => XS.isub X.here hx rfl hd rfl k) k
theorem s_imul (X : Stand p l e R s m args below meth c T locs cells slots) (hx : p.tables.exec = Jvm.exec) {pc pc' : Nat} {Ls : Array Slot} {st : List Value} {x y : Int32} (hd : decode c.code pc = .ok (.imul, 1)) (hp : pc + 1 = pc') 
    (k : Goes p e below G (T.setTop (mkF m pc' Ls (.int (x * y) :: st)))) : Goes p e below G (T.setTop (mkF m pc Ls (.int y :: .int x :: st))) := by
  subst hp
  exact own_go (fun _ k => XS.imul X.here hx rfl hd rfl k) k
theorem s_iand (X : Stand p l e R s m args below meth c T locs cells slots) (hx : p.tables.exec = Jvm.exec) {pc pc' : Nat} {Ls : Array Slot} {st : List Value} {x y : Int32} (hd : decode c.code pc = .ok (.iand, 1)) (hp : pc + 1 = pc') 
    (k : Goes p e below G (T.setTop (mkF m pc' Ls (.int (x &&& y) :: st)))) : Goes p e below G (T.setTop (mkF m pc Ls (.int y :: .int x :: st))) := by
  subst hp
  exact own_go (fun _ k => XS.iand X.here hx rfl hd rfl k) k
theorem s_ixor (X : Stand p l e R s m args below meth c T locs cells slots) (hx : p.tables.exec = Jvm.exec) {pc pc' : Nat} {Ls : Array Slot} {st : List Value} {x y : Int32} (hd : decode c.code pc = .ok (.ixor, 1)) (hp : pc + 1 = pc') 
    (k : Goes p e below G (T.setTop (mkF m pc' Ls (.int (x ^^^ y) :: st)))) : Goes p e below G (T.setTop (mkF m pc Ls (.int y :: .int x :: st))) := by
  subst hp
  exact own_go (fun _ k => XT.ixor X.here hx rfl hd rfl k) k
theorem s_ior (X : Stand p l e R s m args below meth c T locs cells slots) (hx : p.tables.exec = Jvm.exec) {pc pc' : Nat} {Ls : Array Slot} {st : List Value} {x y : Int32} (hd : decode c.code pc = .ok (.ior, 1)) (hp : pc + 1 = pc') 
    (k : Goes p e below G (T.setTop (mkF m pc' Ls (.int (x ||| y) :: st)))) : Goes p e below G (T.setTop (mkF m pc Ls (.int y :: .int x :: st))) := by
  subst hp
  exact own_go (fun _ k => XT.ior X.here hx rfl hd rfl k) k
theorem s_ishl (X : Stand p l e R s m args below meth c T locs cells slots) (hx : p.tables.exec = Jvm.exec) {pc pc' : Nat} {Ls : Array Slot} {st : List Value} {x y : Int32} (hd : decode c.code pc = .ok (.ishl, 1)) (hp : pc + 1 = pc') 
    (k : Goes p e below G (T.setTop (mkF m pc' Ls (.int (x <<< (y &&& 31)) :: st)))) : Goes p e below G (T.setTop (mkF m pc Ls (.int y :: .int x :: st))) := by
  subst hp
  exact own_go (fun _ k => XT.ishl X.here hx rfl hd rfl k) k
theorem s_ishr (X : Stand p l e R s m args below meth c T locs cells slots) (hx : p.tables.exec = Jvm.exec) {pc pc' : Nat} {Ls : Array Slot} {st : List Value} {x y : Int32} (hd : decode c.code pc = .ok (.ishr, 1)) (hp : pc + 1 = pc') 
    (k : Goes p e below G (T.setTop (mkF m pc' Ls (.int (x >>> (y &&& 31)) :: st)))) : Goes p e below G (T.setTop (mkF m pc Ls (.int y :: .int x :: st))) := by
  subst hp
  exact own_go (fun _ k => XT.ishr X.here hx rfl hd rfl k) k
theorem s_iushr (X : Stand p l e R s m args below meth c T locs cells slots) (hx : p.tables.exec = Jvm.exec) {pc pc' : Nat} {Ls : Array Slot} {st : List Value} {x y : Int32} (hd : decode c.code pc = .ok (.iushr, 1)) (hp : pc + 1 = pc') 
    (k : Goes p e below G (T.setTop (mkF m pc' Ls (.int (XT.ushr x y) :: st)))) : Goes p e below G (T.setTop (mkF m pc Ls (.int y :: .int x :: st))) := by
  subst hp
  exact own_go (fun _ k => XT.iushr X.here hx rfl hd rfl k) k
theorem s_irem (X : Stand p l e R s m args below meth c T locs cells slots) (hx : p.tables.exec = Jvm.exec) {pc pc' : Nat} {Ls : Array Slot} {st : List Value} {x y : Int32} (hd : decode c.code pc = .ok (.irem, 1)) (hp : pc + 1 = pc') (hy : y ≠ 0)
    (k : Goes p e below G (T.setTop (mkF m pc' Ls (.int (x % y) :: st)))) : Goes p e below G (T.setTop (mkF m pc Ls (.int y :: .int x :: st))) := by
  subst hp
  exact own_go (fun _ k => iremM X hx rfl hd rfl hy k) k
theorem s_ineg (X : Stand p l e R s m args below meth c T locs cells slots) (hx : p.tables.exec = Jvm.exec) {pc pc' : Nat} {Ls : Array Slot} {st : List Value} {x : Int32} (hd : decode c.code pc = .ok (.ineg, 1)) (hp : pc + 1 = pc') 
    (k : Goes p e below G (T.setTop (mkF m pc' Ls (.int (-x) :: st)))) : Goes p e below G (T.setTop (mkF m pc Ls (.int x :: st))) := by
  subst hp
  exact own_go (fun _ k => XS.ineg X.here hx rfl hd rfl k) k
theorem s_ladd (X : Stand p l e R s m args below meth c T locs cells slots) (hx : p.tables.exec = Jvm.exec) {pc pc' : Nat} {Ls : Array Slot} {st : List Value} {x y : Int64} (hd : decode c.code pc = .ok (.ladd, 1)) (hp : pc + 1 = pc') 
    (k : Goes p e below G (T.setTop (mkF m pc' Ls (.long (x + y) :: st)))) : Goes p e below G (T.setTop (mkF m pc Ls (.long y :: .long x :: st))) := by
  subst hp
  exact own_go (fun _ k => XT.ladd X.here hx rfl hd rfl k) k
theorem s_lsub (X : Stand p l e R s m args below meth c T locs cells slots) (hx : p.tables.exec = Jvm.exec) {pc pc' : Nat} {Ls : Array Slot} {st : List Value} {x y : Int64} (hd : decode c.code pc = .ok (.lsub, 1)) (hp : pc + 1 = pc') 
    (k : Goes p e below G (T.setTop (mkF m pc' Ls (.long (x - y) :: st)))) : Goes p e below G (T.setTop (mkF m pc Ls (.long y :: .long x :: st))) := by
  subst hp
  exact own_go (fun _ k => XT.lsub X.here hx rfl hd rfl k) k
theorem s_lmul (X : Stand p l e R s m args below meth c T locs cells slots) (hx : p.tables.exec = Jvm.exec) {pc pc' : Nat} {Ls : Array Slot} {st : List Value} {x y : Int64} (hd : decode c.code pc = .ok (.lmul, 1)) (hp : pc + 1 = pc') 
    (k : Goes p e below G (T.setTop (mkF m pc' Ls (.long (x * y) :: st)))) : Goes p e below G (T.setTop (mkF m pc Ls (.long y :: .long x :: st))) := by
  subst hp
  exact own_go (fun _ k => XT.lmul X.here hx rfl hd rfl k) k
theorem s_land (X : Stand p l e R s m args below meth c T locs cells slots) (hx : p.tables.exec = Jvm.exec) {pc pc' : Nat} {Ls : Array Slot} {st : List Value} {x y : Int64} (hd : decode c.code pc = .ok (.land, 1)) (hp : pc + 1 = pc') 
    (k : Goes p e below G (T.setTop (mkF m pc' Ls (.long (x &&& y) :: st)))) : Goes p e below G (T.setTop (mkF m pc Ls (.long y :: .long x :: st))) := by
  subst hp
  exact own_go (fun _ k => XT.land X.here hx rfl hd rfl k) k
theorem s_lor (X : Stand p l e R s m args below meth c T locs cells slots) (hx : p.tables.exec = Jvm.exec) {pc pc' : Nat} {Ls : Array Slot} {st : List Value} {x y : Int64} (hd : decode c.code pc = .ok (.lor, 1)) (hp : pc + 1 = pc') 
    (k : Goes p e below G (T.setTop (mkF m pc' Ls (.long (x ||| y) :: st)))) : Goes p e below G (T.setTop (mkF m pc Ls (.long y :: .long x :: st))) := by
  subst hp
  exact own_go (fun _ k => XT.lor X.here hx rfl hd rfl k) k
theorem s_lxor (X : Stand p l e R s m args below meth c T locs cells slots) (hx : p.tables.exec = Jvm.exec) {pc pc' : Nat} {Ls : Array Slot} {st : List Value} {x y : Int64} (hd : decode c.code pc = .ok (.lxor, 1)) (hp : pc + 1 = pc') 
    (k : Goes p e below G (T.setTop (mkF m pc' Ls (.long (x ^^^ y) :: st)))) : Goes p e below G (T.setTop (mkF m pc Ls (.long y :: .long x :: st))) := by
  subst hp
  exact own_go (fun _ k => XT.lxor X.here hx rfl hd rfl k) k
theorem s_lshl (X : Stand p l e R s m args below meth c T locs cells slots) (hx : p.tables.exec = Jvm.exec) {pc pc' : Nat} {Ls : Array Slot} {st : List Value} {x : Int64} {y : Int32} (hd : decode c.code pc = .ok (.lshl, 1)) (hp : pc + 1 = pc') 
    (k : Goes p e below G (T.setTop (mkF m pc' Ls (.long (x <<< (y.toInt64 &&& 63)) :: st)))) : Goes p e below G (T.setTop (mkF m pc Ls (.int y :: .long x :: st))) := by
  subst hp
  exact own_go (fun _ k => XT.lshl X.here hx rfl hd rfl k) k
theorem s_lshr (X : Stand p l e R s m args below meth c T locs cells slots) (hx : p.tables.exec = Jvm.exec) {pc pc' : Nat} {Ls : Array Slot} {st : List Value} {x : Int64} {y : Int32} (hd : decode c.code pc = .ok (.lshr, 1)) (hp : pc + 1 = pc') 
    (k : Goes p e below G (T.setTop (mkF m pc' Ls (.long (x >>> (y.toInt64 &&& 63)) :: st)))) : Goes p e below G (T.setTop (mkF m pc Ls (.int y :: .long x :: st))) := by
  subst hp
  exact own_go (fun _ k => XT.lshr X.here hx rfl hd rfl k) k
theorem s_lushr (X : Stand p l e R s m args below meth c T locs cells slots) (hx : p.tables.exec = Jvm.exec) {pc pc' : Nat} {Ls : Array Slot} {st : List Value} {x : Int64} {y : Int32} (hd : decode c.code pc = .ok (.lushr, 1)) (hp : pc + 1 = pc') 
    (k : Goes p e below G (T.setTop (mkF m pc' Ls (.long (XT.ushrL x y) :: st)))) : Goes p e below G (T.setTop (mkF m pc Ls (.int y :: .long x :: st))) := by
  subst hp
  exact own_go (fun _ k => XT.lushr X.here hx rfl hd rfl k) k
theorem s_i2l (X : Stand p l e R s m args below meth c T locs cells slots) (hx : p.tables.exec = Jvm.exec) {pc pc' : Nat} {Ls : Array Slot} {st : List Value} {x : Int32} (hd : decode c.code pc = .ok (.i2l, 1)) (hp : pc + 1 = pc') 
    (k : Goes p e below G (T.setTop (mkF m pc' Ls ((.long x.toInt64) :: st)))) : Goes p e below G (T.setTop (mkF m pc Ls (.int x :: st))) := by
  subst hp
  exact own_go (fun _ k => XT.i2l X.here hx rfl hd rfl k) k
theorem s_i2b (X : Stand p l e R s m args below meth c T locs cells slots) (hx : p.tables.exec = Jvm.exec) {pc pc' : Nat} {Ls : Array Slot} {st : List Value} {x : Int32} (hd : decode c.code pc = .ok (.i2b, 1)) (hp : pc + 1 = pc') 
    (k : Goes p e below G (T.setTop (mkF m pc' Ls ((.int x.toInt8.toInt32) :: st)))) : Goes p e below G (T.setTop (mkF m pc Ls (.int x :: st))) := by
  subst hp
  exact own_go (fun _ k => XT.i2b X.here hx rfl hd rfl k) k
theorem s_l2i (X : Stand p l e R s m args below meth c T locs cells slots) (hx : p.tables.exec = Jvm.exec) {pc pc' : Nat} {Ls : Array Slot} {st : List Value} {x : Int64} (hd : decode c.code pc = .ok (.l2i, 1)) (hp : pc + 1 = pc') 
    (k : Goes p e below G (T.setTop (mkF m pc' Ls (.int x.toInt32 :: st)))) : Goes p e below G (T.setTop (mkF m pc Ls (.long x :: st))) := by
  subst hp
  exact own_go (fun _ k => XT.l2i X.here hx rfl hd rfl k) k
theorem s_i2d (X : Stand p l e R s m args below meth c T locs cells slots) (hx : p.tables.exec = Jvm.exec) {pc pc' : Nat} {Ls : Array Slot} {st : List Value} {x : Int32} (hd : decode c.code pc = .ok (.i2d, 1)) (hp : pc + 1 = pc') 
    (k : Goes p e below G (T.setTop (mkF m pc' Ls (.double (FP.i2d x) :: st)))) : Goes p e below G (T.setTop (mkF m pc Ls (.int x :: st))) := by
  subst hp
  exact own_go (fun _ k => XS.i2dS X.here hx rfl hd rfl rfl k) k
theorem s_l2d (X : Stand p l e R s m args below meth c T locs cells slots) (hx : p.tables.exec = Jvm.exec) {pc pc' : Nat} {Ls : Array Slot} {st : List Value} {x : Int64} (hd : decode c.code pc = .ok (.l2d, 1)) (hp : pc + 1 = pc') 
    (k : Goes p e below G (T.setTop (mkF m pc' Ls (.double (FP.l2d x) :: st)))) : Goes p e below G (T.setTop (mkF m pc Ls (.long x :: st))) := by
  subst hp
  exact own_go (fun _ k => XS.l2dS X.here hx rfl hd rfl rfl k) k
theorem s_dneg (X : Stand p l e R s m args below meth c T locs cells slots) (hx : p.tables.exec = Jvm.exec) {pc pc' : Nat} {Ls : Array Slot} {st : List Value} {x : UInt64} (hd : decode c.code pc = .ok (.dneg, 1)) (hp : pc + 1 = pc') 
    (k : Goes p e below G (T.setTop (mkF m pc' Ls (.double (FP.dneg x) :: st)))) : Goes p e below G (T.setTop (mkF m pc Ls (.double x :: st))) := by
  subst hp
  exact own_go (fun _ k => XS.dnegS X.here hx rfl hd rfl rfl k) k
theorem s_dadd (X : Stand p l e R s m args below meth c T locs cells slots) (hx : p.tables.exec = Jvm.exec) {pc pc' : Nat} {Ls : Array Slot} {st : List Value} {x y : UInt64} (v : UInt64) (hd : decode c.code pc = .ok (.dadd, 1)) (hp : pc + 1 = pc') (hn : NoNaN64 (FP.dadd x y)) (hv : FP.dadd x y = v)
    (k : Goes p e below G (T.setTop (mkF m pc' Ls (.double v :: st)))) : Goes p e below G (T.setTop (mkF m pc Ls (.double y :: .double x :: st))) := by
  subst hp
  exact own_go (fun _ k => XS.daddS X.here hx rfl hd rfl hn hv k) k
theorem s_dsub (X : Stand p l e R s m args below meth c T locs cells slots) (hx : p.tables.exec = Jvm.exec) {pc pc' : Nat} {Ls : Array Slot} {st : List Value} {x y : UInt64} (v : UInt64) (hd : decode c.code pc = .ok (.dsub, 1)) (hp : pc + 1 = pc') (hn : NoNaN64 (FP.dsub x y)) (hv : FP.dsub x y = v)
    (k : Goes p e below G (T.setTop (mkF m pc' Ls (.double v :: st)))) : Goes p e below G (T.setTop (mkF m pc Ls (.double y :: .double x :: st))) := by
  subst hp
  exact own_go (fun _ k => XS.dsubS X.here hx rfl hd rfl hn hv k) k
theorem s_dmul (X : Stand p l e R s m args below meth c T locs cells slots) (hx : p.tables.exec = Jvm.exec) {pc pc' : Nat} {Ls : Array Slot} {st : List Value} {x y : UInt64} (v : UInt64) (hd : decode c.code pc = .ok (.dmul, 1)) (hp : pc + 1 = pc') (hn : NoNaN64 (FP.dmul x y)) (hv : FP.dmul x y = v)
    (k : Goes p e below G (T.setTop (mkF m pc' Ls (.double v :: st)))) : Goes p e below G (T.setTop (mkF m pc Ls (.double y :: .double x :: st))) := by
  subst hp
  exact own_go (fun _ k => XS.dmulS X.here hx rfl hd rfl hn hv k) k
theorem s_ddiv (X : Stand p l e R s m args below meth c T locs cells slots) (hx : p.tables.exec = Jvm.exec) {pc pc' : Nat} {Ls : Array Slot} {st : List Value} {x y : UInt64} (v : UInt64) (hd : decode c.code pc = .ok (.ddiv, 1)) (hp : pc + 1 = pc') (hn : NoNaN64 (FP.ddiv x y)) (hv : FP.ddiv x y = v)
    (k : Goes p e below G (T.setTop (mkF m pc' Ls (.double v :: st)))) : Goes p e below G (T.setTop (mkF m pc Ls (.double y :: .double x :: st))) := by
  subst hp
  exact own_go (fun _ k => XS.ddivS X.here hx rfl hd rfl hn hv k) k
theorem s_lcmp (X : Stand p l e R s m args below meth c T locs cells slots) (hx : p.tables.exec = Jvm.exec) {pc pc' : Nat} {Ls : Array Slot} {st : List Value} {x y : Int64} (hd : decode c.code pc = .ok (.lcmp, 1)) (hp : pc + 1 = pc') 
    (k : Goes p e below G (T.setTop (mkF m pc' Ls (.int (XT.cmpL x y) :: st)))) : Goes p e below G (T.setTop (mkF m pc Ls (.long y :: .long x :: st))) := by
  subst hp
  exact own_go (fun _ k => XT.lcmp X.here hx rfl hd rfl k) k
theorem s_dcmp (X : Stand p l e R s m args below meth c T locs cells slots) (hx : p.tables.exec = Jvm.exec) {pc pc' : Nat} {Ls : Array Slot} {st : List Value} {x y : UInt64} {o : CmpOp} (v : Int32) (hd : decode c.code pc = .ok (.dcmp o, 1)) (hp : pc + 1 = pc') (hv : cmpValue (FP.dcmp x y) o = v)
    (k : Goes p e below G (T.setTop (mkF m pc' Ls (.int v :: st)))) : Goes p e below G (T.setTop (mkF m pc Ls (.double y :: .double x :: st))) := by
  subst hp
  exact own_go (fun _ k => XS.dcmpS X.here hx rfl hd rfl hv k) k
theorem s_dup (X : Stand p l e R s m args below meth c T locs cells slots) (hx : p.tables.exec = Jvm.exec) {pc pc' : Nat} {Ls : Array Slot} {st : List Value} {x : Value} (hd : decode c.code pc = .ok (.dup, 1)) (hp : pc + 1 = pc') (hc : x.category = 1)
    (k : Goes p e below G (T.setTop (mkF m pc' Ls (x :: x :: st)))) : Goes p e below G (T.setTop (mkF m pc Ls (x :: st))) := by
  subst hp
  exact own_go (fun _ k => XS.dup X.here hx rfl hd rfl hc k) k
theorem s_pop (X : Stand p l e R s m args below meth c T locs cells slots) (hx : p.tables.exec = Jvm.exec) {pc pc' : Nat} {Ls : Array Slot} {st : List Value} {x : Value} (hd : decode c.code pc = .ok (.pop, 1)) (hp : pc + 1 = pc') (hc : x.category = 1)
    (k : Goes p e below G (T.setTop (mkF m pc' Ls (st)))) : Goes p e below G (T.setTop (mkF m pc Ls (x :: st))) := by
  subst hp
  exact own_go (fun _ k => XT.pop X.here hx rfl hd rfl hc k) k
theorem s_pop2D (X : Stand p l e R s m args below meth c T locs cells slots) (hx : p.tables.exec = Jvm.exec) {pc pc' : Nat} {Ls : Array Slot} {st : List Value} {x : UInt64} (hd : decode c.code pc = .ok (.pop2, 1)) (hp : pc + 1 = pc')
    (k : Goes p e below G (T.setTop (mkF m pc' Ls st))) : Goes p e below G (T.setTop (mkF m pc Ls (.double x :: st))) := by
  subst hp
  refine own_go (fun _ k => ?_) k
  jvm_step X.here [X.here.top, hx, hd, Value.category]
  exact k
theorem s_dup2 (X : Stand p l e R s m args below meth c T locs cells slots) (hx : p.tables.exec = Jvm.exec) {pc pc' : Nat} {Ls : Array Slot} {st : List Value} {x y : Value} (hd : decode c.code pc = .ok (.dup2, 1)) (hp : pc + 1 = pc') (hc : x.category = 1) (hc' : y.category = 1)
    (k : Goes p e below G (T.setTop (mkF m pc' Ls (x :: y :: x :: y :: st)))) : Goes p e below G (T.setTop (mkF m pc Ls (x :: y :: st))) := by
  subst hp
  exact own_go (fun _ k => XT.dup2 X.here hx rfl hd rfl hc hc' k) k
theorem s_iinc (X : Stand p l e R s m args below meth c T locs cells slots) (hx : p.tables.exec = Jvm.exec) {pc pc' : Nat} {Ls : Array Slot} {st : List Value} {j : Nat} {i : Int} {x : Int32} (v : Int32) (l' : Array Slot) (hd : decode c.code pc = .ok (.iinc j i, 3)) (hp : pc + 3 = pc') (hl : Ls[j]? = some (.val (.int x))) (hv : x + Int32.ofInt i = v) (hl' : storeLocals Ls j (.int v) = some l')
    (k : Goes p e below G (T.setTop (mkF m pc' l' (st)))) : Goes p e below G (T.setTop (mkF m pc Ls (st))) := by
  subst hp
  exact own_go (fun _ k => XS.iinc X.here hx rfl hd hl (by rw [hv]; exact hl') k) k
theorem s_goto (X : Stand p l e R s m args below meth c T locs cells slots) (hx : p.tables.exec = Jvm.exec) {pc pc' : Nat} {Ls : Array Slot} {st : List Value}  {o : Int} (hd : decode c.code pc = .ok (.goto o, 3))  (ho : 0 ≤ (pc : Int) + o) (hp : ((pc : Int) + o).toNat = pc')
    (k : Goes p e below G (T.setTop (mkF m pc' Ls (st)))) : Goes p e below G (T.setTop (mkF m pc Ls (st))) := own_go (fun _ k => XS.goto X.here hx rfl rfl hd ho hp k) k
theorem s_ifY (X : Stand p l e R s m args below meth c T locs cells slots) (hx : p.tables.exec = Jvm.exec) {pc pc' : Nat} {Ls : Array Slot} {st : List Value} {cd : ClassFile.Cond} {x : Int32} {o : Int} (hd : decode c.code pc = .ok (.ifCond cd o, 3)) (hc : ifCond.holds cd x = true) (ho : 0 ≤ (pc : Int) + o) (hp : ((pc : Int) + o).toNat = pc')
    (k : Goes p e below G (T.setTop (mkF m pc' Ls (st)))) : Goes p e below G (T.setTop (mkF m pc Ls (.int x :: st))) := own_go (fun _ k => XS.ifYes X.here hx rfl rfl hd rfl hc ho hp k) k
theorem s_icmpY (X : Stand p l e R s m args below meth c T locs cells slots) (hx : p.tables.exec = Jvm.exec) {pc pc' : Nat} {Ls : Array Slot} {st : List Value} {cd : ClassFile.Cond} {x y : Int32} {o : Int} (hd : decode c.code pc = .ok (.if_icmp cd o, 3)) (hc : if_icmp.holds cd x y = true) (ho : 0 ≤ (pc : Int) + o) (hp : ((pc : Int) + o).toNat = pc')
    (k : Goes p e below G (T.setTop (mkF m pc' Ls (st)))) : Goes p e below G (T.setTop (mkF m pc Ls (.int y :: .int x :: st))) := own_go (fun _ k => XS.icmpYes X.here hx rfl rfl hd rfl hc ho hp k) k
theorem s_acmpY (X : Stand p l e R s m args below meth c T locs cells slots) (hx : p.tables.exec = Jvm.exec) {pc pc' : Nat} {Ls : Array Slot} {st : List Value} {cd : ClassFile.ACond} {x y : Value} {o : Int} (hd : decode c.code pc = .ok (.if_acmp cd o, 3)) (h1 : x.isRef = true) (h2 : y.isRef = true) (hc : XT.acmp cd x y = true) (ho : 0 ≤ (pc : Int) + o) (hp : ((pc : Int) + o).toNat = pc')
    (k : Goes p e below G (T.setTop (mkF m pc' Ls (st)))) : Goes p e below G (T.setTop (mkF m pc Ls (y :: x :: st))) := own_go (fun _ k => XT.acmpYes X.here hx rfl rfl hd rfl h1 h2 hc ho hp k) k
theorem s_nonnullY (X : Stand p l e R s m args below meth c T locs cells slots) (hx : p.tables.exec = Jvm.exec) {pc pc' : Nat} {Ls : Array Slot} {st : List Value} {b : Addr} {o : Int} (hd : decode c.code pc = .ok (.ifnonnull o, 3))  (ho : 0 ≤ (pc : Int) + o) (hp : ((pc : Int) + o).toNat = pc')
    (k : Goes p e below G (T.setTop (mkF m pc' Ls (st)))) : Goes p e below G (T.setTop (mkF m pc Ls (.ref b :: st))) := own_go (fun _ k => XT.ifnonnullYes X.here hx rfl rfl hd rfl ho hp k) k
theorem s_ifN (X : Stand p l e R s m args below meth c T locs cells slots) (hx : p.tables.exec = Jvm.exec) {pc pc' : Nat} {Ls : Array Slot} {st : List Value} {cd : ClassFile.Cond} {x : Int32} {o : Int} (hd : decode c.code pc = .ok (.ifCond cd o, 3)) (hp : pc + 3 = pc') (hc : ifCond.holds cd x = false)
    (k : Goes p e below G (T.setTop (mkF m pc' Ls (st)))) : Goes p e below G (T.setTop (mkF m pc Ls (.int x :: st))) := by
  subst hp
  exact own_go (fun _ k => XS.ifNo X.here hx rfl hd rfl hc k) k
theorem s_icmpN (X : Stand p l e R s m args below meth c T locs cells slots) (hx : p.tables.exec = Jvm.exec) {pc pc' : Nat} {Ls : Array Slot} {st : List Value} {cd : ClassFile.Cond} {x y : Int32} {o : Int} (hd : decode c.code pc = .ok (.if_icmp cd o, 3)) (hp : pc + 3 = pc') (hc : if_icmp.holds cd x y = false)
    (k : Goes p e below G (T.setTop (mkF m pc' Ls (st)))) : Goes p e below G (T.setTop (mkF m pc Ls (.int y :: .int x :: st))) := by
  subst hp
  exact own_go (fun _ k => XS.icmpNo X.here hx rfl hd rfl hc k) k
theorem s_acmpN (X : Stand p l e R s m args below meth c T locs cells slots) (hx : p.tables.exec = Jvm.exec) {pc pc' : Nat} {Ls : Array Slot} {st : List Value} {cd : ClassFile.ACond} {x y : Value} {o : Int} (hd : decode c.code pc = .ok (.if_acmp cd o, 3)) (hp : pc + 3 = pc') (h1 : x.isRef = true) (h2 : y.isRef = true) (hc : XT.acmp cd x y = false)
    (k : Goes p e below G (T.setTop (mkF m pc' Ls (st)))) : Goes p e below G (T.setTop (mkF m pc Ls (y :: x :: st))) := by
  subst hp
  exact own_go (fun _ k => XT.acmpNo X.here hx rfl hd rfl h1 h2 hc k) k
theorem s_nullN (X : Stand p l e R s m args below meth c T locs cells slots) (hx : p.tables.exec = Jvm.exec) {pc pc' : Nat} {Ls : Array Slot} {st : List Value} {b : Addr} {o : Int} (hd : decode c.code pc = .ok (.ifnull o, 3)) (hp : pc + 3 = pc') 
    (k : Goes p e below G (T.setTop (mkF m pc' Ls (st)))) : Goes p e below G (T.setTop (mkF m pc Ls (.ref b :: st))) := by
  subst hp
  exact own_go (fun _ k => XS.ifnullNo X.here hx rfl hd rfl k) k
end Own
theorem iy_lt {x : Int32} (h : x < 0) : ifCond.holds .lt x = true := by rw [if0]; exact (tlt h).1
theorem in_lt {x : Int32} (h : ¬ x < 0) : ifCond.holds .lt x = false := by rw [if0]; exact (flt h).1
theorem iy_ge {x : Int32} (h : ¬ x < 0) : ifCond.holds .ge x = true := by rw [if0]; exact (flt h).2.1
theorem in_ge {x : Int32} (h : x < 0) : ifCond.holds .ge x = false := by rw [if0]; exact (tlt h).2.1
theorem iy_gt {x : Int32} (h : 0 < x) : ifCond.holds .gt x = true := by rw [if0]; exact (tlt h).2.2.1
theorem in_gt {x : Int32} (h : ¬ 0 < x) : ifCond.holds .gt x = false := by rw [if0]; exact (flt h).2.2.1
theorem iy_le {x : Int32} (h : ¬ 0 < x) : ifCond.holds .le x = true := by rw [if0]; exact (flt h).2.2.2
theorem in_le {x : Int32} (h : 0 < x) : ifCond.holds .le x = false := by rw [if0]; exact (tlt h).2.2.2
theorem iy_eq {x : Int32} (h : x = 0) : ifCond.holds .eq x = true := by rw [if0]; exact (teq h).1
theorem in_eq {x : Int32} (h : ¬ x = 0) : ifCond.holds .eq x = false := by rw [if0]; exact (feq h).1
theorem iy_ne {x : Int32} (h : ¬ x = 0) : ifCond.holds .ne x = true := by rw [if0]; exact (feq h).2
theorem in_ne {x : Int32} (h : x = 0) : ifCond.holds .ne x = false := by rw [if0]; exact (teq h).2
theorem cy_lt {x y : Int32} (h : x < y) : if_icmp.holds .lt x y = true := (tlt h).1
theorem cn_lt {x y : Int32} (h : ¬ x < y) : if_icmp.holds .lt x y = false := (flt h).1
theorem cy_ge {x y : Int32} (h : ¬ x < y) : if_icmp.holds .ge x y = true := (flt h).2.1
theorem cn_ge {x y : Int32} (h : x < y) : if_icmp.holds .ge x y = false := (tlt h).2.1
theorem cy_gt {x y : Int32} (h : y < x) : if_icmp.holds .gt x y = true := (tlt h).2.2.1
theorem cn_gt {x y : Int32} (h : ¬ y < x) : if_icmp.holds .gt x y = false := (flt h).2.2.1
theorem cy_le {x y : Int32} (h : ¬ y < x) : if_icmp.holds .le x y = true := (flt h).2.2.2
theorem cn_le {x y : Int32} (h : y < x) : if_icmp.holds .le x y = false := (tlt h).2.2.2
theorem cy_eq {x y : Int32} (h : x = y) : if_icmp.holds .eq x y = true := (teq h).1
theorem cn_eq {x y : Int32} (h : ¬ x = y) : if_icmp.holds .eq x y = false := (feq h).1
theorem cy_ne {x y : Int32} (h : ¬ x = y) : if_icmp.holds .ne x y = true := (feq h).2
theorem cn_ne {x y : Int32} (h : x = y) : if_icmp.holds .ne x y = false := (teq h).2
theorem own_all {L : List UInt64} (h : L.all (fun r => decide (r &&& 0x7fffffffffffffff ≤ 0x7ff0000000000000)) = true) {k : Nat} {e : UInt64} (hk : L[k]? = some e) : NoNaN64 e :=
  of_decide_eq_true (List.all_eq_true.mp h e (List.mem_of_getElem? hk))
theorem ae_no {a b : Addr} (h : ¬ a = b) : XT.acmp .eq (.ref a) (.ref b) = false := by show decide (_ = _) = false; simp [h]
theorem own_k (a : Int32) : let k := (a &&& (2147483647 : Int32)) % (4 : Int32); k = 0 ∨ k = 1 ∨ k = 2 ∨ k = 3 := by
  intro k
  have k1 := c_mask a 2147483647 31 (by decide) (by decide)
  have k2 := (c_irem (a &&& (2147483647 : Int32)) 4 4 rfl).1 (by rw [k1]; omega)
  simp only [← Int32.toInt_inj]
  show (k.toInt = 0 ∨ k.toInt = 1 ∨ k.toInt = 2 ∨ k.toInt = 3)
  have k3 : k.toInt = (a &&& (2147483647 : Int32)).toInt % 4 := k2
  omega
theorem d1_0 : decode prog_14_method_1_code 0 = .ok (.aload_n 0, 1) := by decide +kernel
theorem d1_1 : decode prog_14_method_1_code 1 = .ok (.invokespecial 1, 3) := by decide +kernel
theorem d1_4 : decode prog_14_method_1_code 4 = .ok (.aload_n 0, 1) := by decide +kernel
theorem d1_5 : decode prog_14_method_1_code 5 = .ok (.dload_n 1, 1) := by decide +kernel
theorem d1_6 : decode prog_14_method_1_code 6 = .ok (.putfield 7, 3) := by decide +kernel
theorem d1_9 : decode prog_14_method_1_code 9 = .ok (.aload_n 0, 1) := by decide +kernel
theorem d1_10 : decode prog_14_method_1_code 10 = .ok (.dload_n 3, 1) := by decide +kernel
theorem d1_11 : decode prog_14_method_1_code 11 = .ok (.putfield 13, 3) := by decide +kernel
theorem d1_14 : decode prog_14_method_1_code 14 = .ok (.aload_n 0, 1) := by decide +kernel
theorem d1_15 : decode prog_14_method_1_code 15 = .ok (.dload 5, 2) := by decide +kernel
theorem d1_17 : decode prog_14_method_1_code 17 = .ok (.putfield 16, 3) := by decide +kernel
theorem d1_20 : decode prog_14_method_1_code 20 = .ok (.aload_n 0, 1) := by decide +kernel
theorem d1_21 : decode prog_14_method_1_code 21 = .ok (.dload 7, 2) := by decide +kernel
theorem d1_23 : decode prog_14_method_1_code 23 = .ok (.putfield 19, 3) := by decide +kernel
theorem d1_26 : decode prog_14_method_1_code 26 = .ok (.return_, 1) := by decide +kernel
theorem pn_1 : plainName "com/example/slewstone/slewstone/control/AttitudeQuaternion" = true := by first | (simp [plainName, overriddenIn]; done) | decide +kernel
theorem ef_1 (z0 : Addr) (z1 : UInt64) (z2 : UInt64) (z3 : UInt64) (z4 : UInt64) (m : MethodId) : entryFrame m #[.ref z0, .double z1, .double z2, .double z3, .double z4] 9 = mkF m 0 #[.val (.ref z0), .val (.double z1), .second, .val (.double z2), .second, .val (.double z3), .second, .val (.double z4), .second] [] := by first | (simp [entryFrame, mkF, argsToLocals, Value.category, maxLocals]; done) | rfl
set_option maxRecDepth 65536 in
set_option maxHeartbeats 40000000 in
theorem rm_1 (l : Launch) (Z : State) (a0 : Array Value) (hw : ∀ d ∈ tables_1, d.before a0 Z = true) (ws : List Jvm.Cond) (a : Addr) (x0 : UInt64) (x1 : UInt64) (x2 : UInt64) (x3 : UInt64) (vo0 : Value) (vo1 : Value) (vo2 : Value) (vo3 : Value) (h0 : Heap) (n0 : Nat) (Z0 : n0 ≤ h0.size) (Ea : Exa Z h0 a "com/example/slewstone/slewstone/control/AttitudeQuaternion") (Gq1 : (Fld Z h0 a "com/example/slewstone/slewstone/control/AttitudeQuaternion" "q1" "D" vo0)) (Gq2 : (Fld Z h0 a "com/example/slewstone/slewstone/control/AttitudeQuaternion" "q2" "D" vo1)) (Gq3 : (Fld Z h0 a "com/example/slewstone/slewstone/control/AttitudeQuaternion" "q3" "D" vo2)) (Gq4 : (Fld Z h0 a "com/example/slewstone/slewstone/control/AttitudeQuaternion" "q4" "D" vo3)) (ga : n0 ≤ a) :
    OwnMet l Z (⟨"com/example/slewstone/slewstone/control/AttitudeQuaternion", "<init>", "(DDDD)V"⟩ : MethodName) prog_14_method_1_code 9 none ws ({ frames := 1, cells := 0, slots := 0, locals := 12 } : Room) #[.ref a, .double x0, .double x1, .double x2, .double x3] h0 (fun v h L => v = none ∧ Fr n0 L ∧ Keep h0 h [a] ∧ Exa Z h a "com/example/slewstone/slewstone/control/AttitudeQuaternion" ∧ (Fld Z h a "com/example/slewstone/slewstone/control/AttitudeQuaternion" "q1" "D" (.double x0)) ∧ (Fld Z h a "com/example/slewstone/slewstone/control/AttitudeQuaternion" "q2" "D" (.double x1)) ∧ (Fld Z h a "com/example/slewstone/slewstone/control/AttitudeQuaternion" "q3" "D" (.double x2)) ∧ (Fld Z h a "com/example/slewstone/slewstone/control/AttitudeQuaternion" "q4" "D" (.double x3))) := by
  refine own_met (plainFor_of_name pn_1) (ef_1 a x0 x1 x2 x3) ?_
  intro p e s m below meth c s₁ hx hby hml hZ hown hnm hret hlk X0 e0
  have N0 := Fr.nil n0
  refine s_aloadN X0 hx (hb hby d1_0) (pc' := 1) rfl rfl rfl ?_
  refine s_initO X0 hx hZ hown (hw _ (List.mem_of_getElem? (i := 7) rfl)) (hw _ (List.mem_of_getElem? (i := 8) rfl)) (hw _ (List.mem_of_getElem? (i := 9) rfl)) e0 (hb hby d1_1) (pc' := 4) rfl (by rw [hml]; rfl) (by decide) (W := 0) (Nat.le_of_eq rfl) (by decide) ?_
  intro T1 X1 e1
  refine s_aloadN X1 hx (hb hby d1_4) (pc' := 5) rfl rfl rfl ?_
  refine s_dloadN X1 hx (hb hby d1_5) (pc' := 6) rfl rfl ?_
  refine s_putF X1 hx hZ hown (hw _ (List.mem_of_getElem? (i := 10) rfl)) e1 Gq1 Ea (Or.inr ⟨(hw _ (List.mem_of_getElem? (i := 11) rfl)), rfl, hnm⟩) (hw _ (List.mem_of_getElem? (i := 2) rfl)) (ty := .double) (by decide) rfl rfl (hb hby d1_6) (pc' := 9) rfl ?_
  intro T2 h2 X2 e2 W2
  have N2 := Fr.snoc X2 N0 ga
  have F2 := Gq1.same W2
  have H2 : h0.size ≤ h2.size := by rw [W2.size]; exact (Nat.le_refl _)
  refine s_aloadN X2 hx (hb hby d1_9) (pc' := 10) rfl rfl rfl ?_
  refine s_dloadN X2 hx (hb hby d1_10) (pc' := 11) rfl rfl ?_
  have fF3 := (Gq2.other W2 (Or.inr (slot_ne (C := "com/example/slewstone/slewstone/control/AttitudeQuaternion") (t := .double) (t' := .double) (Or.inr (hw _ (List.mem_of_getElem? (i := 13) rfl))) (Or.inr (hw _ (List.mem_of_getElem? (i := 11) rfl))) (by decide) (by decide) (by decide))))
  have fE4 := (Ea.wr W2)
  refine s_putF X2 hx hZ hown (hw _ (List.mem_of_getElem? (i := 12) rfl)) e2 fF3 fE4 (Or.inr ⟨(hw _ (List.mem_of_getElem? (i := 13) rfl)), rfl, hnm⟩) (hw _ (List.mem_of_getElem? (i := 2) rfl)) (ty := .double) (by decide) rfl rfl (hb hby d1_11) (pc' := 14) rfl ?_
  intro T5 h5 X5 e5 W5
  have N5 := Fr.snoc X5 N2 ga
  have F5 := fF3.same W5
  have H5 : h0.size ≤ h5.size := by rw [W5.size]; exact H2
  refine s_aloadN X5 hx (hb hby d1_14) (pc' := 15) rfl rfl rfl ?_
  refine s_dload X5 hx (hb hby d1_15) (pc' := 17) rfl rfl ?_
  have fF6 := ((Gq3.other W2 (Or.inr (slot_ne (C := "com/example/slewstone/slewstone/control/AttitudeQuaternion") (t := .double) (t' := .double) (Or.inr (hw _ (List.mem_of_getElem? (i := 15) rfl))) (Or.inr (hw _ (List.mem_of_getElem? (i := 11) rfl))) (by decide) (by decide) (by decide)))).other W5 (Or.inr (slot_ne (C := "com/example/slewstone/slewstone/control/AttitudeQuaternion") (t := .double) (t' := .double) (Or.inr (hw _ (List.mem_of_getElem? (i := 15) rfl))) (Or.inr (hw _ (List.mem_of_getElem? (i := 13) rfl))) (by decide) (by decide) (by decide))))
  have fE7 := (fE4.wr W5)
  refine s_putF X5 hx hZ hown (hw _ (List.mem_of_getElem? (i := 14) rfl)) e5 fF6 fE7 (Or.inr ⟨(hw _ (List.mem_of_getElem? (i := 15) rfl)), rfl, hnm⟩) (hw _ (List.mem_of_getElem? (i := 2) rfl)) (ty := .double) (by decide) rfl rfl (hb hby d1_17) (pc' := 20) rfl ?_
  intro T8 h8 X8 e8 W8
  have N8 := Fr.snoc X8 N5 ga
  have F8 := fF6.same W8
  have H8 : h0.size ≤ h8.size := by rw [W8.size]; exact H5
  refine s_aloadN X8 hx (hb hby d1_20) (pc' := 21) rfl rfl rfl ?_
  refine s_dload X8 hx (hb hby d1_21) (pc' := 23) rfl rfl ?_
  have fF9 := (((Gq4.other W2 (Or.inr (slot_ne (C := "com/example/slewstone/slewstone/control/AttitudeQuaternion") (t := .double) (t' := .double) (Or.inr (hw _ (List.mem_of_getElem? (i := 17) rfl))) (Or.inr (hw _ (List.mem_of_getElem? (i := 11) rfl))) (by decide) (by decide) (by decide)))).other W5 (Or.inr (slot_ne (C := "com/example/slewstone/slewstone/control/AttitudeQuaternion") (t := .double) (t' := .double) (Or.inr (hw _ (List.mem_of_getElem? (i := 17) rfl))) (Or.inr (hw _ (List.mem_of_getElem? (i := 13) rfl))) (by decide) (by decide) (by decide)))).other W8 (Or.inr (slot_ne (C := "com/example/slewstone/slewstone/control/AttitudeQuaternion") (t := .double) (t' := .double) (Or.inr (hw _ (List.mem_of_getElem? (i := 17) rfl))) (Or.inr (hw _ (List.mem_of_getElem? (i := 15) rfl))) (by decide) (by decide) (by decide))))
  have fE10 := (fE7.wr W8)
  refine s_putF X8 hx hZ hown (hw _ (List.mem_of_getElem? (i := 16) rfl)) e8 fF9 fE10 (Or.inr ⟨(hw _ (List.mem_of_getElem? (i := 17) rfl)), rfl, hnm⟩) (hw _ (List.mem_of_getElem? (i := 2) rfl)) (ty := .double) (by decide) rfl rfl (hb hby d1_23) (pc' := 26) rfl ?_
  intro T11 h11 X11 e11 W11
  have N11 := Fr.snoc X11 N8 ga
  have F11 := fF9.same W11
  have H11 : h0.size ≤ h11.size := by rw [W11.size]; exact H8
  have KK12 : Keep h0 h11 [a] := (((((Keep.refl _ _).wr W2 (Or.inl (List.mem_of_getElem? (i := 0) rfl))).wr W5 (Or.inl (List.mem_of_getElem? (i := 0) rfl))).wr W8 (Or.inl (List.mem_of_getElem? (i := 0) rfl))).wr W11 (Or.inl (List.mem_of_getElem? (i := 0) rfl)))
  have fE13 := (fE10.wr W11)
  have fF14 := (((F2.other W5 (Or.inr (slot_ne (C := "com/example/slewstone/slewstone/control/AttitudeQuaternion") (t := .double) (t' := .double) (Or.inr (hw _ (List.mem_of_getElem? (i := 11) rfl))) (Or.inr (hw _ (List.mem_of_getElem? (i := 13) rfl))) (by decide) (by decide) (by decide)))).other W8 (Or.inr (slot_ne (C := "com/example/slewstone/slewstone/control/AttitudeQuaternion") (t := .double) (t' := .double) (Or.inr (hw _ (List.mem_of_getElem? (i := 11) rfl))) (Or.inr (hw _ (List.mem_of_getElem? (i := 15) rfl))) (by decide) (by decide) (by decide)))).other W11 (Or.inr (slot_ne (C := "com/example/slewstone/slewstone/control/AttitudeQuaternion") (t := .double) (t' := .double) (Or.inr (hw _ (List.mem_of_getElem? (i := 11) rfl))) (Or.inr (hw _ (List.mem_of_getElem? (i := 17) rfl))) (by decide) (by decide) (by decide))))
  have fF15 := ((F5.other W8 (Or.inr (slot_ne (C := "com/example/slewstone/slewstone/control/AttitudeQuaternion") (t := .double) (t' := .double) (Or.inr (hw _ (List.mem_of_getElem? (i := 13) rfl))) (Or.inr (hw _ (List.mem_of_getElem? (i := 15) rfl))) (by decide) (by decide) (by decide)))).other W11 (Or.inr (slot_ne (C := "com/example/slewstone/slewstone/control/AttitudeQuaternion") (t := .double) (t' := .double) (Or.inr (hw _ (List.mem_of_getElem? (i := 13) rfl))) (Or.inr (hw _ (List.mem_of_getElem? (i := 17) rfl))) (by decide) (by decide) (by decide))))
  have fF16 := (F8.other W11 (Or.inr (slot_ne (C := "com/example/slewstone/slewstone/control/AttitudeQuaternion") (t := .double) (t' := .double) (Or.inr (hw _ (List.mem_of_getElem? (i := 15) rfl))) (Or.inr (hw _ (List.mem_of_getElem? (i := 17) rfl))) (by decide) (by decide) (by decide))))
  exact s_ret X11 hx hlk hret (hb hby d1_26) (by decide) (by decide) (by rw [e11]; exact ⟨rfl, N11, KK12, fE13, fF14, fF15, fF16, F11⟩)
theorem d3_0 : decode prog_14_method_6_code 0 = .ok (.iconst 3, 1) := by decide +kernel
theorem d3_1 : decode prog_14_method_6_code 1 = .ok (.newarray .double, 2) := by decide +kernel
theorem d3_3 : decode prog_14_method_6_code 3 = .ok (.dup, 1) := by decide +kernel
theorem d3_4 : decode prog_14_method_6_code 4 = .ok (.iconst 0, 1) := by decide +kernel
theorem d3_5 : decode prog_14_method_6_code 5 = .ok (.aload_n 0, 1) := by decide +kernel
theorem d3_6 : decode prog_14_method_6_code 6 = .ok (.getfield 7, 3) := by decide +kernel
theorem d3_9 : decode prog_14_method_6_code 9 = .ok (.dastore, 1) := by decide +kernel
theorem d3_10 : decode prog_14_method_6_code 10 = .ok (.dup, 1) := by decide +kernel
theorem d3_11 : decode prog_14_method_6_code 11 = .ok (.iconst 1, 1) := by decide +kernel
theorem d3_12 : decode prog_14_method_6_code 12 = .ok (.aload_n 0, 1) := by decide +kernel
theorem d3_13 : decode prog_14_method_6_code 13 = .ok (.getfield 13, 3) := by decide +kernel
theorem d3_16 : decode prog_14_method_6_code 16 = .ok (.dastore, 1) := by decide +kernel
theorem d3_17 : decode prog_14_method_6_code 17 = .ok (.dup, 1) := by decide +kernel
theorem d3_18 : decode prog_14_method_6_code 18 = .ok (.iconst 2, 1) := by decide +kernel
theorem d3_19 : decode prog_14_method_6_code 19 = .ok (.aload_n 0, 1) := by decide +kernel
theorem d3_20 : decode prog_14_method_6_code 20 = .ok (.getfield 16, 3) := by decide +kernel
theorem d3_23 : decode prog_14_method_6_code 23 = .ok (.dastore, 1) := by decide +kernel
theorem d3_24 : decode prog_14_method_6_code 24 = .ok (.astore_n 1, 1) := by decide +kernel
theorem d3_25 : decode prog_14_method_6_code 25 = .ok (.aload_n 0, 1) := by decide +kernel
theorem d3_26 : decode prog_14_method_6_code 26 = .ok (.getfield 19, 3) := by decide +kernel
theorem d3_29 : decode prog_14_method_6_code 29 = .ok (.aload_n 0, 1) := by decide +kernel
theorem d3_30 : decode prog_14_method_6_code 30 = .ok (.getfield 19, 3) := by decide +kernel
theorem d3_33 : decode prog_14_method_6_code 33 = .ok (.dmul, 1) := by decide +kernel
theorem d3_34 : decode prog_14_method_6_code 34 = .ok (.aload_n 0, 1) := by decide +kernel
theorem d3_35 : decode prog_14_method_6_code 35 = .ok (.getfield 7, 3) := by decide +kernel
theorem d3_38 : decode prog_14_method_6_code 38 = .ok (.aload_n 0, 1) := by decide +kernel
theorem d3_39 : decode prog_14_method_6_code 39 = .ok (.getfield 7, 3) := by decide +kernel
theorem d3_42 : decode prog_14_method_6_code 42 = .ok (.dmul, 1) := by decide +kernel
theorem d3_43 : decode prog_14_method_6_code 43 = .ok (.aload_n 0, 1) := by decide +kernel
theorem d3_44 : decode prog_14_method_6_code 44 = .ok (.getfield 13, 3) := by decide +kernel
theorem d3_47 : decode prog_14_method_6_code 47 = .ok (.aload_n 0, 1) := by decide +kernel
theorem d3_48 : decode prog_14_method_6_code 48 = .ok (.getfield 13, 3) := by decide +kernel
theorem d3_51 : decode prog_14_method_6_code 51 = .ok (.dmul, 1) := by decide +kernel
theorem d3_52 : decode prog_14_method_6_code 52 = .ok (.dadd, 1) := by decide +kernel
theorem d3_53 : decode prog_14_method_6_code 53 = .ok (.aload_n 0, 1) := by decide +kernel
theorem d3_54 : decode prog_14_method_6_code 54 = .ok (.getfield 16, 3) := by decide +kernel
theorem d3_57 : decode prog_14_method_6_code 57 = .ok (.aload_n 0, 1) := by decide +kernel
theorem d3_58 : decode prog_14_method_6_code 58 = .ok (.getfield 16, 3) := by decide +kernel
theorem d3_61 : decode prog_14_method_6_code 61 = .ok (.dmul, 1) := by decide +kernel
theorem d3_62 : decode prog_14_method_6_code 62 = .ok (.dadd, 1) := by decide +kernel
theorem d3_63 : decode prog_14_method_6_code 63 = .ok (.dsub, 1) := by decide +kernel
theorem d3_64 : decode prog_14_method_6_code 64 = .ok (.dstore_n 2, 1) := by decide +kernel
theorem d3_65 : decode prog_14_method_6_code 65 = .ok (.iconst 3, 1) := by decide +kernel
theorem d3_66 : decode prog_14_method_6_code 66 = .ok (.iconst 3, 1) := by decide +kernel
theorem d3_67 : decode prog_14_method_6_code 67 = .ok (.multianewarray 72 2, 4) := by decide +kernel
theorem d3_71 : decode prog_14_method_6_code 71 = .ok (.astore 4, 2) := by decide +kernel
theorem d3_73 : decode prog_14_method_6_code 73 = .ok (.iconst 0, 1) := by decide +kernel
theorem d3_74 : decode prog_14_method_6_code 74 = .ok (.istore 5, 2) := by decide +kernel
theorem d3_76 : decode prog_14_method_6_code 76 = .ok (.iload 5, 2) := by decide +kernel
theorem d3_78 : decode prog_14_method_6_code 78 = .ok (.iconst 3, 1) := by decide +kernel
theorem d3_79 : decode prog_14_method_6_code 79 = .ok (.if_icmp .ge 57, 3) := by decide +kernel
theorem d3_82 : decode prog_14_method_6_code 82 = .ok (.iconst 0, 1) := by decide +kernel
theorem d3_83 : decode prog_14_method_6_code 83 = .ok (.istore 6, 2) := by decide +kernel
theorem d3_85 : decode prog_14_method_6_code 85 = .ok (.iload 6, 2) := by decide +kernel
theorem d3_87 : decode prog_14_method_6_code 87 = .ok (.iconst 3, 1) := by decide +kernel
theorem d3_88 : decode prog_14_method_6_code 88 = .ok (.if_icmp .ge 30, 3) := by decide +kernel
theorem d3_91 : decode prog_14_method_6_code 91 = .ok (.aload 4, 2) := by decide +kernel
theorem d3_93 : decode prog_14_method_6_code 93 = .ok (.iload 5, 2) := by decide +kernel
theorem d3_95 : decode prog_14_method_6_code 95 = .ok (.aaload, 1) := by decide +kernel
theorem d3_96 : decode prog_14_method_6_code 96 = .ok (.iload 6, 2) := by decide +kernel
theorem d3_98 : decode prog_14_method_6_code 98 = .ok (.ldc2_w 55, 3) := by decide +kernel
theorem d3_101 : decode prog_14_method_6_code 101 = .ok (.aload_n 1, 1) := by decide +kernel
theorem d3_102 : decode prog_14_method_6_code 102 = .ok (.iload 5, 2) := by decide +kernel
theorem d3_104 : decode prog_14_method_6_code 104 = .ok (.daload, 1) := by decide +kernel
theorem d3_105 : decode prog_14_method_6_code 105 = .ok (.dmul, 1) := by decide +kernel
theorem d3_106 : decode prog_14_method_6_code 106 = .ok (.aload_n 1, 1) := by decide +kernel
theorem d3_107 : decode prog_14_method_6_code 107 = .ok (.iload 6, 2) := by decide +kernel
theorem d3_109 : decode prog_14_method_6_code 109 = .ok (.daload, 1) := by decide +kernel
theorem d3_110 : decode prog_14_method_6_code 110 = .ok (.dmul, 1) := by decide +kernel
theorem d3_111 : decode prog_14_method_6_code 111 = .ok (.dastore, 1) := by decide +kernel
theorem d3_112 : decode prog_14_method_6_code 112 = .ok (.iinc 6 1, 3) := by decide +kernel
theorem d3_115 : decode prog_14_method_6_code 115 = .ok (.goto (-30), 3) := by decide +kernel
theorem d3_118 : decode prog_14_method_6_code 118 = .ok (.aload 4, 2) := by decide +kernel
theorem d3_120 : decode prog_14_method_6_code 120 = .ok (.iload 5, 2) := by decide +kernel
theorem d3_122 : decode prog_14_method_6_code 122 = .ok (.aaload, 1) := by decide +kernel
theorem d3_123 : decode prog_14_method_6_code 123 = .ok (.iload 5, 2) := by decide +kernel
theorem d3_125 : decode prog_14_method_6_code 125 = .ok (.dup2, 1) := by decide +kernel
theorem d3_126 : decode prog_14_method_6_code 126 = .ok (.daload, 1) := by decide +kernel
theorem d3_127 : decode prog_14_method_6_code 127 = .ok (.dload_n 2, 1) := by decide +kernel
theorem d3_128 : decode prog_14_method_6_code 128 = .ok (.dadd, 1) := by decide +kernel
theorem d3_129 : decode prog_14_method_6_code 129 = .ok (.dastore, 1) := by decide +kernel
theorem d3_130 : decode prog_14_method_6_code 130 = .ok (.iinc 5 1, 3) := by decide +kernel
theorem d3_133 : decode prog_14_method_6_code 133 = .ok (.goto (-57), 3) := by decide +kernel
theorem d3_136 : decode prog_14_method_6_code 136 = .ok (.aload 4, 2) := by decide +kernel
theorem d3_138 : decode prog_14_method_6_code 138 = .ok (.iconst 0, 1) := by decide +kernel
theorem d3_139 : decode prog_14_method_6_code 139 = .ok (.aaload, 1) := by decide +kernel
theorem d3_140 : decode prog_14_method_6_code 140 = .ok (.iconst 1, 1) := by decide +kernel
theorem d3_141 : decode prog_14_method_6_code 141 = .ok (.dup2, 1) := by decide +kernel
theorem d3_142 : decode prog_14_method_6_code 142 = .ok (.daload, 1) := by decide +kernel
theorem d3_143 : decode prog_14_method_6_code 143 = .ok (.ldc2_w 55, 3) := by decide +kernel
theorem d3_146 : decode prog_14_method_6_code 146 = .ok (.aload_n 0, 1) := by decide +kernel
theorem d3_147 : decode prog_14_method_6_code 147 = .ok (.getfield 19, 3) := by decide +kernel
theorem d3_150 : decode prog_14_method_6_code 150 = .ok (.dmul, 1) := by decide +kernel
theorem d3_151 : decode prog_14_method_6_code 151 = .ok (.aload_n 0, 1) := by decide +kernel
theorem d3_152 : decode prog_14_method_6_code 152 = .ok (.getfield 16, 3) := by decide +kernel
theorem d3_155 : decode prog_14_method_6_code 155 = .ok (.dmul, 1) := by decide +kernel
theorem d3_156 : decode prog_14_method_6_code 156 = .ok (.dadd, 1) := by decide +kernel
theorem d3_157 : decode prog_14_method_6_code 157 = .ok (.dastore, 1) := by decide +kernel
theorem d3_158 : decode prog_14_method_6_code 158 = .ok (.aload 4, 2) := by decide +kernel
theorem d3_160 : decode prog_14_method_6_code 160 = .ok (.iconst 0, 1) := by decide +kernel
theorem d3_161 : decode prog_14_method_6_code 161 = .ok (.aaload, 1) := by decide +kernel
theorem d3_162 : decode prog_14_method_6_code 162 = .ok (.iconst 2, 1) := by decide +kernel
theorem d3_163 : decode prog_14_method_6_code 163 = .ok (.dup2, 1) := by decide +kernel
theorem d3_164 : decode prog_14_method_6_code 164 = .ok (.daload, 1) := by decide +kernel
theorem d3_165 : decode prog_14_method_6_code 165 = .ok (.ldc2_w 55, 3) := by decide +kernel
theorem d3_168 : decode prog_14_method_6_code 168 = .ok (.aload_n 0, 1) := by decide +kernel
theorem d3_169 : decode prog_14_method_6_code 169 = .ok (.getfield 19, 3) := by decide +kernel
theorem d3_172 : decode prog_14_method_6_code 172 = .ok (.dmul, 1) := by decide +kernel
theorem d3_173 : decode prog_14_method_6_code 173 = .ok (.aload_n 0, 1) := by decide +kernel
theorem d3_174 : decode prog_14_method_6_code 174 = .ok (.getfield 13, 3) := by decide +kernel
theorem d3_177 : decode prog_14_method_6_code 177 = .ok (.dmul, 1) := by decide +kernel
theorem d3_178 : decode prog_14_method_6_code 178 = .ok (.dsub, 1) := by decide +kernel
theorem d3_179 : decode prog_14_method_6_code 179 = .ok (.dastore, 1) := by decide +kernel
theorem d3_180 : decode prog_14_method_6_code 180 = .ok (.aload 4, 2) := by decide +kernel
theorem d3_182 : decode prog_14_method_6_code 182 = .ok (.iconst 1, 1) := by decide +kernel
theorem d3_183 : decode prog_14_method_6_code 183 = .ok (.aaload, 1) := by decide +kernel
theorem d3_184 : decode prog_14_method_6_code 184 = .ok (.iconst 0, 1) := by decide +kernel
theorem d3_185 : decode prog_14_method_6_code 185 = .ok (.dup2, 1) := by decide +kernel
theorem d3_186 : decode prog_14_method_6_code 186 = .ok (.daload, 1) := by decide +kernel
theorem d3_187 : decode prog_14_method_6_code 187 = .ok (.ldc2_w 55, 3) := by decide +kernel
theorem d3_190 : decode prog_14_method_6_code 190 = .ok (.aload_n 0, 1) := by decide +kernel
theorem d3_191 : decode prog_14_method_6_code 191 = .ok (.getfield 19, 3) := by decide +kernel
theorem d3_194 : decode prog_14_method_6_code 194 = .ok (.dmul, 1) := by decide +kernel
theorem d3_195 : decode prog_14_method_6_code 195 = .ok (.aload_n 0, 1) := by decide +kernel
theorem d3_196 : decode prog_14_method_6_code 196 = .ok (.getfield 16, 3) := by decide +kernel
theorem d3_199 : decode prog_14_method_6_code 199 = .ok (.dmul, 1) := by decide +kernel
theorem d3_200 : decode prog_14_method_6_code 200 = .ok (.dsub, 1) := by decide +kernel
theorem d3_201 : decode prog_14_method_6_code 201 = .ok (.dastore, 1) := by decide +kernel
theorem d3_202 : decode prog_14_method_6_code 202 = .ok (.aload 4, 2) := by decide +kernel
theorem d3_204 : decode prog_14_method_6_code 204 = .ok (.iconst 1, 1) := by decide +kernel
theorem d3_205 : decode prog_14_method_6_code 205 = .ok (.aaload, 1) := by decide +kernel
theorem d3_206 : decode prog_14_method_6_code 206 = .ok (.iconst 2, 1) := by decide +kernel
theorem d3_207 : decode prog_14_method_6_code 207 = .ok (.dup2, 1) := by decide +kernel
theorem d3_208 : decode prog_14_method_6_code 208 = .ok (.daload, 1) := by decide +kernel
theorem d3_209 : decode prog_14_method_6_code 209 = .ok (.ldc2_w 55, 3) := by decide +kernel
theorem d3_212 : decode prog_14_method_6_code 212 = .ok (.aload_n 0, 1) := by decide +kernel
theorem d3_213 : decode prog_14_method_6_code 213 = .ok (.getfield 19, 3) := by decide +kernel
theorem d3_216 : decode prog_14_method_6_code 216 = .ok (.dmul, 1) := by decide +kernel
theorem d3_217 : decode prog_14_method_6_code 217 = .ok (.aload_n 0, 1) := by decide +kernel
theorem d3_218 : decode prog_14_method_6_code 218 = .ok (.getfield 7, 3) := by decide +kernel
theorem d3_221 : decode prog_14_method_6_code 221 = .ok (.dmul, 1) := by decide +kernel
theorem d3_222 : decode prog_14_method_6_code 222 = .ok (.dadd, 1) := by decide +kernel
theorem d3_223 : decode prog_14_method_6_code 223 = .ok (.dastore, 1) := by decide +kernel
theorem d3_224 : decode prog_14_method_6_code 224 = .ok (.aload 4, 2) := by decide +kernel
theorem d3_226 : decode prog_14_method_6_code 226 = .ok (.iconst 2, 1) := by decide +kernel
theorem d3_227 : decode prog_14_method_6_code 227 = .ok (.aaload, 1) := by decide +kernel
theorem d3_228 : decode prog_14_method_6_code 228 = .ok (.iconst 0, 1) := by decide +kernel
theorem d3_229 : decode prog_14_method_6_code 229 = .ok (.dup2, 1) := by decide +kernel
theorem d3_230 : decode prog_14_method_6_code 230 = .ok (.daload, 1) := by decide +kernel
theorem d3_231 : decode prog_14_method_6_code 231 = .ok (.ldc2_w 55, 3) := by decide +kernel
theorem d3_234 : decode prog_14_method_6_code 234 = .ok (.aload_n 0, 1) := by decide +kernel
theorem d3_235 : decode prog_14_method_6_code 235 = .ok (.getfield 19, 3) := by decide +kernel
theorem d3_238 : decode prog_14_method_6_code 238 = .ok (.dmul, 1) := by decide +kernel
theorem d3_239 : decode prog_14_method_6_code 239 = .ok (.aload_n 0, 1) := by decide +kernel
theorem d3_240 : decode prog_14_method_6_code 240 = .ok (.getfield 13, 3) := by decide +kernel
theorem d3_243 : decode prog_14_method_6_code 243 = .ok (.dmul, 1) := by decide +kernel
theorem d3_244 : decode prog_14_method_6_code 244 = .ok (.dadd, 1) := by decide +kernel
theorem d3_245 : decode prog_14_method_6_code 245 = .ok (.dastore, 1) := by decide +kernel
theorem d3_246 : decode prog_14_method_6_code 246 = .ok (.aload 4, 2) := by decide +kernel
theorem d3_248 : decode prog_14_method_6_code 248 = .ok (.iconst 2, 1) := by decide +kernel
theorem d3_249 : decode prog_14_method_6_code 249 = .ok (.aaload, 1) := by decide +kernel
theorem d3_250 : decode prog_14_method_6_code 250 = .ok (.iconst 1, 1) := by decide +kernel
theorem d3_251 : decode prog_14_method_6_code 251 = .ok (.dup2, 1) := by decide +kernel
theorem d3_252 : decode prog_14_method_6_code 252 = .ok (.daload, 1) := by decide +kernel
theorem d3_253 : decode prog_14_method_6_code 253 = .ok (.ldc2_w 55, 3) := by decide +kernel
theorem d3_256 : decode prog_14_method_6_code 256 = .ok (.aload_n 0, 1) := by decide +kernel
theorem d3_257 : decode prog_14_method_6_code 257 = .ok (.getfield 19, 3) := by decide +kernel
theorem d3_260 : decode prog_14_method_6_code 260 = .ok (.dmul, 1) := by decide +kernel
theorem d3_261 : decode prog_14_method_6_code 261 = .ok (.aload_n 0, 1) := by decide +kernel
theorem d3_262 : decode prog_14_method_6_code 262 = .ok (.getfield 7, 3) := by decide +kernel
theorem d3_265 : decode prog_14_method_6_code 265 = .ok (.dmul, 1) := by decide +kernel
theorem d3_266 : decode prog_14_method_6_code 266 = .ok (.dsub, 1) := by decide +kernel
theorem d3_267 : decode prog_14_method_6_code 267 = .ok (.dastore, 1) := by decide +kernel
theorem d3_268 : decode prog_14_method_6_code 268 = .ok (.aload 4, 2) := by decide +kernel
theorem d3_270 : decode prog_14_method_6_code 270 = .ok (.areturn, 1) := by decide +kernel
theorem pn_3 : plainName "com/example/slewstone/slewstone/control/AttitudeQuaternion" = true := by first | (simp [plainName, overriddenIn]; done) | decide +kernel
def own_LA (x0 x1 x2 x3 : UInt64) : List UInt64 := [(FP.dmul x3 x3), (FP.dmul x0 x0), (FP.dmul x1 x1), (FP.dadd (FP.dmul x0 x0) (FP.dmul x1 x1)), (FP.dmul x2 x2), (FP.dadd (FP.dadd (FP.dmul x0 x0) (FP.dmul x1 x1)) (FP.dmul x2 x2)), (FP.dsub (FP.dmul x3 x3) (FP.dadd (FP.dadd (FP.dmul x0 x0) (FP.dmul x1 x1)) (FP.dmul x2 x2))), (FP.dmul 4611686018427387904 x0), (FP.dmul (FP.dmul 4611686018427387904 x0) x0), (FP.dmul 4611686018427387904 x0), (FP.dmul (FP.dmul 4611686018427387904 x0) x1), (FP.dmul 4611686018427387904 x0), (FP.dmul (FP.dmul 4611686018427387904 x0) x2), (FP.dadd (FP.dmul (FP.dmul 4611686018427387904 x0) x0) (FP.dsub (FP.dmul x3 x3) (FP.dadd (FP.dadd (FP.dmul x0 x0) (FP.dmul x1 x1)) (FP.dmul x2 x2)))), (FP.dmul 4611686018427387904 x1), (FP.dmul (FP.dmul 4611686018427387904 x1) x0), (FP.dmul 4611686018427387904 x1), (FP.dmul (FP.dmul 4611686018427387904 x1) x1), (FP.dmul 4611686018427387904 x1), (FP.dmul (FP.dmul 4611686018427387904 x1) x2), (FP.dadd (FP.dmul (FP.dmul 4611686018427387904 x1) x1) (FP.dsub (FP.dmul x3 x3) (FP.dadd (FP.dadd (FP.dmul x0 x0) (FP.dmul x1 x1)) (FP.dmul x2 x2)))), (FP.dmul 4611686018427387904 x2), (FP.dmul (FP.dmul 4611686018427387904 x2) x0), (FP.dmul 4611686018427387904 x2), (FP.dmul (FP.dmul 4611686018427387904 x2) x1), (FP.dmul 4611686018427387904 x2), (FP.dmul (FP.dmul 4611686018427387904 x2) x2), (FP.dadd (FP.dmul (FP.dmul 4611686018427387904 x2) x2) (FP.dsub (FP.dmul x3 x3) (FP.dadd (FP.dadd (FP.dmul x0 x0) (FP.dmul x1 x1)) (FP.dmul x2 x2)))), (FP.dmul 4611686018427387904 x3), (FP.dmul (FP.dmul 4611686018427387904 x3) x2), (FP.dadd (FP.dmul (FP.dmul 4611686018427387904 x0) x1) (FP.dmul (FP.dmul 4611686018427387904 x3) x2)), (FP.dmul 4611686018427387904 x3), (FP.dmul (FP.dmul 4611686018427387904 x3) x1), (FP.dsub (FP.dmul (FP.dmul 4611686018427387904 x0) x2) (FP.dmul (FP.dmul 4611686018427387904 x3) x1)), (FP.dmul 4611686018427387904 x3), (FP.dmul (FP.dmul 4611686018427387904 x3) x2), (FP.dsub (FP.dmul (FP.dmul 4611686018427387904 x1) x0) (FP.dmul (FP.dmul 4611686018427387904 x3) x2)), (FP.dmul 4611686018427387904 x3), (FP.dmul (FP.dmul 4611686018427387904 x3) x0), (FP.dadd (FP.dmul (FP.dmul 4611686018427387904 x1) x2) (FP.dmul (FP.dmul 4611686018427387904 x3) x0)), (FP.dmul 4611686018427387904 x3), (FP.dmul (FP.dmul 4611686018427387904 x3) x1), (FP.dadd (FP.dmul (FP.dmul 4611686018427387904 x2) x0) (FP.dmul (FP.dmul 4611686018427387904 x3) x1)), (FP.dmul 4611686018427387904 x3), (FP.dmul (FP.dmul 4611686018427387904 x3) x0), (FP.dsub (FP.dmul (FP.dmul 4611686018427387904 x2) x1) (FP.dmul (FP.dmul 4611686018427387904 x3) x0))]
def own_LM (x0 x1 x2 x3 : UInt64) : List UInt64 := [(FP.dmul x0 x0), (FP.dmul x1 x1), (FP.dsub (FP.dmul x0 x0) (FP.dmul x1 x1)), (FP.dmul x2 x2), (FP.dsub (FP.dsub (FP.dmul x0 x0) (FP.dmul x1 x1)) (FP.dmul x2 x2)), (FP.dmul x3 x3), (FP.dadd (FP.dsub (FP.dsub (FP.dmul x0 x0) (FP.dmul x1 x1)) (FP.dmul x2 x2)) (FP.dmul x3 x3)), (FP.dmul (FP.dneg x0) x0), (FP.dmul x1 x1), (FP.dadd (FP.dmul (FP.dneg x0) x0) (FP.dmul x1 x1)), (FP.dmul x2 x2), (FP.dsub (FP.dadd (FP.dmul (FP.dneg x0) x0) (FP.dmul x1 x1)) (FP.dmul x2 x2)), (FP.dmul x3 x3), (FP.dadd (FP.dsub (FP.dadd (FP.dmul (FP.dneg x0) x0) (FP.dmul x1 x1)) (FP.dmul x2 x2)) (FP.dmul x3 x3)), (FP.dmul (FP.dneg x0) x0), (FP.dmul x1 x1), (FP.dsub (FP.dmul (FP.dneg x0) x0) (FP.dmul x1 x1)), (FP.dmul x2 x2), (FP.dadd (FP.dsub (FP.dmul (FP.dneg x0) x0) (FP.dmul x1 x1)) (FP.dmul x2 x2)), (FP.dmul x3 x3), (FP.dadd (FP.dadd (FP.dsub (FP.dmul (FP.dneg x0) x0) (FP.dmul x1 x1)) (FP.dmul x2 x2)) (FP.dmul x3 x3)), (FP.dmul x0 x1), (FP.dmul x2 x3), (FP.dadd (FP.dmul x0 x1) (FP.dmul x2 x3)), (FP.dmul 4611686018427387904 (FP.dadd (FP.dmul x0 x1) (FP.dmul x2 x3))), (FP.dmul x0 x2), (FP.dmul x1 x3), (FP.dsub (FP.dmul x0 x2) (FP.dmul x1 x3)), (FP.dmul 4611686018427387904 (FP.dsub (FP.dmul x0 x2) (FP.dmul x1 x3))), (FP.dmul x0 x1), (FP.dmul x2 x3), (FP.dsub (FP.dmul x0 x1) (FP.dmul x2 x3)), (FP.dmul 4611686018427387904 (FP.dsub (FP.dmul x0 x1) (FP.dmul x2 x3))), (FP.dmul x1 x2), (FP.dmul x0 x3), (FP.dadd (FP.dmul x1 x2) (FP.dmul x0 x3)), (FP.dmul 4611686018427387904 (FP.dadd (FP.dmul x1 x2) (FP.dmul x0 x3))), (FP.dmul x0 x2), (FP.dmul x1 x3), (FP.dadd (FP.dmul x0 x2) (FP.dmul x1 x3)), (FP.dmul 4611686018427387904 (FP.dadd (FP.dmul x0 x2) (FP.dmul x1 x3))), (FP.dmul x1 x2), (FP.dmul x0 x3), (FP.dsub (FP.dmul x1 x2) (FP.dmul x0 x3)), (FP.dmul 4611686018427387904 (FP.dsub (FP.dmul x1 x2) (FP.dmul x0 x3)))]
def own_LC (x0 x1 x2 x3 : UInt64) : List (UInt64 × UInt64) := [((FP.dadd (FP.dmul (FP.dmul 4611686018427387904 x0) x0) (FP.dsub (FP.dmul x3 x3) (FP.dadd (FP.dadd (FP.dmul x0 x0) (FP.dmul x1 x1)) (FP.dmul x2 x2)))), (FP.dadd (FP.dsub (FP.dsub (FP.dmul x0 x0) (FP.dmul x1 x1)) (FP.dmul x2 x2)) (FP.dmul x3 x3))), ((FP.dadd (FP.dmul (FP.dmul 4611686018427387904 x0) x1) (FP.dmul (FP.dmul 4611686018427387904 x3) x2)), (FP.dmul 4611686018427387904 (FP.dadd (FP.dmul x0 x1) (FP.dmul x2 x3)))), ((FP.dsub (FP.dmul (FP.dmul 4611686018427387904 x0) x2) (FP.dmul (FP.dmul 4611686018427387904 x3) x1)), (FP.dmul 4611686018427387904 (FP.dsub (FP.dmul x0 x2) (FP.dmul x1 x3)))), ((FP.dsub (FP.dmul (FP.dmul 4611686018427387904 x1) x0) (FP.dmul (FP.dmul 4611686018427387904 x3) x2)), (FP.dmul 4611686018427387904 (FP.dsub (FP.dmul x0 x1) (FP.dmul x2 x3)))), ((FP.dadd (FP.dmul (FP.dmul 4611686018427387904 x1) x1) (FP.dsub (FP.dmul x3 x3) (FP.dadd (FP.dadd (FP.dmul x0 x0) (FP.dmul x1 x1)) (FP.dmul x2 x2)))), (FP.dadd (FP.dsub (FP.dadd (FP.dmul (FP.dneg x0) x0) (FP.dmul x1 x1)) (FP.dmul x2 x2)) (FP.dmul x3 x3))), ((FP.dadd (FP.dmul (FP.dmul 4611686018427387904 x1) x2) (FP.dmul (FP.dmul 4611686018427387904 x3) x0)), (FP.dmul 4611686018427387904 (FP.dadd (FP.dmul x1 x2) (FP.dmul x0 x3)))), ((FP.dadd (FP.dmul (FP.dmul 4611686018427387904 x2) x0) (FP.dmul (FP.dmul 4611686018427387904 x3) x1)), (FP.dmul 4611686018427387904 (FP.dadd (FP.dmul x0 x2) (FP.dmul x1 x3)))), ((FP.dsub (FP.dmul (FP.dmul 4611686018427387904 x2) x1) (FP.dmul (FP.dmul 4611686018427387904 x3) x0)), (FP.dmul 4611686018427387904 (FP.dsub (FP.dmul x1 x2) (FP.dmul x0 x3)))), ((FP.dadd (FP.dmul (FP.dmul 4611686018427387904 x2) x2) (FP.dsub (FP.dmul x3 x3) (FP.dadd (FP.dadd (FP.dmul x0 x0) (FP.dmul x1 x1)) (FP.dmul x2 x2)))), (FP.dadd (FP.dadd (FP.dsub (FP.dmul (FP.dneg x0) x0) (FP.dmul x1 x1)) (FP.dmul x2 x2)) (FP.dmul x3 x3)))]
def own_good (x0 x1 x2 x3 : UInt64) : Bool := (own_LA x0 x1 x2 x3).all (fun r => decide (r &&& 0x7fffffffffffffff ≤ 0x7ff0000000000000)) && (own_LM x0 x1 x2 x3).all (fun r => decide (r &&& 0x7fffffffffffffff ≤ 0x7ff0000000000000)) && (own_LC x0 x1 x2 x3).all (fun q => decide (cmpValue (FP.dcmp q.1 q.2) .l = 0))
theorem own_good_e {x0 x1 x2 x3 : UInt64} (h : own_good x0 x1 x2 x3 = true) : (own_LA x0 x1 x2 x3).all (fun r => decide (r &&& 0x7fffffffffffffff ≤ 0x7ff0000000000000)) = true ∧ (own_LM x0 x1 x2 x3).all (fun r => decide (r &&& 0x7fffffffffffffff ≤ 0x7ff0000000000000)) = true ∧ (own_LC x0 x1 x2 x3).all (fun q => decide (cmpValue (FP.dcmp q.1 q.2) .l = 0)) = true := by
  unfold own_good at h
  simp only [Bool.and_eq_true] at h
  exact ⟨h.1.1, h.1.2, h.2⟩
theorem own_eqs {L : List (UInt64 × UInt64)} (h : L.all (fun q => decide (cmpValue (FP.dcmp q.1 q.2) .l = 0)) = true) {k : Nat} {a b : UInt64} (hk : L[k]? = some (a, b)) : cmpValue (FP.dcmp a b) .l = 0 :=
  of_decide_eq_true (List.all_eq_true.mp h (a, b) (List.mem_of_getElem? hk))
theorem ef_3 (z0 : Addr) (m : MethodId) : entryFrame m #[.ref z0] 7 = mkF m 0 #[.val (.ref z0), .unset, .unset, .unset, .unset, .unset, .unset] [] := by first | (simp [entryFrame, mkF, argsToLocals, Value.category, maxLocals]; done) | rfl
set_option maxRecDepth 65536 in
set_option maxHeartbeats 40000000 in
theorem rm_3 (l : Launch) (Z : State) (a0 : Array Value) (hw : ∀ d ∈ tables_1, d.before a0 Z = true) (ws : List Jvm.Cond) (a : Addr) (x0 : UInt64) (x1 : UInt64) (x2 : UInt64) (x3 : UInt64) (h0 : Heap) (n0 : Nat) (Z0 : n0 ≤ h0.size) (Gq1 : (Fld Z h0 a "com/example/slewstone/slewstone/control/AttitudeQuaternion" "q1" "D" (.double x0))) (Gq2 : (Fld Z h0 a "com/example/slewstone/slewstone/control/AttitudeQuaternion" "q2" "D" (.double x1))) (Gq3 : (Fld Z h0 a "com/example/slewstone/slewstone/control/AttitudeQuaternion" "q3" "D" (.double x2))) (Gq4 : (Fld Z h0 a "com/example/slewstone/slewstone/control/AttitudeQuaternion" "q4" "D" (.double x3))) (hN : (own_LA x0 x1 x2 x3).all (fun r => decide (r &&& 0x7fffffffffffffff ≤ 0x7ff0000000000000)) = true) :
    OwnMet l Z (⟨"com/example/slewstone/slewstone/control/AttitudeQuaternion", "attitudeMatrix", "()[[D"⟩ : MethodName) prog_14_method_6_code 7 (some (.array (.array .double))) ws ({ frames := 0, cells := 5, slots := 15, locals := 0 } : Room) #[.ref a] h0 (fun v h L => ∃ (r b0 b1 b2 : Addr) (kA kC : ClassId), v = some (.ref r) ∧ Fr n0 L ∧ Keep h0 h [] ∧ h0.size ≤ r ∧ h0.size ≤ b0 ∧ h0.size ≤ b1 ∧ h0.size ≤ b2 ∧ r ≠ b0 ∧ r ≠ b1 ∧ r ≠ b2 ∧ b0 ≠ b1 ∧ b0 ≠ b2 ∧ b1 ≠ b2 ∧ Arv Z h r kA (.array .double) (3 : Int32) [.ref b0, .ref b1, .ref b2] .null ∧ Arv Z h b0 kC .double (3 : Int32) [.double (FP.dadd (FP.dmul (FP.dmul 4611686018427387904 x0) x0) (FP.dsub (FP.dmul x3 x3) (FP.dadd (FP.dadd (FP.dmul x0 x0) (FP.dmul x1 x1)) (FP.dmul x2 x2)))), .double (FP.dadd (FP.dmul (FP.dmul 4611686018427387904 x0) x1) (FP.dmul (FP.dmul 4611686018427387904 x3) x2)), .double (FP.dsub (FP.dmul (FP.dmul 4611686018427387904 x0) x2) (FP.dmul (FP.dmul 4611686018427387904 x3) x1))] (.double 0) ∧ Arv Z h b1 kC .double (3 : Int32) [.double (FP.dsub (FP.dmul (FP.dmul 4611686018427387904 x1) x0) (FP.dmul (FP.dmul 4611686018427387904 x3) x2)), .double (FP.dadd (FP.dmul (FP.dmul 4611686018427387904 x1) x1) (FP.dsub (FP.dmul x3 x3) (FP.dadd (FP.dadd (FP.dmul x0 x0) (FP.dmul x1 x1)) (FP.dmul x2 x2)))), .double (FP.dadd (FP.dmul (FP.dmul 4611686018427387904 x1) x2) (FP.dmul (FP.dmul 4611686018427387904 x3) x0))] (.double 0) ∧ Arv Z h b2 kC .double (3 : Int32) [.double (FP.dadd (FP.dmul (FP.dmul 4611686018427387904 x2) x0) (FP.dmul (FP.dmul 4611686018427387904 x3) x1)), .double (FP.dsub (FP.dmul (FP.dmul 4611686018427387904 x2) x1) (FP.dmul (FP.dmul 4611686018427387904 x3) x0)), .double (FP.dadd (FP.dmul (FP.dmul 4611686018427387904 x2) x2) (FP.dsub (FP.dmul x3 x3) (FP.dadd (FP.dadd (FP.dmul x0 x0) (FP.dmul x1 x1)) (FP.dmul x2 x2))))] (.double 0)) := by
  refine own_met (plainFor_of_name pn_3) (ef_3 a) ?_
  intro p e s m below meth c s₁ hx hby hml hZ hown hnm hret hlk X0 e0
  have N0 := Fr.nil n0
  refine s_iconst X0 hx (3 : Int32) (hb hby d3_0) (pc' := 1) rfl rfl ?_
  refine s_newP X0 hx hZ (hw _ (List.mem_of_getElem? (i := 23) rfl)) e0 (hb hby d3_1) (pc' := 3) rfl (by decide) 3 (by decide) (by decide) (by decide) (by decide) (ad := "[D") (by decide) ?_
  intro T1 h1 c1 o1 X1 e1 E1 g1 V1 Ex1
  have ne1_a : a ≠ o1 := Nat.ne_of_lt (by rw [g1]; exact Gq1.lt)
  have hg1 : h0.size ≤ o1 := by rw [g1]; exact (Nat.le_refl _)
  have H1 : h0.size ≤ h1.size := Nat.le_trans (Nat.le_refl _) E1.1
  have U1 : Arv Z h1 o1 c1 .double (3 : Int32) [.double 0, .double 0, .double 0] (.double 0) := V1.pad (pad_rep [] _ 3)
  refine s_dup X1 hx (hb hby d3_3) (pc' := 4) rfl rfl ?_
  refine s_iconst X1 hx (0 : Int32) (hb hby d3_4) (pc' := 5) rfl rfl ?_
  refine s_aloadN X1 hx (hb hby d3_5) (pc' := 6) rfl rfl rfl ?_
  have fF2 := (Gq1.ext E1)
  refine s_getF X1 hx hZ hown (hw _ (List.mem_of_getElem? (i := 10) rfl)) e1 fF2 (hb hby d3_6) (pc' := 9) rfl ?_
  intro T3 X3 e3
  refine s_dastore X3 hx hZ e3 U1 (by decide) 0 (by decide) (by simp) (hb hby d3_9) (pc' := 10) rfl ?_
  intro T4 h4 X4 e4 W4 V4
  have N4 := Fr.snoc X4 N0 (Nat.le_trans Z0 hg1)
  have U4 : Arv Z h4 o1 c1 .double (3 : Int32) [.double x0, .double 0, .double 0] (.double 0) := V4
  have H4 : h0.size ≤ h4.size := by rw [W4.size]; exact H1
  refine s_dup X4 hx (hb hby d3_10) (pc' := 11) rfl rfl ?_
  refine s_iconst X4 hx (1 : Int32) (hb hby d3_11) (pc' := 12) rfl rfl ?_
  refine s_aloadN X4 hx (hb hby d3_12) (pc' := 13) rfl rfl rfl ?_
  have fF5 := ((Gq2.ext E1).other W4 (Or.inl ne1_a))
  refine s_getF X4 hx hZ hown (hw _ (List.mem_of_getElem? (i := 12) rfl)) e4 fF5 (hb hby d3_13) (pc' := 16) rfl ?_
  intro T6 X6 e6
  refine s_dastore X6 hx hZ e6 U4 (by decide) 1 (by decide) (by simp) (hb hby d3_16) (pc' := 17) rfl ?_
  intro T7 h7 X7 e7 W7 V7
  have N7 := Fr.snoc X7 N4 (Nat.le_trans Z0 hg1)
  have U7 : Arv Z h7 o1 c1 .double (3 : Int32) [.double x0, .double x1, .double 0] (.double 0) := V7
  have H7 : h0.size ≤ h7.size := by rw [W7.size]; exact H4
  refine s_dup X7 hx (hb hby d3_17) (pc' := 18) rfl rfl ?_
  refine s_iconst X7 hx (2 : Int32) (hb hby d3_18) (pc' := 19) rfl rfl ?_
  refine s_aloadN X7 hx (hb hby d3_19) (pc' := 20) rfl rfl rfl ?_
  have fF8 := (((Gq3.ext E1).other W4 (Or.inl ne1_a)).other W7 (Or.inl ne1_a))
  refine s_getF X7 hx hZ hown (hw _ (List.mem_of_getElem? (i := 14) rfl)) e7 fF8 (hb hby d3_20) (pc' := 23) rfl ?_
  intro T9 X9 e9
  refine s_dastore X9 hx hZ e9 U7 (by decide) 2 (by decide) (by simp) (hb hby d3_23) (pc' := 24) rfl ?_
  intro T10 h10 X10 e10 W10 V10
  have N10 := Fr.snoc X10 N7 (Nat.le_trans Z0 hg1)
  have U10 : Arv Z h10 o1 c1 .double (3 : Int32) [.double x0, .double x1, .double x2] (.double 0) := V10
  have H10 : h0.size ≤ h10.size := by rw [W10.size]; exact H7
  refine s_astoreN X10 hx #[.val (.ref a), .val (.ref o1), .unset, .unset, .unset, .unset, .unset] (hb hby d3_24) (pc' := 25) rfl rfl rfl ?_
  refine s_aloadN X10 hx (hb hby d3_25) (pc' := 26) rfl rfl rfl ?_
  have fF11 := ((((Gq4.ext E1).other W4 (Or.inl ne1_a)).other W7 (Or.inl ne1_a)).other W10 (Or.inl ne1_a))
  refine s_getF X10 hx hZ hown (hw _ (List.mem_of_getElem? (i := 16) rfl)) e10 fF11 (hb hby d3_26) (pc' := 29) rfl ?_
  intro T12 X12 e12
  refine s_aloadN X12 hx (hb hby d3_29) (pc' := 30) rfl rfl rfl ?_
  refine s_getF X12 hx hZ hown (hw _ (List.mem_of_getElem? (i := 16) rfl)) e12 fF11 (hb hby d3_30) (pc' := 33) rfl ?_
  intro T13 X13 e13
  refine s_dmul X13 hx (FP.dmul x3 x3) (hb hby d3_33) (pc' := 34) rfl (own_all hN (k := 0) rfl) rfl ?_
  refine s_aloadN X13 hx (hb hby d3_34) (pc' := 35) rfl rfl rfl ?_
  have fF14 := (((fF2.other W4 (Or.inl ne1_a)).other W7 (Or.inl ne1_a)).other W10 (Or.inl ne1_a))
  refine s_getF X13 hx hZ hown (hw _ (List.mem_of_getElem? (i := 10) rfl)) e13 fF14 (hb hby d3_35) (pc' := 38) rfl ?_
  intro T15 X15 e15
  refine s_aloadN X15 hx (hb hby d3_38) (pc' := 39) rfl rfl rfl ?_
  refine s_getF X15 hx hZ hown (hw _ (List.mem_of_getElem? (i := 10) rfl)) e15 fF14 (hb hby d3_39) (pc' := 42) rfl ?_
  intro T16 X16 e16
  refine s_dmul X16 hx (FP.dmul x0 x0) (hb hby d3_42) (pc' := 43) rfl (own_all hN (k := 1) rfl) rfl ?_
  refine s_aloadN X16 hx (hb hby d3_43) (pc' := 44) rfl rfl rfl ?_
  have fF17 := ((fF5.other W7 (Or.inl ne1_a)).other W10 (Or.inl ne1_a))
  refine s_getF X16 hx hZ hown (hw _ (List.mem_of_getElem? (i := 12) rfl)) e16 fF17 (hb hby d3_44) (pc' := 47) rfl ?_
  intro T18 X18 e18
  refine s_aloadN X18 hx (hb hby d3_47) (pc' := 48) rfl rfl rfl ?_
  refine s_getF X18 hx hZ hown (hw _ (List.mem_of_getElem? (i := 12) rfl)) e18 fF17 (hb hby d3_48) (pc' := 51) rfl ?_
  intro T19 X19 e19
  refine s_dmul X19 hx (FP.dmul x1 x1) (hb hby d3_51) (pc' := 52) rfl (own_all hN (k := 2) rfl) rfl ?_
  refine s_dadd X19 hx (FP.dadd (FP.dmul x0 x0) (FP.dmul x1 x1)) (hb hby d3_52) (pc' := 53) rfl (own_all hN (k := 3) rfl) rfl ?_
  refine s_aloadN X19 hx (hb hby d3_53) (pc' := 54) rfl rfl rfl ?_
  have fF20 := (fF8.other W10 (Or.inl ne1_a))
  refine s_getF X19 hx hZ hown (hw _ (List.mem_of_getElem? (i := 14) rfl)) e19 fF20 (hb hby d3_54) (pc' := 57) rfl ?_
  intro T21 X21 e21
  refine s_aloadN X21 hx (hb hby d3_57) (pc' := 58) rfl rfl rfl ?_
  refine s_getF X21 hx hZ hown (hw _ (List.mem_of_getElem? (i := 14) rfl)) e21 fF20 (hb hby d3_58) (pc' := 61) rfl ?_
  intro T22 X22 e22
  refine s_dmul X22 hx (FP.dmul x2 x2) (hb hby d3_61) (pc' := 62) rfl (own_all hN (k := 4) rfl) rfl ?_
  refine s_dadd X22 hx (FP.dadd (FP.dadd (FP.dmul x0 x0) (FP.dmul x1 x1)) (FP.dmul x2 x2)) (hb hby d3_62) (pc' := 63) rfl (own_all hN (k := 5) rfl) rfl ?_
  refine s_dsub X22 hx (FP.dsub (FP.dmul x3 x3) (FP.dadd (FP.dadd (FP.dmul x0 x0) (FP.dmul x1 x1)) (FP.dmul x2 x2))) (hb hby d3_63) (pc' := 64) rfl (own_all hN (k := 6) rfl) rfl ?_
  refine s_dstoreN X22 hx #[.val (.ref a), .val (.ref o1), .val (.double (FP.dsub (FP.dmul x3 x3) (FP.dadd (FP.dadd (FP.dmul x0 x0) (FP.dmul x1 x1)) (FP.dmul x2 x2)))), .second, .unset, .unset, .unset] (hb hby d3_64) (pc' := 65) rfl rfl ?_
  refine s_iconst X22 hx (3 : Int32) (hb hby d3_65) (pc' := 66) rfl rfl ?_
  refine s_iconst X22 hx (3 : Int32) (hb hby d3_66) (pc' := 67) rfl rfl ?_
  refine s_grid3 X22 hx hZ hown (hw _ (List.mem_of_getElem? (i := 24) rfl)) (hw _ (List.mem_of_getElem? (i := 25) rfl)) (hw _ (List.mem_of_getElem? (i := 23) rfl)) e22 (hb hby d3_67) (pc' := 71) rfl (by decide) (by decide) ?_
  intro T23 h23 cA23 cC23 o23 b23_0 b23_1 b23_2 X23 e23 E23 g23 g23_0 g23_1 g23_2 V23 V23_0 V23_1 V23_2
  have ne_a_o23 : a ≠ o23 := Nat.ne_of_lt (Nat.lt_of_lt_of_le fF14.lt (by rw [g23]; omega))
  have ne_a_b23_0 : a ≠ b23_0 := Nat.ne_of_lt (Nat.lt_of_lt_of_le fF14.lt (by rw [g23_0]; omega))
  have ne_a_b23_1 : a ≠ b23_1 := Nat.ne_of_lt (Nat.lt_of_lt_of_le fF14.lt (by rw [g23_1]; omega))
  have ne_a_b23_2 : a ≠ b23_2 := Nat.ne_of_lt (Nat.lt_of_lt_of_le fF14.lt (by rw [g23_2]; omega))
  have fE24 := (((Ex1.wr W4).wr W7).wr W10)
  have ne_o1_o23 : o1 ≠ o23 := Nat.ne_of_lt (Nat.lt_of_lt_of_le fE24.lt (by rw [g23]; omega))
  have ne_o1_b23_0 : o1 ≠ b23_0 := Nat.ne_of_lt (Nat.lt_of_lt_of_le fE24.lt (by rw [g23_0]; omega))
  have ne_o1_b23_1 : o1 ≠ b23_1 := Nat.ne_of_lt (Nat.lt_of_lt_of_le fE24.lt (by rw [g23_1]; omega))
  have ne_o1_b23_2 : o1 ≠ b23_2 := Nat.ne_of_lt (Nat.lt_of_lt_of_le fE24.lt (by rw [g23_2]; omega))
  have ne_o23_b23_0 : o23 ≠ b23_0 := Nat.ne_of_lt (by rw [g23, g23_0]; omega)
  have ne_o23_b23_1 : o23 ≠ b23_1 := Nat.ne_of_lt (by rw [g23, g23_1]; omega)
  have ne_o23_b23_2 : o23 ≠ b23_2 := Nat.ne_of_lt (by rw [g23, g23_2]; omega)
  have hg_o23 : h0.size ≤ o23 := Nat.le_trans H10 (by rw [g23]; omega)
  have ne_b23_0_b23_1 : b23_0 ≠ b23_1 := Nat.ne_of_lt (by rw [g23_0, g23_1]; omega)
  have ne_b23_0_b23_2 : b23_0 ≠ b23_2 := Nat.ne_of_lt (by rw [g23_0, g23_2]; omega)
  have hg_b23_0 : h0.size ≤ b23_0 := Nat.le_trans H10 (by rw [g23_0]; omega)
  have ne_b23_1_b23_2 : b23_1 ≠ b23_2 := Nat.ne_of_lt (by rw [g23_1, g23_2]; omega)
  have hg_b23_1 : h0.size ≤ b23_1 := Nat.le_trans H10 (by rw [g23_1]; omega)
  have hg_b23_2 : h0.size ≤ b23_2 := Nat.le_trans H10 (by rw [g23_2]; omega)
  have H23 : h0.size ≤ h23.size := Nat.le_trans H10 E23.1
  have U23_0 : Arv Z h23 b23_0 cC23 .double (3 : Int32) [.double 0, .double 0, .double 0] (.double 0) := V23_0.pad (pad_rep [] _ 3)
  have U23_1 : Arv Z h23 b23_1 cC23 .double (3 : Int32) [.double 0, .double 0, .double 0] (.double 0) := V23_1.pad (pad_rep [] _ 3)
  have U23_2 : Arv Z h23 b23_2 cC23 .double (3 : Int32) [.double 0, .double 0, .double 0] (.double 0) := V23_2.pad (pad_rep [] _ 3)
  refine s_astore X23 hx #[.val (.ref a), .val (.ref o1), .val (.double (FP.dsub (FP.dmul x3 x3) (FP.dadd (FP.dadd (FP.dmul x0 x0) (FP.dmul x1 x1)) (FP.dmul x2 x2)))), .second, .val (.ref o23), .unset, .unset] (hb hby d3_71) (pc' := 73) rfl rfl rfl ?_
  refine s_iconst X23 hx (0 : Int32) (hb hby d3_73) (pc' := 74) rfl rfl ?_
  refine s_istore X23 hx #[.val (.ref a), .val (.ref o1), .val (.double (FP.dsub (FP.dmul x3 x3) (FP.dadd (FP.dadd (FP.dmul x0 x0) (FP.dmul x1 x1)) (FP.dmul x2 x2)))), .second, .val (.ref o23), .val (.int (0 : Int32)), .unset] (hb hby d3_74) (pc' := 76) rfl rfl ?_
  refine s_iload X23 hx (hb hby d3_76) (pc' := 78) rfl rfl ?_
  refine s_iconst X23 hx (3 : Int32) (hb hby d3_78) (pc' := 79) rfl rfl ?_
  refine s_icmpN X23 hx (hb hby d3_79) (pc' := 82) rfl (by decide) ?_
  refine s_iconst X23 hx (0 : Int32) (hb hby d3_82) (pc' := 83) rfl rfl ?_
  refine s_istore X23 hx #[.val (.ref a), .val (.ref o1), .val (.double (FP.dsub (FP.dmul x3 x3) (FP.dadd (FP.dadd (FP.dmul x0 x0) (FP.dmul x1 x1)) (FP.dmul x2 x2)))), .second, .val (.ref o23), .val (.int (0 : Int32)), .val (.int (0 : Int32))] (hb hby d3_83) (pc' := 85) rfl rfl ?_
  refine s_iload X23 hx (hb hby d3_85) (pc' := 87) rfl rfl ?_
  refine s_iconst X23 hx (3 : Int32) (hb hby d3_87) (pc' := 88) rfl rfl ?_
  refine s_icmpN X23 hx (hb hby d3_88) (pc' := 91) rfl (by decide) ?_
  refine s_aload X23 hx (hb hby d3_91) (pc' := 93) rfl rfl rfl ?_
  refine s_iload X23 hx (hb hby d3_93) (pc' := 95) rfl rfl ?_
  refine s_aaload X23 hx hZ e23 V23 rfl (by decide) (v := .ref b23_0) rfl (hb hby d3_95) (pc' := 96) rfl ?_
  refine s_iload X23 hx (hb hby d3_96) (pc' := 98) rfl rfl ?_
  refine s_ldcD X23 hx hZ hown (hw _ (List.mem_of_getElem? (i := 26) rfl)) (hb hby d3_98) (pc' := 101) rfl ?_
  refine s_aloadN X23 hx (hb hby d3_101) (pc' := 102) rfl rfl rfl ?_
  refine s_iload X23 hx (hb hby d3_102) (pc' := 104) rfl rfl ?_
  have fV25 := (U10.ext E23)
  refine s_daload X23 hx hZ e23 fV25 (by decide) (v := .double x0) rfl (hb hby d3_104) (pc' := 105) rfl ?_
  refine s_dmul X23 hx (FP.dmul 4611686018427387904 x0) (hb hby d3_105) (pc' := 106) rfl (own_all hN (k := 7) rfl) rfl ?_
  refine s_aloadN X23 hx (hb hby d3_106) (pc' := 107) rfl rfl rfl ?_
  refine s_iload X23 hx (hb hby d3_107) (pc' := 109) rfl rfl ?_
  refine s_daload X23 hx hZ e23 fV25 (by decide) (v := .double x0) rfl (hb hby d3_109) (pc' := 110) rfl ?_
  refine s_dmul X23 hx (FP.dmul (FP.dmul 4611686018427387904 x0) x0) (hb hby d3_110) (pc' := 111) rfl (own_all hN (k := 8) rfl) rfl ?_
  refine s_dastore X23 hx hZ e23 U23_0 (by decide) 0 (by decide) (by simp) (hb hby d3_111) (pc' := 112) rfl ?_
  intro T26 h26 X26 e26 W26 V26
  have N26 := Fr.snoc X26 N10 (Nat.le_trans Z0 hg_b23_0)
  have U26 : Arv Z h26 b23_0 cC23 .double (3 : Int32) [.double (FP.dmul (FP.dmul 4611686018427387904 x0) x0), .double 0, .double 0] (.double 0) := V26
  have H26 : h0.size ≤ h26.size := by rw [W26.size]; exact H23
  refine s_iinc X26 hx (1 : Int32) #[.val (.ref a), .val (.ref o1), .val (.double (FP.dsub (FP.dmul x3 x3) (FP.dadd (FP.dadd (FP.dmul x0 x0) (FP.dmul x1 x1)) (FP.dmul x2 x2)))), .second, .val (.ref o23), .val (.int (0 : Int32)), .val (.int (1 : Int32))] (hb hby d3_112) (pc' := 115) rfl rfl (by decide) rfl ?_
  refine s_goto X26 hx (hb hby d3_115) (by decide) (pc' := 85) (by decide) ?_
  refine s_iload X26 hx (hb hby d3_85) (pc' := 87) rfl rfl ?_
  refine s_iconst X26 hx (3 : Int32) (hb hby d3_87) (pc' := 88) rfl rfl ?_
  refine s_icmpN X26 hx (hb hby d3_88) (pc' := 91) rfl (by decide) ?_
  refine s_aload X26 hx (hb hby d3_91) (pc' := 93) rfl rfl rfl ?_
  refine s_iload X26 hx (hb hby d3_93) (pc' := 95) rfl rfl ?_
  have fV27 := (V23.other W26 ne_o23_b23_0)
  refine s_aaload X26 hx hZ e26 fV27 rfl (by decide) (v := .ref b23_0) rfl (hb hby d3_95) (pc' := 96) rfl ?_
  refine s_iload X26 hx (hb hby d3_96) (pc' := 98) rfl rfl ?_
  refine s_ldcD X26 hx hZ hown (hw _ (List.mem_of_getElem? (i := 26) rfl)) (hb hby d3_98) (pc' := 101) rfl ?_
  refine s_aloadN X26 hx (hb hby d3_101) (pc' := 102) rfl rfl rfl ?_
  refine s_iload X26 hx (hb hby d3_102) (pc' := 104) rfl rfl ?_
  have fV28 := (fV25.other W26 ne_o1_b23_0)
  refine s_daload X26 hx hZ e26 fV28 (by decide) (v := .double x0) rfl (hb hby d3_104) (pc' := 105) rfl ?_
  refine s_dmul X26 hx (FP.dmul 4611686018427387904 x0) (hb hby d3_105) (pc' := 106) rfl (own_all hN (k := 9) rfl) rfl ?_
  refine s_aloadN X26 hx (hb hby d3_106) (pc' := 107) rfl rfl rfl ?_
  refine s_iload X26 hx (hb hby d3_107) (pc' := 109) rfl rfl ?_
  refine s_daload X26 hx hZ e26 fV28 (by decide) (v := .double x1) rfl (hb hby d3_109) (pc' := 110) rfl ?_
  refine s_dmul X26 hx (FP.dmul (FP.dmul 4611686018427387904 x0) x1) (hb hby d3_110) (pc' := 111) rfl (own_all hN (k := 10) rfl) rfl ?_
  refine s_dastore X26 hx hZ e26 U26 (by decide) 1 (by decide) (by simp) (hb hby d3_111) (pc' := 112) rfl ?_
  intro T29 h29 X29 e29 W29 V29
  have N29 := Fr.snoc X29 N26 (Nat.le_trans Z0 hg_b23_0)
  have U29 : Arv Z h29 b23_0 cC23 .double (3 : Int32) [.double (FP.dmul (FP.dmul 4611686018427387904 x0) x0), .double (FP.dmul (FP.dmul 4611686018427387904 x0) x1), .double 0] (.double 0) := V29
  have H29 : h0.size ≤ h29.size := by rw [W29.size]; exact H26
  refine s_iinc X29 hx (2 : Int32) #[.val (.ref a), .val (.ref o1), .val (.double (FP.dsub (FP.dmul x3 x3) (FP.dadd (FP.dadd (FP.dmul x0 x0) (FP.dmul x1 x1)) (FP.dmul x2 x2)))), .second, .val (.ref o23), .val (.int (0 : Int32)), .val (.int (2 : Int32))] (hb hby d3_112) (pc' := 115) rfl rfl (by decide) rfl ?_
  refine s_goto X29 hx (hb hby d3_115) (by decide) (pc' := 85) (by decide) ?_
  refine s_iload X29 hx (hb hby d3_85) (pc' := 87) rfl rfl ?_
  refine s_iconst X29 hx (3 : Int32) (hb hby d3_87) (pc' := 88) rfl rfl ?_
  refine s_icmpN X29 hx (hb hby d3_88) (pc' := 91) rfl (by decide) ?_
  refine s_aload X29 hx (hb hby d3_91) (pc' := 93) rfl rfl rfl ?_
  refine s_iload X29 hx (hb hby d3_93) (pc' := 95) rfl rfl ?_
  have fV30 := (fV27.other W29 ne_o23_b23_0)
  refine s_aaload X29 hx hZ e29 fV30 rfl (by decide) (v := .ref b23_0) rfl (hb hby d3_95) (pc' := 96) rfl ?_
  refine s_iload X29 hx (hb hby d3_96) (pc' := 98) rfl rfl ?_
  refine s_ldcD X29 hx hZ hown (hw _ (List.mem_of_getElem? (i := 26) rfl)) (hb hby d3_98) (pc' := 101) rfl ?_
  refine s_aloadN X29 hx (hb hby d3_101) (pc' := 102) rfl rfl rfl ?_
  refine s_iload X29 hx (hb hby d3_102) (pc' := 104) rfl rfl ?_
  have fV31 := (fV28.other W29 ne_o1_b23_0)
  refine s_daload X29 hx hZ e29 fV31 (by decide) (v := .double x0) rfl (hb hby d3_104) (pc' := 105) rfl ?_
  refine s_dmul X29 hx (FP.dmul 4611686018427387904 x0) (hb hby d3_105) (pc' := 106) rfl (own_all hN (k := 11) rfl) rfl ?_
  refine s_aloadN X29 hx (hb hby d3_106) (pc' := 107) rfl rfl rfl ?_
  refine s_iload X29 hx (hb hby d3_107) (pc' := 109) rfl rfl ?_
  refine s_daload X29 hx hZ e29 fV31 (by decide) (v := .double x2) rfl (hb hby d3_109) (pc' := 110) rfl ?_
  refine s_dmul X29 hx (FP.dmul (FP.dmul 4611686018427387904 x0) x2) (hb hby d3_110) (pc' := 111) rfl (own_all hN (k := 12) rfl) rfl ?_
  refine s_dastore X29 hx hZ e29 U29 (by decide) 2 (by decide) (by simp) (hb hby d3_111) (pc' := 112) rfl ?_
  intro T32 h32 X32 e32 W32 V32
  have N32 := Fr.snoc X32 N29 (Nat.le_trans Z0 hg_b23_0)
  have U32 : Arv Z h32 b23_0 cC23 .double (3 : Int32) [.double (FP.dmul (FP.dmul 4611686018427387904 x0) x0), .double (FP.dmul (FP.dmul 4611686018427387904 x0) x1), .double (FP.dmul (FP.dmul 4611686018427387904 x0) x2)] (.double 0) := V32
  have H32 : h0.size ≤ h32.size := by rw [W32.size]; exact H29
  refine s_iinc X32 hx (3 : Int32) #[.val (.ref a), .val (.ref o1), .val (.double (FP.dsub (FP.dmul x3 x3) (FP.dadd (FP.dadd (FP.dmul x0 x0) (FP.dmul x1 x1)) (FP.dmul x2 x2)))), .second, .val (.ref o23), .val (.int (0 : Int32)), .val (.int (3 : Int32))] (hb hby d3_112) (pc' := 115) rfl rfl (by decide) rfl ?_
  refine s_goto X32 hx (hb hby d3_115) (by decide) (pc' := 85) (by decide) ?_
  refine s_iload X32 hx (hb hby d3_85) (pc' := 87) rfl rfl ?_
  refine s_iconst X32 hx (3 : Int32) (hb hby d3_87) (pc' := 88) rfl rfl ?_
  refine s_icmpY X32 hx (hb hby d3_88) (by decide) (by decide) (pc' := 118) (by decide) ?_
  refine s_aload X32 hx (hb hby d3_118) (pc' := 120) rfl rfl rfl ?_
  refine s_iload X32 hx (hb hby d3_120) (pc' := 122) rfl rfl ?_
  have fV33 := (fV30.other W32 ne_o23_b23_0)
  refine s_aaload X32 hx hZ e32 fV33 rfl (by decide) (v := .ref b23_0) rfl (hb hby d3_122) (pc' := 123) rfl ?_
  refine s_iload X32 hx (hb hby d3_123) (pc' := 125) rfl rfl ?_
  refine s_dup2 X32 hx (hb hby d3_125) (pc' := 126) rfl rfl rfl ?_
  refine s_daload X32 hx hZ e32 U32 (by decide) (v := .double (FP.dmul (FP.dmul 4611686018427387904 x0) x0)) rfl (hb hby d3_126) (pc' := 127) rfl ?_
  refine s_dloadN X32 hx (hb hby d3_127) (pc' := 128) rfl rfl ?_
  refine s_dadd X32 hx (FP.dadd (FP.dmul (FP.dmul 4611686018427387904 x0) x0) (FP.dsub (FP.dmul x3 x3) (FP.dadd (FP.dadd (FP.dmul x0 x0) (FP.dmul x1 x1)) (FP.dmul x2 x2)))) (hb hby d3_128) (pc' := 129) rfl (own_all hN (k := 13) rfl) rfl ?_
  refine s_dastore X32 hx hZ e32 U32 (by decide) 0 (by decide) (by simp) (hb hby d3_129) (pc' := 130) rfl ?_
  intro T34 h34 X34 e34 W34 V34
  have N34 := Fr.snoc X34 N32 (Nat.le_trans Z0 hg_b23_0)
  have U34 : Arv Z h34 b23_0 cC23 .double (3 : Int32) [.double (FP.dadd (FP.dmul (FP.dmul 4611686018427387904 x0) x0) (FP.dsub (FP.dmul x3 x3) (FP.dadd (FP.dadd (FP.dmul x0 x0) (FP.dmul x1 x1)) (FP.dmul x2 x2)))), .double (FP.dmul (FP.dmul 4611686018427387904 x0) x1), .double (FP.dmul (FP.dmul 4611686018427387904 x0) x2)] (.double 0) := V34
  have H34 : h0.size ≤ h34.size := by rw [W34.size]; exact H32
  refine s_iinc X34 hx (1 : Int32) #[.val (.ref a), .val (.ref o1), .val (.double (FP.dsub (FP.dmul x3 x3) (FP.dadd (FP.dadd (FP.dmul x0 x0) (FP.dmul x1 x1)) (FP.dmul x2 x2)))), .second, .val (.ref o23), .val (.int (1 : Int32)), .val (.int (3 : Int32))] (hb hby d3_130) (pc' := 133) rfl rfl (by decide) rfl ?_
  refine s_goto X34 hx (hb hby d3_133) (by decide) (pc' := 76) (by decide) ?_
  refine s_iload X34 hx (hb hby d3_76) (pc' := 78) rfl rfl ?_
  refine s_iconst X34 hx (3 : Int32) (hb hby d3_78) (pc' := 79) rfl rfl ?_
  refine s_icmpN X34 hx (hb hby d3_79) (pc' := 82) rfl (by decide) ?_
  refine s_iconst X34 hx (0 : Int32) (hb hby d3_82) (pc' := 83) rfl rfl ?_
  refine s_istore X34 hx #[.val (.ref a), .val (.ref o1), .val (.double (FP.dsub (FP.dmul x3 x3) (FP.dadd (FP.dadd (FP.dmul x0 x0) (FP.dmul x1 x1)) (FP.dmul x2 x2)))), .second, .val (.ref o23), .val (.int (1 : Int32)), .val (.int (0 : Int32))] (hb hby d3_83) (pc' := 85) rfl rfl ?_
  refine s_iload X34 hx (hb hby d3_85) (pc' := 87) rfl rfl ?_
  refine s_iconst X34 hx (3 : Int32) (hb hby d3_87) (pc' := 88) rfl rfl ?_
  refine s_icmpN X34 hx (hb hby d3_88) (pc' := 91) rfl (by decide) ?_
  refine s_aload X34 hx (hb hby d3_91) (pc' := 93) rfl rfl rfl ?_
  refine s_iload X34 hx (hb hby d3_93) (pc' := 95) rfl rfl ?_
  have fV35 := (fV33.other W34 ne_o23_b23_0)
  refine s_aaload X34 hx hZ e34 fV35 rfl (by decide) (v := .ref b23_1) rfl (hb hby d3_95) (pc' := 96) rfl ?_
  refine s_iload X34 hx (hb hby d3_96) (pc' := 98) rfl rfl ?_
  refine s_ldcD X34 hx hZ hown (hw _ (List.mem_of_getElem? (i := 26) rfl)) (hb hby d3_98) (pc' := 101) rfl ?_
  refine s_aloadN X34 hx (hb hby d3_101) (pc' := 102) rfl rfl rfl ?_
  refine s_iload X34 hx (hb hby d3_102) (pc' := 104) rfl rfl ?_
  have fV36 := ((fV31.other W32 ne_o1_b23_0).other W34 ne_o1_b23_0)
  refine s_daload X34 hx hZ e34 fV36 (by decide) (v := .double x1) rfl (hb hby d3_104) (pc' := 105) rfl ?_
  refine s_dmul X34 hx (FP.dmul 4611686018427387904 x1) (hb hby d3_105) (pc' := 106) rfl (own_all hN (k := 14) rfl) rfl ?_
  refine s_aloadN X34 hx (hb hby d3_106) (pc' := 107) rfl rfl rfl ?_
  refine s_iload X34 hx (hb hby d3_107) (pc' := 109) rfl rfl ?_
  refine s_daload X34 hx hZ e34 fV36 (by decide) (v := .double x0) rfl (hb hby d3_109) (pc' := 110) rfl ?_
  refine s_dmul X34 hx (FP.dmul (FP.dmul 4611686018427387904 x1) x0) (hb hby d3_110) (pc' := 111) rfl (own_all hN (k := 15) rfl) rfl ?_
  have fV37 := ((((U23_1.other W26 (Ne.symm ne_b23_0_b23_1)).other W29 (Ne.symm ne_b23_0_b23_1)).other W32 (Ne.symm ne_b23_0_b23_1)).other W34 (Ne.symm ne_b23_0_b23_1))
  refine s_dastore X34 hx hZ e34 fV37 (by decide) 0 (by decide) (by simp) (hb hby d3_111) (pc' := 112) rfl ?_
  intro T38 h38 X38 e38 W38 V38
  have N38 := Fr.snoc X38 N34 (Nat.le_trans Z0 hg_b23_1)
  have U38 : Arv Z h38 b23_1 cC23 .double (3 : Int32) [.double (FP.dmul (FP.dmul 4611686018427387904 x1) x0), .double 0, .double 0] (.double 0) := V38
  have H38 : h0.size ≤ h38.size := by rw [W38.size]; exact H34
  refine s_iinc X38 hx (1 : Int32) #[.val (.ref a), .val (.ref o1), .val (.double (FP.dsub (FP.dmul x3 x3) (FP.dadd (FP.dadd (FP.dmul x0 x0) (FP.dmul x1 x1)) (FP.dmul x2 x2)))), .second, .val (.ref o23), .val (.int (1 : Int32)), .val (.int (1 : Int32))] (hb hby d3_112) (pc' := 115) rfl rfl (by decide) rfl ?_
  refine s_goto X38 hx (hb hby d3_115) (by decide) (pc' := 85) (by decide) ?_
  refine s_iload X38 hx (hb hby d3_85) (pc' := 87) rfl rfl ?_
  refine s_iconst X38 hx (3 : Int32) (hb hby d3_87) (pc' := 88) rfl rfl ?_
  refine s_icmpN X38 hx (hb hby d3_88) (pc' := 91) rfl (by decide) ?_
  refine s_aload X38 hx (hb hby d3_91) (pc' := 93) rfl rfl rfl ?_
  refine s_iload X38 hx (hb hby d3_93) (pc' := 95) rfl rfl ?_
  have fV39 := (fV35.other W38 ne_o23_b23_1)
  refine s_aaload X38 hx hZ e38 fV39 rfl (by decide) (v := .ref b23_1) rfl (hb hby d3_95) (pc' := 96) rfl ?_
  refine s_iload X38 hx (hb hby d3_96) (pc' := 98) rfl rfl ?_
  refine s_ldcD X38 hx hZ hown (hw _ (List.mem_of_getElem? (i := 26) rfl)) (hb hby d3_98) (pc' := 101) rfl ?_
  refine s_aloadN X38 hx (hb hby d3_101) (pc' := 102) rfl rfl rfl ?_
  refine s_iload X38 hx (hb hby d3_102) (pc' := 104) rfl rfl ?_
  have fV40 := (fV36.other W38 ne_o1_b23_1)
  refine s_daload X38 hx hZ e38 fV40 (by decide) (v := .double x1) rfl (hb hby d3_104) (pc' := 105) rfl ?_
  refine s_dmul X38 hx (FP.dmul 4611686018427387904 x1) (hb hby d3_105) (pc' := 106) rfl (own_all hN (k := 16) rfl) rfl ?_
  refine s_aloadN X38 hx (hb hby d3_106) (pc' := 107) rfl rfl rfl ?_
  refine s_iload X38 hx (hb hby d3_107) (pc' := 109) rfl rfl ?_
  refine s_daload X38 hx hZ e38 fV40 (by decide) (v := .double x1) rfl (hb hby d3_109) (pc' := 110) rfl ?_
  refine s_dmul X38 hx (FP.dmul (FP.dmul 4611686018427387904 x1) x1) (hb hby d3_110) (pc' := 111) rfl (own_all hN (k := 17) rfl) rfl ?_
  refine s_dastore X38 hx hZ e38 U38 (by decide) 1 (by decide) (by simp) (hb hby d3_111) (pc' := 112) rfl ?_
  intro T41 h41 X41 e41 W41 V41
  have N41 := Fr.snoc X41 N38 (Nat.le_trans Z0 hg_b23_1)
  have U41 : Arv Z h41 b23_1 cC23 .double (3 : Int32) [.double (FP.dmul (FP.dmul 4611686018427387904 x1) x0), .double (FP.dmul (FP.dmul 4611686018427387904 x1) x1), .double 0] (.double 0) := V41
  have H41 : h0.size ≤ h41.size := by rw [W41.size]; exact H38
  refine s_iinc X41 hx (2 : Int32) #[.val (.ref a), .val (.ref o1), .val (.double (FP.dsub (FP.dmul x3 x3) (FP.dadd (FP.dadd (FP.dmul x0 x0) (FP.dmul x1 x1)) (FP.dmul x2 x2)))), .second, .val (.ref o23), .val (.int (1 : Int32)), .val (.int (2 : Int32))] (hb hby d3_112) (pc' := 115) rfl rfl (by decide) rfl ?_
  refine s_goto X41 hx (hb hby d3_115) (by decide) (pc' := 85) (by decide) ?_
  refine s_iload X41 hx (hb hby d3_85) (pc' := 87) rfl rfl ?_
  refine s_iconst X41 hx (3 : Int32) (hb hby d3_87) (pc' := 88) rfl rfl ?_
  refine s_icmpN X41 hx (hb hby d3_88) (pc' := 91) rfl (by decide) ?_
  refine s_aload X41 hx (hb hby d3_91) (pc' := 93) rfl rfl rfl ?_
  refine s_iload X41 hx (hb hby d3_93) (pc' := 95) rfl rfl ?_
  have fV42 := (fV39.other W41 ne_o23_b23_1)
  refine s_aaload X41 hx hZ e41 fV42 rfl (by decide) (v := .ref b23_1) rfl (hb hby d3_95) (pc' := 96) rfl ?_
  refine s_iload X41 hx (hb hby d3_96) (pc' := 98) rfl rfl ?_
  refine s_ldcD X41 hx hZ hown (hw _ (List.mem_of_getElem? (i := 26) rfl)) (hb hby d3_98) (pc' := 101) rfl ?_
  refine s_aloadN X41 hx (hb hby d3_101) (pc' := 102) rfl rfl rfl ?_
  refine s_iload X41 hx (hb hby d3_102) (pc' := 104) rfl rfl ?_
  have fV43 := (fV40.other W41 ne_o1_b23_1)
  refine s_daload X41 hx hZ e41 fV43 (by decide) (v := .double x1) rfl (hb hby d3_104) (pc' := 105) rfl ?_
  refine s_dmul X41 hx (FP.dmul 4611686018427387904 x1) (hb hby d3_105) (pc' := 106) rfl (own_all hN (k := 18) rfl) rfl ?_
  refine s_aloadN X41 hx (hb hby d3_106) (pc' := 107) rfl rfl rfl ?_
  refine s_iload X41 hx (hb hby d3_107) (pc' := 109) rfl rfl ?_
  refine s_daload X41 hx hZ e41 fV43 (by decide) (v := .double x2) rfl (hb hby d3_109) (pc' := 110) rfl ?_
  refine s_dmul X41 hx (FP.dmul (FP.dmul 4611686018427387904 x1) x2) (hb hby d3_110) (pc' := 111) rfl (own_all hN (k := 19) rfl) rfl ?_
  refine s_dastore X41 hx hZ e41 U41 (by decide) 2 (by decide) (by simp) (hb hby d3_111) (pc' := 112) rfl ?_
  intro T44 h44 X44 e44 W44 V44
  have N44 := Fr.snoc X44 N41 (Nat.le_trans Z0 hg_b23_1)
  have U44 : Arv Z h44 b23_1 cC23 .double (3 : Int32) [.double (FP.dmul (FP.dmul 4611686018427387904 x1) x0), .double (FP.dmul (FP.dmul 4611686018427387904 x1) x1), .double (FP.dmul (FP.dmul 4611686018427387904 x1) x2)] (.double 0) := V44
  have H44 : h0.size ≤ h44.size := by rw [W44.size]; exact H41
  refine s_iinc X44 hx (3 : Int32) #[.val (.ref a), .val (.ref o1), .val (.double (FP.dsub (FP.dmul x3 x3) (FP.dadd (FP.dadd (FP.dmul x0 x0) (FP.dmul x1 x1)) (FP.dmul x2 x2)))), .second, .val (.ref o23), .val (.int (1 : Int32)), .val (.int (3 : Int32))] (hb hby d3_112) (pc' := 115) rfl rfl (by decide) rfl ?_
  refine s_goto X44 hx (hb hby d3_115) (by decide) (pc' := 85) (by decide) ?_
  refine s_iload X44 hx (hb hby d3_85) (pc' := 87) rfl rfl ?_
  refine s_iconst X44 hx (3 : Int32) (hb hby d3_87) (pc' := 88) rfl rfl ?_
  refine s_icmpY X44 hx (hb hby d3_88) (by decide) (by decide) (pc' := 118) (by decide) ?_
  refine s_aload X44 hx (hb hby d3_118) (pc' := 120) rfl rfl rfl ?_
  refine s_iload X44 hx (hb hby d3_120) (pc' := 122) rfl rfl ?_
  have fV45 := (fV42.other W44 ne_o23_b23_1)
  refine s_aaload X44 hx hZ e44 fV45 rfl (by decide) (v := .ref b23_1) rfl (hb hby d3_122) (pc' := 123) rfl ?_
  refine s_iload X44 hx (hb hby d3_123) (pc' := 125) rfl rfl ?_
  refine s_dup2 X44 hx (hb hby d3_125) (pc' := 126) rfl rfl rfl ?_
  refine s_daload X44 hx hZ e44 U44 (by decide) (v := .double (FP.dmul (FP.dmul 4611686018427387904 x1) x1)) rfl (hb hby d3_126) (pc' := 127) rfl ?_
  refine s_dloadN X44 hx (hb hby d3_127) (pc' := 128) rfl rfl ?_
  refine s_dadd X44 hx (FP.dadd (FP.dmul (FP.dmul 4611686018427387904 x1) x1) (FP.dsub (FP.dmul x3 x3) (FP.dadd (FP.dadd (FP.dmul x0 x0) (FP.dmul x1 x1)) (FP.dmul x2 x2)))) (hb hby d3_128) (pc' := 129) rfl (own_all hN (k := 20) rfl) rfl ?_
  refine s_dastore X44 hx hZ e44 U44 (by decide) 1 (by decide) (by simp) (hb hby d3_129) (pc' := 130) rfl ?_
  intro T46 h46 X46 e46 W46 V46
  have N46 := Fr.snoc X46 N44 (Nat.le_trans Z0 hg_b23_1)
  have U46 : Arv Z h46 b23_1 cC23 .double (3 : Int32) [.double (FP.dmul (FP.dmul 4611686018427387904 x1) x0), .double (FP.dadd (FP.dmul (FP.dmul 4611686018427387904 x1) x1) (FP.dsub (FP.dmul x3 x3) (FP.dadd (FP.dadd (FP.dmul x0 x0) (FP.dmul x1 x1)) (FP.dmul x2 x2)))), .double (FP.dmul (FP.dmul 4611686018427387904 x1) x2)] (.double 0) := V46
  have H46 : h0.size ≤ h46.size := by rw [W46.size]; exact H44
  refine s_iinc X46 hx (2 : Int32) #[.val (.ref a), .val (.ref o1), .val (.double (FP.dsub (FP.dmul x3 x3) (FP.dadd (FP.dadd (FP.dmul x0 x0) (FP.dmul x1 x1)) (FP.dmul x2 x2)))), .second, .val (.ref o23), .val (.int (2 : Int32)), .val (.int (3 : Int32))] (hb hby d3_130) (pc' := 133) rfl rfl (by decide) rfl ?_
  refine s_goto X46 hx (hb hby d3_133) (by decide) (pc' := 76) (by decide) ?_
  refine s_iload X46 hx (hb hby d3_76) (pc' := 78) rfl rfl ?_
  refine s_iconst X46 hx (3 : Int32) (hb hby d3_78) (pc' := 79) rfl rfl ?_
  refine s_icmpN X46 hx (hb hby d3_79) (pc' := 82) rfl (by decide) ?_
  refine s_iconst X46 hx (0 : Int32) (hb hby d3_82) (pc' := 83) rfl rfl ?_
  refine s_istore X46 hx #[.val (.ref a), .val (.ref o1), .val (.double (FP.dsub (FP.dmul x3 x3) (FP.dadd (FP.dadd (FP.dmul x0 x0) (FP.dmul x1 x1)) (FP.dmul x2 x2)))), .second, .val (.ref o23), .val (.int (2 : Int32)), .val (.int (0 : Int32))] (hb hby d3_83) (pc' := 85) rfl rfl ?_
  refine s_iload X46 hx (hb hby d3_85) (pc' := 87) rfl rfl ?_
  refine s_iconst X46 hx (3 : Int32) (hb hby d3_87) (pc' := 88) rfl rfl ?_
  refine s_icmpN X46 hx (hb hby d3_88) (pc' := 91) rfl (by decide) ?_
  refine s_aload X46 hx (hb hby d3_91) (pc' := 93) rfl rfl rfl ?_
  refine s_iload X46 hx (hb hby d3_93) (pc' := 95) rfl rfl ?_
  have fV47 := (fV45.other W46 ne_o23_b23_1)
  refine s_aaload X46 hx hZ e46 fV47 rfl (by decide) (v := .ref b23_2) rfl (hb hby d3_95) (pc' := 96) rfl ?_
  refine s_iload X46 hx (hb hby d3_96) (pc' := 98) rfl rfl ?_
  refine s_ldcD X46 hx hZ hown (hw _ (List.mem_of_getElem? (i := 26) rfl)) (hb hby d3_98) (pc' := 101) rfl ?_
  refine s_aloadN X46 hx (hb hby d3_101) (pc' := 102) rfl rfl rfl ?_
  refine s_iload X46 hx (hb hby d3_102) (pc' := 104) rfl rfl ?_
  have fV48 := ((fV43.other W44 ne_o1_b23_1).other W46 ne_o1_b23_1)
  refine s_daload X46 hx hZ e46 fV48 (by decide) (v := .double x2) rfl (hb hby d3_104) (pc' := 105) rfl ?_
  refine s_dmul X46 hx (FP.dmul 4611686018427387904 x2) (hb hby d3_105) (pc' := 106) rfl (own_all hN (k := 21) rfl) rfl ?_
  refine s_aloadN X46 hx (hb hby d3_106) (pc' := 107) rfl rfl rfl ?_
  refine s_iload X46 hx (hb hby d3_107) (pc' := 109) rfl rfl ?_
  refine s_daload X46 hx hZ e46 fV48 (by decide) (v := .double x0) rfl (hb hby d3_109) (pc' := 110) rfl ?_
  refine s_dmul X46 hx (FP.dmul (FP.dmul 4611686018427387904 x2) x0) (hb hby d3_110) (pc' := 111) rfl (own_all hN (k := 22) rfl) rfl ?_
  have fV49 := ((((((((U23_2.other W26 (Ne.symm ne_b23_0_b23_2)).other W29 (Ne.symm ne_b23_0_b23_2)).other W32 (Ne.symm ne_b23_0_b23_2)).other W34 (Ne.symm ne_b23_0_b23_2)).other W38 (Ne.symm ne_b23_1_b23_2)).other W41 (Ne.symm ne_b23_1_b23_2)).other W44 (Ne.symm ne_b23_1_b23_2)).other W46 (Ne.symm ne_b23_1_b23_2))
  refine s_dastore X46 hx hZ e46 fV49 (by decide) 0 (by decide) (by simp) (hb hby d3_111) (pc' := 112) rfl ?_
  intro T50 h50 X50 e50 W50 V50
  have N50 := Fr.snoc X50 N46 (Nat.le_trans Z0 hg_b23_2)
  have U50 : Arv Z h50 b23_2 cC23 .double (3 : Int32) [.double (FP.dmul (FP.dmul 4611686018427387904 x2) x0), .double 0, .double 0] (.double 0) := V50
  have H50 : h0.size ≤ h50.size := by rw [W50.size]; exact H46
  refine s_iinc X50 hx (1 : Int32) #[.val (.ref a), .val (.ref o1), .val (.double (FP.dsub (FP.dmul x3 x3) (FP.dadd (FP.dadd (FP.dmul x0 x0) (FP.dmul x1 x1)) (FP.dmul x2 x2)))), .second, .val (.ref o23), .val (.int (2 : Int32)), .val (.int (1 : Int32))] (hb hby d3_112) (pc' := 115) rfl rfl (by decide) rfl ?_
  refine s_goto X50 hx (hb hby d3_115) (by decide) (pc' := 85) (by decide) ?_
  refine s_iload X50 hx (hb hby d3_85) (pc' := 87) rfl rfl ?_
  refine s_iconst X50 hx (3 : Int32) (hb hby d3_87) (pc' := 88) rfl rfl ?_
  refine s_icmpN X50 hx (hb hby d3_88) (pc' := 91) rfl (by decide) ?_
  refine s_aload X50 hx (hb hby d3_91) (pc' := 93) rfl rfl rfl ?_
  refine s_iload X50 hx (hb hby d3_93) (pc' := 95) rfl rfl ?_
  have fV51 := (fV47.other W50 ne_o23_b23_2)
  refine s_aaload X50 hx hZ e50 fV51 rfl (by decide) (v := .ref b23_2) rfl (hb hby d3_95) (pc' := 96) rfl ?_
  refine s_iload X50 hx (hb hby d3_96) (pc' := 98) rfl rfl ?_
  refine s_ldcD X50 hx hZ hown (hw _ (List.mem_of_getElem? (i := 26) rfl)) (hb hby d3_98) (pc' := 101) rfl ?_
  refine s_aloadN X50 hx (hb hby d3_101) (pc' := 102) rfl rfl rfl ?_
  refine s_iload X50 hx (hb hby d3_102) (pc' := 104) rfl rfl ?_
  have fV52 := (fV48.other W50 ne_o1_b23_2)
  refine s_daload X50 hx hZ e50 fV52 (by decide) (v := .double x2) rfl (hb hby d3_104) (pc' := 105) rfl ?_
  refine s_dmul X50 hx (FP.dmul 4611686018427387904 x2) (hb hby d3_105) (pc' := 106) rfl (own_all hN (k := 23) rfl) rfl ?_
  refine s_aloadN X50 hx (hb hby d3_106) (pc' := 107) rfl rfl rfl ?_
  refine s_iload X50 hx (hb hby d3_107) (pc' := 109) rfl rfl ?_
  refine s_daload X50 hx hZ e50 fV52 (by decide) (v := .double x1) rfl (hb hby d3_109) (pc' := 110) rfl ?_
  refine s_dmul X50 hx (FP.dmul (FP.dmul 4611686018427387904 x2) x1) (hb hby d3_110) (pc' := 111) rfl (own_all hN (k := 24) rfl) rfl ?_
  refine s_dastore X50 hx hZ e50 U50 (by decide) 1 (by decide) (by simp) (hb hby d3_111) (pc' := 112) rfl ?_
  intro T53 h53 X53 e53 W53 V53
  have N53 := Fr.snoc X53 N50 (Nat.le_trans Z0 hg_b23_2)
  have U53 : Arv Z h53 b23_2 cC23 .double (3 : Int32) [.double (FP.dmul (FP.dmul 4611686018427387904 x2) x0), .double (FP.dmul (FP.dmul 4611686018427387904 x2) x1), .double 0] (.double 0) := V53
  have H53 : h0.size ≤ h53.size := by rw [W53.size]; exact H50
  refine s_iinc X53 hx (2 : Int32) #[.val (.ref a), .val (.ref o1), .val (.double (FP.dsub (FP.dmul x3 x3) (FP.dadd (FP.dadd (FP.dmul x0 x0) (FP.dmul x1 x1)) (FP.dmul x2 x2)))), .second, .val (.ref o23), .val (.int (2 : Int32)), .val (.int (2 : Int32))] (hb hby d3_112) (pc' := 115) rfl rfl (by decide) rfl ?_
  refine s_goto X53 hx (hb hby d3_115) (by decide) (pc' := 85) (by decide) ?_
  refine s_iload X53 hx (hb hby d3_85) (pc' := 87) rfl rfl ?_
  refine s_iconst X53 hx (3 : Int32) (hb hby d3_87) (pc' := 88) rfl rfl ?_
  refine s_icmpN X53 hx (hb hby d3_88) (pc' := 91) rfl (by decide) ?_
  refine s_aload X53 hx (hb hby d3_91) (pc' := 93) rfl rfl rfl ?_
  refine s_iload X53 hx (hb hby d3_93) (pc' := 95) rfl rfl ?_
  have fV54 := (fV51.other W53 ne_o23_b23_2)
  refine s_aaload X53 hx hZ e53 fV54 rfl (by decide) (v := .ref b23_2) rfl (hb hby d3_95) (pc' := 96) rfl ?_
  refine s_iload X53 hx (hb hby d3_96) (pc' := 98) rfl rfl ?_
  refine s_ldcD X53 hx hZ hown (hw _ (List.mem_of_getElem? (i := 26) rfl)) (hb hby d3_98) (pc' := 101) rfl ?_
  refine s_aloadN X53 hx (hb hby d3_101) (pc' := 102) rfl rfl rfl ?_
  refine s_iload X53 hx (hb hby d3_102) (pc' := 104) rfl rfl ?_
  have fV55 := (fV52.other W53 ne_o1_b23_2)
  refine s_daload X53 hx hZ e53 fV55 (by decide) (v := .double x2) rfl (hb hby d3_104) (pc' := 105) rfl ?_
  refine s_dmul X53 hx (FP.dmul 4611686018427387904 x2) (hb hby d3_105) (pc' := 106) rfl (own_all hN (k := 25) rfl) rfl ?_
  refine s_aloadN X53 hx (hb hby d3_106) (pc' := 107) rfl rfl rfl ?_
  refine s_iload X53 hx (hb hby d3_107) (pc' := 109) rfl rfl ?_
  refine s_daload X53 hx hZ e53 fV55 (by decide) (v := .double x2) rfl (hb hby d3_109) (pc' := 110) rfl ?_
  refine s_dmul X53 hx (FP.dmul (FP.dmul 4611686018427387904 x2) x2) (hb hby d3_110) (pc' := 111) rfl (own_all hN (k := 26) rfl) rfl ?_
  refine s_dastore X53 hx hZ e53 U53 (by decide) 2 (by decide) (by simp) (hb hby d3_111) (pc' := 112) rfl ?_
  intro T56 h56 X56 e56 W56 V56
  have N56 := Fr.snoc X56 N53 (Nat.le_trans Z0 hg_b23_2)
  have U56 : Arv Z h56 b23_2 cC23 .double (3 : Int32) [.double (FP.dmul (FP.dmul 4611686018427387904 x2) x0), .double (FP.dmul (FP.dmul 4611686018427387904 x2) x1), .double (FP.dmul (FP.dmul 4611686018427387904 x2) x2)] (.double 0) := V56
  have H56 : h0.size ≤ h56.size := by rw [W56.size]; exact H53
  refine s_iinc X56 hx (3 : Int32) #[.val (.ref a), .val (.ref o1), .val (.double (FP.dsub (FP.dmul x3 x3) (FP.dadd (FP.dadd (FP.dmul x0 x0) (FP.dmul x1 x1)) (FP.dmul x2 x2)))), .second, .val (.ref o23), .val (.int (2 : Int32)), .val (.int (3 : Int32))] (hb hby d3_112) (pc' := 115) rfl rfl (by decide) rfl ?_
  refine s_goto X56 hx (hb hby d3_115) (by decide) (pc' := 85) (by decide) ?_
  refine s_iload X56 hx (hb hby d3_85) (pc' := 87) rfl rfl ?_
  refine s_iconst X56 hx (3 : Int32) (hb hby d3_87) (pc' := 88) rfl rfl ?_
  refine s_icmpY X56 hx (hb hby d3_88) (by decide) (by decide) (pc' := 118) (by decide) ?_
  refine s_aload X56 hx (hb hby d3_118) (pc' := 120) rfl rfl rfl ?_
  refine s_iload X56 hx (hb hby d3_120) (pc' := 122) rfl rfl ?_
  have fV57 := (fV54.other W56 ne_o23_b23_2)
  refine s_aaload X56 hx hZ e56 fV57 rfl (by decide) (v := .ref b23_2) rfl (hb hby d3_122) (pc' := 123) rfl ?_
  refine s_iload X56 hx (hb hby d3_123) (pc' := 125) rfl rfl ?_
  refine s_dup2 X56 hx (hb hby d3_125) (pc' := 126) rfl rfl rfl ?_
  refine s_daload X56 hx hZ e56 U56 (by decide) (v := .double (FP.dmul (FP.dmul 4611686018427387904 x2) x2)) rfl (hb hby d3_126) (pc' := 127) rfl ?_
  refine s_dloadN X56 hx (hb hby d3_127) (pc' := 128) rfl rfl ?_
  refine s_dadd X56 hx (FP.dadd (FP.dmul (FP.dmul 4611686018427387904 x2) x2) (FP.dsub (FP.dmul x3 x3) (FP.dadd (FP.dadd (FP.dmul x0 x0) (FP.dmul x1 x1)) (FP.dmul x2 x2)))) (hb hby d3_128) (pc' := 129) rfl (own_all hN (k := 27) rfl) rfl ?_
  refine s_dastore X56 hx hZ e56 U56 (by decide) 2 (by decide) (by simp) (hb hby d3_129) (pc' := 130) rfl ?_
  intro T58 h58 X58 e58 W58 V58
  have N58 := Fr.snoc X58 N56 (Nat.le_trans Z0 hg_b23_2)
  have U58 : Arv Z h58 b23_2 cC23 .double (3 : Int32) [.double (FP.dmul (FP.dmul 4611686018427387904 x2) x0), .double (FP.dmul (FP.dmul 4611686018427387904 x2) x1), .double (FP.dadd (FP.dmul (FP.dmul 4611686018427387904 x2) x2) (FP.dsub (FP.dmul x3 x3) (FP.dadd (FP.dadd (FP.dmul x0 x0) (FP.dmul x1 x1)) (FP.dmul x2 x2))))] (.double 0) := V58
  have H58 : h0.size ≤ h58.size := by rw [W58.size]; exact H56
  refine s_iinc X58 hx (3 : Int32) #[.val (.ref a), .val (.ref o1), .val (.double (FP.dsub (FP.dmul x3 x3) (FP.dadd (FP.dadd (FP.dmul x0 x0) (FP.dmul x1 x1)) (FP.dmul x2 x2)))), .second, .val (.ref o23), .val (.int (3 : Int32)), .val (.int (3 : Int32))] (hb hby d3_130) (pc' := 133) rfl rfl (by decide) rfl ?_
  refine s_goto X58 hx (hb hby d3_133) (by decide) (pc' := 76) (by decide) ?_
  refine s_iload X58 hx (hb hby d3_76) (pc' := 78) rfl rfl ?_
  refine s_iconst X58 hx (3 : Int32) (hb hby d3_78) (pc' := 79) rfl rfl ?_
  refine s_icmpY X58 hx (hb hby d3_79) (by decide) (by decide) (pc' := 136) (by decide) ?_
  refine s_aload X58 hx (hb hby d3_136) (pc' := 138) rfl rfl rfl ?_
  refine s_iconst X58 hx (0 : Int32) (hb hby d3_138) (pc' := 139) rfl rfl ?_
  have fV59 := (fV57.other W58 ne_o23_b23_2)
  refine s_aaload X58 hx hZ e58 fV59 rfl (by decide) (v := .ref b23_0) rfl (hb hby d3_139) (pc' := 140) rfl ?_
  refine s_iconst X58 hx (1 : Int32) (hb hby d3_140) (pc' := 141) rfl rfl ?_
  refine s_dup2 X58 hx (hb hby d3_141) (pc' := 142) rfl rfl rfl ?_
  have fV60 := ((((((((U34.other W38 ne_b23_0_b23_1).other W41 ne_b23_0_b23_1).other W44 ne_b23_0_b23_1).other W46 ne_b23_0_b23_1).other W50 ne_b23_0_b23_2).other W53 ne_b23_0_b23_2).other W56 ne_b23_0_b23_2).other W58 ne_b23_0_b23_2)
  refine s_daload X58 hx hZ e58 fV60 (by decide) (v := .double (FP.dmul (FP.dmul 4611686018427387904 x0) x1)) rfl (hb hby d3_142) (pc' := 143) rfl ?_
  refine s_ldcD X58 hx hZ hown (hw _ (List.mem_of_getElem? (i := 26) rfl)) (hb hby d3_143) (pc' := 146) rfl ?_
  refine s_aloadN X58 hx (hb hby d3_146) (pc' := 147) rfl rfl rfl ?_
  have fF61 := (((((((((((((fF11.ext E23).other W26 (Or.inl ne_a_b23_0)).other W29 (Or.inl ne_a_b23_0)).other W32 (Or.inl ne_a_b23_0)).other W34 (Or.inl ne_a_b23_0)).other W38 (Or.inl ne_a_b23_1)).other W41 (Or.inl ne_a_b23_1)).other W44 (Or.inl ne_a_b23_1)).other W46 (Or.inl ne_a_b23_1)).other W50 (Or.inl ne_a_b23_2)).other W53 (Or.inl ne_a_b23_2)).other W56 (Or.inl ne_a_b23_2)).other W58 (Or.inl ne_a_b23_2))
  refine s_getF X58 hx hZ hown (hw _ (List.mem_of_getElem? (i := 16) rfl)) e58 fF61 (hb hby d3_147) (pc' := 150) rfl ?_
  intro T62 X62 e62
  refine s_dmul X62 hx (FP.dmul 4611686018427387904 x3) (hb hby d3_150) (pc' := 151) rfl (own_all hN (k := 28) rfl) rfl ?_
  refine s_aloadN X62 hx (hb hby d3_151) (pc' := 152) rfl rfl rfl ?_
  have fF63 := (((((((((((((fF20.ext E23).other W26 (Or.inl ne_a_b23_0)).other W29 (Or.inl ne_a_b23_0)).other W32 (Or.inl ne_a_b23_0)).other W34 (Or.inl ne_a_b23_0)).other W38 (Or.inl ne_a_b23_1)).other W41 (Or.inl ne_a_b23_1)).other W44 (Or.inl ne_a_b23_1)).other W46 (Or.inl ne_a_b23_1)).other W50 (Or.inl ne_a_b23_2)).other W53 (Or.inl ne_a_b23_2)).other W56 (Or.inl ne_a_b23_2)).other W58 (Or.inl ne_a_b23_2))
  refine s_getF X62 hx hZ hown (hw _ (List.mem_of_getElem? (i := 14) rfl)) e62 fF63 (hb hby d3_152) (pc' := 155) rfl ?_
  intro T64 X64 e64
  refine s_dmul X64 hx (FP.dmul (FP.dmul 4611686018427387904 x3) x2) (hb hby d3_155) (pc' := 156) rfl (own_all hN (k := 29) rfl) rfl ?_
  refine s_dadd X64 hx (FP.dadd (FP.dmul (FP.dmul 4611686018427387904 x0) x1) (FP.dmul (FP.dmul 4611686018427387904 x3) x2)) (hb hby d3_156) (pc' := 157) rfl (own_all hN (k := 30) rfl) rfl ?_
  refine s_dastore X64 hx hZ e64 fV60 (by decide) 1 (by decide) (by simp) (hb hby d3_157) (pc' := 158) rfl ?_
  intro T65 h65 X65 e65 W65 V65
  have N65 := Fr.snoc X65 N58 (Nat.le_trans Z0 hg_b23_0)
  have U65 : Arv Z h65 b23_0 cC23 .double (3 : Int32) [.double (FP.dadd (FP.dmul (FP.dmul 4611686018427387904 x0) x0) (FP.dsub (FP.dmul x3 x3) (FP.dadd (FP.dadd (FP.dmul x0 x0) (FP.dmul x1 x1)) (FP.dmul x2 x2)))), .double (FP.dadd (FP.dmul (FP.dmul 4611686018427387904 x0) x1) (FP.dmul (FP.dmul 4611686018427387904 x3) x2)), .double (FP.dmul (FP.dmul 4611686018427387904 x0) x2)] (.double 0) := V65
  have H65 : h0.size ≤ h65.size := by rw [W65.size]; exact H58
  refine s_aload X65 hx (hb hby d3_158) (pc' := 160) rfl rfl rfl ?_
  refine s_iconst X65 hx (0 : Int32) (hb hby d3_160) (pc' := 161) rfl rfl ?_
  have fV66 := (fV59.other W65 ne_o23_b23_0)
  refine s_aaload X65 hx hZ e65 fV66 rfl (by decide) (v := .ref b23_0) rfl (hb hby d3_161) (pc' := 162) rfl ?_
  refine s_iconst X65 hx (2 : Int32) (hb hby d3_162) (pc' := 163) rfl rfl ?_
  refine s_dup2 X65 hx (hb hby d3_163) (pc' := 164) rfl rfl rfl ?_
  refine s_daload X65 hx hZ e65 U65 (by decide) (v := .double (FP.dmul (FP.dmul 4611686018427387904 x0) x2)) rfl (hb hby d3_164) (pc' := 165) rfl ?_
  refine s_ldcD X65 hx hZ hown (hw _ (List.mem_of_getElem? (i := 26) rfl)) (hb hby d3_165) (pc' := 168) rfl ?_
  refine s_aloadN X65 hx (hb hby d3_168) (pc' := 169) rfl rfl rfl ?_
  have fF67 := (fF61.other W65 (Or.inl ne_a_b23_0))
  refine s_getF X65 hx hZ hown (hw _ (List.mem_of_getElem? (i := 16) rfl)) e65 fF67 (hb hby d3_169) (pc' := 172) rfl ?_
  intro T68 X68 e68
  refine s_dmul X68 hx (FP.dmul 4611686018427387904 x3) (hb hby d3_172) (pc' := 173) rfl (own_all hN (k := 31) rfl) rfl ?_
  refine s_aloadN X68 hx (hb hby d3_173) (pc' := 174) rfl rfl rfl ?_
  have fF69 := ((((((((((((((fF17.ext E23).other W26 (Or.inl ne_a_b23_0)).other W29 (Or.inl ne_a_b23_0)).other W32 (Or.inl ne_a_b23_0)).other W34 (Or.inl ne_a_b23_0)).other W38 (Or.inl ne_a_b23_1)).other W41 (Or.inl ne_a_b23_1)).other W44 (Or.inl ne_a_b23_1)).other W46 (Or.inl ne_a_b23_1)).other W50 (Or.inl ne_a_b23_2)).other W53 (Or.inl ne_a_b23_2)).other W56 (Or.inl ne_a_b23_2)).other W58 (Or.inl ne_a_b23_2)).other W65 (Or.inl ne_a_b23_0))
  refine s_getF X68 hx hZ hown (hw _ (List.mem_of_getElem? (i := 12) rfl)) e68 fF69 (hb hby d3_174) (pc' := 177) rfl ?_
  intro T70 X70 e70
  refine s_dmul X70 hx (FP.dmul (FP.dmul 4611686018427387904 x3) x1) (hb hby d3_177) (pc' := 178) rfl (own_all hN (k := 32) rfl) rfl ?_
  refine s_dsub X70 hx (FP.dsub (FP.dmul (FP.dmul 4611686018427387904 x0) x2) (FP.dmul (FP.dmul 4611686018427387904 x3) x1)) (hb hby d3_178) (pc' := 179) rfl (own_all hN (k := 33) rfl) rfl ?_
  refine s_dastore X70 hx hZ e70 U65 (by decide) 2 (by decide) (by simp) (hb hby d3_179) (pc' := 180) rfl ?_
  intro T71 h71 X71 e71 W71 V71
  have N71 := Fr.snoc X71 N65 (Nat.le_trans Z0 hg_b23_0)
  have U71 : Arv Z h71 b23_0 cC23 .double (3 : Int32) [.double (FP.dadd (FP.dmul (FP.dmul 4611686018427387904 x0) x0) (FP.dsub (FP.dmul x3 x3) (FP.dadd (FP.dadd (FP.dmul x0 x0) (FP.dmul x1 x1)) (FP.dmul x2 x2)))), .double (FP.dadd (FP.dmul (FP.dmul 4611686018427387904 x0) x1) (FP.dmul (FP.dmul 4611686018427387904 x3) x2)), .double (FP.dsub (FP.dmul (FP.dmul 4611686018427387904 x0) x2) (FP.dmul (FP.dmul 4611686018427387904 x3) x1))] (.double 0) := V71
  have H71 : h0.size ≤ h71.size := by rw [W71.size]; exact H65
  refine s_aload X71 hx (hb hby d3_180) (pc' := 182) rfl rfl rfl ?_
  refine s_iconst X71 hx (1 : Int32) (hb hby d3_182) (pc' := 183) rfl rfl ?_
  have fV72 := (fV66.other W71 ne_o23_b23_0)
  refine s_aaload X71 hx hZ e71 fV72 rfl (by decide) (v := .ref b23_1) rfl (hb hby d3_183) (pc' := 184) rfl ?_
  refine s_iconst X71 hx (0 : Int32) (hb hby d3_184) (pc' := 185) rfl rfl ?_
  refine s_dup2 X71 hx (hb hby d3_185) (pc' := 186) rfl rfl rfl ?_
  have fV73 := ((((((U46.other W50 ne_b23_1_b23_2).other W53 ne_b23_1_b23_2).other W56 ne_b23_1_b23_2).other W58 ne_b23_1_b23_2).other W65 (Ne.symm ne_b23_0_b23_1)).other W71 (Ne.symm ne_b23_0_b23_1))
  refine s_daload X71 hx hZ e71 fV73 (by decide) (v := .double (FP.dmul (FP.dmul 4611686018427387904 x1) x0)) rfl (hb hby d3_186) (pc' := 187) rfl ?_
  refine s_ldcD X71 hx hZ hown (hw _ (List.mem_of_getElem? (i := 26) rfl)) (hb hby d3_187) (pc' := 190) rfl ?_
  refine s_aloadN X71 hx (hb hby d3_190) (pc' := 191) rfl rfl rfl ?_
  have fF74 := (fF67.other W71 (Or.inl ne_a_b23_0))
  refine s_getF X71 hx hZ hown (hw _ (List.mem_of_getElem? (i := 16) rfl)) e71 fF74 (hb hby d3_191) (pc' := 194) rfl ?_
  intro T75 X75 e75
  refine s_dmul X75 hx (FP.dmul 4611686018427387904 x3) (hb hby d3_194) (pc' := 195) rfl (own_all hN (k := 34) rfl) rfl ?_
  refine s_aloadN X75 hx (hb hby d3_195) (pc' := 196) rfl rfl rfl ?_
  have fF76 := ((fF63.other W65 (Or.inl ne_a_b23_0)).other W71 (Or.inl ne_a_b23_0))
  refine s_getF X75 hx hZ hown (hw _ (List.mem_of_getElem? (i := 14) rfl)) e75 fF76 (hb hby d3_196) (pc' := 199) rfl ?_
  intro T77 X77 e77
  refine s_dmul X77 hx (FP.dmul (FP.dmul 4611686018427387904 x3) x2) (hb hby d3_199) (pc' := 200) rfl (own_all hN (k := 35) rfl) rfl ?_
  refine s_dsub X77 hx (FP.dsub (FP.dmul (FP.dmul 4611686018427387904 x1) x0) (FP.dmul (FP.dmul 4611686018427387904 x3) x2)) (hb hby d3_200) (pc' := 201) rfl (own_all hN (k := 36) rfl) rfl ?_
  refine s_dastore X77 hx hZ e77 fV73 (by decide) 0 (by decide) (by simp) (hb hby d3_201) (pc' := 202) rfl ?_
  intro T78 h78 X78 e78 W78 V78
  have N78 := Fr.snoc X78 N71 (Nat.le_trans Z0 hg_b23_1)
  have U78 : Arv Z h78 b23_1 cC23 .double (3 : Int32) [.double (FP.dsub (FP.dmul (FP.dmul 4611686018427387904 x1) x0) (FP.dmul (FP.dmul 4611686018427387904 x3) x2)), .double (FP.dadd (FP.dmul (FP.dmul 4611686018427387904 x1) x1) (FP.dsub (FP.dmul x3 x3) (FP.dadd (FP.dadd (FP.dmul x0 x0) (FP.dmul x1 x1)) (FP.dmul x2 x2)))), .double (FP.dmul (FP.dmul 4611686018427387904 x1) x2)] (.double 0) := V78
  have H78 : h0.size ≤ h78.size := by rw [W78.size]; exact H71
  refine s_aload X78 hx (hb hby d3_202) (pc' := 204) rfl rfl rfl ?_
  refine s_iconst X78 hx (1 : Int32) (hb hby d3_204) (pc' := 205) rfl rfl ?_
  have fV79 := (fV72.other W78 ne_o23_b23_1)
  refine s_aaload X78 hx hZ e78 fV79 rfl (by decide) (v := .ref b23_1) rfl (hb hby d3_205) (pc' := 206) rfl ?_
  refine s_iconst X78 hx (2 : Int32) (hb hby d3_206) (pc' := 207) rfl rfl ?_
  refine s_dup2 X78 hx (hb hby d3_207) (pc' := 208) rfl rfl rfl ?_
  refine s_daload X78 hx hZ e78 U78 (by decide) (v := .double (FP.dmul (FP.dmul 4611686018427387904 x1) x2)) rfl (hb hby d3_208) (pc' := 209) rfl ?_
  refine s_ldcD X78 hx hZ hown (hw _ (List.mem_of_getElem? (i := 26) rfl)) (hb hby d3_209) (pc' := 212) rfl ?_
  refine s_aloadN X78 hx (hb hby d3_212) (pc' := 213) rfl rfl rfl ?_
  have fF80 := (fF74.other W78 (Or.inl ne_a_b23_1))
  refine s_getF X78 hx hZ hown (hw _ (List.mem_of_getElem? (i := 16) rfl)) e78 fF80 (hb hby d3_213) (pc' := 216) rfl ?_
  intro T81 X81 e81
  refine s_dmul X81 hx (FP.dmul 4611686018427387904 x3) (hb hby d3_216) (pc' := 217) rfl (own_all hN (k := 37) rfl) rfl ?_
  refine s_aloadN X81 hx (hb hby d3_217) (pc' := 218) rfl rfl rfl ?_
  have fF82 := ((((((((((((((((fF14.ext E23).other W26 (Or.inl ne_a_b23_0)).other W29 (Or.inl ne_a_b23_0)).other W32 (Or.inl ne_a_b23_0)).other W34 (Or.inl ne_a_b23_0)).other W38 (Or.inl ne_a_b23_1)).other W41 (Or.inl ne_a_b23_1)).other W44 (Or.inl ne_a_b23_1)).other W46 (Or.inl ne_a_b23_1)).other W50 (Or.inl ne_a_b23_2)).other W53 (Or.inl ne_a_b23_2)).other W56 (Or.inl ne_a_b23_2)).other W58 (Or.inl ne_a_b23_2)).other W65 (Or.inl ne_a_b23_0)).other W71 (Or.inl ne_a_b23_0)).other W78 (Or.inl ne_a_b23_1))
  refine s_getF X81 hx hZ hown (hw _ (List.mem_of_getElem? (i := 10) rfl)) e81 fF82 (hb hby d3_218) (pc' := 221) rfl ?_
  intro T83 X83 e83
  refine s_dmul X83 hx (FP.dmul (FP.dmul 4611686018427387904 x3) x0) (hb hby d3_221) (pc' := 222) rfl (own_all hN (k := 38) rfl) rfl ?_
  refine s_dadd X83 hx (FP.dadd (FP.dmul (FP.dmul 4611686018427387904 x1) x2) (FP.dmul (FP.dmul 4611686018427387904 x3) x0)) (hb hby d3_222) (pc' := 223) rfl (own_all hN (k := 39) rfl) rfl ?_
  refine s_dastore X83 hx hZ e83 U78 (by decide) 2 (by decide) (by simp) (hb hby d3_223) (pc' := 224) rfl ?_
  intro T84 h84 X84 e84 W84 V84
  have N84 := Fr.snoc X84 N78 (Nat.le_trans Z0 hg_b23_1)
  have U84 : Arv Z h84 b23_1 cC23 .double (3 : Int32) [.double (FP.dsub (FP.dmul (FP.dmul 4611686018427387904 x1) x0) (FP.dmul (FP.dmul 4611686018427387904 x3) x2)), .double (FP.dadd (FP.dmul (FP.dmul 4611686018427387904 x1) x1) (FP.dsub (FP.dmul x3 x3) (FP.dadd (FP.dadd (FP.dmul x0 x0) (FP.dmul x1 x1)) (FP.dmul x2 x2)))), .double (FP.dadd (FP.dmul (FP.dmul 4611686018427387904 x1) x2) (FP.dmul (FP.dmul 4611686018427387904 x3) x0))] (.double 0) := V84
  have H84 : h0.size ≤ h84.size := by rw [W84.size]; exact H78
  refine s_aload X84 hx (hb hby d3_224) (pc' := 226) rfl rfl rfl ?_
  refine s_iconst X84 hx (2 : Int32) (hb hby d3_226) (pc' := 227) rfl rfl ?_
  have fV85 := (fV79.other W84 ne_o23_b23_1)
  refine s_aaload X84 hx hZ e84 fV85 rfl (by decide) (v := .ref b23_2) rfl (hb hby d3_227) (pc' := 228) rfl ?_
  refine s_iconst X84 hx (0 : Int32) (hb hby d3_228) (pc' := 229) rfl rfl ?_
  refine s_dup2 X84 hx (hb hby d3_229) (pc' := 230) rfl rfl rfl ?_
  have fV86 := ((((U58.other W65 (Ne.symm ne_b23_0_b23_2)).other W71 (Ne.symm ne_b23_0_b23_2)).other W78 (Ne.symm ne_b23_1_b23_2)).other W84 (Ne.symm ne_b23_1_b23_2))
  refine s_daload X84 hx hZ e84 fV86 (by decide) (v := .double (FP.dmul (FP.dmul 4611686018427387904 x2) x0)) rfl (hb hby d3_230) (pc' := 231) rfl ?_
  refine s_ldcD X84 hx hZ hown (hw _ (List.mem_of_getElem? (i := 26) rfl)) (hb hby d3_231) (pc' := 234) rfl ?_
  refine s_aloadN X84 hx (hb hby d3_234) (pc' := 235) rfl rfl rfl ?_
  have fF87 := (fF80.other W84 (Or.inl ne_a_b23_1))
  refine s_getF X84 hx hZ hown (hw _ (List.mem_of_getElem? (i := 16) rfl)) e84 fF87 (hb hby d3_235) (pc' := 238) rfl ?_
  intro T88 X88 e88
  refine s_dmul X88 hx (FP.dmul 4611686018427387904 x3) (hb hby d3_238) (pc' := 239) rfl (own_all hN (k := 40) rfl) rfl ?_
  refine s_aloadN X88 hx (hb hby d3_239) (pc' := 240) rfl rfl rfl ?_
  have fF89 := (((fF69.other W71 (Or.inl ne_a_b23_0)).other W78 (Or.inl ne_a_b23_1)).other W84 (Or.inl ne_a_b23_1))
  refine s_getF X88 hx hZ hown (hw _ (List.mem_of_getElem? (i := 12) rfl)) e88 fF89 (hb hby d3_240) (pc' := 243) rfl ?_
  intro T90 X90 e90
  refine s_dmul X90 hx (FP.dmul (FP.dmul 4611686018427387904 x3) x1) (hb hby d3_243) (pc' := 244) rfl (own_all hN (k := 41) rfl) rfl ?_
  refine s_dadd X90 hx (FP.dadd (FP.dmul (FP.dmul 4611686018427387904 x2) x0) (FP.dmul (FP.dmul 4611686018427387904 x3) x1)) (hb hby d3_244) (pc' := 245) rfl (own_all hN (k := 42) rfl) rfl ?_
  refine s_dastore X90 hx hZ e90 fV86 (by decide) 0 (by decide) (by simp) (hb hby d3_245) (pc' := 246) rfl ?_
  intro T91 h91 X91 e91 W91 V91
  have N91 := Fr.snoc X91 N84 (Nat.le_trans Z0 hg_b23_2)
  have U91 : Arv Z h91 b23_2 cC23 .double (3 : Int32) [.double (FP.dadd (FP.dmul (FP.dmul 4611686018427387904 x2) x0) (FP.dmul (FP.dmul 4611686018427387904 x3) x1)), .double (FP.dmul (FP.dmul 4611686018427387904 x2) x1), .double (FP.dadd (FP.dmul (FP.dmul 4611686018427387904 x2) x2) (FP.dsub (FP.dmul x3 x3) (FP.dadd (FP.dadd (FP.dmul x0 x0) (FP.dmul x1 x1)) (FP.dmul x2 x2))))] (.double 0) := V91
  have H91 : h0.size ≤ h91.size := by rw [W91.size]; exact H84
  refine s_aload X91 hx (hb hby d3_246) (pc' := 248) rfl rfl rfl ?_
  refine s_iconst X91 hx (2 : Int32) (hb hby d3_248) (pc' := 249) rfl rfl ?_
  have fV92 := (fV85.other W91 ne_o23_b23_2)
  refine s_aaload X91 hx hZ e91 fV92 rfl (by decide) (v := .ref b23_2) rfl (hb hby d3_249) (pc' := 250) rfl ?_
  refine s_iconst X91 hx (1 : Int32) (hb hby d3_250) (pc' := 251) rfl rfl ?_
  refine s_dup2 X91 hx (hb hby d3_251) (pc' := 252) rfl rfl rfl ?_
  refine s_daload X91 hx hZ e91 U91 (by decide) (v := .double (FP.dmul (FP.dmul 4611686018427387904 x2) x1)) rfl (hb hby d3_252) (pc' := 253) rfl ?_
  refine s_ldcD X91 hx hZ hown (hw _ (List.mem_of_getElem? (i := 26) rfl)) (hb hby d3_253) (pc' := 256) rfl ?_
  refine s_aloadN X91 hx (hb hby d3_256) (pc' := 257) rfl rfl rfl ?_
  have fF93 := (fF87.other W91 (Or.inl ne_a_b23_2))
  refine s_getF X91 hx hZ hown (hw _ (List.mem_of_getElem? (i := 16) rfl)) e91 fF93 (hb hby d3_257) (pc' := 260) rfl ?_
  intro T94 X94 e94
  refine s_dmul X94 hx (FP.dmul 4611686018427387904 x3) (hb hby d3_260) (pc' := 261) rfl (own_all hN (k := 43) rfl) rfl ?_
  refine s_aloadN X94 hx (hb hby d3_261) (pc' := 262) rfl rfl rfl ?_
  have fF95 := ((fF82.other W84 (Or.inl ne_a_b23_1)).other W91 (Or.inl ne_a_b23_2))
  refine s_getF X94 hx hZ hown (hw _ (List.mem_of_getElem? (i := 10) rfl)) e94 fF95 (hb hby d3_262) (pc' := 265) rfl ?_
  intro T96 X96 e96
  refine s_dmul X96 hx (FP.dmul (FP.dmul 4611686018427387904 x3) x0) (hb hby d3_265) (pc' := 266) rfl (own_all hN (k := 44) rfl) rfl ?_
  refine s_dsub X96 hx (FP.dsub (FP.dmul (FP.dmul 4611686018427387904 x2) x1) (FP.dmul (FP.dmul 4611686018427387904 x3) x0)) (hb hby d3_266) (pc' := 267) rfl (own_all hN (k := 45) rfl) rfl ?_
  refine s_dastore X96 hx hZ e96 U91 (by decide) 1 (by decide) (by simp) (hb hby d3_267) (pc' := 268) rfl ?_
  intro T97 h97 X97 e97 W97 V97
  have N97 := Fr.snoc X97 N91 (Nat.le_trans Z0 hg_b23_2)
  have U97 : Arv Z h97 b23_2 cC23 .double (3 : Int32) [.double (FP.dadd (FP.dmul (FP.dmul 4611686018427387904 x2) x0) (FP.dmul (FP.dmul 4611686018427387904 x3) x1)), .double (FP.dsub (FP.dmul (FP.dmul 4611686018427387904 x2) x1) (FP.dmul (FP.dmul 4611686018427387904 x3) x0)), .double (FP.dadd (FP.dmul (FP.dmul 4611686018427387904 x2) x2) (FP.dsub (FP.dmul x3 x3) (FP.dadd (FP.dadd (FP.dmul x0 x0) (FP.dmul x1 x1)) (FP.dmul x2 x2))))] (.double 0) := V97
  have H97 : h0.size ≤ h97.size := by rw [W97.size]; exact H91
  refine s_aload X97 hx (hb hby d3_268) (pc' := 270) rfl rfl rfl ?_
  have KK98 : Keep h0 h97 [] := ((((((((((((((((((((((((Keep.refl _ _).ext E1).wr W4 (Or.inr hg1)).wr W7 (Or.inr hg1)).wr W10 (Or.inr hg1)).ext E23).wr W26 (Or.inr hg_b23_0)).wr W29 (Or.inr hg_b23_0)).wr W32 (Or.inr hg_b23_0)).wr W34 (Or.inr hg_b23_0)).wr W38 (Or.inr hg_b23_1)).wr W41 (Or.inr hg_b23_1)).wr W44 (Or.inr hg_b23_1)).wr W46 (Or.inr hg_b23_1)).wr W50 (Or.inr hg_b23_2)).wr W53 (Or.inr hg_b23_2)).wr W56 (Or.inr hg_b23_2)).wr W58 (Or.inr hg_b23_2)).wr W65 (Or.inr hg_b23_0)).wr W71 (Or.inr hg_b23_0)).wr W78 (Or.inr hg_b23_1)).wr W84 (Or.inr hg_b23_1)).wr W91 (Or.inr hg_b23_2)).wr W97 (Or.inr hg_b23_2))
  have fV99 := (fV92.other W97 ne_o23_b23_2)
  have fV100 := ((((U71.other W78 ne_b23_0_b23_1).other W84 ne_b23_0_b23_1).other W91 ne_b23_0_b23_2).other W97 ne_b23_0_b23_2)
  have fV101 := ((U84.other W91 ne_b23_1_b23_2).other W97 ne_b23_1_b23_2)
  exact s_retI X97 hx hlk hret (hb hby d3_270) rfl (Or.inr (Or.inr (Or.inr (Or.inr ⟨rfl, rfl, rfl⟩)))) (by decide) (by decide) (by rw [e97]; exact ⟨o23, b23_0, b23_1, b23_2, _, _, rfl, N97, KK98, hg_o23, hg_b23_0, hg_b23_1, hg_b23_2, ne_o23_b23_0, ne_o23_b23_1, ne_o23_b23_2, ne_b23_0_b23_1, ne_b23_0_b23_2, ne_b23_1_b23_2, fV99, fV100, fV101, U97⟩)
theorem d4_0 : decode method_3_code 0 = .ok (.aload_n 0, 1) := by decide +kernel
theorem d4_1 : decode method_3_code 1 = .ok (.ifnull 9, 3) := by decide +kernel
theorem d4_4 : decode method_3_code 4 = .ok (.aload_n 0, 1) := by decide +kernel
theorem d4_5 : decode method_3_code 5 = .ok (.arraylength, 1) := by decide +kernel
theorem d4_6 : decode method_3_code 6 = .ok (.iconst 3, 1) := by decide +kernel
theorem d4_7 : decode method_3_code 7 = .ok (.if_icmp .eq 5, 3) := by decide +kernel
theorem d4_10 : decode method_3_code 10 = .ok (.iconst 0, 1) := by decide +kernel
theorem d4_11 : decode method_3_code 11 = .ok (.ireturn, 1) := by decide +kernel
theorem d4_12 : decode method_3_code 12 = .ok (.aload_n 0, 1) := by decide +kernel
theorem d4_13 : decode method_3_code 13 = .ok (.iconst 0, 1) := by decide +kernel
theorem d4_14 : decode method_3_code 14 = .ok (.aaload, 1) := by decide +kernel
theorem d4_15 : decode method_3_code 15 = .ok (.ifnull 15, 3) := by decide +kernel
theorem d4_18 : decode method_3_code 18 = .ok (.aload_n 0, 1) := by decide +kernel
theorem d4_19 : decode method_3_code 19 = .ok (.iconst 1, 1) := by decide +kernel
theorem d4_20 : decode method_3_code 20 = .ok (.aaload, 1) := by decide +kernel
theorem d4_21 : decode method_3_code 21 = .ok (.ifnull 9, 3) := by decide +kernel
theorem d4_24 : decode method_3_code 24 = .ok (.aload_n 0, 1) := by decide +kernel
theorem d4_25 : decode method_3_code 25 = .ok (.iconst 2, 1) := by decide +kernel
theorem d4_26 : decode method_3_code 26 = .ok (.aaload, 1) := by decide +kernel
theorem d4_27 : decode method_3_code 27 = .ok (.ifnonnull 5, 3) := by decide +kernel
theorem d4_30 : decode method_3_code 30 = .ok (.iconst 0, 1) := by decide +kernel
theorem d4_31 : decode method_3_code 31 = .ok (.ireturn, 1) := by decide +kernel
theorem d4_32 : decode method_3_code 32 = .ok (.aload_n 0, 1) := by decide +kernel
theorem d4_33 : decode method_3_code 33 = .ok (.iconst 0, 1) := by decide +kernel
theorem d4_34 : decode method_3_code 34 = .ok (.aaload, 1) := by decide +kernel
theorem d4_35 : decode method_3_code 35 = .ok (.arraylength, 1) := by decide +kernel
theorem d4_36 : decode method_3_code 36 = .ok (.iconst 3, 1) := by decide +kernel
theorem d4_37 : decode method_3_code 37 = .ok (.if_icmp .ne 19, 3) := by decide +kernel
theorem d4_40 : decode method_3_code 40 = .ok (.aload_n 0, 1) := by decide +kernel
theorem d4_41 : decode method_3_code 41 = .ok (.iconst 1, 1) := by decide +kernel
theorem d4_42 : decode method_3_code 42 = .ok (.aaload, 1) := by decide +kernel
theorem d4_43 : decode method_3_code 43 = .ok (.arraylength, 1) := by decide +kernel
theorem d4_44 : decode method_3_code 44 = .ok (.iconst 3, 1) := by decide +kernel
theorem d4_45 : decode method_3_code 45 = .ok (.if_icmp .ne 11, 3) := by decide +kernel
theorem d4_48 : decode method_3_code 48 = .ok (.aload_n 0, 1) := by decide +kernel
theorem d4_49 : decode method_3_code 49 = .ok (.iconst 2, 1) := by decide +kernel
theorem d4_50 : decode method_3_code 50 = .ok (.aaload, 1) := by decide +kernel
theorem d4_51 : decode method_3_code 51 = .ok (.arraylength, 1) := by decide +kernel
theorem d4_52 : decode method_3_code 52 = .ok (.iconst 3, 1) := by decide +kernel
theorem d4_53 : decode method_3_code 53 = .ok (.if_icmp .eq 5, 3) := by decide +kernel
theorem d4_56 : decode method_3_code 56 = .ok (.iconst 0, 1) := by decide +kernel
theorem d4_57 : decode method_3_code 57 = .ok (.ireturn, 1) := by decide +kernel
theorem d4_58 : decode method_3_code 58 = .ok (.dload_n 1, 1) := by decide +kernel
theorem d4_59 : decode method_3_code 59 = .ok (.dload_n 1, 1) := by decide +kernel
theorem d4_60 : decode method_3_code 60 = .ok (.dmul, 1) := by decide +kernel
theorem d4_61 : decode method_3_code 61 = .ok (.dload_n 3, 1) := by decide +kernel
theorem d4_62 : decode method_3_code 62 = .ok (.dload_n 3, 1) := by decide +kernel
theorem d4_63 : decode method_3_code 63 = .ok (.dmul, 1) := by decide +kernel
theorem d4_64 : decode method_3_code 64 = .ok (.dsub, 1) := by decide +kernel
theorem d4_65 : decode method_3_code 65 = .ok (.dload 5, 2) := by decide +kernel
theorem d4_67 : decode method_3_code 67 = .ok (.dload 5, 2) := by decide +kernel
theorem d4_69 : decode method_3_code 69 = .ok (.dmul, 1) := by decide +kernel
theorem d4_70 : decode method_3_code 70 = .ok (.dsub, 1) := by decide +kernel
theorem d4_71 : decode method_3_code 71 = .ok (.dload 7, 2) := by decide +kernel
theorem d4_73 : decode method_3_code 73 = .ok (.dload 7, 2) := by decide +kernel
theorem d4_75 : decode method_3_code 75 = .ok (.dmul, 1) := by decide +kernel
theorem d4_76 : decode method_3_code 76 = .ok (.dadd, 1) := by decide +kernel
theorem d4_77 : decode method_3_code 77 = .ok (.dstore 9, 2) := by decide +kernel
theorem d4_79 : decode method_3_code 79 = .ok (.dload_n 1, 1) := by decide +kernel
theorem d4_80 : decode method_3_code 80 = .ok (.dneg, 1) := by decide +kernel
theorem d4_81 : decode method_3_code 81 = .ok (.dload_n 1, 1) := by decide +kernel
theorem d4_82 : decode method_3_code 82 = .ok (.dmul, 1) := by decide +kernel
theorem d4_83 : decode method_3_code 83 = .ok (.dload_n 3, 1) := by decide +kernel
theorem d4_84 : decode method_3_code 84 = .ok (.dload_n 3, 1) := by decide +kernel
theorem d4_85 : decode method_3_code 85 = .ok (.dmul, 1) := by decide +kernel
theorem d4_86 : decode method_3_code 86 = .ok (.dadd, 1) := by decide +kernel
theorem d4_87 : decode method_3_code 87 = .ok (.dload 5, 2) := by decide +kernel
theorem d4_89 : decode method_3_code 89 = .ok (.dload 5, 2) := by decide +kernel
theorem d4_91 : decode method_3_code 91 = .ok (.dmul, 1) := by decide +kernel
theorem d4_92 : decode method_3_code 92 = .ok (.dsub, 1) := by decide +kernel
theorem d4_93 : decode method_3_code 93 = .ok (.dload 7, 2) := by decide +kernel
theorem d4_95 : decode method_3_code 95 = .ok (.dload 7, 2) := by decide +kernel
theorem d4_97 : decode method_3_code 97 = .ok (.dmul, 1) := by decide +kernel
theorem d4_98 : decode method_3_code 98 = .ok (.dadd, 1) := by decide +kernel
theorem d4_99 : decode method_3_code 99 = .ok (.dstore 11, 2) := by decide +kernel
theorem d4_101 : decode method_3_code 101 = .ok (.dload_n 1, 1) := by decide +kernel
theorem d4_102 : decode method_3_code 102 = .ok (.dneg, 1) := by decide +kernel
theorem d4_103 : decode method_3_code 103 = .ok (.dload_n 1, 1) := by decide +kernel
theorem d4_104 : decode method_3_code 104 = .ok (.dmul, 1) := by decide +kernel
theorem d4_105 : decode method_3_code 105 = .ok (.dload_n 3, 1) := by decide +kernel
theorem d4_106 : decode method_3_code 106 = .ok (.dload_n 3, 1) := by decide +kernel
theorem d4_107 : decode method_3_code 107 = .ok (.dmul, 1) := by decide +kernel
theorem d4_108 : decode method_3_code 108 = .ok (.dsub, 1) := by decide +kernel
theorem d4_109 : decode method_3_code 109 = .ok (.dload 5, 2) := by decide +kernel
theorem d4_111 : decode method_3_code 111 = .ok (.dload 5, 2) := by decide +kernel
theorem d4_113 : decode method_3_code 113 = .ok (.dmul, 1) := by decide +kernel
theorem d4_114 : decode method_3_code 114 = .ok (.dadd, 1) := by decide +kernel
theorem d4_115 : decode method_3_code 115 = .ok (.dload 7, 2) := by decide +kernel
theorem d4_117 : decode method_3_code 117 = .ok (.dload 7, 2) := by decide +kernel
theorem d4_119 : decode method_3_code 119 = .ok (.dmul, 1) := by decide +kernel
theorem d4_120 : decode method_3_code 120 = .ok (.dadd, 1) := by decide +kernel
theorem d4_121 : decode method_3_code 121 = .ok (.dstore 13, 2) := by decide +kernel
theorem d4_123 : decode method_3_code 123 = .ok (.ldc2_w 31, 3) := by decide +kernel
theorem d4_126 : decode method_3_code 126 = .ok (.dload_n 1, 1) := by decide +kernel
theorem d4_127 : decode method_3_code 127 = .ok (.dload_n 3, 1) := by decide +kernel
theorem d4_128 : decode method_3_code 128 = .ok (.dmul, 1) := by decide +kernel
theorem d4_129 : decode method_3_code 129 = .ok (.dload 5, 2) := by decide +kernel
theorem d4_131 : decode method_3_code 131 = .ok (.dload 7, 2) := by decide +kernel
theorem d4_133 : decode method_3_code 133 = .ok (.dmul, 1) := by decide +kernel
theorem d4_134 : decode method_3_code 134 = .ok (.dadd, 1) := by decide +kernel
theorem d4_135 : decode method_3_code 135 = .ok (.dmul, 1) := by decide +kernel
theorem d4_136 : decode method_3_code 136 = .ok (.dstore 15, 2) := by decide +kernel
theorem d4_138 : decode method_3_code 138 = .ok (.ldc2_w 31, 3) := by decide +kernel
theorem d4_141 : decode method_3_code 141 = .ok (.dload_n 1, 1) := by decide +kernel
theorem d4_142 : decode method_3_code 142 = .ok (.dload 5, 2) := by decide +kernel
theorem d4_144 : decode method_3_code 144 = .ok (.dmul, 1) := by decide +kernel
theorem d4_145 : decode method_3_code 145 = .ok (.dload_n 3, 1) := by decide +kernel
theorem d4_146 : decode method_3_code 146 = .ok (.dload 7, 2) := by decide +kernel
theorem d4_148 : decode method_3_code 148 = .ok (.dmul, 1) := by decide +kernel
theorem d4_149 : decode method_3_code 149 = .ok (.dsub, 1) := by decide +kernel
theorem d4_150 : decode method_3_code 150 = .ok (.dmul, 1) := by decide +kernel
theorem d4_151 : decode method_3_code 151 = .ok (.dstore 17, 2) := by decide +kernel
theorem d4_153 : decode method_3_code 153 = .ok (.ldc2_w 31, 3) := by decide +kernel
theorem d4_156 : decode method_3_code 156 = .ok (.dload_n 1, 1) := by decide +kernel
theorem d4_157 : decode method_3_code 157 = .ok (.dload_n 3, 1) := by decide +kernel
theorem d4_158 : decode method_3_code 158 = .ok (.dmul, 1) := by decide +kernel
theorem d4_159 : decode method_3_code 159 = .ok (.dload 5, 2) := by decide +kernel
theorem d4_161 : decode method_3_code 161 = .ok (.dload 7, 2) := by decide +kernel
theorem d4_163 : decode method_3_code 163 = .ok (.dmul, 1) := by decide +kernel
theorem d4_164 : decode method_3_code 164 = .ok (.dsub, 1) := by decide +kernel
theorem d4_165 : decode method_3_code 165 = .ok (.dmul, 1) := by decide +kernel
theorem d4_166 : decode method_3_code 166 = .ok (.dstore 19, 2) := by decide +kernel
theorem d4_168 : decode method_3_code 168 = .ok (.ldc2_w 31, 3) := by decide +kernel
theorem d4_171 : decode method_3_code 171 = .ok (.dload_n 3, 1) := by decide +kernel
theorem d4_172 : decode method_3_code 172 = .ok (.dload 5, 2) := by decide +kernel
theorem d4_174 : decode method_3_code 174 = .ok (.dmul, 1) := by decide +kernel
theorem d4_175 : decode method_3_code 175 = .ok (.dload_n 1, 1) := by decide +kernel
theorem d4_176 : decode method_3_code 176 = .ok (.dload 7, 2) := by decide +kernel
theorem d4_178 : decode method_3_code 178 = .ok (.dmul, 1) := by decide +kernel
theorem d4_179 : decode method_3_code 179 = .ok (.dadd, 1) := by decide +kernel
theorem d4_180 : decode method_3_code 180 = .ok (.dmul, 1) := by decide +kernel
theorem d4_181 : decode method_3_code 181 = .ok (.dstore 21, 2) := by decide +kernel
theorem d4_183 : decode method_3_code 183 = .ok (.ldc2_w 31, 3) := by decide +kernel
theorem d4_186 : decode method_3_code 186 = .ok (.dload_n 1, 1) := by decide +kernel
theorem d4_187 : decode method_3_code 187 = .ok (.dload 5, 2) := by decide +kernel
theorem d4_189 : decode method_3_code 189 = .ok (.dmul, 1) := by decide +kernel
theorem d4_190 : decode method_3_code 190 = .ok (.dload_n 3, 1) := by decide +kernel
theorem d4_191 : decode method_3_code 191 = .ok (.dload 7, 2) := by decide +kernel
theorem d4_193 : decode method_3_code 193 = .ok (.dmul, 1) := by decide +kernel
theorem d4_194 : decode method_3_code 194 = .ok (.dadd, 1) := by decide +kernel
theorem d4_195 : decode method_3_code 195 = .ok (.dmul, 1) := by decide +kernel
theorem d4_196 : decode method_3_code 196 = .ok (.dstore 23, 2) := by decide +kernel
theorem d4_198 : decode method_3_code 198 = .ok (.ldc2_w 31, 3) := by decide +kernel
theorem d4_201 : decode method_3_code 201 = .ok (.dload_n 3, 1) := by decide +kernel
theorem d4_202 : decode method_3_code 202 = .ok (.dload 5, 2) := by decide +kernel
theorem d4_204 : decode method_3_code 204 = .ok (.dmul, 1) := by decide +kernel
theorem d4_205 : decode method_3_code 205 = .ok (.dload_n 1, 1) := by decide +kernel
theorem d4_206 : decode method_3_code 206 = .ok (.dload 7, 2) := by decide +kernel
theorem d4_208 : decode method_3_code 208 = .ok (.dmul, 1) := by decide +kernel
theorem d4_209 : decode method_3_code 209 = .ok (.dsub, 1) := by decide +kernel
theorem d4_210 : decode method_3_code 210 = .ok (.dmul, 1) := by decide +kernel
theorem d4_211 : decode method_3_code 211 = .ok (.dstore 25, 2) := by decide +kernel
theorem d4_213 : decode method_3_code 213 = .ok (.aload_n 0, 1) := by decide +kernel
theorem d4_214 : decode method_3_code 214 = .ok (.iconst 0, 1) := by decide +kernel
theorem d4_215 : decode method_3_code 215 = .ok (.aaload, 1) := by decide +kernel
theorem d4_216 : decode method_3_code 216 = .ok (.iconst 0, 1) := by decide +kernel
theorem d4_217 : decode method_3_code 217 = .ok (.daload, 1) := by decide +kernel
theorem d4_218 : decode method_3_code 218 = .ok (.dload 9, 2) := by decide +kernel
theorem d4_220 : decode method_3_code 220 = .ok (.dcmp .l, 1) := by decide +kernel
theorem d4_221 : decode method_3_code 221 = .ok (.ifCond .ne 95, 3) := by decide +kernel
theorem d4_224 : decode method_3_code 224 = .ok (.aload_n 0, 1) := by decide +kernel
theorem d4_225 : decode method_3_code 225 = .ok (.iconst 0, 1) := by decide +kernel
theorem d4_226 : decode method_3_code 226 = .ok (.aaload, 1) := by decide +kernel
theorem d4_227 : decode method_3_code 227 = .ok (.iconst 1, 1) := by decide +kernel
theorem d4_228 : decode method_3_code 228 = .ok (.daload, 1) := by decide +kernel
theorem d4_229 : decode method_3_code 229 = .ok (.dload 15, 2) := by decide +kernel
theorem d4_231 : decode method_3_code 231 = .ok (.dcmp .l, 1) := by decide +kernel
theorem d4_232 : decode method_3_code 232 = .ok (.ifCond .ne 84, 3) := by decide +kernel
theorem d4_235 : decode method_3_code 235 = .ok (.aload_n 0, 1) := by decide +kernel
theorem d4_236 : decode method_3_code 236 = .ok (.iconst 0, 1) := by decide +kernel
theorem d4_237 : decode method_3_code 237 = .ok (.aaload, 1) := by decide +kernel
theorem d4_238 : decode method_3_code 238 = .ok (.iconst 2, 1) := by decide +kernel
theorem d4_239 : decode method_3_code 239 = .ok (.daload, 1) := by decide +kernel
theorem d4_240 : decode method_3_code 240 = .ok (.dload 17, 2) := by decide +kernel
theorem d4_242 : decode method_3_code 242 = .ok (.dcmp .l, 1) := by decide +kernel
theorem d4_243 : decode method_3_code 243 = .ok (.ifCond .ne 73, 3) := by decide +kernel
theorem d4_246 : decode method_3_code 246 = .ok (.aload_n 0, 1) := by decide +kernel
theorem d4_247 : decode method_3_code 247 = .ok (.iconst 1, 1) := by decide +kernel
theorem d4_248 : decode method_3_code 248 = .ok (.aaload, 1) := by decide +kernel
theorem d4_249 : decode method_3_code 249 = .ok (.iconst 0, 1) := by decide +kernel
theorem d4_250 : decode method_3_code 250 = .ok (.daload, 1) := by decide +kernel
theorem d4_251 : decode method_3_code 251 = .ok (.dload 19, 2) := by decide +kernel
theorem d4_253 : decode method_3_code 253 = .ok (.dcmp .l, 1) := by decide +kernel
theorem d4_254 : decode method_3_code 254 = .ok (.ifCond .ne 62, 3) := by decide +kernel
theorem d4_257 : decode method_3_code 257 = .ok (.aload_n 0, 1) := by decide +kernel
theorem d4_258 : decode method_3_code 258 = .ok (.iconst 1, 1) := by decide +kernel
theorem d4_259 : decode method_3_code 259 = .ok (.aaload, 1) := by decide +kernel
theorem d4_260 : decode method_3_code 260 = .ok (.iconst 1, 1) := by decide +kernel
theorem d4_261 : decode method_3_code 261 = .ok (.daload, 1) := by decide +kernel
theorem d4_262 : decode method_3_code 262 = .ok (.dload 11, 2) := by decide +kernel
theorem d4_264 : decode method_3_code 264 = .ok (.dcmp .l, 1) := by decide +kernel
theorem d4_265 : decode method_3_code 265 = .ok (.ifCond .ne 51, 3) := by decide +kernel
theorem d4_268 : decode method_3_code 268 = .ok (.aload_n 0, 1) := by decide +kernel
theorem d4_269 : decode method_3_code 269 = .ok (.iconst 1, 1) := by decide +kernel
theorem d4_270 : decode method_3_code 270 = .ok (.aaload, 1) := by decide +kernel
theorem d4_271 : decode method_3_code 271 = .ok (.iconst 2, 1) := by decide +kernel
theorem d4_272 : decode method_3_code 272 = .ok (.daload, 1) := by decide +kernel
theorem d4_273 : decode method_3_code 273 = .ok (.dload 21, 2) := by decide +kernel
theorem d4_275 : decode method_3_code 275 = .ok (.dcmp .l, 1) := by decide +kernel
theorem d4_276 : decode method_3_code 276 = .ok (.ifCond .ne 40, 3) := by decide +kernel
theorem d4_279 : decode method_3_code 279 = .ok (.aload_n 0, 1) := by decide +kernel
theorem d4_280 : decode method_3_code 280 = .ok (.iconst 2, 1) := by decide +kernel
theorem d4_281 : decode method_3_code 281 = .ok (.aaload, 1) := by decide +kernel
theorem d4_282 : decode method_3_code 282 = .ok (.iconst 0, 1) := by decide +kernel
theorem d4_283 : decode method_3_code 283 = .ok (.daload, 1) := by decide +kernel
theorem d4_284 : decode method_3_code 284 = .ok (.dload 23, 2) := by decide +kernel
theorem d4_286 : decode method_3_code 286 = .ok (.dcmp .l, 1) := by decide +kernel
theorem d4_287 : decode method_3_code 287 = .ok (.ifCond .ne 29, 3) := by decide +kernel
theorem d4_290 : decode method_3_code 290 = .ok (.aload_n 0, 1) := by decide +kernel
theorem d4_291 : decode method_3_code 291 = .ok (.iconst 2, 1) := by decide +kernel
theorem d4_292 : decode method_3_code 292 = .ok (.aaload, 1) := by decide +kernel
theorem d4_293 : decode method_3_code 293 = .ok (.iconst 1, 1) := by decide +kernel
theorem d4_294 : decode method_3_code 294 = .ok (.daload, 1) := by decide +kernel
theorem d4_295 : decode method_3_code 295 = .ok (.dload 25, 2) := by decide +kernel
theorem d4_297 : decode method_3_code 297 = .ok (.dcmp .l, 1) := by decide +kernel
theorem d4_298 : decode method_3_code 298 = .ok (.ifCond .ne 18, 3) := by decide +kernel
theorem d4_301 : decode method_3_code 301 = .ok (.aload_n 0, 1) := by decide +kernel
theorem d4_302 : decode method_3_code 302 = .ok (.iconst 2, 1) := by decide +kernel
theorem d4_303 : decode method_3_code 303 = .ok (.aaload, 1) := by decide +kernel
theorem d4_304 : decode method_3_code 304 = .ok (.iconst 2, 1) := by decide +kernel
theorem d4_305 : decode method_3_code 305 = .ok (.daload, 1) := by decide +kernel
theorem d4_306 : decode method_3_code 306 = .ok (.dload 13, 2) := by decide +kernel
theorem d4_308 : decode method_3_code 308 = .ok (.dcmp .l, 1) := by decide +kernel
theorem d4_309 : decode method_3_code 309 = .ok (.ifCond .ne 7, 3) := by decide +kernel
theorem d4_312 : decode method_3_code 312 = .ok (.iconst 1, 1) := by decide +kernel
theorem d4_313 : decode method_3_code 313 = .ok (.goto 4, 3) := by decide +kernel
theorem d4_316 : decode method_3_code 316 = .ok (.iconst 0, 1) := by decide +kernel
theorem d4_317 : decode method_3_code 317 = .ok (.ireturn, 1) := by decide +kernel
theorem pn_4 : plainName "com/example/slewstone/slewstone/control/AttitudeQuaternionAttitudeMatrixPinLaw" = true := by first | (simp [plainName, overriddenIn]; done) | decide +kernel
theorem ef_4 (z0 : Addr) (z1 : UInt64) (z2 : UInt64) (z3 : UInt64) (z4 : UInt64) (m : MethodId) : entryFrame m #[.ref z0, .double z1, .double z2, .double z3, .double z4] 27 = mkF m 0 #[.val (.ref z0), .val (.double z1), .second, .val (.double z2), .second, .val (.double z3), .second, .val (.double z4), .second, .unset, .unset, .unset, .unset, .unset, .unset, .unset, .unset, .unset, .unset, .unset, .unset, .unset, .unset, .unset, .unset, .unset, .unset] [] := by first | (simp [entryFrame, mkF, argsToLocals, Value.category, maxLocals]; done) | rfl
set_option maxRecDepth 65536 in
set_option maxHeartbeats 40000000 in
theorem rm_4 (l : Launch) (Z : State) (a0 : Array Value) (hw : ∀ d ∈ tables_1, d.before a0 Z = true) (ws : List Jvm.Cond) (r : Addr) (b0 : Addr) (b1 : Addr) (b2 : Addr) (kA : ClassId) (kC : ClassId) (x0 : UInt64) (x1 : UInt64) (x2 : UInt64) (x3 : UInt64) (m00 : UInt64) (m01 : UInt64) (m02 : UInt64) (m10 : UInt64) (m11 : UInt64) (m12 : UInt64) (m20 : UInt64) (m21 : UInt64) (m22 : UInt64) (h0 : Heap) (n0 : Nat) (Z0 : n0 ≤ h0.size) (Vr : Arv Z h0 r kA (.array .double) (3 : Int32) [.ref b0, .ref b1, .ref b2] .null) (V0_ : Arv Z h0 b0 kC .double (3 : Int32) [.double m00, .double m01, .double m02] (.double 0)) (V1_ : Arv Z h0 b1 kC .double (3 : Int32) [.double m10, .double m11, .double m12] (.double 0)) (V2_ : Arv Z h0 b2 kC .double (3 : Int32) [.double m20, .double m21, .double m22] (.double 0)) (hN : (own_LM x0 x1 x2 x3).all (fun r => decide (r &&& 0x7fffffffffffffff ≤ 0x7ff0000000000000)) = true) (c0 : cmpValue (FP.dcmp m00 (FP.dadd (FP.dsub (FP.dsub (FP.dmul x0 x0) (FP.dmul x1 x1)) (FP.dmul x2 x2)) (FP.dmul x3 x3))) .l = 0) (c1 : cmpValue (FP.dcmp m01 (FP.dmul 4611686018427387904 (FP.dadd (FP.dmul x0 x1) (FP.dmul x2 x3)))) .l = 0) (c2 : cmpValue (FP.dcmp m02 (FP.dmul 4611686018427387904 (FP.dsub (FP.dmul x0 x2) (FP.dmul x1 x3)))) .l = 0) (c3 : cmpValue (FP.dcmp m10 (FP.dmul 4611686018427387904 (FP.dsub (FP.dmul x0 x1) (FP.dmul x2 x3)))) .l = 0) (c4 : cmpValue (FP.dcmp m11 (FP.dadd (FP.dsub (FP.dadd (FP.dmul (FP.dneg x0) x0) (FP.dmul x1 x1)) (FP.dmul x2 x2)) (FP.dmul x3 x3))) .l = 0) (c5 : cmpValue (FP.dcmp m12 (FP.dmul 4611686018427387904 (FP.dadd (FP.dmul x1 x2) (FP.dmul x0 x3)))) .l = 0) (c6 : cmpValue (FP.dcmp m20 (FP.dmul 4611686018427387904 (FP.dadd (FP.dmul x0 x2) (FP.dmul x1 x3)))) .l = 0) (c7 : cmpValue (FP.dcmp m21 (FP.dmul 4611686018427387904 (FP.dsub (FP.dmul x1 x2) (FP.dmul x0 x3)))) .l = 0) (c8 : cmpValue (FP.dcmp m22 (FP.dadd (FP.dadd (FP.dsub (FP.dmul (FP.dneg x0) x0) (FP.dmul x1 x1)) (FP.dmul x2 x2)) (FP.dmul x3 x3))) .l = 0) :
    OwnMet l Z (⟨"com/example/slewstone/slewstone/control/AttitudeQuaternionAttitudeMatrixPinLaw", "matches", "([[DDDDD)Z"⟩ : MethodName) method_3_code 27 (some .boolean) ws ({ frames := 0, cells := 0, slots := 0, locals := 0 } : Room) #[.ref r, .double x0, .double x1, .double x2, .double x3] h0 (fun v h L => v = some (.int (1 : Int32)) ∧ Fr n0 L ∧ h = h0) := by
  refine own_met (plainFor_of_name pn_4) (ef_4 r x0 x1 x2 x3) ?_
  intro p e s m below meth c s₁ hx hby hml hZ hown hnm hret hlk X0 e0
  have N0 := Fr.nil n0
  refine s_aloadN X0 hx (hb hby d4_0) (pc' := 1) rfl rfl rfl ?_
  refine s_nullN X0 hx (hb hby d4_1) (pc' := 4) rfl  ?_
  refine s_aloadN X0 hx (hb hby d4_4) (pc' := 5) rfl rfl rfl ?_
  refine s_len X0 hx hZ e0 Vr (hb hby d4_5) (pc' := 6) rfl ?_
  refine s_iconst X0 hx (3 : Int32) (hb hby d4_6) (pc' := 7) rfl rfl ?_
  refine s_icmpY X0 hx (hb hby d4_7) (by decide) (by decide) (pc' := 12) (by decide) ?_
  refine s_aloadN X0 hx (hb hby d4_12) (pc' := 13) rfl rfl rfl ?_
  refine s_iconst X0 hx (0 : Int32) (hb hby d4_13) (pc' := 14) rfl rfl ?_
  refine s_aaload X0 hx hZ e0 Vr rfl (by decide) (v := .ref b0) rfl (hb hby d4_14) (pc' := 15) rfl ?_
  refine s_nullN X0 hx (hb hby d4_15) (pc' := 18) rfl  ?_
  refine s_aloadN X0 hx (hb hby d4_18) (pc' := 19) rfl rfl rfl ?_
  refine s_iconst X0 hx (1 : Int32) (hb hby d4_19) (pc' := 20) rfl rfl ?_
  refine s_aaload X0 hx hZ e0 Vr rfl (by decide) (v := .ref b1) rfl (hb hby d4_20) (pc' := 21) rfl ?_
  refine s_nullN X0 hx (hb hby d4_21) (pc' := 24) rfl  ?_
  refine s_aloadN X0 hx (hb hby d4_24) (pc' := 25) rfl rfl rfl ?_
  refine s_iconst X0 hx (2 : Int32) (hb hby d4_25) (pc' := 26) rfl rfl ?_
  refine s_aaload X0 hx hZ e0 Vr rfl (by decide) (v := .ref b2) rfl (hb hby d4_26) (pc' := 27) rfl ?_
  refine s_nonnullY X0 hx (hb hby d4_27)  (by decide) (pc' := 32) (by decide) ?_
  refine s_aloadN X0 hx (hb hby d4_32) (pc' := 33) rfl rfl rfl ?_
  refine s_iconst X0 hx (0 : Int32) (hb hby d4_33) (pc' := 34) rfl rfl ?_
  refine s_aaload X0 hx hZ e0 Vr rfl (by decide) (v := .ref b0) rfl (hb hby d4_34) (pc' := 35) rfl ?_
  refine s_len X0 hx hZ e0 V0_ (hb hby d4_35) (pc' := 36) rfl ?_
  refine s_iconst X0 hx (3 : Int32) (hb hby d4_36) (pc' := 37) rfl rfl ?_
  refine s_icmpN X0 hx (hb hby d4_37) (pc' := 40) rfl (by decide) ?_
  refine s_aloadN X0 hx (hb hby d4_40) (pc' := 41) rfl rfl rfl ?_
  refine s_iconst X0 hx (1 : Int32) (hb hby d4_41) (pc' := 42) rfl rfl ?_
  refine s_aaload X0 hx hZ e0 Vr rfl (by decide) (v := .ref b1) rfl (hb hby d4_42) (pc' := 43) rfl ?_
  refine s_len X0 hx hZ e0 V1_ (hb hby d4_43) (pc' := 44) rfl ?_
  refine s_iconst X0 hx (3 : Int32) (hb hby d4_44) (pc' := 45) rfl rfl ?_
  refine s_icmpN X0 hx (hb hby d4_45) (pc' := 48) rfl (by decide) ?_
  refine s_aloadN X0 hx (hb hby d4_48) (pc' := 49) rfl rfl rfl ?_
  refine s_iconst X0 hx (2 : Int32) (hb hby d4_49) (pc' := 50) rfl rfl ?_
  refine s_aaload X0 hx hZ e0 Vr rfl (by decide) (v := .ref b2) rfl (hb hby d4_50) (pc' := 51) rfl ?_
  refine s_len X0 hx hZ e0 V2_ (hb hby d4_51) (pc' := 52) rfl ?_
  refine s_iconst X0 hx (3 : Int32) (hb hby d4_52) (pc' := 53) rfl rfl ?_
  refine s_icmpY X0 hx (hb hby d4_53) (by decide) (by decide) (pc' := 58) (by decide) ?_
  refine s_dloadN X0 hx (hb hby d4_58) (pc' := 59) rfl rfl ?_
  refine s_dloadN X0 hx (hb hby d4_59) (pc' := 60) rfl rfl ?_
  refine s_dmul X0 hx (FP.dmul x0 x0) (hb hby d4_60) (pc' := 61) rfl (own_all hN (k := 0) rfl) rfl ?_
  refine s_dloadN X0 hx (hb hby d4_61) (pc' := 62) rfl rfl ?_
  refine s_dloadN X0 hx (hb hby d4_62) (pc' := 63) rfl rfl ?_
  refine s_dmul X0 hx (FP.dmul x1 x1) (hb hby d4_63) (pc' := 64) rfl (own_all hN (k := 1) rfl) rfl ?_
  refine s_dsub X0 hx (FP.dsub (FP.dmul x0 x0) (FP.dmul x1 x1)) (hb hby d4_64) (pc' := 65) rfl (own_all hN (k := 2) rfl) rfl ?_
  refine s_dload X0 hx (hb hby d4_65) (pc' := 67) rfl rfl ?_
  refine s_dload X0 hx (hb hby d4_67) (pc' := 69) rfl rfl ?_
  refine s_dmul X0 hx (FP.dmul x2 x2) (hb hby d4_69) (pc' := 70) rfl (own_all hN (k := 3) rfl) rfl ?_
  refine s_dsub X0 hx (FP.dsub (FP.dsub (FP.dmul x0 x0) (FP.dmul x1 x1)) (FP.dmul x2 x2)) (hb hby d4_70) (pc' := 71) rfl (own_all hN (k := 4) rfl) rfl ?_
  refine s_dload X0 hx (hb hby d4_71) (pc' := 73) rfl rfl ?_
  refine s_dload X0 hx (hb hby d4_73) (pc' := 75) rfl rfl ?_
  refine s_dmul X0 hx (FP.dmul x3 x3) (hb hby d4_75) (pc' := 76) rfl (own_all hN (k := 5) rfl) rfl ?_
  refine s_dadd X0 hx (FP.dadd (FP.dsub (FP.dsub (FP.dmul x0 x0) (FP.dmul x1 x1)) (FP.dmul x2 x2)) (FP.dmul x3 x3)) (hb hby d4_76) (pc' := 77) rfl (own_all hN (k := 6) rfl) rfl ?_
  refine s_dstore X0 hx #[.val (.ref r), .val (.double x0), .second, .val (.double x1), .second, .val (.double x2), .second, .val (.double x3), .second, .val (.double (FP.dadd (FP.dsub (FP.dsub (FP.dmul x0 x0) (FP.dmul x1 x1)) (FP.dmul x2 x2)) (FP.dmul x3 x3))), .second, .unset, .unset, .unset, .unset, .unset, .unset, .unset, .unset, .unset, .unset, .unset, .unset, .unset, .unset, .unset, .unset] (hb hby d4_77) (pc' := 79) rfl rfl ?_
  refine s_dloadN X0 hx (hb hby d4_79) (pc' := 80) rfl rfl ?_
  refine s_dneg X0 hx (hb hby d4_80) (pc' := 81) rfl ?_
  refine s_dloadN X0 hx (hb hby d4_81) (pc' := 82) rfl rfl ?_
  refine s_dmul X0 hx (FP.dmul (FP.dneg x0) x0) (hb hby d4_82) (pc' := 83) rfl (own_all hN (k := 7) rfl) rfl ?_
  refine s_dloadN X0 hx (hb hby d4_83) (pc' := 84) rfl rfl ?_
  refine s_dloadN X0 hx (hb hby d4_84) (pc' := 85) rfl rfl ?_
  refine s_dmul X0 hx (FP.dmul x1 x1) (hb hby d4_85) (pc' := 86) rfl (own_all hN (k := 8) rfl) rfl ?_
  refine s_dadd X0 hx (FP.dadd (FP.dmul (FP.dneg x0) x0) (FP.dmul x1 x1)) (hb hby d4_86) (pc' := 87) rfl (own_all hN (k := 9) rfl) rfl ?_
  refine s_dload X0 hx (hb hby d4_87) (pc' := 89) rfl rfl ?_
  refine s_dload X0 hx (hb hby d4_89) (pc' := 91) rfl rfl ?_
  refine s_dmul X0 hx (FP.dmul x2 x2) (hb hby d4_91) (pc' := 92) rfl (own_all hN (k := 10) rfl) rfl ?_
  refine s_dsub X0 hx (FP.dsub (FP.dadd (FP.dmul (FP.dneg x0) x0) (FP.dmul x1 x1)) (FP.dmul x2 x2)) (hb hby d4_92) (pc' := 93) rfl (own_all hN (k := 11) rfl) rfl ?_
  refine s_dload X0 hx (hb hby d4_93) (pc' := 95) rfl rfl ?_
  refine s_dload X0 hx (hb hby d4_95) (pc' := 97) rfl rfl ?_
  refine s_dmul X0 hx (FP.dmul x3 x3) (hb hby d4_97) (pc' := 98) rfl (own_all hN (k := 12) rfl) rfl ?_
  refine s_dadd X0 hx (FP.dadd (FP.dsub (FP.dadd (FP.dmul (FP.dneg x0) x0) (FP.dmul x1 x1)) (FP.dmul x2 x2)) (FP.dmul x3 x3)) (hb hby d4_98) (pc' := 99) rfl (own_all hN (k := 13) rfl) rfl ?_
  refine s_dstore X0 hx #[.val (.ref r), .val (.double x0), .second, .val (.double x1), .second, .val (.double x2), .second, .val (.double x3), .second, .val (.double (FP.dadd (FP.dsub (FP.dsub (FP.dmul x0 x0) (FP.dmul x1 x1)) (FP.dmul x2 x2)) (FP.dmul x3 x3))), .second, .val (.double (FP.dadd (FP.dsub (FP.dadd (FP.dmul (FP.dneg x0) x0) (FP.dmul x1 x1)) (FP.dmul x2 x2)) (FP.dmul x3 x3))), .second, .unset, .unset, .unset, .unset, .unset, .unset, .unset, .unset, .unset, .unset, .unset, .unset, .unset, .unset] (hb hby d4_99) (pc' := 101) rfl rfl ?_
  refine s_dloadN X0 hx (hb hby d4_101) (pc' := 102) rfl rfl ?_
  refine s_dneg X0 hx (hb hby d4_102) (pc' := 103) rfl ?_
  refine s_dloadN X0 hx (hb hby d4_103) (pc' := 104) rfl rfl ?_
  refine s_dmul X0 hx (FP.dmul (FP.dneg x0) x0) (hb hby d4_104) (pc' := 105) rfl (own_all hN (k := 14) rfl) rfl ?_
  refine s_dloadN X0 hx (hb hby d4_105) (pc' := 106) rfl rfl ?_
  refine s_dloadN X0 hx (hb hby d4_106) (pc' := 107) rfl rfl ?_
  refine s_dmul X0 hx (FP.dmul x1 x1) (hb hby d4_107) (pc' := 108) rfl (own_all hN (k := 15) rfl) rfl ?_
  refine s_dsub X0 hx (FP.dsub (FP.dmul (FP.dneg x0) x0) (FP.dmul x1 x1)) (hb hby d4_108) (pc' := 109) rfl (own_all hN (k := 16) rfl) rfl ?_
  refine s_dload X0 hx (hb hby d4_109) (pc' := 111) rfl rfl ?_
  refine s_dload X0 hx (hb hby d4_111) (pc' := 113) rfl rfl ?_
  refine s_dmul X0 hx (FP.dmul x2 x2) (hb hby d4_113) (pc' := 114) rfl (own_all hN (k := 17) rfl) rfl ?_
  refine s_dadd X0 hx (FP.dadd (FP.dsub (FP.dmul (FP.dneg x0) x0) (FP.dmul x1 x1)) (FP.dmul x2 x2)) (hb hby d4_114) (pc' := 115) rfl (own_all hN (k := 18) rfl) rfl ?_
  refine s_dload X0 hx (hb hby d4_115) (pc' := 117) rfl rfl ?_
  refine s_dload X0 hx (hb hby d4_117) (pc' := 119) rfl rfl ?_
  refine s_dmul X0 hx (FP.dmul x3 x3) (hb hby d4_119) (pc' := 120) rfl (own_all hN (k := 19) rfl) rfl ?_
  refine s_dadd X0 hx (FP.dadd (FP.dadd (FP.dsub (FP.dmul (FP.dneg x0) x0) (FP.dmul x1 x1)) (FP.dmul x2 x2)) (FP.dmul x3 x3)) (hb hby d4_120) (pc' := 121) rfl (own_all hN (k := 20) rfl) rfl ?_
  refine s_dstore X0 hx #[.val (.ref r), .val (.double x0), .second, .val (.double x1), .second, .val (.double x2), .second, .val (.double x3), .second, .val (.double (FP.dadd (FP.dsub (FP.dsub (FP.dmul x0 x0) (FP.dmul x1 x1)) (FP.dmul x2 x2)) (FP.dmul x3 x3))), .second, .val (.double (FP.dadd (FP.dsub (FP.dadd (FP.dmul (FP.dneg x0) x0) (FP.dmul x1 x1)) (FP.dmul x2 x2)) (FP.dmul x3 x3))), .second, .val (.double (FP.dadd (FP.dadd (FP.dsub (FP.dmul (FP.dneg x0) x0) (FP.dmul x1 x1)) (FP.dmul x2 x2)) (FP.dmul x3 x3))), .second, .unset, .unset, .unset, .unset, .unset, .unset, .unset, .unset, .unset, .unset, .unset, .unset] (hb hby d4_121) (pc' := 123) rfl rfl ?_
  refine s_ldcD X0 hx hZ hown (hw _ (List.mem_of_getElem? (i := 31) rfl)) (hb hby d4_123) (pc' := 126) rfl ?_
  refine s_dloadN X0 hx (hb hby d4_126) (pc' := 127) rfl rfl ?_
  refine s_dloadN X0 hx (hb hby d4_127) (pc' := 128) rfl rfl ?_
  refine s_dmul X0 hx (FP.dmul x0 x1) (hb hby d4_128) (pc' := 129) rfl (own_all hN (k := 21) rfl) rfl ?_
  refine s_dload X0 hx (hb hby d4_129) (pc' := 131) rfl rfl ?_
  refine s_dload X0 hx (hb hby d4_131) (pc' := 133) rfl rfl ?_
  refine s_dmul X0 hx (FP.dmul x2 x3) (hb hby d4_133) (pc' := 134) rfl (own_all hN (k := 22) rfl) rfl ?_
  refine s_dadd X0 hx (FP.dadd (FP.dmul x0 x1) (FP.dmul x2 x3)) (hb hby d4_134) (pc' := 135) rfl (own_all hN (k := 23) rfl) rfl ?_
  refine s_dmul X0 hx (FP.dmul 4611686018427387904 (FP.dadd (FP.dmul x0 x1) (FP.dmul x2 x3))) (hb hby d4_135) (pc' := 136) rfl (own_all hN (k := 24) rfl) rfl ?_
  refine s_dstore X0 hx #[.val (.ref r), .val (.double x0), .second, .val (.double x1), .second, .val (.double x2), .second, .val (.double x3), .second, .val (.double (FP.dadd (FP.dsub (FP.dsub (FP.dmul x0 x0) (FP.dmul x1 x1)) (FP.dmul x2 x2)) (FP.dmul x3 x3))), .second, .val (.double (FP.dadd (FP.dsub (FP.dadd (FP.dmul (FP.dneg x0) x0) (FP.dmul x1 x1)) (FP.dmul x2 x2)) (FP.dmul x3 x3))), .second, .val (.double (FP.dadd (FP.dadd (FP.dsub (FP.dmul (FP.dneg x0) x0) (FP.dmul x1 x1)) (FP.dmul x2 x2)) (FP.dmul x3 x3))), .second, .val (.double (FP.dmul 4611686018427387904 (FP.dadd (FP.dmul x0 x1) (FP.dmul x2 x3)))), .second, .unset, .unset, .unset, .unset, .unset, .unset, .unset, .unset, .unset, .unset] (hb hby d4_136) (pc' := 138) rfl rfl ?_
  refine s_ldcD X0 hx hZ hown (hw _ (List.mem_of_getElem? (i := 31) rfl)) (hb hby d4_138) (pc' := 141) rfl ?_
  refine s_dloadN X0 hx (hb hby d4_141) (pc' := 142) rfl rfl ?_
  refine s_dload X0 hx (hb hby d4_142) (pc' := 144) rfl rfl ?_
  refine s_dmul X0 hx (FP.dmul x0 x2) (hb hby d4_144) (pc' := 145) rfl (own_all hN (k := 25) rfl) rfl ?_
  refine s_dloadN X0 hx (hb hby d4_145) (pc' := 146) rfl rfl ?_
  refine s_dload X0 hx (hb hby d4_146) (pc' := 148) rfl rfl ?_
  refine s_dmul X0 hx (FP.dmul x1 x3) (hb hby d4_148) (pc' := 149) rfl (own_all hN (k := 26) rfl) rfl ?_
  refine s_dsub X0 hx (FP.dsub (FP.dmul x0 x2) (FP.dmul x1 x3)) (hb hby d4_149) (pc' := 150) rfl (own_all hN (k := 27) rfl) rfl ?_
  refine s_dmul X0 hx (FP.dmul 4611686018427387904 (FP.dsub (FP.dmul x0 x2) (FP.dmul x1 x3))) (hb hby d4_150) (pc' := 151) rfl (own_all hN (k := 28) rfl) rfl ?_
  refine s_dstore X0 hx #[.val (.ref r), .val (.double x0), .second, .val (.double x1), .second, .val (.double x2), .second, .val (.double x3), .second, .val (.double (FP.dadd (FP.dsub (FP.dsub (FP.dmul x0 x0) (FP.dmul x1 x1)) (FP.dmul x2 x2)) (FP.dmul x3 x3))), .second, .val (.double (FP.dadd (FP.dsub (FP.dadd (FP.dmul (FP.dneg x0) x0) (FP.dmul x1 x1)) (FP.dmul x2 x2)) (FP.dmul x3 x3))), .second, .val (.double (FP.dadd (FP.dadd (FP.dsub (FP.dmul (FP.dneg x0) x0) (FP.dmul x1 x1)) (FP.dmul x2 x2)) (FP.dmul x3 x3))), .second, .val (.double (FP.dmul 4611686018427387904 (FP.dadd (FP.dmul x0 x1) (FP.dmul x2 x3)))), .second, .val (.double (FP.dmul 4611686018427387904 (FP.dsub (FP.dmul x0 x2) (FP.dmul x1 x3)))), .second, .unset, .unset, .unset, .unset, .unset, .unset, .unset, .unset] (hb hby d4_151) (pc' := 153) rfl rfl ?_
  refine s_ldcD X0 hx hZ hown (hw _ (List.mem_of_getElem? (i := 31) rfl)) (hb hby d4_153) (pc' := 156) rfl ?_
  refine s_dloadN X0 hx (hb hby d4_156) (pc' := 157) rfl rfl ?_
  refine s_dloadN X0 hx (hb hby d4_157) (pc' := 158) rfl rfl ?_
  refine s_dmul X0 hx (FP.dmul x0 x1) (hb hby d4_158) (pc' := 159) rfl (own_all hN (k := 29) rfl) rfl ?_
  refine s_dload X0 hx (hb hby d4_159) (pc' := 161) rfl rfl ?_
  refine s_dload X0 hx (hb hby d4_161) (pc' := 163) rfl rfl ?_
  refine s_dmul X0 hx (FP.dmul x2 x3) (hb hby d4_163) (pc' := 164) rfl (own_all hN (k := 30) rfl) rfl ?_
  refine s_dsub X0 hx (FP.dsub (FP.dmul x0 x1) (FP.dmul x2 x3)) (hb hby d4_164) (pc' := 165) rfl (own_all hN (k := 31) rfl) rfl ?_
  refine s_dmul X0 hx (FP.dmul 4611686018427387904 (FP.dsub (FP.dmul x0 x1) (FP.dmul x2 x3))) (hb hby d4_165) (pc' := 166) rfl (own_all hN (k := 32) rfl) rfl ?_
  refine s_dstore X0 hx #[.val (.ref r), .val (.double x0), .second, .val (.double x1), .second, .val (.double x2), .second, .val (.double x3), .second, .val (.double (FP.dadd (FP.dsub (FP.dsub (FP.dmul x0 x0) (FP.dmul x1 x1)) (FP.dmul x2 x2)) (FP.dmul x3 x3))), .second, .val (.double (FP.dadd (FP.dsub (FP.dadd (FP.dmul (FP.dneg x0) x0) (FP.dmul x1 x1)) (FP.dmul x2 x2)) (FP.dmul x3 x3))), .second, .val (.double (FP.dadd (FP.dadd (FP.dsub (FP.dmul (FP.dneg x0) x0) (FP.dmul x1 x1)) (FP.dmul x2 x2)) (FP.dmul x3 x3))), .second, .val (.double (FP.dmul 4611686018427387904 (FP.dadd (FP.dmul x0 x1) (FP.dmul x2 x3)))), .second, .val (.double (FP.dmul 4611686018427387904 (FP.dsub (FP.dmul x0 x2) (FP.dmul x1 x3)))), .second, .val (.double (FP.dmul 4611686018427387904 (FP.dsub (FP.dmul x0 x1) (FP.dmul x2 x3)))), .second, .unset, .unset, .unset, .unset, .unset, .unset] (hb hby d4_166) (pc' := 168) rfl rfl ?_
  refine s_ldcD X0 hx hZ hown (hw _ (List.mem_of_getElem? (i := 31) rfl)) (hb hby d4_168) (pc' := 171) rfl ?_
  refine s_dloadN X0 hx (hb hby d4_171) (pc' := 172) rfl rfl ?_
  refine s_dload X0 hx (hb hby d4_172) (pc' := 174) rfl rfl ?_
  refine s_dmul X0 hx (FP.dmul x1 x2) (hb hby d4_174) (pc' := 175) rfl (own_all hN (k := 33) rfl) rfl ?_
  refine s_dloadN X0 hx (hb hby d4_175) (pc' := 176) rfl rfl ?_
  refine s_dload X0 hx (hb hby d4_176) (pc' := 178) rfl rfl ?_
  refine s_dmul X0 hx (FP.dmul x0 x3) (hb hby d4_178) (pc' := 179) rfl (own_all hN (k := 34) rfl) rfl ?_
  refine s_dadd X0 hx (FP.dadd (FP.dmul x1 x2) (FP.dmul x0 x3)) (hb hby d4_179) (pc' := 180) rfl (own_all hN (k := 35) rfl) rfl ?_
  refine s_dmul X0 hx (FP.dmul 4611686018427387904 (FP.dadd (FP.dmul x1 x2) (FP.dmul x0 x3))) (hb hby d4_180) (pc' := 181) rfl (own_all hN (k := 36) rfl) rfl ?_
  refine s_dstore X0 hx #[.val (.ref r), .val (.double x0), .second, .val (.double x1), .second, .val (.double x2), .second, .val (.double x3), .second, .val (.double (FP.dadd (FP.dsub (FP.dsub (FP.dmul x0 x0) (FP.dmul x1 x1)) (FP.dmul x2 x2)) (FP.dmul x3 x3))), .second, .val (.double (FP.dadd (FP.dsub (FP.dadd (FP.dmul (FP.dneg x0) x0) (FP.dmul x1 x1)) (FP.dmul x2 x2)) (FP.dmul x3 x3))), .second, .val (.double (FP.dadd (FP.dadd (FP.dsub (FP.dmul (FP.dneg x0) x0) (FP.dmul x1 x1)) (FP.dmul x2 x2)) (FP.dmul x3 x3))), .second, .val (.double (FP.dmul 4611686018427387904 (FP.dadd (FP.dmul x0 x1) (FP.dmul x2 x3)))), .second, .val (.double (FP.dmul 4611686018427387904 (FP.dsub (FP.dmul x0 x2) (FP.dmul x1 x3)))), .second, .val (.double (FP.dmul 4611686018427387904 (FP.dsub (FP.dmul x0 x1) (FP.dmul x2 x3)))), .second, .val (.double (FP.dmul 4611686018427387904 (FP.dadd (FP.dmul x1 x2) (FP.dmul x0 x3)))), .second, .unset, .unset, .unset, .unset] (hb hby d4_181) (pc' := 183) rfl rfl ?_
  refine s_ldcD X0 hx hZ hown (hw _ (List.mem_of_getElem? (i := 31) rfl)) (hb hby d4_183) (pc' := 186) rfl ?_
  refine s_dloadN X0 hx (hb hby d4_186) (pc' := 187) rfl rfl ?_
  refine s_dload X0 hx (hb hby d4_187) (pc' := 189) rfl rfl ?_
  refine s_dmul X0 hx (FP.dmul x0 x2) (hb hby d4_189) (pc' := 190) rfl (own_all hN (k := 37) rfl) rfl ?_
  refine s_dloadN X0 hx (hb hby d4_190) (pc' := 191) rfl rfl ?_
  refine s_dload X0 hx (hb hby d4_191) (pc' := 193) rfl rfl ?_
  refine s_dmul X0 hx (FP.dmul x1 x3) (hb hby d4_193) (pc' := 194) rfl (own_all hN (k := 38) rfl) rfl ?_
  refine s_dadd X0 hx (FP.dadd (FP.dmul x0 x2) (FP.dmul x1 x3)) (hb hby d4_194) (pc' := 195) rfl (own_all hN (k := 39) rfl) rfl ?_
  refine s_dmul X0 hx (FP.dmul 4611686018427387904 (FP.dadd (FP.dmul x0 x2) (FP.dmul x1 x3))) (hb hby d4_195) (pc' := 196) rfl (own_all hN (k := 40) rfl) rfl ?_
  refine s_dstore X0 hx #[.val (.ref r), .val (.double x0), .second, .val (.double x1), .second, .val (.double x2), .second, .val (.double x3), .second, .val (.double (FP.dadd (FP.dsub (FP.dsub (FP.dmul x0 x0) (FP.dmul x1 x1)) (FP.dmul x2 x2)) (FP.dmul x3 x3))), .second, .val (.double (FP.dadd (FP.dsub (FP.dadd (FP.dmul (FP.dneg x0) x0) (FP.dmul x1 x1)) (FP.dmul x2 x2)) (FP.dmul x3 x3))), .second, .val (.double (FP.dadd (FP.dadd (FP.dsub (FP.dmul (FP.dneg x0) x0) (FP.dmul x1 x1)) (FP.dmul x2 x2)) (FP.dmul x3 x3))), .second, .val (.double (FP.dmul 4611686018427387904 (FP.dadd (FP.dmul x0 x1) (FP.dmul x2 x3)))), .second, .val (.double (FP.dmul 4611686018427387904 (FP.dsub (FP.dmul x0 x2) (FP.dmul x1 x3)))), .second, .val (.double (FP.dmul 4611686018427387904 (FP.dsub (FP.dmul x0 x1) (FP.dmul x2 x3)))), .second, .val (.double (FP.dmul 4611686018427387904 (FP.dadd (FP.dmul x1 x2) (FP.dmul x0 x3)))), .second, .val (.double (FP.dmul 4611686018427387904 (FP.dadd (FP.dmul x0 x2) (FP.dmul x1 x3)))), .second, .unset, .unset] (hb hby d4_196) (pc' := 198) rfl rfl ?_
  refine s_ldcD X0 hx hZ hown (hw _ (List.mem_of_getElem? (i := 31) rfl)) (hb hby d4_198) (pc' := 201) rfl ?_
  refine s_dloadN X0 hx (hb hby d4_201) (pc' := 202) rfl rfl ?_
  refine s_dload X0 hx (hb hby d4_202) (pc' := 204) rfl rfl ?_
  refine s_dmul X0 hx (FP.dmul x1 x2) (hb hby d4_204) (pc' := 205) rfl (own_all hN (k := 41) rfl) rfl ?_
  refine s_dloadN X0 hx (hb hby d4_205) (pc' := 206) rfl rfl ?_
  refine s_dload X0 hx (hb hby d4_206) (pc' := 208) rfl rfl ?_
  refine s_dmul X0 hx (FP.dmul x0 x3) (hb hby d4_208) (pc' := 209) rfl (own_all hN (k := 42) rfl) rfl ?_
  refine s_dsub X0 hx (FP.dsub (FP.dmul x1 x2) (FP.dmul x0 x3)) (hb hby d4_209) (pc' := 210) rfl (own_all hN (k := 43) rfl) rfl ?_
  refine s_dmul X0 hx (FP.dmul 4611686018427387904 (FP.dsub (FP.dmul x1 x2) (FP.dmul x0 x3))) (hb hby d4_210) (pc' := 211) rfl (own_all hN (k := 44) rfl) rfl ?_
  refine s_dstore X0 hx #[.val (.ref r), .val (.double x0), .second, .val (.double x1), .second, .val (.double x2), .second, .val (.double x3), .second, .val (.double (FP.dadd (FP.dsub (FP.dsub (FP.dmul x0 x0) (FP.dmul x1 x1)) (FP.dmul x2 x2)) (FP.dmul x3 x3))), .second, .val (.double (FP.dadd (FP.dsub (FP.dadd (FP.dmul (FP.dneg x0) x0) (FP.dmul x1 x1)) (FP.dmul x2 x2)) (FP.dmul x3 x3))), .second, .val (.double (FP.dadd (FP.dadd (FP.dsub (FP.dmul (FP.dneg x0) x0) (FP.dmul x1 x1)) (FP.dmul x2 x2)) (FP.dmul x3 x3))), .second, .val (.double (FP.dmul 4611686018427387904 (FP.dadd (FP.dmul x0 x1) (FP.dmul x2 x3)))), .second, .val (.double (FP.dmul 4611686018427387904 (FP.dsub (FP.dmul x0 x2) (FP.dmul x1 x3)))), .second, .val (.double (FP.dmul 4611686018427387904 (FP.dsub (FP.dmul x0 x1) (FP.dmul x2 x3)))), .second, .val (.double (FP.dmul 4611686018427387904 (FP.dadd (FP.dmul x1 x2) (FP.dmul x0 x3)))), .second, .val (.double (FP.dmul 4611686018427387904 (FP.dadd (FP.dmul x0 x2) (FP.dmul x1 x3)))), .second, .val (.double (FP.dmul 4611686018427387904 (FP.dsub (FP.dmul x1 x2) (FP.dmul x0 x3)))), .second] (hb hby d4_211) (pc' := 213) rfl rfl ?_
  refine s_aloadN X0 hx (hb hby d4_213) (pc' := 214) rfl rfl rfl ?_
  refine s_iconst X0 hx (0 : Int32) (hb hby d4_214) (pc' := 215) rfl rfl ?_
  refine s_aaload X0 hx hZ e0 Vr rfl (by decide) (v := .ref b0) rfl (hb hby d4_215) (pc' := 216) rfl ?_
  refine s_iconst X0 hx (0 : Int32) (hb hby d4_216) (pc' := 217) rfl rfl ?_
  refine s_daload X0 hx hZ e0 V0_ (by decide) (v := .double m00) rfl (hb hby d4_217) (pc' := 218) rfl ?_
  refine s_dload X0 hx (hb hby d4_218) (pc' := 220) rfl rfl ?_
  refine s_dcmp X0 hx (0 : Int32) (hb hby d4_220) (pc' := 221) rfl (c0) ?_
  refine s_ifN X0 hx (hb hby d4_221) (pc' := 224) rfl (by decide) ?_
  refine s_aloadN X0 hx (hb hby d4_224) (pc' := 225) rfl rfl rfl ?_
  refine s_iconst X0 hx (0 : Int32) (hb hby d4_225) (pc' := 226) rfl rfl ?_
  refine s_aaload X0 hx hZ e0 Vr rfl (by decide) (v := .ref b0) rfl (hb hby d4_226) (pc' := 227) rfl ?_
  refine s_iconst X0 hx (1 : Int32) (hb hby d4_227) (pc' := 228) rfl rfl ?_
  refine s_daload X0 hx hZ e0 V0_ (by decide) (v := .double m01) rfl (hb hby d4_228) (pc' := 229) rfl ?_
  refine s_dload X0 hx (hb hby d4_229) (pc' := 231) rfl rfl ?_
  refine s_dcmp X0 hx (0 : Int32) (hb hby d4_231) (pc' := 232) rfl (c1) ?_
  refine s_ifN X0 hx (hb hby d4_232) (pc' := 235) rfl (by decide) ?_
  refine s_aloadN X0 hx (hb hby d4_235) (pc' := 236) rfl rfl rfl ?_
  refine s_iconst X0 hx (0 : Int32) (hb hby d4_236) (pc' := 237) rfl rfl ?_
  refine s_aaload X0 hx hZ e0 Vr rfl (by decide) (v := .ref b0) rfl (hb hby d4_237) (pc' := 238) rfl ?_
  refine s_iconst X0 hx (2 : Int32) (hb hby d4_238) (pc' := 239) rfl rfl ?_
  refine s_daload X0 hx hZ e0 V0_ (by decide) (v := .double m02) rfl (hb hby d4_239) (pc' := 240) rfl ?_
  refine s_dload X0 hx (hb hby d4_240) (pc' := 242) rfl rfl ?_
  refine s_dcmp X0 hx (0 : Int32) (hb hby d4_242) (pc' := 243) rfl (c2) ?_
  refine s_ifN X0 hx (hb hby d4_243) (pc' := 246) rfl (by decide) ?_
  refine s_aloadN X0 hx (hb hby d4_246) (pc' := 247) rfl rfl rfl ?_
  refine s_iconst X0 hx (1 : Int32) (hb hby d4_247) (pc' := 248) rfl rfl ?_
  refine s_aaload X0 hx hZ e0 Vr rfl (by decide) (v := .ref b1) rfl (hb hby d4_248) (pc' := 249) rfl ?_
  refine s_iconst X0 hx (0 : Int32) (hb hby d4_249) (pc' := 250) rfl rfl ?_
  refine s_daload X0 hx hZ e0 V1_ (by decide) (v := .double m10) rfl (hb hby d4_250) (pc' := 251) rfl ?_
  refine s_dload X0 hx (hb hby d4_251) (pc' := 253) rfl rfl ?_
  refine s_dcmp X0 hx (0 : Int32) (hb hby d4_253) (pc' := 254) rfl (c3) ?_
  refine s_ifN X0 hx (hb hby d4_254) (pc' := 257) rfl (by decide) ?_
  refine s_aloadN X0 hx (hb hby d4_257) (pc' := 258) rfl rfl rfl ?_
  refine s_iconst X0 hx (1 : Int32) (hb hby d4_258) (pc' := 259) rfl rfl ?_
  refine s_aaload X0 hx hZ e0 Vr rfl (by decide) (v := .ref b1) rfl (hb hby d4_259) (pc' := 260) rfl ?_
  refine s_iconst X0 hx (1 : Int32) (hb hby d4_260) (pc' := 261) rfl rfl ?_
  refine s_daload X0 hx hZ e0 V1_ (by decide) (v := .double m11) rfl (hb hby d4_261) (pc' := 262) rfl ?_
  refine s_dload X0 hx (hb hby d4_262) (pc' := 264) rfl rfl ?_
  refine s_dcmp X0 hx (0 : Int32) (hb hby d4_264) (pc' := 265) rfl (c4) ?_
  refine s_ifN X0 hx (hb hby d4_265) (pc' := 268) rfl (by decide) ?_
  refine s_aloadN X0 hx (hb hby d4_268) (pc' := 269) rfl rfl rfl ?_
  refine s_iconst X0 hx (1 : Int32) (hb hby d4_269) (pc' := 270) rfl rfl ?_
  refine s_aaload X0 hx hZ e0 Vr rfl (by decide) (v := .ref b1) rfl (hb hby d4_270) (pc' := 271) rfl ?_
  refine s_iconst X0 hx (2 : Int32) (hb hby d4_271) (pc' := 272) rfl rfl ?_
  refine s_daload X0 hx hZ e0 V1_ (by decide) (v := .double m12) rfl (hb hby d4_272) (pc' := 273) rfl ?_
  refine s_dload X0 hx (hb hby d4_273) (pc' := 275) rfl rfl ?_
  refine s_dcmp X0 hx (0 : Int32) (hb hby d4_275) (pc' := 276) rfl (c5) ?_
  refine s_ifN X0 hx (hb hby d4_276) (pc' := 279) rfl (by decide) ?_
  refine s_aloadN X0 hx (hb hby d4_279) (pc' := 280) rfl rfl rfl ?_
  refine s_iconst X0 hx (2 : Int32) (hb hby d4_280) (pc' := 281) rfl rfl ?_
  refine s_aaload X0 hx hZ e0 Vr rfl (by decide) (v := .ref b2) rfl (hb hby d4_281) (pc' := 282) rfl ?_
  refine s_iconst X0 hx (0 : Int32) (hb hby d4_282) (pc' := 283) rfl rfl ?_
  refine s_daload X0 hx hZ e0 V2_ (by decide) (v := .double m20) rfl (hb hby d4_283) (pc' := 284) rfl ?_
  refine s_dload X0 hx (hb hby d4_284) (pc' := 286) rfl rfl ?_
  refine s_dcmp X0 hx (0 : Int32) (hb hby d4_286) (pc' := 287) rfl (c6) ?_
  refine s_ifN X0 hx (hb hby d4_287) (pc' := 290) rfl (by decide) ?_
  refine s_aloadN X0 hx (hb hby d4_290) (pc' := 291) rfl rfl rfl ?_
  refine s_iconst X0 hx (2 : Int32) (hb hby d4_291) (pc' := 292) rfl rfl ?_
  refine s_aaload X0 hx hZ e0 Vr rfl (by decide) (v := .ref b2) rfl (hb hby d4_292) (pc' := 293) rfl ?_
  refine s_iconst X0 hx (1 : Int32) (hb hby d4_293) (pc' := 294) rfl rfl ?_
  refine s_daload X0 hx hZ e0 V2_ (by decide) (v := .double m21) rfl (hb hby d4_294) (pc' := 295) rfl ?_
  refine s_dload X0 hx (hb hby d4_295) (pc' := 297) rfl rfl ?_
  refine s_dcmp X0 hx (0 : Int32) (hb hby d4_297) (pc' := 298) rfl (c7) ?_
  refine s_ifN X0 hx (hb hby d4_298) (pc' := 301) rfl (by decide) ?_
  refine s_aloadN X0 hx (hb hby d4_301) (pc' := 302) rfl rfl rfl ?_
  refine s_iconst X0 hx (2 : Int32) (hb hby d4_302) (pc' := 303) rfl rfl ?_
  refine s_aaload X0 hx hZ e0 Vr rfl (by decide) (v := .ref b2) rfl (hb hby d4_303) (pc' := 304) rfl ?_
  refine s_iconst X0 hx (2 : Int32) (hb hby d4_304) (pc' := 305) rfl rfl ?_
  refine s_daload X0 hx hZ e0 V2_ (by decide) (v := .double m22) rfl (hb hby d4_305) (pc' := 306) rfl ?_
  refine s_dload X0 hx (hb hby d4_306) (pc' := 308) rfl rfl ?_
  refine s_dcmp X0 hx (0 : Int32) (hb hby d4_308) (pc' := 309) rfl (c8) ?_
  refine s_ifN X0 hx (hb hby d4_309) (pc' := 312) rfl (by decide) ?_
  refine s_iconst X0 hx (1 : Int32) (hb hby d4_312) (pc' := 313) rfl rfl ?_
  refine s_goto X0 hx (hb hby d4_313) (by decide) (pc' := 317) (by decide) ?_
  exact s_retI X0 hx hlk hret (hb hby d4_317) rfl (Or.inl ⟨rfl, by simp, _, rfl⟩) (by decide) (by decide) ⟨rfl, N0, e0⟩
theorem pn_0 : plainName "com/example/slewstone/slewstone/control/AttitudeQuaternionAttitudeMatrixPinLaw" = true := by first | (simp [plainName, overriddenIn]; done) | decide +kernel
def Q0 (n0 : Nat) (v : Option Value) (h : Heap) (L : List Loc) : Prop := v = some (.int 1) ∧ Fr n0 L
theorem pd_0 : parseMethodDescriptor "(DDDD)V" = some ⟨[.double, .double, .double, .double], none⟩ := by decide +kernel
theorem pd_1 : parseMethodDescriptor "()[[D" = some ⟨[], some (.array (.array .double))⟩ := by decide +kernel
theorem pd_2 : parseMethodDescriptor "([[DDDDD)Z" = some ⟨[(.array (.array .double)), .double, .double, .double, .double], some .boolean⟩ := by decide +kernel
theorem ef_0 (z0 : Int32) (z1 : Int32) (z2 : Int32) (m : MethodId) : entryFrame m #[.int z0, .int z1, .int z2] maxLocals = mkF m 0 #[.val (.int z0), .val (.int z1), .val (.int z2), .unset, .unset, .unset, .unset, .unset, .unset, .unset, .unset, .unset, .unset, .unset] [] := by first | (simp [entryFrame, mkF, argsToLocals, Value.category, maxLocals]; done) | rfl
set_option maxRecDepth 65536 in
set_option maxHeartbeats 40000000 in
theorem rm_0 (l : Launch) (Z : State) (a0 : Array Value) (hw : ∀ d ∈ tables_1, d.before a0 Z = true) (ws : List Jvm.Cond) (p0 : Int32) (p1 : Int32) (p2 : Int32) (h0 : Heap) (n0 : Nat) (Z0 : n0 ≤ h0.size)  :
    OwnMet l Z x code maxLocals ret ws room_1 #[.int p0, .int p1, .int p2] h0 (Q0 n0) := by
  refine own_met (plainFor_of_name pn_0) (ef_0 p0 p1 p2) ?_
  intro p e s m below meth c s₁ hx hby hml hZ hown hnm hret hlk X0 e0
  have N0 := Fr.nil n0
  have tailA : ∀ (x0 x1 x2 x3 : UInt64) (kk : Int32) (ss : UInt64), own_good x0 x1 x2 x3 = true → Goes p e below (EndsAs (Q0 n0) s room_1.cells room_1.slots) (s₁.setTop (mkF m 138 #[.val (.int p0), .val (.int p1), .val (.int p2), .val (.double x0), .second, .val (.double x1), .second, .val (.double x2), .second, .val (.double x3), .second, .val (.int kk), .val (.double ss), .second] [])) := by
    intro x0 x1 x2 x3 kk ss hgood
    obtain ⟨hok1, hok2, hok3⟩ := own_good_e hgood
    refine s_new X0 hx hZ hown (hw _ (List.mem_of_getElem? (i := 1) rfl)) (hw _ (List.mem_of_getElem? (i := 2) rfl)) (hw _ (List.mem_of_getElem? (i := 3) rfl)) e0 (hb hby at_138) (pc' := 141) rfl (by decide) (by decide) ?_
    intro T1 h1 o1 X1 e1 E1 g1 A1 D1
    have hg1 : h0.size ≤ o1 := by rw [g1]; exact (Nat.le_refl _)
    have H1 : h0.size ≤ h1.size := Nat.le_trans (Nat.le_refl _) E1.1
    have F1_q1 := D1 (O := "com/example/slewstone/slewstone/control/AttitudeQuaternion") (nm := "q1") (d := "D") (Or.inr (hw _ (List.mem_of_getElem? (i := 11) rfl))) (ty := .double) (by decide)
    have F1_q2 := D1 (O := "com/example/slewstone/slewstone/control/AttitudeQuaternion") (nm := "q2") (d := "D") (Or.inr (hw _ (List.mem_of_getElem? (i := 13) rfl))) (ty := .double) (by decide)
    have F1_q3 := D1 (O := "com/example/slewstone/slewstone/control/AttitudeQuaternion") (nm := "q3") (d := "D") (Or.inr (hw _ (List.mem_of_getElem? (i := 15) rfl))) (ty := .double) (by decide)
    have F1_q4 := D1 (O := "com/example/slewstone/slewstone/control/AttitudeQuaternion") (nm := "q4") (d := "D") (Or.inr (hw _ (List.mem_of_getElem? (i := 17) rfl))) (ty := .double) (by decide)
    refine s_dup X1 hx (hb hby at_141) (pc' := 142) rfl rfl ?_
    refine s_dloadN X1 hx (hb hby at_142) (pc' := 143) rfl rfl ?_
    refine s_dload X1 hx (hb hby at_143) (pc' := 145) rfl rfl ?_
    refine s_dload X1 hx (hb hby at_145) (pc' := 147) rfl rfl ?_
    refine s_dload X1 hx (hb hby at_147) (pc' := 149) rfl rfl ?_
    refine c_special X1 hx hZ rfl hown (hw _ (List.mem_of_getElem? (i := 4) rfl)) (hw _ (List.mem_of_getElem? (i := 5) rfl)) (hw _ (List.mem_of_getElem? (i := 3) rfl)) (hw _ (List.mem_of_getElem? (i := 6) rfl)) (by decide) e1 (rm_1 l Z a0 hw [] o1 x0 x1 x2 x3 _ _ _ _ h1 n0 (Nat.le_trans Z0 H1) A1 F1_q1 F1_q2 F1_q3 F1_q4 (Nat.le_trans Z0 hg1)) (W := 1) (by decide) (by decide) (by decide) (by decide) (by rw [hml]; rfl) (argsL := [.double x0, .double x1, .double x2, .double x3]) (rest := [.ref o1]) (a := o1) (lenOf pd_0 rfl) rfl rfl (Nat.le_of_eq rfl) (hb hby at_149) (pc' := 152) rfl ?_
    intro T2 v2 L2 X2 hQ2
    obtain ⟨rfl, Nq2, K2, E2, Fa2, Fb2, Fc2, Fd2⟩ := hQ2
    have N2 := Fr.app N0 Nq2
    have H2 : h0.size ≤ T2.heap.size := Nat.le_trans H1 K2.1
    show Goes p e below _ (T2.setTop (mkF m 152 #[.val (.int p0), .val (.int p1), .val (.int p2), .val (.double x0), .second, .val (.double x1), .second, .val (.double x2), .second, .val (.double x3), .second, .val (.int kk), .val (.double ss), .second] [.ref o1]))
    refine s_astore X2 hx #[.val (.int p0), .val (.int p1), .val (.int p2), .val (.double x0), .second, .val (.double x1), .second, .val (.double x2), .second, .val (.double x3), .second, .val (.ref o1), .val (.double ss), .second] (hb hby at_152) (pc' := 154) rfl rfl rfl ?_
    refine s_aload X2 hx (hb hby at_154) (pc' := 156) rfl rfl rfl ?_
    refine c_virtual X2 hx hZ hown (hw _ (List.mem_of_getElem? (i := 18) rfl)) (hw _ (List.mem_of_getElem? (i := 19) rfl)) (hw _ (List.mem_of_getElem? (i := 21) rfl)) (hw _ (List.mem_of_getElem? (i := 20) rfl)) (hw _ (List.mem_of_getElem? (i := 3) rfl)) (hw _ (List.mem_of_getElem? (i := 22) rfl)) (by decide) rfl E2 (rm_3 l Z a0 hw [] o1 x0 x1 x2 x3 T2.heap n0 (Nat.le_trans Z0 H2) Fa2 Fb2 Fc2 Fd2 hok1) (W := 0) (by decide) (by decide) (by decide) (by decide) (by rw [hml]; rfl) (argsL := []) (rest := []) (lenOf pd_1 rfl) rfl rfl (Nat.le_of_eq rfl) (hb hby at_156) (pc' := 159) rfl ?_
    intro T3 v3 L3 X3 hQ3
    obtain ⟨r3, b03, b13, b23, kA3, kC3, rfl, Nq3, K3, lo3_0, lo3_1, lo3_2, lo3_3, nq3_0, nq3_1, nq3_2, nq3_3, nq3_4, nq3_5, V3_r, V3_0, V3_1, V3_2⟩ := hQ3
    have N3 := Fr.app N2 Nq3
    have H3 : h0.size ≤ T3.heap.size := Nat.le_trans H2 K3.1
    show Goes p e below _ (T3.setTop (mkF m 159 #[.val (.int p0), .val (.int p1), .val (.int p2), .val (.double x0), .second, .val (.double x1), .second, .val (.double x2), .second, .val (.double x3), .second, .val (.ref o1), .val (.double ss), .second] [.ref r3]))
    have ne_o1_r3 : o1 ≠ r3 := Nat.ne_of_lt (Nat.lt_of_lt_of_le E2.lt lo3_0)
    have hg_r3 : h0.size ≤ r3 := Nat.le_trans H2 lo3_0
    have ne_o1_b03 : o1 ≠ b03 := Nat.ne_of_lt (Nat.lt_of_lt_of_le E2.lt lo3_1)
    have hg_b03 : h0.size ≤ b03 := Nat.le_trans H2 lo3_1
    have ne_o1_b13 : o1 ≠ b13 := Nat.ne_of_lt (Nat.lt_of_lt_of_le E2.lt lo3_2)
    have hg_b13 : h0.size ≤ b13 := Nat.le_trans H2 lo3_2
    have ne_o1_b23 : o1 ≠ b23 := Nat.ne_of_lt (Nat.lt_of_lt_of_le E2.lt lo3_3)
    have hg_b23 : h0.size ≤ b23 := Nat.le_trans H2 lo3_3
    refine s_astore X3 hx #[.val (.int p0), .val (.int p1), .val (.int p2), .val (.double x0), .second, .val (.double x1), .second, .val (.double x2), .second, .val (.double x3), .second, .val (.ref o1), .val (.ref r3), .unset] (hb hby at_159) (pc' := 161) rfl rfl rfl ?_
    refine s_aload X3 hx (hb hby at_161) (pc' := 163) rfl rfl rfl ?_
    refine s_dloadN X3 hx (hb hby at_163) (pc' := 164) rfl rfl ?_
    refine s_dload X3 hx (hb hby at_164) (pc' := 166) rfl rfl ?_
    refine s_dload X3 hx (hb hby at_166) (pc' := 168) rfl rfl ?_
    refine s_dload X3 hx (hb hby at_168) (pc' := 170) rfl rfl ?_
    refine c_static X3 hx hZ hown (hw _ (List.mem_of_getElem? (i := 27) rfl)) (hw _ (List.mem_of_getElem? (i := 28) rfl)) (hw _ (List.mem_of_getElem? (i := 29) rfl)) (hw _ (List.mem_of_getElem? (i := 30) rfl)) (by decide) rfl (rm_4 l Z a0 hw [] r3 b03 b13 b23 kA3 kC3 x0 x1 x2 x3 (FP.dadd (FP.dmul (FP.dmul 4611686018427387904 x0) x0) (FP.dsub (FP.dmul x3 x3) (FP.dadd (FP.dadd (FP.dmul x0 x0) (FP.dmul x1 x1)) (FP.dmul x2 x2)))) (FP.dadd (FP.dmul (FP.dmul 4611686018427387904 x0) x1) (FP.dmul (FP.dmul 4611686018427387904 x3) x2)) (FP.dsub (FP.dmul (FP.dmul 4611686018427387904 x0) x2) (FP.dmul (FP.dmul 4611686018427387904 x3) x1)) (FP.dsub (FP.dmul (FP.dmul 4611686018427387904 x1) x0) (FP.dmul (FP.dmul 4611686018427387904 x3) x2)) (FP.dadd (FP.dmul (FP.dmul 4611686018427387904 x1) x1) (FP.dsub (FP.dmul x3 x3) (FP.dadd (FP.dadd (FP.dmul x0 x0) (FP.dmul x1 x1)) (FP.dmul x2 x2)))) (FP.dadd (FP.dmul (FP.dmul 4611686018427387904 x1) x2) (FP.dmul (FP.dmul 4611686018427387904 x3) x0)) (FP.dadd (FP.dmul (FP.dmul 4611686018427387904 x2) x0) (FP.dmul (FP.dmul 4611686018427387904 x3) x1)) (FP.dsub (FP.dmul (FP.dmul 4611686018427387904 x2) x1) (FP.dmul (FP.dmul 4611686018427387904 x3) x0)) (FP.dadd (FP.dmul (FP.dmul 4611686018427387904 x2) x2) (FP.dsub (FP.dmul x3 x3) (FP.dadd (FP.dadd (FP.dmul x0 x0) (FP.dmul x1 x1)) (FP.dmul x2 x2)))) T3.heap n0 (Nat.le_trans Z0 H3) V3_r V3_0 V3_1 V3_2 hok2 (own_eqs hok3 (k := 0) rfl) (own_eqs hok3 (k := 1) rfl) (own_eqs hok3 (k := 2) rfl) (own_eqs hok3 (k := 3) rfl) (own_eqs hok3 (k := 4) rfl) (own_eqs hok3 (k := 5) rfl) (own_eqs hok3 (k := 6) rfl) (own_eqs hok3 (k := 7) rfl) (own_eqs hok3 (k := 8) rfl)) (W := 0) (by decide) (by decide) (by decide) (by decide) (by rw [hml]; rfl) (argsL := [.ref r3, .double x0, .double x1, .double x2, .double x3]) (rest := []) (lenOf pd_2 rfl) rfl rfl (Nat.le_of_eq rfl) (hb hby at_170) (pc' := 173) rfl ?_
    intro T4 v4 L4 X4 hQ4
    obtain ⟨rfl, Nq4, eh4⟩ := hQ4
    have N4 := Fr.app N3 Nq4
    show Goes p e below _ (T4.setTop (mkF m 173 #[.val (.int p0), .val (.int p1), .val (.int p2), .val (.double x0), .second, .val (.double x1), .second, .val (.double x2), .second, .val (.double x3), .second, .val (.ref o1), .val (.ref r3), .unset] [.int (1 : Int32)]))
    refine s_ifY X4 hx (hb hby at_173) (by decide) (by decide) (pc' := 178) (by decide) ?_
    refine s_aload X4 hx (hb hby at_178) (pc' := 180) rfl rfl rfl ?_
    refine s_iconst X4 hx (0 : Int32) (hb hby at_180) (pc' := 181) rfl rfl ?_
    refine s_aaload X4 hx hZ eh4 V3_r rfl (by decide) (v := .ref b03) rfl (hb hby at_181) (pc' := 182) rfl ?_
    refine s_iconst X4 hx (0 : Int32) (hb hby at_182) (pc' := 183) rfl rfl ?_
    refine s_ldcD X4 hx hZ hown (hw _ (List.mem_of_getElem? (i := 32) rfl)) (hb hby at_183) (pc' := 186) rfl ?_
    refine s_dastore X4 hx hZ eh4 V3_0 (by decide) 0 (by decide) (by simp) (hb hby at_186) (pc' := 187) rfl ?_
    intro T5 h5 X5 e5 W5 V5
    have N5 := Fr.snoc X5 N4 (Nat.le_trans Z0 hg_b03)
    have U5 : Arv Z h5 b03 kC3 .double (3 : Int32) [.double 4619567317775286272, .double (FP.dadd (FP.dmul (FP.dmul 4611686018427387904 x0) x1) (FP.dmul (FP.dmul 4611686018427387904 x3) x2)), .double (FP.dsub (FP.dmul (FP.dmul 4611686018427387904 x0) x2) (FP.dmul (FP.dmul 4611686018427387904 x3) x1))] (.double 0) := V5
    have H5 : h0.size ≤ h5.size := by rw [W5.size]; exact H3
    refine s_aload X5 hx (hb hby at_187) (pc' := 189) rfl rfl rfl ?_
    refine s_iconst X5 hx (1 : Int32) (hb hby at_189) (pc' := 190) rfl rfl ?_
    have fV6 := (V3_r.other W5 nq3_0)
    refine s_aaload X5 hx hZ e5 fV6 rfl (by decide) (v := .ref b13) rfl (hb hby at_190) (pc' := 191) rfl ?_
    refine s_iconst X5 hx (2 : Int32) (hb hby at_191) (pc' := 192) rfl rfl ?_
    refine s_ldcD X5 hx hZ hown (hw _ (List.mem_of_getElem? (i := 32) rfl)) (hb hby at_192) (pc' := 195) rfl ?_
    have fV7 := (V3_1.other W5 (Ne.symm nq3_3))
    refine s_dastore X5 hx hZ e5 fV7 (by decide) 2 (by decide) (by simp) (hb hby at_195) (pc' := 196) rfl ?_
    intro T8 h8 X8 e8 W8 V8
    have N8 := Fr.snoc X8 N5 (Nat.le_trans Z0 hg_b13)
    have U8 : Arv Z h8 b13 kC3 .double (3 : Int32) [.double (FP.dsub (FP.dmul (FP.dmul 4611686018427387904 x1) x0) (FP.dmul (FP.dmul 4611686018427387904 x3) x2)), .double (FP.dadd (FP.dmul (FP.dmul 4611686018427387904 x1) x1) (FP.dsub (FP.dmul x3 x3) (FP.dadd (FP.dadd (FP.dmul x0 x0) (FP.dmul x1 x1)) (FP.dmul x2 x2)))), .double 4619567317775286272] (.double 0) := V8
    have H8 : h0.size ≤ h8.size := by rw [W8.size]; exact H5
    refine s_aload X8 hx (hb hby at_196) (pc' := 198) rfl rfl rfl ?_
    refine s_iconst X8 hx (2 : Int32) (hb hby at_198) (pc' := 199) rfl rfl ?_
    have fV9 := (fV6.other W8 nq3_1)
    refine s_aaload X8 hx hZ e8 fV9 rfl (by decide) (v := .ref b23) rfl (hb hby at_199) (pc' := 200) rfl ?_
    refine s_iconst X8 hx (1 : Int32) (hb hby at_200) (pc' := 201) rfl rfl ?_
    refine s_ldcD X8 hx hZ hown (hw _ (List.mem_of_getElem? (i := 32) rfl)) (hb hby at_201) (pc' := 204) rfl ?_
    have fV10 := ((V3_2.other W5 (Ne.symm nq3_4)).other W8 (Ne.symm nq3_5))
    refine s_dastore X8 hx hZ e8 fV10 (by decide) 1 (by decide) (by simp) (hb hby at_204) (pc' := 205) rfl ?_
    intro T11 h11 X11 e11 W11 V11
    have N11 := Fr.snoc X11 N8 (Nat.le_trans Z0 hg_b23)
    have U11 : Arv Z h11 b23 kC3 .double (3 : Int32) [.double (FP.dadd (FP.dmul (FP.dmul 4611686018427387904 x2) x0) (FP.dmul (FP.dmul 4611686018427387904 x3) x1)), .double 4619567317775286272, .double (FP.dadd (FP.dmul (FP.dmul 4611686018427387904 x2) x2) (FP.dsub (FP.dmul x3 x3) (FP.dadd (FP.dadd (FP.dmul x0 x0) (FP.dmul x1 x1)) (FP.dmul x2 x2))))] (.double 0) := V11
    have H11 : h0.size ≤ h11.size := by rw [W11.size]; exact H8
    refine s_aload X11 hx (hb hby at_205) (pc' := 207) rfl rfl rfl ?_
    have fE12 := ((((E2.keep K3).wr W5).wr W8).wr W11)
    have fV13 := (fV9.other W11 nq3_2)
    have fV14 := ((U5.other W8 nq3_3).other W11 nq3_4)
    have fV15 := (U8.other W11 nq3_5)
    have fF16 := ((((Fa2.keep K3 nin0).other W5 (Or.inl ne_o1_b03)).other W8 (Or.inl ne_o1_b13)).other W11 (Or.inl ne_o1_b23))
    have fF17 := ((((Fb2.keep K3 nin0).other W5 (Or.inl ne_o1_b03)).other W8 (Or.inl ne_o1_b13)).other W11 (Or.inl ne_o1_b23))
    have fF18 := ((((Fc2.keep K3 nin0).other W5 (Or.inl ne_o1_b03)).other W8 (Or.inl ne_o1_b13)).other W11 (Or.inl ne_o1_b23))
    have fF19 := ((((Fd2.keep K3 nin0).other W5 (Or.inl ne_o1_b03)).other W8 (Or.inl ne_o1_b13)).other W11 (Or.inl ne_o1_b23))
    refine c_virtual X11 hx hZ hown (hw _ (List.mem_of_getElem? (i := 18) rfl)) (hw _ (List.mem_of_getElem? (i := 19) rfl)) (hw _ (List.mem_of_getElem? (i := 21) rfl)) (hw _ (List.mem_of_getElem? (i := 20) rfl)) (hw _ (List.mem_of_getElem? (i := 3) rfl)) (hw _ (List.mem_of_getElem? (i := 22) rfl)) (by decide) e11 fE12 (rm_3 l Z a0 hw [] o1 x0 x1 x2 x3 h11 n0 (Nat.le_trans Z0 H11) fF16 fF17 fF18 fF19 hok1) (W := 0) (by decide) (by decide) (by decide) (by decide) (by rw [hml]; rfl) (argsL := []) (rest := []) (lenOf pd_1 rfl) rfl rfl (Nat.le_of_eq rfl) (hb hby at_207) (pc' := 210) rfl ?_
    intro T20 v20 L20 X20 hQ20
    obtain ⟨r20, b020, b120, b220, kA20, kC20, rfl, Nq20, K20, lo20_0, lo20_1, lo20_2, lo20_3, nq20_0, nq20_1, nq20_2, nq20_3, nq20_4, nq20_5, V20_r, V20_0, V20_1, V20_2⟩ := hQ20
    have N20 := Fr.app N11 Nq20
    have H20 : h0.size ≤ T20.heap.size := Nat.le_trans H11 K20.1
    show Goes p e below _ (T20.setTop (mkF m 210 #[.val (.int p0), .val (.int p1), .val (.int p2), .val (.double x0), .second, .val (.double x1), .second, .val (.double x2), .second, .val (.double x3), .second, .val (.ref o1), .val (.ref r3), .unset] [.ref r20]))
    have ne_o1_r20 : o1 ≠ r20 := Nat.ne_of_lt (Nat.lt_of_lt_of_le fE12.lt lo20_0)
    have ne_r3_r20 : r3 ≠ r20 := Nat.ne_of_lt (Nat.lt_of_lt_of_le fV13.lt lo20_0)
    have ne_b03_r20 : b03 ≠ r20 := Nat.ne_of_lt (Nat.lt_of_lt_of_le fV14.lt lo20_0)
    have ne_b13_r20 : b13 ≠ r20 := Nat.ne_of_lt (Nat.lt_of_lt_of_le fV15.lt lo20_0)
    have ne_b23_r20 : b23 ≠ r20 := Nat.ne_of_lt (Nat.lt_of_lt_of_le U11.lt lo20_0)
    have hg_r20 : h0.size ≤ r20 := Nat.le_trans H11 lo20_0
    have ne_o1_b020 : o1 ≠ b020 := Nat.ne_of_lt (Nat.lt_of_lt_of_le fE12.lt lo20_1)
    have ne_r3_b020 : r3 ≠ b020 := Nat.ne_of_lt (Nat.lt_of_lt_of_le fV13.lt lo20_1)
    have ne_b03_b020 : b03 ≠ b020 := Nat.ne_of_lt (Nat.lt_of_lt_of_le fV14.lt lo20_1)
    have ne_b13_b020 : b13 ≠ b020 := Nat.ne_of_lt (Nat.lt_of_lt_of_le fV15.lt lo20_1)
    have ne_b23_b020 : b23 ≠ b020 := Nat.ne_of_lt (Nat.lt_of_lt_of_le U11.lt lo20_1)
    have hg_b020 : h0.size ≤ b020 := Nat.le_trans H11 lo20_1
    have ne_o1_b120 : o1 ≠ b120 := Nat.ne_of_lt (Nat.lt_of_lt_of_le fE12.lt lo20_2)
    have ne_r3_b120 : r3 ≠ b120 := Nat.ne_of_lt (Nat.lt_of_lt_of_le fV13.lt lo20_2)
    have ne_b03_b120 : b03 ≠ b120 := Nat.ne_of_lt (Nat.lt_of_lt_of_le fV14.lt lo20_2)
    have ne_b13_b120 : b13 ≠ b120 := Nat.ne_of_lt (Nat.lt_of_lt_of_le fV15.lt lo20_2)
    have ne_b23_b120 : b23 ≠ b120 := Nat.ne_of_lt (Nat.lt_of_lt_of_le U11.lt lo20_2)
    have hg_b120 : h0.size ≤ b120 := Nat.le_trans H11 lo20_2
    have ne_o1_b220 : o1 ≠ b220 := Nat.ne_of_lt (Nat.lt_of_lt_of_le fE12.lt lo20_3)
    have ne_r3_b220 : r3 ≠ b220 := Nat.ne_of_lt (Nat.lt_of_lt_of_le fV13.lt lo20_3)
    have ne_b03_b220 : b03 ≠ b220 := Nat.ne_of_lt (Nat.lt_of_lt_of_le fV14.lt lo20_3)
    have ne_b13_b220 : b13 ≠ b220 := Nat.ne_of_lt (Nat.lt_of_lt_of_le fV15.lt lo20_3)
    have ne_b23_b220 : b23 ≠ b220 := Nat.ne_of_lt (Nat.lt_of_lt_of_le U11.lt lo20_3)
    have hg_b220 : h0.size ≤ b220 := Nat.le_trans H11 lo20_3
    refine s_astore X20 hx #[.val (.int p0), .val (.int p1), .val (.int p2), .val (.double x0), .second, .val (.double x1), .second, .val (.double x2), .second, .val (.double x3), .second, .val (.ref o1), .val (.ref r3), .val (.ref r20)] (hb hby at_210) (pc' := 212) rfl rfl rfl ?_
    refine s_aload X20 hx (hb hby at_212) (pc' := 214) rfl rfl rfl ?_
    refine s_aload X20 hx (hb hby at_214) (pc' := 216) rfl rfl rfl ?_
    refine s_acmpN X20 hx (hb hby at_216) (pc' := 219) rfl rfl rfl (ae_no (Ne.symm ne_r3_r20)) ?_
    refine s_aload X20 hx (hb hby at_219) (pc' := 221) rfl rfl rfl ?_
    refine s_dloadN X20 hx (hb hby at_221) (pc' := 222) rfl rfl ?_
    refine s_dload X20 hx (hb hby at_222) (pc' := 224) rfl rfl ?_
    refine s_dload X20 hx (hb hby at_224) (pc' := 226) rfl rfl ?_
    refine s_dload X20 hx (hb hby at_226) (pc' := 228) rfl rfl ?_
    refine c_static X20 hx hZ hown (hw _ (List.mem_of_getElem? (i := 27) rfl)) (hw _ (List.mem_of_getElem? (i := 28) rfl)) (hw _ (List.mem_of_getElem? (i := 29) rfl)) (hw _ (List.mem_of_getElem? (i := 30) rfl)) (by decide) rfl (rm_4 l Z a0 hw [] r20 b020 b120 b220 kA20 kC20 x0 x1 x2 x3 (FP.dadd (FP.dmul (FP.dmul 4611686018427387904 x0) x0) (FP.dsub (FP.dmul x3 x3) (FP.dadd (FP.dadd (FP.dmul x0 x0) (FP.dmul x1 x1)) (FP.dmul x2 x2)))) (FP.dadd (FP.dmul (FP.dmul 4611686018427387904 x0) x1) (FP.dmul (FP.dmul 4611686018427387904 x3) x2)) (FP.dsub (FP.dmul (FP.dmul 4611686018427387904 x0) x2) (FP.dmul (FP.dmul 4611686018427387904 x3) x1)) (FP.dsub (FP.dmul (FP.dmul 4611686018427387904 x1) x0) (FP.dmul (FP.dmul 4611686018427387904 x3) x2)) (FP.dadd (FP.dmul (FP.dmul 4611686018427387904 x1) x1) (FP.dsub (FP.dmul x3 x3) (FP.dadd (FP.dadd (FP.dmul x0 x0) (FP.dmul x1 x1)) (FP.dmul x2 x2)))) (FP.dadd (FP.dmul (FP.dmul 4611686018427387904 x1) x2) (FP.dmul (FP.dmul 4611686018427387904 x3) x0)) (FP.dadd (FP.dmul (FP.dmul 4611686018427387904 x2) x0) (FP.dmul (FP.dmul 4611686018427387904 x3) x1)) (FP.dsub (FP.dmul (FP.dmul 4611686018427387904 x2) x1) (FP.dmul (FP.dmul 4611686018427387904 x3) x0)) (FP.dadd (FP.dmul (FP.dmul 4611686018427387904 x2) x2) (FP.dsub (FP.dmul x3 x3) (FP.dadd (FP.dadd (FP.dmul x0 x0) (FP.dmul x1 x1)) (FP.dmul x2 x2)))) T20.heap n0 (Nat.le_trans Z0 H20) V20_r V20_0 V20_1 V20_2 hok2 (own_eqs hok3 (k := 0) rfl) (own_eqs hok3 (k := 1) rfl) (own_eqs hok3 (k := 2) rfl) (own_eqs hok3 (k := 3) rfl) (own_eqs hok3 (k := 4) rfl) (own_eqs hok3 (k := 5) rfl) (own_eqs hok3 (k := 6) rfl) (own_eqs hok3 (k := 7) rfl) (own_eqs hok3 (k := 8) rfl)) (W := 0) (by decide) (by decide) (by decide) (by decide) (by rw [hml]; rfl) (argsL := [.ref r20, .double x0, .double x1, .double x2, .double x3]) (rest := []) (lenOf pd_2 rfl) rfl rfl (Nat.le_of_eq rfl) (hb hby at_228) (pc' := 231) rfl ?_
    intro T21 v21 L21 X21 hQ21
    obtain ⟨rfl, Nq21, eh21⟩ := hQ21
    have N21 := Fr.app N20 Nq21
    show Goes p e below _ (T21.setTop (mkF m 231 #[.val (.int p0), .val (.int p1), .val (.int p2), .val (.double x0), .second, .val (.double x1), .second, .val (.double x2), .second, .val (.double x3), .second, .val (.ref o1), .val (.ref r3), .val (.ref r20)] [.int (1 : Int32)]))
    refine s_ifN X21 hx (hb hby at_231) (pc' := 234) rfl (by decide) ?_
    refine s_iconst X21 hx (1 : Int32) (hb hby at_234) (pc' := 235) rfl rfl ?_
    refine s_goto X21 hx (hb hby at_235) (by decide) (pc' := 239) (by decide) ?_
    exact s_retI X21 hx hlk hret (hb hby at_239) rfl (Or.inl ⟨rfl, by simp, _, rfl⟩) (by decide) (by decide) ⟨rfl, N21⟩
  have tailB : ∀ (x0 x1 x2 x3 : UInt64), own_good x0 x1 x2 x3 = true → Goes p e below (EndsAs (Q0 n0) s room_1.cells room_1.slots) (s₁.setTop (mkF m 138 #[.val (.int p0), .val (.int p1), .val (.int p2), .val (.double x0), .second, .val (.double x1), .second, .val (.double x2), .second, .val (.double x3), .second, .unset, .unset, .unset] [])) := by
    intro x0 x1 x2 x3 hgood
    obtain ⟨hok1, hok2, hok3⟩ := own_good_e hgood
    refine s_new X0 hx hZ hown (hw _ (List.mem_of_getElem? (i := 1) rfl)) (hw _ (List.mem_of_getElem? (i := 2) rfl)) (hw _ (List.mem_of_getElem? (i := 3) rfl)) e0 (hb hby at_138) (pc' := 141) rfl (by decide) (by decide) ?_
    intro T22 h22 o22 X22 e22 E22 g22 A22 D22
    have hg22 : h0.size ≤ o22 := by rw [g22]; exact (Nat.le_refl _)
    have H22 : h0.size ≤ h22.size := Nat.le_trans (Nat.le_refl _) E22.1
    have F22_q1 := D22 (O := "com/example/slewstone/slewstone/control/AttitudeQuaternion") (nm := "q1") (d := "D") (Or.inr (hw _ (List.mem_of_getElem? (i := 11) rfl))) (ty := .double) (by decide)
    have F22_q2 := D22 (O := "com/example/slewstone/slewstone/control/AttitudeQuaternion") (nm := "q2") (d := "D") (Or.inr (hw _ (List.mem_of_getElem? (i := 13) rfl))) (ty := .double) (by decide)
    have F22_q3 := D22 (O := "com/example/slewstone/slewstone/control/AttitudeQuaternion") (nm := "q3") (d := "D") (Or.inr (hw _ (List.mem_of_getElem? (i := 15) rfl))) (ty := .double) (by decide)
    have F22_q4 := D22 (O := "com/example/slewstone/slewstone/control/AttitudeQuaternion") (nm := "q4") (d := "D") (Or.inr (hw _ (List.mem_of_getElem? (i := 17) rfl))) (ty := .double) (by decide)
    refine s_dup X22 hx (hb hby at_141) (pc' := 142) rfl rfl ?_
    refine s_dloadN X22 hx (hb hby at_142) (pc' := 143) rfl rfl ?_
    refine s_dload X22 hx (hb hby at_143) (pc' := 145) rfl rfl ?_
    refine s_dload X22 hx (hb hby at_145) (pc' := 147) rfl rfl ?_
    refine s_dload X22 hx (hb hby at_147) (pc' := 149) rfl rfl ?_
    refine c_special X22 hx hZ rfl hown (hw _ (List.mem_of_getElem? (i := 4) rfl)) (hw _ (List.mem_of_getElem? (i := 5) rfl)) (hw _ (List.mem_of_getElem? (i := 3) rfl)) (hw _ (List.mem_of_getElem? (i := 6) rfl)) (by decide) e22 (rm_1 l Z a0 hw [] o22 x0 x1 x2 x3 _ _ _ _ h22 n0 (Nat.le_trans Z0 H22) A22 F22_q1 F22_q2 F22_q3 F22_q4 (Nat.le_trans Z0 hg22)) (W := 1) (by decide) (by decide) (by decide) (by decide) (by rw [hml]; rfl) (argsL := [.double x0, .double x1, .double x2, .double x3]) (rest := [.ref o22]) (a := o22) (lenOf pd_0 rfl) rfl rfl (Nat.le_of_eq rfl) (hb hby at_149) (pc' := 152) rfl ?_
    intro T23 v23 L23 X23 hQ23
    obtain ⟨rfl, Nq23, K23, E23, Fa23, Fb23, Fc23, Fd23⟩ := hQ23
    have N23 := Fr.app N0 Nq23
    have H23 : h0.size ≤ T23.heap.size := Nat.le_trans H22 K23.1
    show Goes p e below _ (T23.setTop (mkF m 152 #[.val (.int p0), .val (.int p1), .val (.int p2), .val (.double x0), .second, .val (.double x1), .second, .val (.double x2), .second, .val (.double x3), .second, .unset, .unset, .unset] [.ref o22]))
    refine s_astore X23 hx #[.val (.int p0), .val (.int p1), .val (.int p2), .val (.double x0), .second, .val (.double x1), .second, .val (.double x2), .second, .val (.double x3), .second, .val (.ref o22), .unset, .unset] (hb hby at_152) (pc' := 154) rfl rfl rfl ?_
    refine s_aload X23 hx (hb hby at_154) (pc' := 156) rfl rfl rfl ?_
    refine c_virtual X23 hx hZ hown (hw _ (List.mem_of_getElem? (i := 18) rfl)) (hw _ (List.mem_of_getElem? (i := 19) rfl)) (hw _ (List.mem_of_getElem? (i := 21) rfl)) (hw _ (List.mem_of_getElem? (i := 20) rfl)) (hw _ (List.mem_of_getElem? (i := 3) rfl)) (hw _ (List.mem_of_getElem? (i := 22) rfl)) (by decide) rfl E23 (rm_3 l Z a0 hw [] o22 x0 x1 x2 x3 T23.heap n0 (Nat.le_trans Z0 H23) Fa23 Fb23 Fc23 Fd23 hok1) (W := 0) (by decide) (by decide) (by decide) (by decide) (by rw [hml]; rfl) (argsL := []) (rest := []) (lenOf pd_1 rfl) rfl rfl (Nat.le_of_eq rfl) (hb hby at_156) (pc' := 159) rfl ?_
    intro T24 v24 L24 X24 hQ24
    obtain ⟨r24, b024, b124, b224, kA24, kC24, rfl, Nq24, K24, lo24_0, lo24_1, lo24_2, lo24_3, nq24_0, nq24_1, nq24_2, nq24_3, nq24_4, nq24_5, V24_r, V24_0, V24_1, V24_2⟩ := hQ24
    have N24 := Fr.app N23 Nq24
    have H24 : h0.size ≤ T24.heap.size := Nat.le_trans H23 K24.1
    show Goes p e below _ (T24.setTop (mkF m 159 #[.val (.int p0), .val (.int p1), .val (.int p2), .val (.double x0), .second, .val (.double x1), .second, .val (.double x2), .second, .val (.double x3), .second, .val (.ref o22), .unset, .unset] [.ref r24]))
    have ne_o22_r24 : o22 ≠ r24 := Nat.ne_of_lt (Nat.lt_of_lt_of_le E23.lt lo24_0)
    have hg_r24 : h0.size ≤ r24 := Nat.le_trans H23 lo24_0
    have ne_o22_b024 : o22 ≠ b024 := Nat.ne_of_lt (Nat.lt_of_lt_of_le E23.lt lo24_1)
    have hg_b024 : h0.size ≤ b024 := Nat.le_trans H23 lo24_1
    have ne_o22_b124 : o22 ≠ b124 := Nat.ne_of_lt (Nat.lt_of_lt_of_le E23.lt lo24_2)
    have hg_b124 : h0.size ≤ b124 := Nat.le_trans H23 lo24_2
    have ne_o22_b224 : o22 ≠ b224 := Nat.ne_of_lt (Nat.lt_of_lt_of_le E23.lt lo24_3)
    have hg_b224 : h0.size ≤ b224 := Nat.le_trans H23 lo24_3
    refine s_astore X24 hx #[.val (.int p0), .val (.int p1), .val (.int p2), .val (.double x0), .second, .val (.double x1), .second, .val (.double x2), .second, .val (.double x3), .second, .val (.ref o22), .val (.ref r24), .unset] (hb hby at_159) (pc' := 161) rfl rfl rfl ?_
    refine s_aload X24 hx (hb hby at_161) (pc' := 163) rfl rfl rfl ?_
    refine s_dloadN X24 hx (hb hby at_163) (pc' := 164) rfl rfl ?_
    refine s_dload X24 hx (hb hby at_164) (pc' := 166) rfl rfl ?_
    refine s_dload X24 hx (hb hby at_166) (pc' := 168) rfl rfl ?_
    refine s_dload X24 hx (hb hby at_168) (pc' := 170) rfl rfl ?_
    refine c_static X24 hx hZ hown (hw _ (List.mem_of_getElem? (i := 27) rfl)) (hw _ (List.mem_of_getElem? (i := 28) rfl)) (hw _ (List.mem_of_getElem? (i := 29) rfl)) (hw _ (List.mem_of_getElem? (i := 30) rfl)) (by decide) rfl (rm_4 l Z a0 hw [] r24 b024 b124 b224 kA24 kC24 x0 x1 x2 x3 (FP.dadd (FP.dmul (FP.dmul 4611686018427387904 x0) x0) (FP.dsub (FP.dmul x3 x3) (FP.dadd (FP.dadd (FP.dmul x0 x0) (FP.dmul x1 x1)) (FP.dmul x2 x2)))) (FP.dadd (FP.dmul (FP.dmul 4611686018427387904 x0) x1) (FP.dmul (FP.dmul 4611686018427387904 x3) x2)) (FP.dsub (FP.dmul (FP.dmul 4611686018427387904 x0) x2) (FP.dmul (FP.dmul 4611686018427387904 x3) x1)) (FP.dsub (FP.dmul (FP.dmul 4611686018427387904 x1) x0) (FP.dmul (FP.dmul 4611686018427387904 x3) x2)) (FP.dadd (FP.dmul (FP.dmul 4611686018427387904 x1) x1) (FP.dsub (FP.dmul x3 x3) (FP.dadd (FP.dadd (FP.dmul x0 x0) (FP.dmul x1 x1)) (FP.dmul x2 x2)))) (FP.dadd (FP.dmul (FP.dmul 4611686018427387904 x1) x2) (FP.dmul (FP.dmul 4611686018427387904 x3) x0)) (FP.dadd (FP.dmul (FP.dmul 4611686018427387904 x2) x0) (FP.dmul (FP.dmul 4611686018427387904 x3) x1)) (FP.dsub (FP.dmul (FP.dmul 4611686018427387904 x2) x1) (FP.dmul (FP.dmul 4611686018427387904 x3) x0)) (FP.dadd (FP.dmul (FP.dmul 4611686018427387904 x2) x2) (FP.dsub (FP.dmul x3 x3) (FP.dadd (FP.dadd (FP.dmul x0 x0) (FP.dmul x1 x1)) (FP.dmul x2 x2)))) T24.heap n0 (Nat.le_trans Z0 H24) V24_r V24_0 V24_1 V24_2 hok2 (own_eqs hok3 (k := 0) rfl) (own_eqs hok3 (k := 1) rfl) (own_eqs hok3 (k := 2) rfl) (own_eqs hok3 (k := 3) rfl) (own_eqs hok3 (k := 4) rfl) (own_eqs hok3 (k := 5) rfl) (own_eqs hok3 (k := 6) rfl) (own_eqs hok3 (k := 7) rfl) (own_eqs hok3 (k := 8) rfl)) (W := 0) (by decide) (by decide) (by decide) (by decide) (by rw [hml]; rfl) (argsL := [.ref r24, .double x0, .double x1, .double x2, .double x3]) (rest := []) (lenOf pd_2 rfl) rfl rfl (Nat.le_of_eq rfl) (hb hby at_170) (pc' := 173) rfl ?_
    intro T25 v25 L25 X25 hQ25
    obtain ⟨rfl, Nq25, eh25⟩ := hQ25
    have N25 := Fr.app N24 Nq25
    show Goes p e below _ (T25.setTop (mkF m 173 #[.val (.int p0), .val (.int p1), .val (.int p2), .val (.double x0), .second, .val (.double x1), .second, .val (.double x2), .second, .val (.double x3), .second, .val (.ref o22), .val (.ref r24), .unset] [.int (1 : Int32)]))
    refine s_ifY X25 hx (hb hby at_173) (by decide) (by decide) (pc' := 178) (by decide) ?_
    refine s_aload X25 hx (hb hby at_178) (pc' := 180) rfl rfl rfl ?_
    refine s_iconst X25 hx (0 : Int32) (hb hby at_180) (pc' := 181) rfl rfl ?_
    refine s_aaload X25 hx hZ eh25 V24_r rfl (by decide) (v := .ref b024) rfl (hb hby at_181) (pc' := 182) rfl ?_
    refine s_iconst X25 hx (0 : Int32) (hb hby at_182) (pc' := 183) rfl rfl ?_
    refine s_ldcD X25 hx hZ hown (hw _ (List.mem_of_getElem? (i := 32) rfl)) (hb hby at_183) (pc' := 186) rfl ?_
    refine s_dastore X25 hx hZ eh25 V24_0 (by decide) 0 (by decide) (by simp) (hb hby at_186) (pc' := 187) rfl ?_
    intro T26 h26 X26 e26 W26 V26
    have N26 := Fr.snoc X26 N25 (Nat.le_trans Z0 hg_b024)
    have U26 : Arv Z h26 b024 kC24 .double (3 : Int32) [.double 4619567317775286272, .double (FP.dadd (FP.dmul (FP.dmul 4611686018427387904 x0) x1) (FP.dmul (FP.dmul 4611686018427387904 x3) x2)), .double (FP.dsub (FP.dmul (FP.dmul 4611686018427387904 x0) x2) (FP.dmul (FP.dmul 4611686018427387904 x3) x1))] (.double 0) := V26
    have H26 : h0.size ≤ h26.size := by rw [W26.size]; exact H24
    refine s_aload X26 hx (hb hby at_187) (pc' := 189) rfl rfl rfl ?_
    refine s_iconst X26 hx (1 : Int32) (hb hby at_189) (pc' := 190) rfl rfl ?_
    have fV27 := (V24_r.other W26 nq24_0)
    refine s_aaload X26 hx hZ e26 fV27 rfl (by decide) (v := .ref b124) rfl (hb hby at_190) (pc' := 191) rfl ?_
    refine s_iconst X26 hx (2 : Int32) (hb hby at_191) (pc' := 192) rfl rfl ?_
    refine s_ldcD X26 hx hZ hown (hw _ (List.mem_of_getElem? (i := 32) rfl)) (hb hby at_192) (pc' := 195) rfl ?_
    have fV28 := (V24_1.other W26 (Ne.symm nq24_3))
    refine s_dastore X26 hx hZ e26 fV28 (by decide) 2 (by decide) (by simp) (hb hby at_195) (pc' := 196) rfl ?_
    intro T29 h29 X29 e29 W29 V29
    have N29 := Fr.snoc X29 N26 (Nat.le_trans Z0 hg_b124)
    have U29 : Arv Z h29 b124 kC24 .double (3 : Int32) [.double (FP.dsub (FP.dmul (FP.dmul 4611686018427387904 x1) x0) (FP.dmul (FP.dmul 4611686018427387904 x3) x2)), .double (FP.dadd (FP.dmul (FP.dmul 4611686018427387904 x1) x1) (FP.dsub (FP.dmul x3 x3) (FP.dadd (FP.dadd (FP.dmul x0 x0) (FP.dmul x1 x1)) (FP.dmul x2 x2)))), .double 4619567317775286272] (.double 0) := V29
    have H29 : h0.size ≤ h29.size := by rw [W29.size]; exact H26
    refine s_aload X29 hx (hb hby at_196) (pc' := 198) rfl rfl rfl ?_
    refine s_iconst X29 hx (2 : Int32) (hb hby at_198) (pc' := 199) rfl rfl ?_
    have fV30 := (fV27.other W29 nq24_1)
    refine s_aaload X29 hx hZ e29 fV30 rfl (by decide) (v := .ref b224) rfl (hb hby at_199) (pc' := 200) rfl ?_
    refine s_iconst X29 hx (1 : Int32) (hb hby at_200) (pc' := 201) rfl rfl ?_
    refine s_ldcD X29 hx hZ hown (hw _ (List.mem_of_getElem? (i := 32) rfl)) (hb hby at_201) (pc' := 204) rfl ?_
    have fV31 := ((V24_2.other W26 (Ne.symm nq24_4)).other W29 (Ne.symm nq24_5))
    refine s_dastore X29 hx hZ e29 fV31 (by decide) 1 (by decide) (by simp) (hb hby at_204) (pc' := 205) rfl ?_
    intro T32 h32 X32 e32 W32 V32
    have N32 := Fr.snoc X32 N29 (Nat.le_trans Z0 hg_b224)
    have U32 : Arv Z h32 b224 kC24 .double (3 : Int32) [.double (FP.dadd (FP.dmul (FP.dmul 4611686018427387904 x2) x0) (FP.dmul (FP.dmul 4611686018427387904 x3) x1)), .double 4619567317775286272, .double (FP.dadd (FP.dmul (FP.dmul 4611686018427387904 x2) x2) (FP.dsub (FP.dmul x3 x3) (FP.dadd (FP.dadd (FP.dmul x0 x0) (FP.dmul x1 x1)) (FP.dmul x2 x2))))] (.double 0) := V32
    have H32 : h0.size ≤ h32.size := by rw [W32.size]; exact H29
    refine s_aload X32 hx (hb hby at_205) (pc' := 207) rfl rfl rfl ?_
    have fE33 := ((((E23.keep K24).wr W26).wr W29).wr W32)
    have fV34 := (fV30.other W32 nq24_2)
    have fV35 := ((U26.other W29 nq24_3).other W32 nq24_4)
    have fV36 := (U29.other W32 nq24_5)
    have fF37 := ((((Fa23.keep K24 nin0).other W26 (Or.inl ne_o22_b024)).other W29 (Or.inl ne_o22_b124)).other W32 (Or.inl ne_o22_b224))
    have fF38 := ((((Fb23.keep K24 nin0).other W26 (Or.inl ne_o22_b024)).other W29 (Or.inl ne_o22_b124)).other W32 (Or.inl ne_o22_b224))
    have fF39 := ((((Fc23.keep K24 nin0).other W26 (Or.inl ne_o22_b024)).other W29 (Or.inl ne_o22_b124)).other W32 (Or.inl ne_o22_b224))
    have fF40 := ((((Fd23.keep K24 nin0).other W26 (Or.inl ne_o22_b024)).other W29 (Or.inl ne_o22_b124)).other W32 (Or.inl ne_o22_b224))
    refine c_virtual X32 hx hZ hown (hw _ (List.mem_of_getElem? (i := 18) rfl)) (hw _ (List.mem_of_getElem? (i := 19) rfl)) (hw _ (List.mem_of_getElem? (i := 21) rfl)) (hw _ (List.mem_of_getElem? (i := 20) rfl)) (hw _ (List.mem_of_getElem? (i := 3) rfl)) (hw _ (List.mem_of_getElem? (i := 22) rfl)) (by decide) e32 fE33 (rm_3 l Z a0 hw [] o22 x0 x1 x2 x3 h32 n0 (Nat.le_trans Z0 H32) fF37 fF38 fF39 fF40 hok1) (W := 0) (by decide) (by decide) (by decide) (by decide) (by rw [hml]; rfl) (argsL := []) (rest := []) (lenOf pd_1 rfl) rfl rfl (Nat.le_of_eq rfl) (hb hby at_207) (pc' := 210) rfl ?_
    intro T41 v41 L41 X41 hQ41
    obtain ⟨r41, b041, b141, b241, kA41, kC41, rfl, Nq41, K41, lo41_0, lo41_1, lo41_2, lo41_3, nq41_0, nq41_1, nq41_2, nq41_3, nq41_4, nq41_5, V41_r, V41_0, V41_1, V41_2⟩ := hQ41
    have N41 := Fr.app N32 Nq41
    have H41 : h0.size ≤ T41.heap.size := Nat.le_trans H32 K41.1
    show Goes p e below _ (T41.setTop (mkF m 210 #[.val (.int p0), .val (.int p1), .val (.int p2), .val (.double x0), .second, .val (.double x1), .second, .val (.double x2), .second, .val (.double x3), .second, .val (.ref o22), .val (.ref r24), .unset] [.ref r41]))
    have ne_o22_r41 : o22 ≠ r41 := Nat.ne_of_lt (Nat.lt_of_lt_of_le fE33.lt lo41_0)
    have ne_r24_r41 : r24 ≠ r41 := Nat.ne_of_lt (Nat.lt_of_lt_of_le fV34.lt lo41_0)
    have ne_b024_r41 : b024 ≠ r41 := Nat.ne_of_lt (Nat.lt_of_lt_of_le fV35.lt lo41_0)
    have ne_b124_r41 : b124 ≠ r41 := Nat.ne_of_lt (Nat.lt_of_lt_of_le fV36.lt lo41_0)
    have ne_b224_r41 : b224 ≠ r41 := Nat.ne_of_lt (Nat.lt_of_lt_of_le U32.lt lo41_0)
    have hg_r41 : h0.size ≤ r41 := Nat.le_trans H32 lo41_0
    have ne_o22_b041 : o22 ≠ b041 := Nat.ne_of_lt (Nat.lt_of_lt_of_le fE33.lt lo41_1)
    have ne_r24_b041 : r24 ≠ b041 := Nat.ne_of_lt (Nat.lt_of_lt_of_le fV34.lt lo41_1)
    have ne_b024_b041 : b024 ≠ b041 := Nat.ne_of_lt (Nat.lt_of_lt_of_le fV35.lt lo41_1)
    have ne_b124_b041 : b124 ≠ b041 := Nat.ne_of_lt (Nat.lt_of_lt_of_le fV36.lt lo41_1)
    have ne_b224_b041 : b224 ≠ b041 := Nat.ne_of_lt (Nat.lt_of_lt_of_le U32.lt lo41_1)
    have hg_b041 : h0.size ≤ b041 := Nat.le_trans H32 lo41_1
    have ne_o22_b141 : o22 ≠ b141 := Nat.ne_of_lt (Nat.lt_of_lt_of_le fE33.lt lo41_2)
    have ne_r24_b141 : r24 ≠ b141 := Nat.ne_of_lt (Nat.lt_of_lt_of_le fV34.lt lo41_2)
    have ne_b024_b141 : b024 ≠ b141 := Nat.ne_of_lt (Nat.lt_of_lt_of_le fV35.lt lo41_2)
    have ne_b124_b141 : b124 ≠ b141 := Nat.ne_of_lt (Nat.lt_of_lt_of_le fV36.lt lo41_2)
    have ne_b224_b141 : b224 ≠ b141 := Nat.ne_of_lt (Nat.lt_of_lt_of_le U32.lt lo41_2)
    have hg_b141 : h0.size ≤ b141 := Nat.le_trans H32 lo41_2
    have ne_o22_b241 : o22 ≠ b241 := Nat.ne_of_lt (Nat.lt_of_lt_of_le fE33.lt lo41_3)
    have ne_r24_b241 : r24 ≠ b241 := Nat.ne_of_lt (Nat.lt_of_lt_of_le fV34.lt lo41_3)
    have ne_b024_b241 : b024 ≠ b241 := Nat.ne_of_lt (Nat.lt_of_lt_of_le fV35.lt lo41_3)
    have ne_b124_b241 : b124 ≠ b241 := Nat.ne_of_lt (Nat.lt_of_lt_of_le fV36.lt lo41_3)
    have ne_b224_b241 : b224 ≠ b241 := Nat.ne_of_lt (Nat.lt_of_lt_of_le U32.lt lo41_3)
    have hg_b241 : h0.size ≤ b241 := Nat.le_trans H32 lo41_3
    refine s_astore X41 hx #[.val (.int p0), .val (.int p1), .val (.int p2), .val (.double x0), .second, .val (.double x1), .second, .val (.double x2), .second, .val (.double x3), .second, .val (.ref o22), .val (.ref r24), .val (.ref r41)] (hb hby at_210) (pc' := 212) rfl rfl rfl ?_
    refine s_aload X41 hx (hb hby at_212) (pc' := 214) rfl rfl rfl ?_
    refine s_aload X41 hx (hb hby at_214) (pc' := 216) rfl rfl rfl ?_
    refine s_acmpN X41 hx (hb hby at_216) (pc' := 219) rfl rfl rfl (ae_no (Ne.symm ne_r24_r41)) ?_
    refine s_aload X41 hx (hb hby at_219) (pc' := 221) rfl rfl rfl ?_
    refine s_dloadN X41 hx (hb hby at_221) (pc' := 222) rfl rfl ?_
    refine s_dload X41 hx (hb hby at_222) (pc' := 224) rfl rfl ?_
    refine s_dload X41 hx (hb hby at_224) (pc' := 226) rfl rfl ?_
    refine s_dload X41 hx (hb hby at_226) (pc' := 228) rfl rfl ?_
    refine c_static X41 hx hZ hown (hw _ (List.mem_of_getElem? (i := 27) rfl)) (hw _ (List.mem_of_getElem? (i := 28) rfl)) (hw _ (List.mem_of_getElem? (i := 29) rfl)) (hw _ (List.mem_of_getElem? (i := 30) rfl)) (by decide) rfl (rm_4 l Z a0 hw [] r41 b041 b141 b241 kA41 kC41 x0 x1 x2 x3 (FP.dadd (FP.dmul (FP.dmul 4611686018427387904 x0) x0) (FP.dsub (FP.dmul x3 x3) (FP.dadd (FP.dadd (FP.dmul x0 x0) (FP.dmul x1 x1)) (FP.dmul x2 x2)))) (FP.dadd (FP.dmul (FP.dmul 4611686018427387904 x0) x1) (FP.dmul (FP.dmul 4611686018427387904 x3) x2)) (FP.dsub (FP.dmul (FP.dmul 4611686018427387904 x0) x2) (FP.dmul (FP.dmul 4611686018427387904 x3) x1)) (FP.dsub (FP.dmul (FP.dmul 4611686018427387904 x1) x0) (FP.dmul (FP.dmul 4611686018427387904 x3) x2)) (FP.dadd (FP.dmul (FP.dmul 4611686018427387904 x1) x1) (FP.dsub (FP.dmul x3 x3) (FP.dadd (FP.dadd (FP.dmul x0 x0) (FP.dmul x1 x1)) (FP.dmul x2 x2)))) (FP.dadd (FP.dmul (FP.dmul 4611686018427387904 x1) x2) (FP.dmul (FP.dmul 4611686018427387904 x3) x0)) (FP.dadd (FP.dmul (FP.dmul 4611686018427387904 x2) x0) (FP.dmul (FP.dmul 4611686018427387904 x3) x1)) (FP.dsub (FP.dmul (FP.dmul 4611686018427387904 x2) x1) (FP.dmul (FP.dmul 4611686018427387904 x3) x0)) (FP.dadd (FP.dmul (FP.dmul 4611686018427387904 x2) x2) (FP.dsub (FP.dmul x3 x3) (FP.dadd (FP.dadd (FP.dmul x0 x0) (FP.dmul x1 x1)) (FP.dmul x2 x2)))) T41.heap n0 (Nat.le_trans Z0 H41) V41_r V41_0 V41_1 V41_2 hok2 (own_eqs hok3 (k := 0) rfl) (own_eqs hok3 (k := 1) rfl) (own_eqs hok3 (k := 2) rfl) (own_eqs hok3 (k := 3) rfl) (own_eqs hok3 (k := 4) rfl) (own_eqs hok3 (k := 5) rfl) (own_eqs hok3 (k := 6) rfl) (own_eqs hok3 (k := 7) rfl) (own_eqs hok3 (k := 8) rfl)) (W := 0) (by decide) (by decide) (by decide) (by decide) (by rw [hml]; rfl) (argsL := [.ref r41, .double x0, .double x1, .double x2, .double x3]) (rest := []) (lenOf pd_2 rfl) rfl rfl (Nat.le_of_eq rfl) (hb hby at_228) (pc' := 231) rfl ?_
    intro T42 v42 L42 X42 hQ42
    obtain ⟨rfl, Nq42, eh42⟩ := hQ42
    have N42 := Fr.app N41 Nq42
    show Goes p e below _ (T42.setTop (mkF m 231 #[.val (.int p0), .val (.int p1), .val (.int p2), .val (.double x0), .second, .val (.double x1), .second, .val (.double x2), .second, .val (.double x3), .second, .val (.ref o22), .val (.ref r24), .val (.ref r41)] [.int (1 : Int32)]))
    refine s_ifN X42 hx (hb hby at_231) (pc' := 234) rfl (by decide) ?_
    refine s_iconst X42 hx (1 : Int32) (hb hby at_234) (pc' := 235) rfl rfl ?_
    refine s_goto X42 hx (hb hby at_235) (by decide) (pc' := 239) (by decide) ?_
    exact s_retI X42 hx hlk hret (hb hby at_239) rfl (Or.inl ⟨rfl, by simp, _, rfl⟩) (by decide) (by decide) ⟨rfl, N42⟩
  refine s_dconst0 X0 hx (hb hby at_0) (pc' := 1) rfl ?_
  refine s_dstoreN X0 hx #[.val (.int p0), .val (.int p1), .val (.int p2), .val (.double 0), .second, .unset, .unset, .unset, .unset, .unset, .unset, .unset, .unset, .unset] (hb hby at_1) (pc' := 2) rfl rfl ?_
  refine s_dconst0 X0 hx (hb hby at_2) (pc' := 3) rfl ?_
  refine s_dstore X0 hx #[.val (.int p0), .val (.int p1), .val (.int p2), .val (.double 0), .second, .val (.double 0), .second, .unset, .unset, .unset, .unset, .unset, .unset, .unset] (hb hby at_3) (pc' := 5) rfl rfl ?_
  refine s_dconst0 X0 hx (hb hby at_5) (pc' := 6) rfl ?_
  refine s_dstore X0 hx #[.val (.int p0), .val (.int p1), .val (.int p2), .val (.double 0), .second, .val (.double 0), .second, .val (.double 0), .second, .unset, .unset, .unset, .unset, .unset] (hb hby at_6) (pc' := 8) rfl rfl ?_
  refine s_dconst0 X0 hx (hb hby at_8) (pc' := 9) rfl ?_
  refine s_dstore X0 hx #[.val (.int p0), .val (.int p1), .val (.int p2), .val (.double 0), .second, .val (.double 0), .second, .val (.double 0), .second, .val (.double 0), .second, .unset, .unset, .unset] (hb hby at_9) (pc' := 11) rfl rfl ?_
  refine s_iloadN X0 hx (hb hby at_11) (pc' := 12) rfl rfl ?_
  refine s_iconst X0 hx (1 : Int32) (hb hby at_12) (pc' := 13) rfl rfl ?_
  refine s_iand X0 hx (hb hby at_13) (pc' := 14) rfl ?_
  by_cases hk0 : (p0 &&& (1 : Int32)) = 0
  ·
    refine s_ifN X0 hx (hb hby at_14) (pc' := 17) rfl (in_ne hk0) ?_
    refine s_iloadN X0 hx (hb hby at_17) (pc' := 18) rfl rfl ?_
    refine s_ldcI X0 hx hZ hown (hw _ (List.mem_of_getElem? (i := 0) rfl)) (hb hby at_18) (pc' := 20) rfl ?_
    refine s_iand X0 hx (hb hby at_20) (pc' := 21) rfl ?_
    refine s_iconst X0 hx (4 : Int32) (hb hby at_21) (pc' := 22) rfl rfl ?_
    have hk := own_k p1
    refine s_irem X0 hx (hb hby at_22) (pc' := 23) rfl (by decide) ?_
    refine s_istore X0 hx #[.val (.int p0), .val (.int p1), .val (.int p2), .val (.double 0), .second, .val (.double 0), .second, .val (.double 0), .second, .val (.double 0), .second, .val (.int ((p1 &&& (2147483647 : Int32)) % (4 : Int32))), .unset, .unset] (hb hby at_23) (pc' := 25) rfl rfl ?_
    generalize ek : ((p1 &&& (2147483647 : Int32)) % (4 : Int32)) = k
    simp only [ek] at hk
    refine s_iloadN X0 hx (hb hby at_25) (pc' := 26) rfl rfl ?_
    refine s_iconst X0 hx (1 : Int32) (hb hby at_26) (pc' := 27) rfl rfl ?_
    refine s_iand X0 hx (hb hby at_27) (pc' := 28) rfl ?_
    by_cases hs : (p2 &&& (1 : Int32)) = 0
    ·
      refine s_ifY X0 hx (hb hby at_28) (iy_eq hs) (by decide) (pc' := 37) (by decide) ?_
      refine s_dconst1 X0 hx (hb hby at_37) (pc' := 38) rfl ?_
      refine s_dstore X0 hx #[.val (.int p0), .val (.int p1), .val (.int p2), .val (.double 0), .second, .val (.double 0), .second, .val (.double 0), .second, .val (.double 0), .second, .val (.int k), .val (.double 4607182418800017408), .second] (hb hby at_38) (pc' := 40) rfl rfl ?_
      rcases hk with rfl | rfl | rfl | rfl
      ·
        refine s_iload X0 hx (hb hby at_40) (pc' := 42) rfl rfl ?_
        refine s_ifN X0 hx (hb hby at_42) (pc' := 45) rfl (by decide) ?_
        refine s_dload X0 hx (hb hby at_45) (pc' := 47) rfl rfl ?_
        refine s_dstoreN X0 hx #[.val (.int p0), .val (.int p1), .val (.int p2), .val (.double 4607182418800017408), .second, .val (.double 0), .second, .val (.double 0), .second, .val (.double 0), .second, .val (.int (0 : Int32)), .val (.double 4607182418800017408), .second] (hb hby at_47) (pc' := 48) rfl rfl ?_
        refine s_goto X0 hx (hb hby at_48) (by decide) (pc' := 80) (by decide) ?_
        refine s_goto X0 hx (hb hby at_80) (by decide) (pc' := 138) (by decide) ?_
        exact tailA 4607182418800017408 0 0 0 (0 : Int32) 4607182418800017408 (by decide +kernel)
      ·
        refine s_iload X0 hx (hb hby at_40) (pc' := 42) rfl rfl ?_
        refine s_ifY X0 hx (hb hby at_42) (by decide) (by decide) (pc' := 51) (by decide) ?_
        refine s_iload X0 hx (hb hby at_51) (pc' := 53) rfl rfl ?_
        refine s_iconst X0 hx (1 : Int32) (hb hby at_53) (pc' := 54) rfl rfl ?_
        refine s_icmpN X0 hx (hb hby at_54) (pc' := 57) rfl (by decide) ?_
        refine s_dload X0 hx (hb hby at_57) (pc' := 59) rfl rfl ?_
        refine s_dstore X0 hx #[.val (.int p0), .val (.int p1), .val (.int p2), .val (.double 0), .second, .val (.double 4607182418800017408), .second, .val (.double 0), .second, .val (.double 0), .second, .val (.int (1 : Int32)), .val (.double 4607182418800017408), .second] (hb hby at_59) (pc' := 61) rfl rfl ?_
        refine s_goto X0 hx (hb hby at_61) (by decide) (pc' := 80) (by decide) ?_
        refine s_goto X0 hx (hb hby at_80) (by decide) (pc' := 138) (by decide) ?_
        exact tailA 0 4607182418800017408 0 0 (1 : Int32) 4607182418800017408 (by decide +kernel)
      ·
        refine s_iload X0 hx (hb hby at_40) (pc' := 42) rfl rfl ?_
        refine s_ifY X0 hx (hb hby at_42) (by decide) (by decide) (pc' := 51) (by decide) ?_
        refine s_iload X0 hx (hb hby at_51) (pc' := 53) rfl rfl ?_
        refine s_iconst X0 hx (1 : Int32) (hb hby at_53) (pc' := 54) rfl rfl ?_
        refine s_icmpY X0 hx (hb hby at_54) (by decide) (by decide) (pc' := 64) (by decide) ?_
        refine s_iload X0 hx (hb hby at_64) (pc' := 66) rfl rfl ?_
        refine s_iconst X0 hx (2 : Int32) (hb hby at_66) (pc' := 67) rfl rfl ?_
        refine s_icmpN X0 hx (hb hby at_67) (pc' := 70) rfl (by decide) ?_
        refine s_dload X0 hx (hb hby at_70) (pc' := 72) rfl rfl ?_
        refine s_dstore X0 hx #[.val (.int p0), .val (.int p1), .val (.int p2), .val (.double 0), .second, .val (.double 0), .second, .val (.double 4607182418800017408), .second, .val (.double 0), .second, .val (.int (2 : Int32)), .val (.double 4607182418800017408), .second] (hb hby at_72) (pc' := 74) rfl rfl ?_
        refine s_goto X0 hx (hb hby at_74) (by decide) (pc' := 80) (by decide) ?_
        refine s_goto X0 hx (hb hby at_80) (by decide) (pc' := 138) (by decide) ?_
        exact tailA 0 0 4607182418800017408 0 (2 : Int32) 4607182418800017408 (by decide +kernel)
      ·
        refine s_iload X0 hx (hb hby at_40) (pc' := 42) rfl rfl ?_
        refine s_ifY X0 hx (hb hby at_42) (by decide) (by decide) (pc' := 51) (by decide) ?_
        refine s_iload X0 hx (hb hby at_51) (pc' := 53) rfl rfl ?_
        refine s_iconst X0 hx (1 : Int32) (hb hby at_53) (pc' := 54) rfl rfl ?_
        refine s_icmpY X0 hx (hb hby at_54) (by decide) (by decide) (pc' := 64) (by decide) ?_
        refine s_iload X0 hx (hb hby at_64) (pc' := 66) rfl rfl ?_
        refine s_iconst X0 hx (2 : Int32) (hb hby at_66) (pc' := 67) rfl rfl ?_
        refine s_icmpY X0 hx (hb hby at_67) (by decide) (by decide) (pc' := 77) (by decide) ?_
        refine s_dconst1 X0 hx (hb hby at_77) (pc' := 78) rfl ?_
        refine s_dstore X0 hx #[.val (.int p0), .val (.int p1), .val (.int p2), .val (.double 0), .second, .val (.double 0), .second, .val (.double 0), .second, .val (.double 4607182418800017408), .second, .val (.int (3 : Int32)), .val (.double 4607182418800017408), .second] (hb hby at_78) (pc' := 80) rfl rfl ?_
        refine s_goto X0 hx (hb hby at_80) (by decide) (pc' := 138) (by decide) ?_
        exact tailA 0 0 0 4607182418800017408 (3 : Int32) 4607182418800017408 (by decide +kernel)
    ·
      refine s_ifN X0 hx (hb hby at_28) (pc' := 31) rfl (in_eq hs) ?_
      refine s_ldcD X0 hx hZ hown (hw _ (List.mem_of_getElem? (i := 35) rfl)) (hb hby at_31) (pc' := 34) rfl ?_
      refine s_goto X0 hx (hb hby at_34) (by decide) (pc' := 38) (by decide) ?_
      refine s_dstore X0 hx #[.val (.int p0), .val (.int p1), .val (.int p2), .val (.double 0), .second, .val (.double 0), .second, .val (.double 0), .second, .val (.double 0), .second, .val (.int k), .val (.double 13830554455654793216), .second] (hb hby at_38) (pc' := 40) rfl rfl ?_
      rcases hk with rfl | rfl | rfl | rfl
      ·
        refine s_iload X0 hx (hb hby at_40) (pc' := 42) rfl rfl ?_
        refine s_ifN X0 hx (hb hby at_42) (pc' := 45) rfl (by decide) ?_
        refine s_dload X0 hx (hb hby at_45) (pc' := 47) rfl rfl ?_
        refine s_dstoreN X0 hx #[.val (.int p0), .val (.int p1), .val (.int p2), .val (.double 13830554455654793216), .second, .val (.double 0), .second, .val (.double 0), .second, .val (.double 0), .second, .val (.int (0 : Int32)), .val (.double 13830554455654793216), .second] (hb hby at_47) (pc' := 48) rfl rfl ?_
        refine s_goto X0 hx (hb hby at_48) (by decide) (pc' := 80) (by decide) ?_
        refine s_goto X0 hx (hb hby at_80) (by decide) (pc' := 138) (by decide) ?_
        exact tailA 13830554455654793216 0 0 0 (0 : Int32) 13830554455654793216 (by decide +kernel)
      ·
        refine s_iload X0 hx (hb hby at_40) (pc' := 42) rfl rfl ?_
        refine s_ifY X0 hx (hb hby at_42) (by decide) (by decide) (pc' := 51) (by decide) ?_
        refine s_iload X0 hx (hb hby at_51) (pc' := 53) rfl rfl ?_
        refine s_iconst X0 hx (1 : Int32) (hb hby at_53) (pc' := 54) rfl rfl ?_
        refine s_icmpN X0 hx (hb hby at_54) (pc' := 57) rfl (by decide) ?_
        refine s_dload X0 hx (hb hby at_57) (pc' := 59) rfl rfl ?_
        refine s_dstore X0 hx #[.val (.int p0), .val (.int p1), .val (.int p2), .val (.double 0), .second, .val (.double 13830554455654793216), .second, .val (.double 0), .second, .val (.double 0), .second, .val (.int (1 : Int32)), .val (.double 13830554455654793216), .second] (hb hby at_59) (pc' := 61) rfl rfl ?_
        refine s_goto X0 hx (hb hby at_61) (by decide) (pc' := 80) (by decide) ?_
        refine s_goto X0 hx (hb hby at_80) (by decide) (pc' := 138) (by decide) ?_
        exact tailA 0 13830554455654793216 0 0 (1 : Int32) 13830554455654793216 (by decide +kernel)
      ·
        refine s_iload X0 hx (hb hby at_40) (pc' := 42) rfl rfl ?_
        refine s_ifY X0 hx (hb hby at_42) (by decide) (by decide) (pc' := 51) (by decide) ?_
        refine s_iload X0 hx (hb hby at_51) (pc' := 53) rfl rfl ?_
        refine s_iconst X0 hx (1 : Int32) (hb hby at_53) (pc' := 54) rfl rfl ?_
        refine s_icmpY X0 hx (hb hby at_54) (by decide) (by decide) (pc' := 64) (by decide) ?_
        refine s_iload X0 hx (hb hby at_64) (pc' := 66) rfl rfl ?_
        refine s_iconst X0 hx (2 : Int32) (hb hby at_66) (pc' := 67) rfl rfl ?_
        refine s_icmpN X0 hx (hb hby at_67) (pc' := 70) rfl (by decide) ?_
        refine s_dload X0 hx (hb hby at_70) (pc' := 72) rfl rfl ?_
        refine s_dstore X0 hx #[.val (.int p0), .val (.int p1), .val (.int p2), .val (.double 0), .second, .val (.double 0), .second, .val (.double 13830554455654793216), .second, .val (.double 0), .second, .val (.int (2 : Int32)), .val (.double 13830554455654793216), .second] (hb hby at_72) (pc' := 74) rfl rfl ?_
        refine s_goto X0 hx (hb hby at_74) (by decide) (pc' := 80) (by decide) ?_
        refine s_goto X0 hx (hb hby at_80) (by decide) (pc' := 138) (by decide) ?_
        exact tailA 0 0 13830554455654793216 0 (2 : Int32) 13830554455654793216 (by decide +kernel)
      ·
        refine s_iload X0 hx (hb hby at_40) (pc' := 42) rfl rfl ?_
        refine s_ifY X0 hx (hb hby at_42) (by decide) (by decide) (pc' := 51) (by decide) ?_
        refine s_iload X0 hx (hb hby at_51) (pc' := 53) rfl rfl ?_
        refine s_iconst X0 hx (1 : Int32) (hb hby at_53) (pc' := 54) rfl rfl ?_
        refine s_icmpY X0 hx (hb hby at_54) (by decide) (by decide) (pc' := 64) (by decide) ?_
        refine s_iload X0 hx (hb hby at_64) (pc' := 66) rfl rfl ?_
        refine s_iconst X0 hx (2 : Int32) (hb hby at_66) (pc' := 67) rfl rfl ?_
        refine s_icmpY X0 hx (hb hby at_67) (by decide) (by decide) (pc' := 77) (by decide) ?_
        refine s_dconst1 X0 hx (hb hby at_77) (pc' := 78) rfl ?_
        refine s_dstore X0 hx #[.val (.int p0), .val (.int p1), .val (.int p2), .val (.double 0), .second, .val (.double 0), .second, .val (.double 0), .second, .val (.double 4607182418800017408), .second, .val (.int (3 : Int32)), .val (.double 13830554455654793216), .second] (hb hby at_78) (pc' := 80) rfl rfl ?_
        refine s_goto X0 hx (hb hby at_80) (by decide) (pc' := 138) (by decide) ?_
        exact tailA 0 0 0 4607182418800017408 (3 : Int32) 13830554455654793216 (by decide +kernel)
  ·
    refine s_ifY X0 hx (hb hby at_14) (iy_ne hk0) (by decide) (pc' := 83) (by decide) ?_
    refine s_iloadN X0 hx (hb hby at_83) (pc' := 84) rfl rfl ?_
    refine s_iconst X0 hx (1 : Int32) (hb hby at_84) (pc' := 85) rfl rfl ?_
    refine s_iand X0 hx (hb hby at_85) (pc' := 86) rfl ?_
    by_cases hs0 : (p2 &&& (1 : Int32)) = 0
    ·
      refine s_ifY X0 hx (hb hby at_86) (iy_eq hs0) (by decide) (pc' := 95) (by decide) ?_
      refine s_ldcD X0 hx hZ hown (hw _ (List.mem_of_getElem? (i := 34) rfl)) (hb hby at_95) (pc' := 98) rfl ?_
      refine s_dstoreN X0 hx #[.val (.int p0), .val (.int p1), .val (.int p2), .val (.double 4602678819172646912), .second, .val (.double 0), .second, .val (.double 0), .second, .val (.double 0), .second, .unset, .unset, .unset] (hb hby at_98) (pc' := 99) rfl rfl ?_
      refine s_iloadN X0 hx (hb hby at_99) (pc' := 100) rfl rfl ?_
      refine s_iconst X0 hx (2 : Int32) (hb hby at_100) (pc' := 101) rfl rfl ?_
      refine s_iand X0 hx (hb hby at_101) (pc' := 102) rfl ?_
      by_cases hs1 : (p2 &&& (2 : Int32)) = 0
      ·
        refine s_ifY X0 hx (hb hby at_102) (iy_eq hs1) (by decide) (pc' := 111) (by decide) ?_
        refine s_ldcD X0 hx hZ hown (hw _ (List.mem_of_getElem? (i := 34) rfl)) (hb hby at_111) (pc' := 114) rfl ?_
        refine s_dstore X0 hx #[.val (.int p0), .val (.int p1), .val (.int p2), .val (.double 4602678819172646912), .second, .val (.double 4602678819172646912), .second, .val (.double 0), .second, .val (.double 0), .second, .unset, .unset, .unset] (hb hby at_114) (pc' := 116) rfl rfl ?_
        refine s_iloadN X0 hx (hb hby at_116) (pc' := 117) rfl rfl ?_
        refine s_iconst X0 hx (4 : Int32) (hb hby at_117) (pc' := 118) rfl rfl ?_
        refine s_iand X0 hx (hb hby at_118) (pc' := 119) rfl ?_
        by_cases hs2 : (p2 &&& (4 : Int32)) = 0
        ·
          refine s_ifY X0 hx (hb hby at_119) (iy_eq hs2) (by decide) (pc' := 128) (by decide) ?_
          refine s_ldcD X0 hx hZ hown (hw _ (List.mem_of_getElem? (i := 34) rfl)) (hb hby at_128) (pc' := 131) rfl ?_
          refine s_dstore X0 hx #[.val (.int p0), .val (.int p1), .val (.int p2), .val (.double 4602678819172646912), .second, .val (.double 4602678819172646912), .second, .val (.double 4602678819172646912), .second, .val (.double 0), .second, .unset, .unset, .unset] (hb hby at_131) (pc' := 133) rfl rfl ?_
          refine s_ldcD X0 hx hZ hown (hw _ (List.mem_of_getElem? (i := 34) rfl)) (hb hby at_133) (pc' := 136) rfl ?_
          refine s_dstore X0 hx #[.val (.int p0), .val (.int p1), .val (.int p2), .val (.double 4602678819172646912), .second, .val (.double 4602678819172646912), .second, .val (.double 4602678819172646912), .second, .val (.double 4602678819172646912), .second, .unset, .unset, .unset] (hb hby at_136) (pc' := 138) rfl rfl ?_
          exact tailB 4602678819172646912 4602678819172646912 4602678819172646912 4602678819172646912 (by decide +kernel)
        ·
          refine s_ifN X0 hx (hb hby at_119) (pc' := 122) rfl (in_eq hs2) ?_
          refine s_ldcD X0 hx hZ hown (hw _ (List.mem_of_getElem? (i := 33) rfl)) (hb hby at_122) (pc' := 125) rfl ?_
          refine s_goto X0 hx (hb hby at_125) (by decide) (pc' := 131) (by decide) ?_
          refine s_dstore X0 hx #[.val (.int p0), .val (.int p1), .val (.int p2), .val (.double 4602678819172646912), .second, .val (.double 4602678819172646912), .second, .val (.double 13826050856027422720), .second, .val (.double 0), .second, .unset, .unset, .unset] (hb hby at_131) (pc' := 133) rfl rfl ?_
          refine s_ldcD X0 hx hZ hown (hw _ (List.mem_of_getElem? (i := 34) rfl)) (hb hby at_133) (pc' := 136) rfl ?_
          refine s_dstore X0 hx #[.val (.int p0), .val (.int p1), .val (.int p2), .val (.double 4602678819172646912), .second, .val (.double 4602678819172646912), .second, .val (.double 13826050856027422720), .second, .val (.double 4602678819172646912), .second, .unset, .unset, .unset] (hb hby at_136) (pc' := 138) rfl rfl ?_
          exact tailB 4602678819172646912 4602678819172646912 13826050856027422720 4602678819172646912 (by decide +kernel)
      ·
        refine s_ifN X0 hx (hb hby at_102) (pc' := 105) rfl (in_eq hs1) ?_
        refine s_ldcD X0 hx hZ hown (hw _ (List.mem_of_getElem? (i := 33) rfl)) (hb hby at_105) (pc' := 108) rfl ?_
        refine s_goto X0 hx (hb hby at_108) (by decide) (pc' := 114) (by decide) ?_
        refine s_dstore X0 hx #[.val (.int p0), .val (.int p1), .val (.int p2), .val (.double 4602678819172646912), .second, .val (.double 13826050856027422720), .second, .val (.double 0), .second, .val (.double 0), .second, .unset, .unset, .unset] (hb hby at_114) (pc' := 116) rfl rfl ?_
        refine s_iloadN X0 hx (hb hby at_116) (pc' := 117) rfl rfl ?_
        refine s_iconst X0 hx (4 : Int32) (hb hby at_117) (pc' := 118) rfl rfl ?_
        refine s_iand X0 hx (hb hby at_118) (pc' := 119) rfl ?_
        by_cases hs2 : (p2 &&& (4 : Int32)) = 0
        ·
          refine s_ifY X0 hx (hb hby at_119) (iy_eq hs2) (by decide) (pc' := 128) (by decide) ?_
          refine s_ldcD X0 hx hZ hown (hw _ (List.mem_of_getElem? (i := 34) rfl)) (hb hby at_128) (pc' := 131) rfl ?_
          refine s_dstore X0 hx #[.val (.int p0), .val (.int p1), .val (.int p2), .val (.double 4602678819172646912), .second, .val (.double 13826050856027422720), .second, .val (.double 4602678819172646912), .second, .val (.double 0), .second, .unset, .unset, .unset] (hb hby at_131) (pc' := 133) rfl rfl ?_
          refine s_ldcD X0 hx hZ hown (hw _ (List.mem_of_getElem? (i := 34) rfl)) (hb hby at_133) (pc' := 136) rfl ?_
          refine s_dstore X0 hx #[.val (.int p0), .val (.int p1), .val (.int p2), .val (.double 4602678819172646912), .second, .val (.double 13826050856027422720), .second, .val (.double 4602678819172646912), .second, .val (.double 4602678819172646912), .second, .unset, .unset, .unset] (hb hby at_136) (pc' := 138) rfl rfl ?_
          exact tailB 4602678819172646912 13826050856027422720 4602678819172646912 4602678819172646912 (by decide +kernel)
        ·
          refine s_ifN X0 hx (hb hby at_119) (pc' := 122) rfl (in_eq hs2) ?_
          refine s_ldcD X0 hx hZ hown (hw _ (List.mem_of_getElem? (i := 33) rfl)) (hb hby at_122) (pc' := 125) rfl ?_
          refine s_goto X0 hx (hb hby at_125) (by decide) (pc' := 131) (by decide) ?_
          refine s_dstore X0 hx #[.val (.int p0), .val (.int p1), .val (.int p2), .val (.double 4602678819172646912), .second, .val (.double 13826050856027422720), .second, .val (.double 13826050856027422720), .second, .val (.double 0), .second, .unset, .unset, .unset] (hb hby at_131) (pc' := 133) rfl rfl ?_
          refine s_ldcD X0 hx hZ hown (hw _ (List.mem_of_getElem? (i := 34) rfl)) (hb hby at_133) (pc' := 136) rfl ?_
          refine s_dstore X0 hx #[.val (.int p0), .val (.int p1), .val (.int p2), .val (.double 4602678819172646912), .second, .val (.double 13826050856027422720), .second, .val (.double 13826050856027422720), .second, .val (.double 4602678819172646912), .second, .unset, .unset, .unset] (hb hby at_136) (pc' := 138) rfl rfl ?_
          exact tailB 4602678819172646912 13826050856027422720 13826050856027422720 4602678819172646912 (by decide +kernel)
    ·
      refine s_ifN X0 hx (hb hby at_86) (pc' := 89) rfl (in_eq hs0) ?_
      refine s_ldcD X0 hx hZ hown (hw _ (List.mem_of_getElem? (i := 33) rfl)) (hb hby at_89) (pc' := 92) rfl ?_
      refine s_goto X0 hx (hb hby at_92) (by decide) (pc' := 98) (by decide) ?_
      refine s_dstoreN X0 hx #[.val (.int p0), .val (.int p1), .val (.int p2), .val (.double 13826050856027422720), .second, .val (.double 0), .second, .val (.double 0), .second, .val (.double 0), .second, .unset, .unset, .unset] (hb hby at_98) (pc' := 99) rfl rfl ?_
      refine s_iloadN X0 hx (hb hby at_99) (pc' := 100) rfl rfl ?_
      refine s_iconst X0 hx (2 : Int32) (hb hby at_100) (pc' := 101) rfl rfl ?_
      refine s_iand X0 hx (hb hby at_101) (pc' := 102) rfl ?_
      by_cases hs1 : (p2 &&& (2 : Int32)) = 0
      ·
        refine s_ifY X0 hx (hb hby at_102) (iy_eq hs1) (by decide) (pc' := 111) (by decide) ?_
        refine s_ldcD X0 hx hZ hown (hw _ (List.mem_of_getElem? (i := 34) rfl)) (hb hby at_111) (pc' := 114) rfl ?_
        refine s_dstore X0 hx #[.val (.int p0), .val (.int p1), .val (.int p2), .val (.double 13826050856027422720), .second, .val (.double 4602678819172646912), .second, .val (.double 0), .second, .val (.double 0), .second, .unset, .unset, .unset] (hb hby at_114) (pc' := 116) rfl rfl ?_
        refine s_iloadN X0 hx (hb hby at_116) (pc' := 117) rfl rfl ?_
        refine s_iconst X0 hx (4 : Int32) (hb hby at_117) (pc' := 118) rfl rfl ?_
        refine s_iand X0 hx (hb hby at_118) (pc' := 119) rfl ?_
        by_cases hs2 : (p2 &&& (4 : Int32)) = 0
        ·
          refine s_ifY X0 hx (hb hby at_119) (iy_eq hs2) (by decide) (pc' := 128) (by decide) ?_
          refine s_ldcD X0 hx hZ hown (hw _ (List.mem_of_getElem? (i := 34) rfl)) (hb hby at_128) (pc' := 131) rfl ?_
          refine s_dstore X0 hx #[.val (.int p0), .val (.int p1), .val (.int p2), .val (.double 13826050856027422720), .second, .val (.double 4602678819172646912), .second, .val (.double 4602678819172646912), .second, .val (.double 0), .second, .unset, .unset, .unset] (hb hby at_131) (pc' := 133) rfl rfl ?_
          refine s_ldcD X0 hx hZ hown (hw _ (List.mem_of_getElem? (i := 34) rfl)) (hb hby at_133) (pc' := 136) rfl ?_
          refine s_dstore X0 hx #[.val (.int p0), .val (.int p1), .val (.int p2), .val (.double 13826050856027422720), .second, .val (.double 4602678819172646912), .second, .val (.double 4602678819172646912), .second, .val (.double 4602678819172646912), .second, .unset, .unset, .unset] (hb hby at_136) (pc' := 138) rfl rfl ?_
          exact tailB 13826050856027422720 4602678819172646912 4602678819172646912 4602678819172646912 (by decide +kernel)
        ·
          refine s_ifN X0 hx (hb hby at_119) (pc' := 122) rfl (in_eq hs2) ?_
          refine s_ldcD X0 hx hZ hown (hw _ (List.mem_of_getElem? (i := 33) rfl)) (hb hby at_122) (pc' := 125) rfl ?_
          refine s_goto X0 hx (hb hby at_125) (by decide) (pc' := 131) (by decide) ?_
          refine s_dstore X0 hx #[.val (.int p0), .val (.int p1), .val (.int p2), .val (.double 13826050856027422720), .second, .val (.double 4602678819172646912), .second, .val (.double 13826050856027422720), .second, .val (.double 0), .second, .unset, .unset, .unset] (hb hby at_131) (pc' := 133) rfl rfl ?_
          refine s_ldcD X0 hx hZ hown (hw _ (List.mem_of_getElem? (i := 34) rfl)) (hb hby at_133) (pc' := 136) rfl ?_
          refine s_dstore X0 hx #[.val (.int p0), .val (.int p1), .val (.int p2), .val (.double 13826050856027422720), .second, .val (.double 4602678819172646912), .second, .val (.double 13826050856027422720), .second, .val (.double 4602678819172646912), .second, .unset, .unset, .unset] (hb hby at_136) (pc' := 138) rfl rfl ?_
          exact tailB 13826050856027422720 4602678819172646912 13826050856027422720 4602678819172646912 (by decide +kernel)
      ·
        refine s_ifN X0 hx (hb hby at_102) (pc' := 105) rfl (in_eq hs1) ?_
        refine s_ldcD X0 hx hZ hown (hw _ (List.mem_of_getElem? (i := 33) rfl)) (hb hby at_105) (pc' := 108) rfl ?_
        refine s_goto X0 hx (hb hby at_108) (by decide) (pc' := 114) (by decide) ?_
        refine s_dstore X0 hx #[.val (.int p0), .val (.int p1), .val (.int p2), .val (.double 13826050856027422720), .second, .val (.double 13826050856027422720), .second, .val (.double 0), .second, .val (.double 0), .second, .unset, .unset, .unset] (hb hby at_114) (pc' := 116) rfl rfl ?_
        refine s_iloadN X0 hx (hb hby at_116) (pc' := 117) rfl rfl ?_
        refine s_iconst X0 hx (4 : Int32) (hb hby at_117) (pc' := 118) rfl rfl ?_
        refine s_iand X0 hx (hb hby at_118) (pc' := 119) rfl ?_
        by_cases hs2 : (p2 &&& (4 : Int32)) = 0
        ·
          refine s_ifY X0 hx (hb hby at_119) (iy_eq hs2) (by decide) (pc' := 128) (by decide) ?_
          refine s_ldcD X0 hx hZ hown (hw _ (List.mem_of_getElem? (i := 34) rfl)) (hb hby at_128) (pc' := 131) rfl ?_
          refine s_dstore X0 hx #[.val (.int p0), .val (.int p1), .val (.int p2), .val (.double 13826050856027422720), .second, .val (.double 13826050856027422720), .second, .val (.double 4602678819172646912), .second, .val (.double 0), .second, .unset, .unset, .unset] (hb hby at_131) (pc' := 133) rfl rfl ?_
          refine s_ldcD X0 hx hZ hown (hw _ (List.mem_of_getElem? (i := 34) rfl)) (hb hby at_133) (pc' := 136) rfl ?_
          refine s_dstore X0 hx #[.val (.int p0), .val (.int p1), .val (.int p2), .val (.double 13826050856027422720), .second, .val (.double 13826050856027422720), .second, .val (.double 4602678819172646912), .second, .val (.double 4602678819172646912), .second, .unset, .unset, .unset] (hb hby at_136) (pc' := 138) rfl rfl ?_
          exact tailB 13826050856027422720 13826050856027422720 4602678819172646912 4602678819172646912 (by decide +kernel)
        ·
          refine s_ifN X0 hx (hb hby at_119) (pc' := 122) rfl (in_eq hs2) ?_
          refine s_ldcD X0 hx hZ hown (hw _ (List.mem_of_getElem? (i := 33) rfl)) (hb hby at_122) (pc' := 125) rfl ?_
          refine s_goto X0 hx (hb hby at_125) (by decide) (pc' := 131) (by decide) ?_
          refine s_dstore X0 hx #[.val (.int p0), .val (.int p1), .val (.int p2), .val (.double 13826050856027422720), .second, .val (.double 13826050856027422720), .second, .val (.double 13826050856027422720), .second, .val (.double 0), .second, .unset, .unset, .unset] (hb hby at_131) (pc' := 133) rfl rfl ?_
          refine s_ldcD X0 hx hZ hown (hw _ (List.mem_of_getElem? (i := 34) rfl)) (hb hby at_133) (pc' := 136) rfl ?_
          refine s_dstore X0 hx #[.val (.int p0), .val (.int p1), .val (.int p2), .val (.double 13826050856027422720), .second, .val (.double 13826050856027422720), .second, .val (.double 13826050856027422720), .second, .val (.double 4602678819172646912), .second, .unset, .unset, .unset] (hb hby at_136) (pc' := 138) rfl rfl ?_
          exact tailB 13826050856027422720 13826050856027422720 13826050856027422720 4602678819172646912 (by decide +kernel)
set_option maxRecDepth 65536 in
set_option maxHeartbeats 40000000 in
theorem comes_1 {Post : Tables → Env → Array Value → State → Outcome → State → Prop} (hpost : ∀ tb e args s v u, (limb_1_1.after args s (.returned v) u = true ∧ limb_1_2.after args s (.returned v) u = true ∧ True) → FrameEnd s (.returned v) u (Jvm.fieldLocs frame_1_writes args s ++ Jvm.arrayLocs frame_1_arrays args s ++ Jvm.staticLocs frame_1_statics s) 32 192 → Post tb e args s (.returned v) u) :
    ArmFor flags0 classFile x code maxLocals ret World_1 tables_1 room_1 Calls_1 rest_1 Pre_1 Post := by
  intro l hfl _ _ p e ha hc hk s m args below hf hA hF happ hP
  obtain ⟨hcalls, hrest, hpre⟩ := hP
  obtain ⟨-, -, -, hnamed, -, -, -, hat⟩ := (Spec.applies_iff hf).mp happ
  obtain ⟨hg, hn⟩ := and_e (Cond.before_iff.mp (show (Jvm.Cond.and given_1 narrow_1).before args s = true from hpre))
  obtain ⟨g0, gr0⟩ := and_e hg
  obtain ⟨g1, gr1⟩ := and_e gr0
  obtain ⟨g2, gr2⟩ := and_e gr1
  obtain ⟨w0, w1, w2, rfl⟩ : ∃ w0 w1 w2 : Value, args = #[w0, w1, w2] := by
    have hs : args.size = 3 := by simpa [Cond.value, given_1] using g0
    obtain ⟨L⟩ := args
    match L, hs with
    | [w0, w1, w2], _ => exact ⟨w0, w1, w2, rfl⟩
  have hw := fun d (hd : d ∈ tables_1) => atoms_spec (ws := Jvm.Cond.code x code maxLocals ret :: tables_1) hat d (List.mem_cons_of_mem _ hd)
  have hfit : Fit s := fun {y c} hc i hi => by
    obtain ⟨ha, rfl⟩ := Array.getElem?_eq_some_iff.mp hc
    have q := List.all_eq_true.mp ((Array.all_eq_true_iff_forall_mem.mp hF) _ (Array.getElem_mem ha)) i (List.mem_range.mpr hi)
    simpa [Array.getElem?_eq_getElem hi] using q
  obtain ⟨i0, q0⟩ := is_v g1
  obtain rfl : w0 = (.int i0) := Option.some.inj q0
  obtain ⟨i1, q1⟩ := is_v g2
  obtain rfl : w1 = (.int i1) := Option.some.inj q1
  obtain ⟨i2, q2⟩ := is_v gr2
  obtain rfl : w2 = (.int i2) := Option.some.inj q2
  obtain ⟨n, o, h1, h2, h3, _, L, rfl, ⟨rfl, N⟩, hq⟩ := rm_0 l s _ hw tables_1 i0 i1 i2 s.heap s.heap.size (Nat.le_refl _)  p e ha hc hk s m _ below hf ((Spec.applies_iff_loose hf).mp happ).1 ⟨rfl, State.Warmed39.refl s, rfl⟩ trivial
  refine ⟨n, _, h1, h2, h3, hpost _ _ _ _ _ _ ⟨Cond.after_iff.mpr rfl, Cond.after_iff.mpr (eq_i res_at (Term.int_eval (1)) rfl), trivial⟩ ⟨hq.1, hq.2.1, (hq.2.2.sift fun y hy => Or.inr (N y hy)).mono (by decide) (by decide)⟩⟩
theorem main_1_1 : Claimed_1_1 := comes_1 fun _ _ _ _ _ _ h hF => ⟨h.1, hF⟩
theorem main_1_2 : Claimed_1_2 := comes_1 fun _ _ _ _ _ _ h hF => ⟨h.2.1, hF⟩
end Jvm.Pilot.@@N@@
namespace Jvm.Pilot.@@N@@
open Jvm Jvm.ClassFile Sem Op Lib Jvm.Free Jvm.Stand Jvm.Pilot.@@N@@.Jvm.D
/-! MADE BY PROGRAM (witnessworld.py) out of the Statement's table words and the real class files: 12 classes; the members and pool entries that the words name. The judged class is class 1, her method 1. -/
namespace start1
open Jvm.ClassFile
def u (s : String) : CpInfo := .utf8 (stringToUtf16 s)
/-- a pool by its gaps: so many unusable entries, then the entry; so many at the end -/
def gap : Nat → List CpInfo → List CpInfo
  | 0, r => r
  | n + 1, r => .unusable :: gap n r
def poolList (es : List (Nat × CpInfo)) (last : Nat) : List CpInfo := es.foldr (fun e r => gap e.1 (e.2 :: r)) (gap last [])
def pool (es : List (Nat × CpInfo)) (last : Nat) : Array CpInfo := ⟨poolList es last⟩
def fileOf (pool : Array CpInfo) (this : Nat) (attrs : Array Attribute := #[]) (ms : Array MethodInfo := #[]) (fl : Nat := 33) (sup : Nat := 0) (ifs : Array Nat := #[]) (fds : Array FieldInfo := #[]) : ClassFile where
  minorVersion := 0
  majorVersion := 65
  constantPool := pool
  accessFlags := fl
  thisClass := this
  superClass := sup
  interfaces := ifs
  fields := fds
  methods := ms
  attributes := attrs
def plain (name : String) (sup : Option ClassId) : Class where
  name := name
  kind := .ordinary
  loader := none
  accessFlags := 33
  super := sup
  interfaces := #[]
  cf := none
  fields := #[]
  methods := #[]
  instanceTypes := #[]
  staticTypes := #[]
  resolved := #[]
  callSites := []
  init := .initialized
  statics := none
  mirror := none

def pool0 : Array CpInfo := pool [(5, u "<init>"), (0, u "()V"), (1, .class_ 10), (1, u "java/lang/Object")] 113

def k0c0 : Code := { maxStack := 0, maxLocals := 1, code := object_method_1_code, exceptionTable := #[], attributes := #[] }
def k0m0 : Method := { name := "<init>", desc := "()V", sig := { parameters := [], returnType := none }, accessFlags := 1, code := some k0c0 }
/-- java/lang/Object -/
def k0 : Class := { plain "java/lang/Object" none with
  accessFlags := 33
  interfaces := #[]
  cf := some (fileOf pool0 8 #[] #[{ accessFlags := 1, nameIndex := 5, descriptorIndex := 6, attributes := #[] }] 33 0 #[] #[])
  fields := #[]
  methods := #[k0m0]
  instanceTypes := #[]
  staticTypes := #[]
  resolved := Array.replicate 124 none
  statics := none }

def pool1 : Array CpInfo := pool [(2, .class_ 4), (1, u "java/lang/Object"), (0, u "<init>"), (0, u "()V"), (0, .integer 2147483647), (0, .double 13830554455654793216), (1, .double 13826050856027422720), (1, .double 4602678819172646912), (1, .class_ 15), (0, u "com/example/slewstone/slewstone/control/AttitudeQuaternion"), (0, .methodref 14 17), (0, .nameAndType 5 18), (0, u "(DDDD)V"), (0, .methodref 14 20), (0, .nameAndType 21 22), (0, u "attitudeMatrix"), (0, u "()[[D"), (0, .methodref 24 25), (0, .class_ 26), (0, .nameAndType 27 28), (0, u "com/example/slewstone/slewstone/control/AttitudeQuaternionAttitudeMatrixPinLaw"), (0, u "matches"), (0, u "([[DDDDD)Z"), (0, .double 4619567317775286272), (1, .double 4611686018427387904), (3, u "law"), (0, u "(III)Z")] 5

def k1m0 : Method := { name := "<init>", desc := "()V", sig := { parameters := [], returnType := none }, accessFlags := 1, code := none }
def k1c1 : Code := { maxStack := 10, maxLocals := 14, code := code, exceptionTable := #[], attributes := #[] }
def k1m1 : Method := { name := "law", desc := "(III)Z", sig := { parameters := [.int, .int, .int], returnType := some .boolean }, accessFlags := 9, code := some k1c1 }
def k1c2 : Code := { maxStack := 8, maxLocals := 27, code := method_3_code, exceptionTable := #[], attributes := #[] }
def k1m2 : Method := { name := "matches", desc := "([[DDDDD)Z", sig := { parameters := [(.array (.array .double)), .double, .double, .double, .double], returnType := some .boolean }, accessFlags := 10, code := some k1c2 }
/-- com/example/slewstone/slewstone/control/AttitudeQuaternionAttitudeMatrixPinLaw -/
def k1 : Class := { plain "com/example/slewstone/slewstone/control/AttitudeQuaternionAttitudeMatrixPinLaw" (some 0) with
  accessFlags := 49
  interfaces := #[]
  cf := some (fileOf pool1 24 #[] #[{ accessFlags := 1, nameIndex := 5, descriptorIndex := 6, attributes := #[] }, { accessFlags := 9, nameIndex := 35, descriptorIndex := 36, attributes := #[] }, { accessFlags := 10, nameIndex := 27, descriptorIndex := 28, attributes := #[] }] 49 2 #[] #[])
  fields := #[]
  methods := #[k1m0, k1m1, k1m2]
  instanceTypes := #[]
  staticTypes := #[]
  resolved := Array.replicate 42 none
  statics := none }

def pool2 : Array CpInfo := pool [(1, .methodref 2 3), (0, .class_ 4), (0, .nameAndType 5 6), (0, u "java/lang/Object"), (0, u "<init>"), (0, u "()V"), (0, .fieldref 8 9), (0, .class_ 10), (0, .nameAndType 11 12), (0, u "com/example/slewstone/slewstone/control/AttitudeQuaternion"), (0, u "q1"), (0, u "D"), (0, .fieldref 8 14), (0, .nameAndType 15 12), (0, u "q2"), (0, .fieldref 8 17), (0, .nameAndType 18 12), (0, u "q3"), (0, .fieldref 8 20), (0, .nameAndType 21 12), (0, u "q4"), (6, u "(DDDD)V"), (26, .double 4611686018427387904), (16, .class_ 73), (0, u "[[D"), (15, u "attitudeMatrix"), (0, u "()[[D")] 25

def k2c0 : Code := { maxStack := 3, maxLocals := 9, code := prog_14_method_1_code, exceptionTable := #[], attributes := #[] }
def k2m0 : Method := { name := "<init>", desc := "(DDDD)V", sig := { parameters := [.double, .double, .double, .double], returnType := none }, accessFlags := 0, code := some k2c0 }
def k2c1 : Code := { maxStack := 8, maxLocals := 7, code := prog_14_method_6_code, exceptionTable := #[], attributes := #[] }
def k2m1 : Method := { name := "attitudeMatrix", desc := "()[[D", sig := { parameters := [], returnType := some (.array (.array .double)) }, accessFlags := 1, code := some k2c1 }
/-- com/example/slewstone/slewstone/control/AttitudeQuaternion -/
def k2 : Class := { plain "com/example/slewstone/slewstone/control/AttitudeQuaternion" (some 0) with
  accessFlags := 49
  interfaces := #[]
  cf := some (fileOf pool2 8 #[] #[{ accessFlags := 0, nameIndex := 5, descriptorIndex := 28, attributes := #[] }, { accessFlags := 1, nameIndex := 89, descriptorIndex := 90, attributes := #[] }] 49 2 #[] #[{ accessFlags := 18, nameIndex := 11, descriptorIndex := 12, attributes := #[] }, { accessFlags := 18, nameIndex := 15, descriptorIndex := 12, attributes := #[] }, { accessFlags := 18, nameIndex := 18, descriptorIndex := 12, attributes := #[] }, { accessFlags := 18, nameIndex := 21, descriptorIndex := 12, attributes := #[] }])
  fields := #[{ name := "q1", type := .double, accessFlags := 18, slot := 0, constantValue := 0 }, { name := "q2", type := .double, accessFlags := 18, slot := 1, constantValue := 0 }, { name := "q3", type := .double, accessFlags := 18, slot := 2, constantValue := 0 }, { name := "q4", type := .double, accessFlags := 18, slot := 3, constantValue := 0 }]
  methods := #[k2m0, k2m1]
  instanceTypes := #[.double, .double, .double, .double]
  staticTypes := #[]
  resolved := Array.replicate 116 none
  statics := none }

def pool3 : Array CpInfo := pool [(1, u "java/lang/Cloneable"), (0, .class_ 1), (0, u "java/lang/Object"), (0, .class_ 3)] 3

/-- java/lang/Cloneable -/
def k3 : Class := { plain "java/lang/Cloneable" (some 0) with
  accessFlags := 1537
  interfaces := #[]
  cf := some (fileOf pool3 2 #[] #[] 1537 4 #[] #[])
  fields := #[]
  methods := #[]
  instanceTypes := #[]
  staticTypes := #[]
  resolved := Array.replicate 8 none
  statics := none }

def pool4 : Array CpInfo := pool [(1, u "java/io/Serializable"), (0, .class_ 1), (0, u "java/lang/Object"), (0, .class_ 3)] 3

/-- java/io/Serializable -/
def k4 : Class := { plain "java/io/Serializable" (some 0) with
  accessFlags := 1537
  interfaces := #[]
  cf := some (fileOf pool4 2 #[] #[] 1537 4 #[] #[])
  fields := #[]
  methods := #[]
  instanceTypes := #[]
  staticTypes := #[]
  resolved := Array.replicate 8 none
  statics := none }

/-- the primitive byte -/
def k5 : Class := { plain "byte" none with kind := .primitive 'B', accessFlags := 0x411 }
/-- [B -/
def k6 : Class := { plain "[B" (some 0) with kind := .array 5 .byte, interfaces := #[3, 4], accessFlags := 1041 }

/-- the primitive double -/
def k7 : Class := { plain "double" none with kind := .primitive 'D', accessFlags := 0x411 }
/-- [D -/
def k8 : Class := { plain "[D" (some 0) with kind := .array 7 .double, interfaces := #[3, 4], accessFlags := 1041 }

/-- the primitive int -/
def k9 : Class := { plain "int" none with kind := .primitive 'I', accessFlags := 0x411 }
/-- [I -/
def k10 : Class := { plain "[I" (some 0) with kind := .array 9 .int, interfaces := #[3, 4], accessFlags := 1041 }

/-- [[D -/
def k11 : Class := { plain "[[D" (some 0) with kind := .array 8 (.array .double), interfaces := #[3, 4], accessFlags := 1041 }

def heap : Heap := #[]
def classes : Array Class := #[k0, k1, k2, k3, k4, k5, k6, k7, k8, k9, k10, k11]
def interned : List (Array UInt16 × Addr) := []
def slotsUsed : Nat := 0
def theMethod : MethodId := ⟨1, 1⟩
def args0 : Array Value := #[.int 0, .int 1, .int 2]
def aboutOver (below : List Frame) : State where
  vm := { classes := classes, interned := interned.toArray }
  heap := heap
  slotsUsed := slotsUsed
  threads := #[{ frames := .invoking theMethod args0 :: below }]
def below0 : List Frame := [.native { method := ⟨0, 0⟩, args := #[] }]
def about1 : State := aboutOver below0
def p0 : Program := .bare "" "" ""
def e0 : Env := launch0.env 0 0 0
theorem w_frames : about1.frames = Frame.invoking theMethod args0 :: below0 := rfl
set_option maxRecDepth 65536 in
theorem w_args : argsFit about1.vm theMethod args0 = true := by decide +kernel
set_option maxRecDepth 65536 in
theorem w_heap : heapFits about1 = true := by decide +kernel
set_option maxRecDepth 65536 in
theorem w_runnable : about1.curStatus? = some .runnable := by decide +kernel
set_option maxRecDepth 65536 in
theorem w_alone : about1.alone = true := by decide +kernel
set_option maxRecDepth 65536 in
theorem w_named : about1.methodNamed? x = some theMethod := by decide +kernel
set_option maxRecDepth 65536 in
theorem w_hears : about1.hears theMethod below0 = true := by decide +kernel
set_option maxRecDepth 65536 in
theorem w_ripe : about1.ripe theMethod args0 below0 = true := by decide +kernel
theorem w_running : about1.status = .running := rfl
set_option maxRecDepth 65536 in
theorem w_room : about1.hasRoom e0.platform room_1 = true :=
  launch0.hasRoom_least _ room_1 (by decide +kernel) (by decide +kernel) (by decide +kernel) (by decide +kernel) (by decide +kernel) (by decide +kernel)
theorem allAtoms_all (ts : List Jvm.Cond) (a : Array Jvm.Value) (st : Jvm.State) : (allAtoms ts).before a st = ts.all (fun c => c.before a st) := by
  induction ts with
  | nil => rfl
  | cons c t ih =>
    show (Jvm.Cond.and c (allAtoms t)).before a st = _
    rw [Jvm.Cond.before_and, ih, List.all_cons]
def words1 : List Jvm.Cond := Jvm.Cond.code x code maxLocals ret :: tables_1
/-- a 'code' word, met by the world's own term for the bytes: nothing is compared byte by byte -/
theorem code_word {y : MethodName} {bytes : ByteArray} {mx : Nat} {rt : Option FieldType} {a : Array Value} {s : State} {m : MethodId} {meth : Method} {c : Code} (h1 : s.methodNamed? y = some m) (h2 : s.vm.method? m = some meth) (h3 : meth.code = some c) (h4 : c.code = bytes)
    (h5 : (c.maxLocals == mx && c.exceptionTable.isEmpty && decide (c.maxStack ≤ mostOperands) && decide (meth.sig.returnType = rt) && !meth.locks && decide (parseMethodDescriptor y.desc = some meth.sig)) = true) : (Jvm.Cond.code y bytes mx rt).before a s = true := by
  simp only [Bool.and_eq_true, beq_iff_eq, Bool.not_eq_true', decide_eq_true_eq] at h5
  obtain ⟨⟨⟨⟨⟨g1, g2⟩, g3⟩, g4⟩, g5⟩, g6⟩ := h5
  simp [Cond.before, Cond.holds, Cond.value, h1, h2, h3, h4, g1, g2, g3, g4, g5, g6]
def isCode : Jvm.Cond → Bool
  | .code _ _ _ _ => true
  | _ => false
theorem all_split {L : List Jvm.Cond} {P : Jvm.Cond → Bool} (h1 : L.all (fun c => isCode c || P c) = true) (h2 : ∀ c ∈ L.filter isCode, P c = true) : L.all P = true := by
  refine List.all_eq_true.mpr fun c hc => ?_
  have h := List.all_eq_true.mp h1 c hc
  rcases Bool.eq_false_or_eq_true (isCode c) with hi | hi
  · exact h2 c (List.mem_filter.mpr ⟨hc, hi⟩)
  · simpa [hi] using h
set_option maxRecDepth 65536 in
theorem w_c0 : (Jvm.Cond.code x code maxLocals ret).before args0 about1 = true := code_word (m := ⟨1, 1⟩) (meth := k1m1) (c := k1c1) (by decide +kernel) rfl rfl rfl (by decide +kernel)
set_option maxRecDepth 65536 in
theorem w_c1 : (Jvm.Cond.code ({ cls := "com/example/slewstone/slewstone/control/AttitudeQuaternion", name := "<init>", desc := "(DDDD)V" } : Jvm.MethodName) prog_14_method_1_code (9 : Nat) (Option.none : Option Jvm.ClassFile.FieldType)).before args0 about1 = true := code_word (m := ⟨2, 0⟩) (meth := k2m0) (c := k2c0) (by decide +kernel) rfl rfl rfl (by decide +kernel)
set_option maxRecDepth 65536 in
theorem w_c2 : (Jvm.Cond.code ({ cls := "java/lang/Object", name := "<init>", desc := "()V" } : Jvm.MethodName) object_method_1_code (1 : Nat) (Option.none : Option Jvm.ClassFile.FieldType)).before args0 about1 = true := code_word (m := ⟨0, 0⟩) (meth := k0m0) (c := k0c0) (by decide +kernel) rfl rfl rfl (by decide +kernel)
set_option maxRecDepth 65536 in
theorem w_c3 : (Jvm.Cond.code ({ cls := "com/example/slewstone/slewstone/control/AttitudeQuaternion", name := "attitudeMatrix", desc := "()[[D" } : Jvm.MethodName) prog_14_method_6_code (7 : Nat) (Option.some (Jvm.ClassFile.FieldType.array (Jvm.ClassFile.FieldType.array Jvm.ClassFile.FieldType.double)))).before args0 about1 = true := code_word (m := ⟨2, 1⟩) (meth := k2m1) (c := k2c1) (by decide +kernel) rfl rfl rfl (by decide +kernel)
set_option maxRecDepth 65536 in
theorem w_c4 : (Jvm.Cond.code ({ cls := "com/example/slewstone/slewstone/control/AttitudeQuaternionAttitudeMatrixPinLaw", name := "matches", desc := "([[DDDDD)Z" } : Jvm.MethodName) method_3_code (27 : Nat) (Option.some Jvm.ClassFile.FieldType.boolean)).before args0 about1 = true := code_word (m := ⟨1, 2⟩) (meth := k1m2) (c := k1c2) (by decide +kernel) rfl rfl rfl (by decide +kernel)
def codes1 : List Jvm.Cond := [Jvm.Cond.code x code maxLocals ret, Jvm.Cond.code ({ cls := "com/example/slewstone/slewstone/control/AttitudeQuaternion", name := "<init>", desc := "(DDDD)V" } : Jvm.MethodName) prog_14_method_1_code (9 : Nat) (Option.none : Option Jvm.ClassFile.FieldType), Jvm.Cond.code ({ cls := "java/lang/Object", name := "<init>", desc := "()V" } : Jvm.MethodName) object_method_1_code (1 : Nat) (Option.none : Option Jvm.ClassFile.FieldType), Jvm.Cond.code ({ cls := "com/example/slewstone/slewstone/control/AttitudeQuaternion", name := "attitudeMatrix", desc := "()[[D" } : Jvm.MethodName) prog_14_method_6_code (7 : Nat) (Option.some (Jvm.ClassFile.FieldType.array (Jvm.ClassFile.FieldType.array Jvm.ClassFile.FieldType.double))), Jvm.Cond.code ({ cls := "com/example/slewstone/slewstone/control/AttitudeQuaternionAttitudeMatrixPinLaw", name := "matches", desc := "([[DDDDD)Z" } : Jvm.MethodName) method_3_code (27 : Nat) (Option.some Jvm.ClassFile.FieldType.boolean)]
set_option maxRecDepth 65536 in
theorem codes_eq : words1.filter isCode = codes1 := rfl
theorem w_codes : ∀ c ∈ words1.filter isCode, c.before args0 about1 = true := by
  rw [codes_eq]
  intro c hc
  simp only [codes1, List.mem_cons, List.not_mem_nil, or_false] at hc
  rcases hc with rfl | rfl | rfl | rfl | rfl
  · exact w_c0
  · exact w_c1
  · exact w_c2
  · exact w_c3
  · exact w_c4
set_option maxRecDepth 65536 in
theorem w_t1 : (words1.take 24).all (fun c => isCode c || c.before args0 about1) = true := by decide +kernel
set_option maxRecDepth 65536 in
theorem w_t2 : (words1.drop 24).all (fun c => isCode c || c.before args0 about1) = true := by decide +kernel
theorem w_tables : (allAtoms (Jvm.Cond.code x code maxLocals ret :: tables_1)).before args0 about1 = true := by
  rw [allAtoms_all]
  show words1.all (fun c => c.before args0 about1) = true
  refine all_split ?_ w_codes
  rw [← List.take_append_drop 24 words1, List.all_append, w_t1, w_t2]
  rfl
set_option maxRecDepth 65536 in
theorem w_case : (Jvm.Cond.and given_1 narrow_1).before args0 about1 = true := by decide +kernel
theorem w_applies : (headSpec (Jvm.Cond.code x code maxLocals ret :: tables_1) room_1).applies x e0.platform about1 = true :=
  (Spec.applies_iff w_frames).mpr ⟨w_running, w_runnable, w_alone, w_named, w_hears, w_ripe, w_room, w_tables⟩
theorem atStart : AtStart classFile x code maxLocals ret World_1 tables_1 room_1 Calls_1 rest_1 Pre_1 launch0 p0 e0 about1 theMethod args0 below0 :=
  ⟨lists_1, trivial, launch0.admits_env _ _ _, launch0.least_env, fairChoices_fair.cas, fairChoices_fair.clock, w_frames, w_args, w_heap, w_applies, trivial, trivial, w_case⟩
end start1
theorem witness_1 : WitnessClaimed_1 := ⟨start1.p0, start1.e0, start1.about1, start1.theMethod, start1.args0, start1.below0, start1.atStart⟩
end Jvm.Pilot.@@N@@
