import JvmDerived
import JvmDerived.Pilot.@@N@@Statement
import JvmDerived.Pilot.@@N@@Code
set_option linter.unusedVariables false
set_option linter.unusedSimpArgs false
namespace Jvm.Pilot.@@N@@
open Jvm Jvm.ClassFile Sem Op Lib Jvm.Free Jvm.Stand Jvm.LawKit Jvm.RoadKit Bundle Jvm.Pilot.@@N@@.Jvm.D Jvm.Free.Fl
section Own
variable {p : Program} {l : Launch} {e : Env} {R : Room} {s : State} {m : MethodId} {args : Array Value} {below : List Frame} {meth : Method} {c : Code} {T : State} {locs : List Loc} {cells slots : Nat} {Z : State} {a0 : Array Value} {h : Heap} {G : Outcome → State → Prop}
/-- from S the body comes to its end, and the end is as asked -/
def Goes (p : Program) (e : Env) (below : List Frame) (G : Outcome → State → Prop) (S : State) : Prop :=
  ∃ s₂ o, Steps p.tables e below S s₂ ∧ s₂.status = .running ∧ Ended s₂ below o ∧ G o s₂
theorem own_go {S S' : State} (st : ∀ t, Steps p.tables e below S' t → Steps p.tables e below S t) (k : Goes p e below G S') : Goes p e below G S := by
  obtain ⟨s₂, o, h1, h2⟩ := k
  exact ⟨s₂, o, st _ h1, h2⟩
/-- what a contract says of the end -/
def EndsAs (Q : Option Value → Heap → List Loc → Prop) (s : State) (rc rs : Nat) (o : Outcome) (U : State) : Prop :=
  ∃ v L, o = .returned v ∧ Q v U.heap L ∧ FrameEnd s o U L rc rs
abbrev OwnMet (l : Launch) (Z : State) (y : MethodName) (bytes : ByteArray) (maxL : Nat) (ret : Option FieldType) (ws : List Jvm.Cond) (rm : Room) (as' : Array Value) (h : Heap) (Q : Option Value → Heap → List Loc → Prop) : Prop :=
  MetFree l y (head1 (Jvm.Cond.code y bytes maxL ret :: ws) rm) (fun a U => a = as' ∧ Z.Warmed39 U.vm ∧ U.heap = h) (fun _ _ _ _ _ => True) (fun _ U o U' => ∃ v L, o = .returned v ∧ Q v U'.heap L ∧ FrameEnd U o U' L rm.cells rm.slots)
theorem own_met {y : MethodName} {bytes : ByteArray} {maxL : Nat} {ret : Option FieldType} {ws : List Jvm.Cond} {rm : Room} {as' : Array Value} {h : Heap} {Q : Option Value → Heap → List Loc → Prop} {Ls : Array Slot}
    (hpn : plainFor y = true) (hef : ∀ m, entryFrame m as' maxL = mkF m 0 Ls [])
    (body : ∀ (p : Program) (e : Env) (s : State) (m : MethodId) (below : List Frame) (meth : Method) (c : Code) (s₁ : State), p.tables.exec = Jvm.exec → c.code = bytes → c.maxLocals = maxL → Z.Warmed39 s.vm → s.vm.findClass y.cls = some m.cls → meth.name = y.name → meth.sig.returnType = ret → meth.locks = false →
      Stand p l e rm s m as' below meth c s₁ [] 0 0 → s₁.heap = h → Goes p e below (EndsAs Q s rm.cells rm.slots) (s₁.setTop (mkF m 0 Ls []))) :
    OwnMet l Z y bytes maxL ret ws rm as' h Q := by
  refine MetFree.of_bodySF hpn hisR ?_
  intro p e s m args below meth c s₁ Bd hml0 hP hK
  obtain ⟨rfl, hZ, hh⟩ := hP
  obtain ⟨s₂, o, h1, h2, h3, h4⟩ := body p e s m below meth c s₁ Bd.exec Bd.bytes hml0 hZ (findClass_of_methodNamed Bd.named) (name_of_methodNamed Bd.named Bd.method).1 Bd.returns Bd.notSynchronized (Stand.of_body Bd) (by rw [← hh, Bd.state]; rfl)
  exact ⟨s₂, o, castTop (hef m) h1, h2, h3, h4⟩
theorem s_retI (X : Stand p l e R s m args below meth c T locs cells slots) (hx : p.tables.exec = Jvm.exec) (hlk : meth.locks = false) {Q : Option Value → Heap → List Loc → Prop} {pc rc rs : Nat} {Ls : Array Slot} {st : List Value} {t : FieldType} {w : Value} {i : Instr} (hret : meth.sig.returnType = some t)
    (hd : decode c.code pc = .ok (i, 1)) (hn : narrow t w = w) (hi : (i = .ireturn ∧ (t = .int ∨ t = .boolean ∨ t = .byte ∨ t = .char ∨ t = .short) ∧ ∃ z, w = .int z) ∨ (i = .lreturn ∧ t = .long ∧ ∃ z, w = .long z) ∨ (i = .dreturn ∧ t = .double ∧ ∃ z, w = .double z) ∨ (i = .freturn ∧ t = .float ∧ ∃ z, w = .float z) ∨ (i = .areturn ∧ t.isReference = true ∧ w.isRef = true))
    (hc : cells ≤ rc) (hs : slots ≤ rs) (hq : Q (some w) T.heap locs) : Goes p e below (EndsAs Q s rc rs) (T.setTop (mkF m pc Ls (w :: st))) := by
  obtain ⟨fs, hr, hrun, hended, hW, hsame⟩ := X.leave (v := some w) (fun h => by rw [hret] at h; cases h) hlk
  exact ⟨_, _, retOut X hx hret hn hi hd hr, hrun, hended, _, _, rfl, hq, ⟨_, rfl⟩, hW, hsame.mono hc hs⟩
theorem s_ret (X : Stand p l e R s m args below meth c T locs cells slots) (hx : p.tables.exec = Jvm.exec) (hlk : meth.locks = false) {Q : Option Value → Heap → List Loc → Prop} {pc rc rs : Nat} {Ls : Array Slot} (hret : meth.sig.returnType = none)
    (hd : decode c.code pc = .ok (.return_, 1)) (hc : cells ≤ rc) (hs : slots ≤ rs) (hq : Q none T.heap locs) : Goes p e below (EndsAs Q s rc rs) (T.setTop (mkF m pc Ls [])) := by
  obtain ⟨fs, hr, hrun, hended, hW, hsame⟩ := X.leave (v := none) (fun _ => rfl) hlk
  exact ⟨_, _, X.returnOut hx hret hd hr, hrun, hended, _, _, rfl, hq, ⟨_, rfl⟩, hW, hsame.mono hc hs⟩
theorem c_static (X : Stand p l e R s m args below meth c T locs cells slots) (hx : p.tables.exec = Jvm.exec) (hZ : Z.Warmed39 s.vm) {own : String} {index : Nat} {y : MethodName} (hown : s.vm.findClass own = some m.cls)
    {bytes : ByteArray} {maxL : Nat} {ret : Option FieldType} (w1 : (Jvm.Cond.methodLink own index y).before a0 Z = true) (w2 : (Jvm.Cond.static y).before a0 Z = true) (w3 : (Jvm.Cond.initialized y.cls).before a0 Z = true) (w4 : (Jvm.Cond.code y bytes maxL ret).before a0 Z = true) (hy : y.cls ≠ "java/lang/invoke/MethodHandle" ∧ y.cls ≠ "java/lang/invoke/VarHandle")
    {rm : Room} {as' : Array Value} {Q : Option Value → Heap → List Loc → Prop} (eT : T.heap = h) (hM : OwnMet l Z y bytes maxL ret [] rm as' h Q) {W : Nat} (hf : rm.frames + 1 ≤ R.frames) (hl : W + (maxL + 11) + rm.locals ≤ R.locals) (hc : cells + rm.cells ≤ R.cells) (hs : slots + rm.slots ≤ R.slots)
    {pc pc' : Nat} {Ls : Array Slot} {st : List Value} (hsize : Ls.size = c.maxLocals) {argsL rest : List Value} (hlen : ∀ sig, parseMethodDescriptor y.desc = some sig → argsL.length = sig.parameters.length) (has : argsL.toArray = as') (hst : st = argsL.reverse ++ rest) (hW : (rest.map fun v => v.category).sum ≤ W)
    (hd : decode c.code pc = .ok (.invokestatic index, 3)) (hp : pc + 3 = pc')
    (k : ∀ (T' : State) (v : Option Value) (L : List Loc), Stand p l e R s m args below meth c T' (locs ++ L) (cells + rm.cells) (slots + rm.slots) → Q v T'.heap L → Goes p e below G (T'.setTop (mkF m pc' Ls (v.toList ++ rest)))) :
    Goes p e below G (T.setTop (mkF m pc Ls st)) := by
  subst hp
  obtain ⟨v, _, ⟨T', L', k', n'⟩, -, X', ⟨Lc, hQ, l1, y1, z1⟩, stp⟩ := Jvm.LawKit.callS X hx (y := y) hown (mvT hZ w1) (mvT hZ w2) (mvT hZ w3) (mvT hZ w4) hy (backOf (W := W) hM hZ w4 w3 hf hl) (g := mkF m pc Ls st) rfl hsize (argsL := argsL) (rest := rest) hlen hst (by show 2 * 0 + _ ≤ _; omega) hd (fun _ _ => ⟨has, eT, hc, hs⟩)
  dsimp only [Pt.U, Pt.locs, Pt.cells, Pt.slots] at X' l1 y1 z1 stp hQ
  subst l1 y1 z1
  exact own_go stp (k T' v Lc X' hQ)
theorem c_special (X : Stand p l e R s m args below meth c T locs cells slots) (hx : p.tables.exec = Jvm.exec) (hZ : Z.Warmed39 s.vm) {own : String} {index : Nat} {y : MethodName} (hy1 : y.name = "<init>") (hown : s.vm.findClass own = some m.cls)
    {bytes : ByteArray} {maxL : Nat} (w1 : (Jvm.Cond.methodLink own index y).before a0 Z = true) (w2 : (Jvm.Cond.instanceMethod y).before a0 Z = true) (w3 : (Jvm.Cond.initialized y.cls).before a0 Z = true) (w4 : (Jvm.Cond.code y bytes maxL none).before a0 Z = true) (hy : y.cls ≠ "java/lang/invoke/MethodHandle" ∧ y.cls ≠ "java/lang/invoke/VarHandle")
    {rm : Room} {as' : Array Value} {Q : Option Value → Heap → List Loc → Prop} (eT : T.heap = h) (hM : OwnMet l Z y bytes maxL none [] rm as' h Q) {W : Nat} (hf : rm.frames + 1 ≤ R.frames) (hl : W + (maxL + 11) + rm.locals ≤ R.locals) (hc : cells + rm.cells ≤ R.cells) (hs : slots + rm.slots ≤ R.slots)
    {pc pc' : Nat} {Ls : Array Slot} {st : List Value} (hsize : Ls.size = c.maxLocals) {a : Addr} {argsL rest : List Value} (hlen : ∀ sig, parseMethodDescriptor y.desc = some sig → argsL.length = sig.parameters.length) (has : (.ref a :: argsL).toArray = as') (hst : st = argsL.reverse ++ .ref a :: rest) (hW : (rest.map fun v => v.category).sum ≤ W)
    (hd : decode c.code pc = .ok (.invokespecial index, 3)) (hp : pc + 3 = pc')
    (k : ∀ (T' : State) (v : Option Value) (L : List Loc), Stand p l e R s m args below meth c T' (locs ++ L) (cells + rm.cells) (slots + rm.slots) → Q v T'.heap L → Goes p e below G (T'.setTop (mkF m pc' Ls (v.toList ++ rest)))) :
    Goes p e below G (T.setTop (mkF m pc Ls st)) := by
  subst hp
  obtain ⟨v, _, ⟨T', L', k', n'⟩, -, X', ⟨Lc, hQ, l1, y1, z1⟩, stp⟩ := X.specialBack hx (y := y) hy1 hown (mvT hZ w1) (mvT hZ w2) (mvT hZ w4) hy (backOf (W := W) hM hZ w4 w3 hf hl) (g := mkF m pc Ls st) rfl hsize (Steps.refl _) (a := a) (argsL := argsL) (rest := rest) hlen hst (by show 2 * 0 + _ ≤ _; omega) hd (fun _ _ => ⟨has, eT, hc, hs⟩)
  dsimp only [Pt.U, Pt.locs, Pt.cells, Pt.slots] at X' l1 y1 z1 stp hQ
  subst l1 y1 z1
  exact own_go (fun _ q => stp.trans q) (k T' v Lc X' hQ)
theorem c_virtual (X : Stand p l e R s m args below meth c T locs cells slots) (hx : p.tables.exec = Jvm.exec) (hZ : Z.Warmed39 s.vm) {own C : String} {index : Nat} {y : MethodName} (hown : s.vm.findClass own = some m.cls)
    {bytes : ByteArray} {maxL : Nat} {ret : Option FieldType} (w1 : (Jvm.Cond.methodLink own index y).before a0 Z = true) (w2 : (Jvm.Cond.declares y).before a0 Z = true) (w5 : (Jvm.Cond.selects C y y).before a0 Z = true) (w6 : (Jvm.Cond.instanceMethod y).before a0 Z = true) (w3 : (Jvm.Cond.initialized y.cls).before a0 Z = true) (w4 : (Jvm.Cond.code y bytes maxL ret).before a0 Z = true) (hy : y.cls ≠ "java/lang/invoke/MethodHandle" ∧ y.cls ≠ "java/lang/invoke/VarHandle")
    {rm : Room} {as' : Array Value} {Q : Option Value → Heap → List Loc → Prop} (eT : T.heap = h) {a : Addr} (E : Exa Z h a C) (hM : OwnMet l Z y bytes maxL ret [] rm as' h Q) {W : Nat} (hf : rm.frames + 1 ≤ R.frames) (hl : W + (maxL + 11) + rm.locals ≤ R.locals) (hc : cells + rm.cells ≤ R.cells) (hs : slots + rm.slots ≤ R.slots)
    {pc pc' : Nat} {Ls : Array Slot} {st : List Value} (hsize : Ls.size = c.maxLocals) {argsL rest : List Value} (hlen : ∀ sig, parseMethodDescriptor y.desc = some sig → argsL.length = sig.parameters.length) (has : (.ref a :: argsL).toArray = as') (hst : st = argsL.reverse ++ .ref a :: rest) (hW : (rest.map fun v => v.category).sum ≤ W)
    (hd : decode c.code pc = .ok (.invokevirtual index, 3)) (hp : pc + 3 = pc')
    (k : ∀ (T' : State) (v : Option Value) (L : List Loc), Stand p l e R s m args below meth c T' (locs ++ L) (cells + rm.cells) (slots + rm.slots) → Q v T'.heap L → Goes p e below G (T'.setTop (mkF m pc' Ls (v.toList ++ rest)))) :
    Goes p e below G (T.setTop (mkF m pc Ls st)) := by
  subst hp
  obtain ⟨cq, kq, qa, qb, qc⟩ := isOf hZ eT E
  obtain ⟨v, _, ⟨T', L', k', n'⟩, -, X', ⟨Lc, hQ, l1, y1, z1⟩, stp⟩ := X.virtualBack hx (y := y) (z := y) hown (mvT hZ w1) (mvT hZ w2) (notFace_of_selects (args := #[]) (mvT hZ w5)) (mvT hZ w5) (mvT hZ w6) hy (backOf (W := W) hM hZ w4 w3 hf hl) qa qc (g := mkF m pc Ls st) rfl hsize (Steps.refl _) (argsL := argsL) (rest := rest) hlen hst (by show 2 * 0 + _ ≤ _; omega) hd (fun _ _ => ⟨has, eT, hc, hs⟩)
  dsimp only [Pt.U, Pt.locs, Pt.cells, Pt.slots] at X' l1 y1 z1 stp hQ
  subst l1 y1 z1
  exact own_go (fun _ q => stp.trans q) (k T' v Lc X' hQ)
theorem s_new (X : Stand p l e R s m args below meth c T locs cells slots) (hx : p.tables.exec = Jvm.exec) (hZ : Z.Warmed39 s.vm) {own C : String} {index n : Nat} (hown : s.vm.findClass own = some m.cls) (w : (Jvm.Cond.classLink own index C).before a0 Z = true) (wi : (Jvm.Cond.instantiable C n).before a0 Z = true) (wz : (Jvm.Cond.initialized C).before a0 Z = true) (eT : T.heap = h)
    {pc pc' : Nat} {Ls : Array Slot} {st : List Value} (hd : decode c.code pc = .ok (.new index, 3)) (hp : pc + 3 = pc') (hc : cells + 1 ≤ R.cells) (hl : slots + n ≤ R.slots)
    (k : ∀ (T' : State) (h' : Heap) (a : Addr), Stand p l e R s m args below meth c T' locs (cells + 1) (slots + n) → T'.heap = h' → Ext h h' → a = h.size → Exa Z h' a C → (∀ {O nm d : String} {ty : FieldType}, Laid Z a0 C O nm d → parseFieldDescriptor d = some ty → Fld Z h' a O nm d (defaultValue ty)) → Goes p e below G (T'.setTop (mkF m pc' Ls (.ref a :: st)))) :
    Goes p e below G (T.setTop (mkF m pc Ls st)) := by
  subst hp
  obtain ⟨T', h', X', e', E, A, D, -, stp⟩ := newO X hx hZ hown w wi wz eT (g := mkF m pc Ls st) rfl hd hc hl
  exact own_go stp (k T' h' _ X' e' E rfl A D)
theorem s_initO (X : Stand p l e R s m args below meth c T locs cells slots) (hx : p.tables.exec = Jvm.exec) (hZ : Z.Warmed39 s.vm) {own : String} {index : Nat} (hown : s.vm.findClass own = some m.cls) (w1 : (Jvm.Cond.methodLink own index Lib.objectInit).before a0 Z = true) (w2 : (Jvm.Cond.instanceMethod Lib.objectInit).before a0 Z = true)
    (w3 : (Jvm.Cond.code Lib.objectInit ⟨#[0xb1]⟩ 1 none).before a0 Z = true) (eT : T.heap = h) {pc pc' : Nat} {Ls : Array Slot} {st : List Value} {a : Addr} (hd : decode c.code pc = .ok (.invokespecial index, 3)) (hp : pc + 3 = pc') (hsize : Ls.size = c.maxLocals)
    (hf : 1 ≤ R.frames) {W : Nat} (hW : (st.map fun v => v.category).sum ≤ W) (hl : W + 12 ≤ R.locals)
    (k : ∀ T' : State, Stand p l e R s m args below meth c T' locs cells slots → T'.heap = h → Goes p e below G (T'.setTop (mkF m pc' Ls st))) :
    Goes p e below G (T.setTop (mkF m pc Ls (.ref a :: st))) := by
  subst hp
  obtain ⟨T', X', e', stp⟩ := initO X hx hZ hown w1 w2 w3 eT (g := mkF m pc Ls (.ref a :: st)) rfl hsize rfl hd hf (W := W) (by show 2 * 0 + _ ≤ _; omega) hl
  exact own_go stp (k T' X' e')
theorem s_getF (X : Stand p l e R s m args below meth c T locs cells slots) (hx : p.tables.exec = Jvm.exec) (hZ : Z.Warmed39 s.vm) {own O n d : String} {index : Nat} (hown : s.vm.findClass own = some m.cls) (w : (Jvm.Cond.fieldLink own index O n d).before a0 Z = true)
    (eT : T.heap = h) {a : Addr} {v : Value} (F : Fld Z h a O n d v) {pc pc' : Nat} {Ls : Array Slot} {st : List Value} (hd : decode c.code pc = .ok (.getfield index, 3)) (hp : pc + 3 = pc')
    (k : ∀ T' : State, Stand p l e R s m args below meth c T' locs cells slots → T'.heap = h → Goes p e below G (T'.setTop (mkF m pc' Ls (v :: st)))) :
    Goes p e below G (T.setTop (mkF m pc Ls (.ref a :: st))) := by
  subst hp
  obtain ⟨T', X', e', stp⟩ := getF X hx hZ hown (host := "") (Or.inl w) Via.refl eT F (g := mkF m pc Ls (.ref a :: st)) rfl rfl hd
  exact own_go stp (k T' X' e')
theorem s_getS (X : Stand p l e R s m args below meth c T locs cells slots) (hx : p.tables.exec = Jvm.exec) (hZ : Z.Warmed39 s.vm) {own O n d : String} {index : Nat} (hown : s.vm.findClass own = some m.cls) (w : (Jvm.Cond.fieldLink own index O n d).before a0 Z = true)
    (eT : T.heap = h) {v : Value} (F : Sta Z h O n d v) {pc pc' : Nat} {Ls : Array Slot} {st : List Value} (hd : decode c.code pc = .ok (.getstatic index, 3)) (hp : pc + 3 = pc')
    (k : ∀ T' : State, Stand p l e R s m args below meth c T' locs cells slots → T'.heap = h → Goes p e below G (T'.setTop (mkF m pc' Ls (v :: st)))) :
    Goes p e below G (T.setTop (mkF m pc Ls st)) := by
  subst hp
  obtain ⟨T', X', e', stp⟩ := getS X hx hZ hown (host := "") w Via.refl eT F (g := mkF m pc Ls st) rfl hd
  exact own_go stp (k T' X' e')
theorem s_instY (X : Stand p l e R s m args below meth c T locs cells slots) (hx : p.tables.exec = Jvm.exec) (hZ : Z.Warmed39 s.vm) {own K : String} {index : Nat} (hown : s.vm.findClass own = some m.cls) (w : (Jvm.Cond.classLink own index K).before a0 Z = true)
    (eT : T.heap = h) {a : Addr} (F : Ins Z h a K true) {pc pc' : Nat} {Ls : Array Slot} {st : List Value} (hd : decode c.code pc = .ok (.instanceof index, 3)) (hp : pc + 3 = pc')
    (k : ∀ T' : State, Stand p l e R s m args below meth c T' locs cells slots → T'.heap = h → Goes p e below G (T'.setTop (mkF m pc' Ls (.int 1 :: st)))) :
    Goes p e below G (T.setTop (mkF m pc Ls (.ref a :: st))) := by
  subst hp
  obtain ⟨T', X', e', stp⟩ := instY X hx hZ hown w eT F (g := mkF m pc Ls (.ref a :: st)) rfl rfl hd
  exact own_go stp (k T' X' e')
theorem s_castY (X : Stand p l e R s m args below meth c T locs cells slots) (hx : p.tables.exec = Jvm.exec) (hZ : Z.Warmed39 s.vm) {own K : String} {index : Nat} (hown : s.vm.findClass own = some m.cls) (w : (Jvm.Cond.classLink own index K).before a0 Z = true)
    (eT : T.heap = h) {a : Addr} (F : Ins Z h a K true) {pc pc' : Nat} {Ls : Array Slot} {st : List Value} (hd : decode c.code pc = .ok (.checkcast index, 3)) (hp : pc + 3 = pc')
    (k : ∀ T' : State, Stand p l e R s m args below meth c T' locs cells slots → T'.heap = h → Goes p e below G (T'.setTop (mkF m pc' Ls (.ref a :: st)))) :
    Goes p e below G (T.setTop (mkF m pc Ls (.ref a :: st))) := by
  subst hp
  obtain ⟨T', X', e', stp⟩ := castY X hx hZ hown w eT F (g := mkF m pc Ls (.ref a :: st)) rfl rfl hd
  exact own_go stp (k T' X' e')
theorem s_putF (X : Stand p l e R s m args below meth c T locs cells slots) (hx : p.tables.exec = Jvm.exec) (hZ : Z.Warmed39 s.vm) {own O n d C : String} {index kk : Nat} {ty : FieldType} (hown : s.vm.findClass own = some m.cls) (w : (Jvm.Cond.fieldLink own index O n d).before a0 Z = true)
    (eT : T.heap = h) {a : Addr} {v old : Value} (F : Fld Z h a O n d old) (E : Exa Z h a C) (L : (Jvm.Cond.lays C O n d).before a0 Z = true ∨ ((Jvm.Cond.laysFinal C O n d).before a0 Z = true ∧ own = O ∧ meth.name = "<init>")) (wi : (Jvm.Cond.instantiable C kk).before a0 Z = true)
    (hty : parseFieldDescriptor d = some ty) (hn : narrow ty v = v) (hf : fits ty v = true) {pc pc' : Nat} {Ls : Array Slot} {st : List Value} (hd : decode c.code pc = .ok (.putfield index, 3)) (hp : pc + 3 = pc')
    (k : ∀ (T' : State) (h' : Heap), Stand p l e R s m args below meth c T' (locs ++ [⟨a, Jvm.RoadKit.slotOf Z O n d⟩]) cells slots → T'.heap = h' → Wr h h' a (Jvm.RoadKit.slotOf Z O n d) v → Goes p e below G (T'.setTop (mkF m pc' Ls st))) :
    Goes p e below G (T.setTop (mkF m pc Ls (v :: .ref a :: st))) := by
  subst hp
  obtain ⟨T', h', X', e', W, stp⟩ := putF X hx hZ hown (host := "") (Or.inl w) Via.refl eT F E L wi hty hn hf (g := mkF m pc Ls (v :: .ref a :: st)) rfl rfl hd
  exact own_go stp (k T' h' X' e' W)
theorem s_newP (X : Stand p l e R s m args below meth c T locs cells slots) (hx : p.tables.exec = Jvm.exec) (hZ : Z.Warmed39 s.vm) {aty : ArrayType} (w : (Jvm.Cond.arrayClass (newarray.typeOf aty)).before a0 Z = true) (eT : T.heap = h)
    {pc pc' : Nat} {Ls : Array Slot} {st : List Value} {n : Int32} (hd : decode c.code pc = .ok (.newarray aty, 2)) (hp : pc + 2 = pc') (hn : ¬ n < 0) (cap : Nat) (hcap : n.toNatClampNeg ≤ cap) (hb : cap * 8 ≤ 536870912) (hc : cells + 1 ≤ R.cells) (hl : slots + cap ≤ R.slots)
    {ad : String} (had : "[" ++ (newarray.typeOf aty).toString = ad)
    (k : ∀ (T' : State) (h' : Heap) (cA : ClassId) (a : Addr), Stand p l e R s m args below meth c T' locs (cells + 1) (slots + cap) → T'.heap = h' → Ext h h' → a = h.size → Arv Z h' a cA (newarray.typeOf aty) n [] (defaultValue (newarray.typeOf aty)) → Exa Z h' a ad → Goes p e below G (T'.setTop (mkF m pc' Ls (.ref a :: st)))) :
    Goes p e below G (T.setTop (mkF m pc Ls (.int n :: st))) := by
  subst hp
  obtain ⟨T', h', cA, X', e', E, A, Ex, stp⟩ := newPE X hx hZ w eT (g := mkF m pc Ls (.int n :: st)) rfl hd rfl hn hcap hb hc hl had
  exact own_go stp (k T' h' cA _ X' e' E rfl (Arv.new A hn) Ex)
theorem s_len (X : Stand p l e R s m args below meth c T locs cells slots) (hx : p.tables.exec = Jvm.exec) (hZ : Z.Warmed39 s.vm) (eT : T.heap = h) {a : Addr} {kk : ClassId} {ty : FieldType} {z : Int32} {vs : List Value} {dv : Value} (F : Arv Z h a kk ty z vs dv)
    {pc pc' : Nat} {Ls : Array Slot} {st : List Value} (hd : decode c.code pc = .ok (.arraylength, 1)) (hp : pc + 1 = pc')
    (k : Goes p e below G (T.setTop (mkF m pc' Ls (.int z :: st)))) : Goes p e below G (T.setTop (mkF m pc Ls (.ref a :: st))) := by
  subst hp
  obtain ⟨cl, A, q1, S, q3, H, K⟩ := F
  refine own_go (fun t q => X.arraylength hx (by rw [eT]; exact A.1) (State.isArrayOf_alike hZ.alike A.2.1) (g := mkF m pc Ls (.ref a :: st)) rfl rfl hd t ?_) k
  rw [len_of S q3]; exact q
theorem own_fitD {v : Value} (h : fits .double v = true) : ∃ x, v = .double x := fit_D h
theorem s_daload (X : Stand p l e R s m args below meth c T locs cells slots) (hx : p.tables.exec = Jvm.exec) (hZ : Z.Warmed39 s.vm) (eT : T.heap = h) {a : Addr} {kk : ClassId} {z j : Int32} {vs : List Value} {dv : Value} (F : Arv Z h a kk .double z vs dv) (hj : ¬ j < 0 ∧ j < z) {v : Value} (hv : vs.getD j.toNatClampNeg dv = v)
    {pc pc' : Nat} {Ls : Array Slot} {st : List Value} (hd : decode c.code pc = .ok (.daload, 1)) (hp : pc + 1 = pc')
    (k : Goes p e below G (T.setTop (mkF m pc' Ls (v :: st)))) : Goes p e below G (T.setTop (mkF m pc Ls (.int j :: .ref a :: st))) := by
  subst hp
  obtain ⟨cl, A, q1, S, q3, H, K⟩ := F
  exact own_go (fun t q => X.daload hx (by rw [eT]; exact A.1) (State.isArrayOf_alike hZ.alike A.2.1) A.2.2 (inb_of S hj) (H.at (inb_of S hj) hv) (g := mkF m pc Ls (.int j :: .ref a :: st)) rfl rfl hd t q) k
theorem s_laload (X : Stand p l e R s m args below meth c T locs cells slots) (hx : p.tables.exec = Jvm.exec) (hZ : Z.Warmed39 s.vm) (eT : T.heap = h) {a : Addr} {kk : ClassId} {z j : Int32} {vs : List Value} {dv : Value} (F : Arv Z h a kk .long z vs dv) (hj : ¬ j < 0 ∧ j < z) {v : Value} (hv : vs.getD j.toNatClampNeg dv = v)
    {pc pc' : Nat} {Ls : Array Slot} {st : List Value} (hd : decode c.code pc = .ok (.laload, 1)) (hp : pc + 1 = pc')
    (k : Goes p e below G (T.setTop (mkF m pc' Ls (v :: st)))) : Goes p e below G (T.setTop (mkF m pc Ls (.int j :: .ref a :: st))) := by
  subst hp
  obtain ⟨cl, A, q1, S, q3, H, K⟩ := F
  exact own_go (fun t q => X.laload hx (by rw [eT]; exact A.1) (State.isArrayOf_alike hZ.alike A.2.1) A.2.2 (inb_of S hj) (H.at (inb_of S hj) hv) (g := mkF m pc Ls (.int j :: .ref a :: st)) rfl rfl hd t q) k
theorem s_iaload (X : Stand p l e R s m args below meth c T locs cells slots) (hx : p.tables.exec = Jvm.exec) (hZ : Z.Warmed39 s.vm) (eT : T.heap = h) {a : Addr} {kk : ClassId} {z j : Int32} {vs : List Value} {dv : Value} (F : Arv Z h a kk .int z vs dv) (hj : ¬ j < 0 ∧ j < z) {v : Value} (hv : vs.getD j.toNatClampNeg dv = v)
    {pc pc' : Nat} {Ls : Array Slot} {st : List Value} (hd : decode c.code pc = .ok (.iaload, 1)) (hp : pc + 1 = pc')
    (k : Goes p e below G (T.setTop (mkF m pc' Ls (v :: st)))) : Goes p e below G (T.setTop (mkF m pc Ls (.int j :: .ref a :: st))) := by
  subst hp
  obtain ⟨cl, A, q1, S, q3, H, K⟩ := F
  exact own_go (fun t q => X.iaload hx (by rw [eT]; exact A.1) (State.isArrayOf_alike hZ.alike A.2.1) A.2.2 (inb_of S hj) (H.at (inb_of S hj) hv) (g := mkF m pc Ls (.int j :: .ref a :: st)) rfl rfl hd t q) k
theorem s_aaload (X : Stand p l e R s m args below meth c T locs cells slots) (hx : p.tables.exec = Jvm.exec) (hZ : Z.Warmed39 s.vm) (eT : T.heap = h) {a : Addr} {kk : ClassId} {ty : FieldType} {z j : Int32} {vs : List Value} {dv : Value} (F : Arv Z h a kk ty z vs dv) (hty : ty.isReference = true) (hj : ¬ j < 0 ∧ j < z) {v : Value} (hv : vs.getD j.toNatClampNeg dv = v)
    {pc pc' : Nat} {Ls : Array Slot} {st : List Value} (hd : decode c.code pc = .ok (.aaload, 1)) (hp : pc + 1 = pc')
    (k : Goes p e below G (T.setTop (mkF m pc' Ls (v :: st)))) : Goes p e below G (T.setTop (mkF m pc Ls (.int j :: .ref a :: st))) := by
  subst hp
  obtain ⟨cl, A, q1, S, q3, H, K⟩ := F
  exact own_go (fun t q => X.aaload hx (by rw [eT]; exact A.1) (State.isArrayOf_alike hZ.alike A.2.1) hty A.2.2 (inb_of S hj) (H.at (inb_of S hj) hv) (g := mkF m pc Ls (.int j :: .ref a :: st)) rfl rfl hd t q) k
theorem s_dastore (X : Stand p l e R s m args below meth c T locs cells slots) (hx : p.tables.exec = Jvm.exec) (hZ : Z.Warmed39 s.vm) (eT : T.heap = h) {a : Addr} {kk : ClassId} {z j : Int32} {vs : List Value} {dv : Value} (F : Arv Z h a kk .double z vs dv) (hj : ¬ j < 0 ∧ j < z) (i : Nat) (hi : j.toNatClampNeg = i) (hl : i < vs.length) {x : UInt64}
    {pc pc' : Nat} {Ls : Array Slot} {st : List Value} (hd : decode c.code pc = .ok (.dastore, 1)) (hp : pc + 1 = pc')
    (k : ∀ (T' : State) (h' : Heap), Stand p l e R s m args below meth c T' (locs ++ [⟨a, j.toNatClampNeg⟩]) cells slots → T'.heap = h' → Wr h h' a j.toNatClampNeg (.double x) → Arv Z h' a kk .double z (vs.set i (.double x)) dv → Goes p e below G (T'.setTop (mkF m pc' Ls st))) :
    Goes p e below G (T.setTop (mkF m pc Ls (.double x :: .int j :: .ref a :: st))) := by
  subst hp
  obtain ⟨cl, A, q1, S, q3, H, K⟩ := F
  obtain ⟨T', h', X', e', W, stp⟩ := stD X hx hZ eT A (inb_of S hj) (g := mkF m pc Ls (.double x :: .int j :: .ref a :: st)) rfl rfl hd
  exact own_go stp (k T' h' X' e' W (Arv.set A q1 S q3 H K rfl W i hi hl))
theorem s_lastore (X : Stand p l e R s m args below meth c T locs cells slots) (hx : p.tables.exec = Jvm.exec) (hZ : Z.Warmed39 s.vm) (eT : T.heap = h) {a : Addr} {kk : ClassId} {z j : Int32} {vs : List Value} {dv : Value} (F : Arv Z h a kk .long z vs dv) (hj : ¬ j < 0 ∧ j < z) (i : Nat) (hi : j.toNatClampNeg = i) (hl : i < vs.length) {x : Int64}
    {pc pc' : Nat} {Ls : Array Slot} {st : List Value} (hd : decode c.code pc = .ok (.lastore, 1)) (hp : pc + 1 = pc')
    (k : ∀ (T' : State) (h' : Heap), Stand p l e R s m args below meth c T' (locs ++ [⟨a, j.toNatClampNeg⟩]) cells slots → T'.heap = h' → Wr h h' a j.toNatClampNeg (.long x) → Arv Z h' a kk .long z (vs.set i (.long x)) dv → Goes p e below G (T'.setTop (mkF m pc' Ls st))) :
    Goes p e below G (T.setTop (mkF m pc Ls (.long x :: .int j :: .ref a :: st))) := by
  subst hp
  obtain ⟨cl, A, q1, S, q3, H, K⟩ := F
  obtain ⟨T', h', X', e', W, stp⟩ := stJ X hx hZ eT A (inb_of S hj) (g := mkF m pc Ls (.long x :: .int j :: .ref a :: st)) rfl rfl hd
  exact own_go stp (k T' h' X' e' W (Arv.set A q1 S q3 H K rfl W i hi hl))
theorem s_iload (X : Stand p l e R s m args below meth c T locs cells slots) (hx : p.tables.exec = Jvm.exec) {pc pc' : Nat} {Ls : Array Slot} {st : List Value} {j : Nat} {v : Int32} (hd : decode c.code pc = .ok (.iload j, 2)) (hp : pc + 2 = pc') (hl : Ls[j]? = some (.val (.int v)))
    (k : Goes p e below G (T.setTop (mkF m pc' Ls (.int v :: st)))) : Goes p e below G (T.setTop (mkF m pc Ls (st))) := by
  subst hp
  exact own_go (fun _ k => XS.iload X.here hx rfl hd hl k) k
theorem s_iloadN (X : Stand p l e R s m args below meth c T locs cells slots) (hx : p.tables.exec = Jvm.exec) {pc pc' : Nat} {Ls : Array Slot} {st : List Value} {j : Fin 4} {v : Int32} (hd : decode c.code pc = .ok (.iload_n j, 1)) (hp : pc + 1 = pc') (hl : Ls[j.val]? = some (.val (.int v)))
    (k : Goes p e below G (T.setTop (mkF m pc' Ls (.int v :: st)))) : Goes p e below G (T.setTop (mkF m pc Ls (st))) := by
  subst hp
  exact own_go (fun _ k => XS.iloadN X.here hx rfl hd hl k) k
theorem s_istore (X : Stand p l e R s m args below meth c T locs cells slots) (hx : p.tables.exec = Jvm.exec) {pc pc' : Nat} {Ls : Array Slot} {st : List Value} {j : Nat} {v : Int32} (l' : Array Slot) (hd : decode c.code pc = .ok (.istore j, 2)) (hp : pc + 2 = pc') (hl : storeLocals Ls j (.int v) = some l')
    (k : Goes p e below G (T.setTop (mkF m pc' l' (st)))) : Goes p e below G (T.setTop (mkF m pc Ls (.int v :: st))) := by
  subst hp
  exact own_go (fun _ k => XS.istore X.here hx rfl hd rfl hl k) k
theorem s_istoreN (X : Stand p l e R s m args below meth c T locs cells slots) (hx : p.tables.exec = Jvm.exec) {pc pc' : Nat} {Ls : Array Slot} {st : List Value} {j : Fin 4} {v : Int32} (l' : Array Slot) (hd : decode c.code pc = .ok (.istore_n j, 1)) (hp : pc + 1 = pc') (hl : storeLocals Ls j.val (.int v) = some l')
    (k : Goes p e below G (T.setTop (mkF m pc' l' (st)))) : Goes p e below G (T.setTop (mkF m pc Ls (.int v :: st))) := by
  subst hp
  exact own_go (fun _ k => XS.istoreN X.here hx rfl hd rfl hl k) k
theorem s_lload (X : Stand p l e R s m args below meth c T locs cells slots) (hx : p.tables.exec = Jvm.exec) {pc pc' : Nat} {Ls : Array Slot} {st : List Value} {j : Nat} {v : Int64} (hd : decode c.code pc = .ok (.lload j, 2)) (hp : pc + 2 = pc') (hl : Ls[j]? = some (.val (.long v)))
    (k : Goes p e below G (T.setTop (mkF m pc' Ls (.long v :: st)))) : Goes p e below G (T.setTop (mkF m pc Ls (st))) := by
  subst hp
  exact own_go (fun _ k => XT.lload X.here hx rfl hd hl k) k
theorem s_lloadN (X : Stand p l e R s m args below meth c T locs cells slots) (hx : p.tables.exec = Jvm.exec) {pc pc' : Nat} {Ls : Array Slot} {st : List Value} {j : Fin 4} {v : Int64} (hd : decode c.code pc = .ok (.lload_n j, 1)) (hp : pc + 1 = pc') (hl : Ls[j.val]? = some (.val (.long v)))
    (k : Goes p e below G (T.setTop (mkF m pc' Ls (.long v :: st)))) : Goes p e below G (T.setTop (mkF m pc Ls (st))) := by
  subst hp
  exact own_go (fun _ k => XT.lloadN X.here hx rfl hd hl k) k
theorem s_lstore (X : Stand p l e R s m args below meth c T locs cells slots) (hx : p.tables.exec = Jvm.exec) {pc pc' : Nat} {Ls : Array Slot} {st : List Value} {j : Nat} {v : Int64} (l' : Array Slot) (hd : decode c.code pc = .ok (.lstore j, 2)) (hp : pc + 2 = pc') (hl : storeLocals Ls j (.long v) = some l')
    (k : Goes p e below G (T.setTop (mkF m pc' l' (st)))) : Goes p e below G (T.setTop (mkF m pc Ls (.long v :: st))) := by
  subst hp
  exact own_go (fun _ k => XT.lstore X.here hx rfl hd rfl hl k) k
theorem s_lstoreN (X : Stand p l e R s m args below meth c T locs cells slots) (hx : p.tables.exec = Jvm.exec) {pc pc' : Nat} {Ls : Array Slot} {st : List Value} {j : Fin 4} {v : Int64} (l' : Array Slot) (hd : decode c.code pc = .ok (.lstore_n j, 1)) (hp : pc + 1 = pc') (hl : storeLocals Ls j.val (.long v) = some l')
    (k : Goes p e below G (T.setTop (mkF m pc' l' (st)))) : Goes p e below G (T.setTop (mkF m pc Ls (.long v :: st))) := by
  subst hp
  exact own_go (fun _ k => XT.lstoreN X.here hx rfl hd rfl hl k) k
theorem s_dload (X : Stand p l e R s m args below meth c T locs cells slots) (hx : p.tables.exec = Jvm.exec) {pc pc' : Nat} {Ls : Array Slot} {st : List Value} {j : Nat} {v : UInt64} (hd : decode c.code pc = .ok (.dload j, 2)) (hp : pc + 2 = pc') (hl : Ls[j]? = some (.val (.double v)))
    (k : Goes p e below G (T.setTop (mkF m pc' Ls (.double v :: st)))) : Goes p e below G (T.setTop (mkF m pc Ls (st))) := by
  subst hp
  exact own_go (fun _ k => XS.dload X.here hx rfl hd hl k) k
theorem s_dloadN (X : Stand p l e R s m args below meth c T locs cells slots) (hx : p.tables.exec = Jvm.exec) {pc pc' : Nat} {Ls : Array Slot} {st : List Value} {j : Fin 4} {v : UInt64} (hd : decode c.code pc = .ok (.dload_n j, 1)) (hp : pc + 1 = pc') (hl : Ls[j.val]? = some (.val (.double v)))
    (k : Goes p e below G (T.setTop (mkF m pc' Ls (.double v :: st)))) : Goes p e below G (T.setTop (mkF m pc Ls (st))) := by
  subst hp
  exact own_go (fun _ k => XS.dloadN X.here hx rfl hd hl k) k
theorem s_dstore (X : Stand p l e R s m args below meth c T locs cells slots) (hx : p.tables.exec = Jvm.exec) {pc pc' : Nat} {Ls : Array Slot} {st : List Value} {j : Nat} {v : UInt64} (l' : Array Slot) (hd : decode c.code pc = .ok (.dstore j, 2)) (hp : pc + 2 = pc') (hl : storeLocals Ls j (.double v) = some l')
    (k : Goes p e below G (T.setTop (mkF m pc' l' (st)))) : Goes p e below G (T.setTop (mkF m pc Ls (.double v :: st))) := by
  subst hp
  exact own_go (fun _ k => XS.dstore X.here hx rfl hd rfl hl k) k
theorem s_dstoreN (X : Stand p l e R s m args below meth c T locs cells slots) (hx : p.tables.exec = Jvm.exec) {pc pc' : Nat} {Ls : Array Slot} {st : List Value} {j : Fin 4} {v : UInt64} (l' : Array Slot) (hd : decode c.code pc = .ok (.dstore_n j, 1)) (hp : pc + 1 = pc') (hl : storeLocals Ls j.val (.double v) = some l')
    (k : Goes p e below G (T.setTop (mkF m pc' l' (st)))) : Goes p e below G (T.setTop (mkF m pc Ls (.double v :: st))) := by
  subst hp
  exact own_go (fun _ k => XS.dstoreN X.here hx rfl hd rfl hl k) k
theorem s_aload (X : Stand p l e R s m args below meth c T locs cells slots) (hx : p.tables.exec = Jvm.exec) {pc pc' : Nat} {Ls : Array Slot} {st : List Value} {j : Nat} {v : Value} (hd : decode c.code pc = .ok (.aload j, 2)) (hp : pc + 2 = pc') (hl : Ls[j]? = some (.val v)) (hv : v.isRef = true)
    (k : Goes p e below G (T.setTop (mkF m pc' Ls (v :: st)))) : Goes p e below G (T.setTop (mkF m pc Ls (st))) := by
  subst hp
  exact own_go (fun _ k => XS.aload X.here hx rfl hd hl hv k) k
theorem s_aloadN (X : Stand p l e R s m args below meth c T locs cells slots) (hx : p.tables.exec = Jvm.exec) {pc pc' : Nat} {Ls : Array Slot} {st : List Value} {j : Fin 4} {v : Value} (hd : decode c.code pc = .ok (.aload_n j, 1)) (hp : pc + 1 = pc') (hl : Ls[j.val]? = some (.val v)) (hv : v.isRef = true)
    (k : Goes p e below G (T.setTop (mkF m pc' Ls (v :: st)))) : Goes p e below G (T.setTop (mkF m pc Ls (st))) := by
  subst hp
  exact own_go (fun _ k => XS.aloadN X.here hx rfl hd hl hv k) k
theorem s_astore (X : Stand p l e R s m args below meth c T locs cells slots) (hx : p.tables.exec = Jvm.exec) {pc pc' : Nat} {Ls : Array Slot} {st : List Value} {j : Nat} {v : Value} (l' : Array Slot) (hd : decode c.code pc = .ok (.astore j, 2)) (hp : pc + 2 = pc') (hv : v.isRef = true) (hl : storeLocals Ls j v = some l')
    (k : Goes p e below G (T.setTop (mkF m pc' l' (st)))) : Goes p e below G (T.setTop (mkF m pc Ls (v :: st))) := by
  subst hp
  exact own_go (fun _ k => XS.astore X.here hx rfl hd rfl hv hl k) k
theorem s_astoreN (X : Stand p l e R s m args below meth c T locs cells slots) (hx : p.tables.exec = Jvm.exec) {pc pc' : Nat} {Ls : Array Slot} {st : List Value} {j : Fin 4} {v : Value} (l' : Array Slot) (hd : decode c.code pc = .ok (.astore_n j, 1)) (hp : pc + 1 = pc') (hv : v.isRef = true) (hl : storeLocals Ls j.val v = some l')
    (k : Goes p e below G (T.setTop (mkF m pc' l' (st)))) : Goes p e below G (T.setTop (mkF m pc Ls (v :: st))) := by
  subst hp
  exact own_go (fun _ k => XS.astoreN X.here hx rfl hd rfl hv hl k) k
theorem s_iconst (X : Stand p l e R s m args below meth c T locs cells slots) (hx : p.tables.exec = Jvm.exec) {pc pc' : Nat} {Ls : Array Slot} {st : List Value} {i : Int} (v : Int32) (hd : decode c.code pc = .ok (.iconst i, 1)) (hp : pc + 1 = pc') (hv : Int32.ofInt i = v)
    (k : Goes p e below G (T.setTop (mkF m pc' Ls (.int v :: st)))) : Goes p e below G (T.setTop (mkF m pc Ls (st))) := by
  subst hp
  exact own_go (fun _ k => XS.iconst X.here hx rfl hd (by rw [hv]; exact k)) k
theorem s_bipush (X : Stand p l e R s m args below meth c T locs cells slots) (hx : p.tables.exec = Jvm.exec) {pc pc' : Nat} {Ls : Array Slot} {st : List Value} {i : Int} (v : Int32) (hd : decode c.code pc = .ok (.bipush i, 2)) (hp : pc + 2 = pc') (hv : (Int8.ofInt i).toInt32 = v)
    (k : Goes p e below G (T.setTop (mkF m pc' Ls (.int v :: st)))) : Goes p e below G (T.setTop (mkF m pc Ls (st))) := by
  subst hp
  exact own_go (fun _ k => XS.bipush X.here hx rfl hd (by rw [hv]; exact k)) k
theorem s_sipush (X : Stand p l e R s m args below meth c T locs cells slots) (hx : p.tables.exec = Jvm.exec) {pc pc' : Nat} {Ls : Array Slot} {st : List Value} {i : Int} (v : Int32) (hd : decode c.code pc = .ok (.sipush i, 3)) (hp : pc + 3 = pc') (hv : (Int16.ofInt i).toInt32 = v)
    (k : Goes p e below G (T.setTop (mkF m pc' Ls (.int v :: st)))) : Goes p e below G (T.setTop (mkF m pc Ls (st))) := by
  subst hp
  exact own_go (fun _ k => XS.sipush X.here hx rfl hd (by rw [hv]; exact k)) k
theorem s_lconst (X : Stand p l e R s m args below meth c T locs cells slots) (hx : p.tables.exec = Jvm.exec) {pc pc' : Nat} {Ls : Array Slot} {st : List Value} {i : Fin 2} (v : Int64) (hd : decode c.code pc = .ok (.lconst i, 1)) (hp : pc + 1 = pc') (hv : Int64.ofNat i = v)
    (k : Goes p e below G (T.setTop (mkF m pc' Ls (.long v :: st)))) : Goes p e below G (T.setTop (mkF m pc Ls (st))) := by
  subst hp
  exact own_go (fun _ k => XT.lconst X.here hx rfl hd (by rw [hv]; exact k)) k
theorem s_dconst0 (X : Stand p l e R s m args below meth c T locs cells slots) (hx : p.tables.exec = Jvm.exec) {pc pc' : Nat} {Ls : Array Slot} {st : List Value}  (hd : decode c.code pc = .ok (.dconst 0, 1)) (hp : pc + 1 = pc') 
    (k : Goes p e below G (T.setTop (mkF m pc' Ls (.double 0 :: st)))) : Goes p e below G (T.setTop (mkF m pc Ls (st))) := by
  subst hp
  exact own_go (fun _ k => XS.dconst0 X.here hx rfl hd rfl k) k
theorem s_dconst1 (X : Stand p l e R s m args below meth c T locs cells slots) (hx : p.tables.exec = Jvm.exec) {pc pc' : Nat} {Ls : Array Slot} {st : List Value}  (hd : decode c.code pc = .ok (.dconst 1, 1)) (hp : pc + 1 = pc') 
    (k : Goes p e below G (T.setTop (mkF m pc' Ls (.double 4607182418800017408 :: st)))) : Goes p e below G (T.setTop (mkF m pc Ls (st))) := by
  subst hp
  exact own_go (fun _ k => XS.dconst1 X.here hx rfl hd rfl k) k
theorem s_aconstNull (X : Stand p l e R s m args below meth c T locs cells slots) (hx : p.tables.exec = Jvm.exec) {pc pc' : Nat} {Ls : Array Slot} {st : List Value}  (hd : decode c.code pc = .ok (.aconst_null, 1)) (hp : pc + 1 = pc') 
    (k : Goes p e below G (T.setTop (mkF m pc' Ls (.null :: st)))) : Goes p e below G (T.setTop (mkF m pc Ls (st))) := by
  subst hp
  exact own_go (fun _ k => XS.aconstNull X.here hx rfl hd k) k
theorem s_ldcI (X : Stand p l e R s m args below meth c T locs cells slots) (hx : p.tables.exec = Jvm.exec) {pc pc' : Nat} {Ls : Array Slot} {st : List Value} (hZ : Z.Warmed39 s.vm) {own : String} {j : Nat} {v : Int32} (hown : s.vm.findClass own = some m.cls) (w : (Jvm.Cond.constant own j v).before a0 Z = true) (hd : decode c.code pc = .ok (.ldc j, 2)) (hp : pc + 2 = pc') 
    (k : Goes p e below G (T.setTop (mkF m pc' Ls (.int v :: st)))) : Goes p e below G (T.setTop (mkF m pc Ls (st))) := by
  subst hp
  exact own_go (fun _ k => X.ldcInt hx hown (mvT hZ w) (g := mkF m pc Ls st) rfl hd _ k) k
theorem s_ldcJ (X : Stand p l e R s m args below meth c T locs cells slots) (hx : p.tables.exec = Jvm.exec) {pc pc' : Nat} {Ls : Array Slot} {st : List Value} (hZ : Z.Warmed39 s.vm) {own : String} {j : Nat} {v : Int64} (hown : s.vm.findClass own = some m.cls) (w : (Jvm.Cond.constantLong own j v).before a0 Z = true) (hd : decode c.code pc = .ok (.ldc2_w j, 3)) (hp : pc + 3 = pc') 
    (k : Goes p e below G (T.setTop (mkF m pc' Ls (.long v :: st)))) : Goes p e below G (T.setTop (mkF m pc Ls (st))) := by
  subst hp
  exact own_go (fun _ k => X.ldc2Long hx hown (mvT hZ w) (g := mkF m pc Ls st) rfl hd _ k) k
theorem s_ldcD (X : Stand p l e R s m args below meth c T locs cells slots) (hx : p.tables.exec = Jvm.exec) {pc pc' : Nat} {Ls : Array Slot} {st : List Value} (hZ : Z.Warmed39 s.vm) {own : String} {j : Nat} {v : UInt64} (hown : s.vm.findClass own = some m.cls) (w : (Jvm.Cond.constantDouble own j v).before a0 Z = true) (hd : decode c.code pc = .ok (.ldc2_w j, 3)) (hp : pc + 3 = pc') 
    (k : Goes p e below G (T.setTop (mkF m pc' Ls (.double v :: st)))) : Goes p e below G (T.setTop (mkF m pc Ls (st))) := by
  subst hp
  exact own_go (fun _ k => X.ldc2DoubleC hx hown (mvT hZ w) (g := mkF m pc Ls st) rfl hd _ k) k
theorem s_iadd (X : Stand p l e R s m args below meth c T locs cells slots) (hx : p.tables.exec = Jvm.exec) {pc pc' : Nat} {Ls : Array Slot} {st : List Value} {x y : Int32} (hd : decode c.code pc = .ok (.iadd, 1)) (hp : pc + 1 = pc') 
    (k : Goes p e below G (T.setTop (mkF m pc' Ls (.int (x + y) :: st)))) : Goes p e below G (T.setTop (mkF m pc Ls (.int y :: .int x :: st))) := by
  subst hp
  exact own_go (fun _ k => XS.iadd X.here hx rfl hd rfl k) k
theorem s_isub (X : Stand p l e R s m args below meth c T locs cells slots) (hx : p.tables.exec = Jvm.exec) {pc pc' : Nat} {Ls : Array Slot} {st : List Value} {x y : Int32} (hd : decode c.code pc = .ok (.isub, 1)) (hp : pc + 1 = pc') 
    (k : Goes p e below G (T.setTop (mkF m pc' Ls (.int (x - y) :: st)))) : Goes p e below G (T.setTop (mkF m pc Ls (.int y :: .int x :: st))) := by
  subst hp
  exact own_go (fun _ k => XS.isub X.here hx rfl hd rfl k) k
theorem s_imul (X : Stand p l e R s m args below meth c T locs cells slots) (hx : p.tables.exec = Jvm.exec) {pc pc' : Nat} {Ls : Array Slot} {st : List Value} {x y : Int32} (hd : decode c.code pc = .ok (.imul, 1)) (hp : pc + 1 = pc') 
    (k : Goes p e below G (T.setTop (mkF m pc' Ls (.int (x * y) :: st)))) : Goes p e below G (T.setTop (mkF m pc Ls (.int y :: .int x :: st))) := by
  subst hp
  exact own_go (fun _ k => XS.imul X.here hx rfl hd rfl k) k
theorem s_iand (X : Stand p l e R s m args below meth c T locs cells slots) (hx : p.tables.exec = Jvm.exec) {pc pc' : Nat} {Ls : Array Slot} {st : List Value} {x y : Int32} (hd : decode c.code pc = .ok (.iand, 1)) (hp : pc + 1 = pc') 
    (k : Goes p e below G (T.setTop (mkF m pc' Ls (.int (x &&& y) :: st)))) : Goes p e below G (T.setTop (mkF m pc Ls (.int y :: .int x :: st))) := by
  subst hp
  exact own_go (fun _ k => XS.iand X.here hx rfl hd rfl k) k
theorem s_ixor (X : Stand p l e R s m args below meth c T locs cells slots) (hx : p.tables.exec = Jvm.exec) {pc pc' : Nat} {Ls : Array Slot} {st : List Value} {x y : Int32} (hd : decode c.code pc = .ok (.ixor, 1)) (hp : pc + 1 = pc') 
    (k : Goes p e below G (T.setTop (mkF m pc' Ls (.int (x ^^^ y) :: st)))) : Goes p e below G (T.setTop (mkF m pc Ls (.int y :: .int x :: st))) := by
  subst hp
  exact own_go (fun _ k => XT.ixor X.here hx rfl hd rfl k) k
theorem s_ior (X : Stand p l e R s m args below meth c T locs cells slots) (hx : p.tables.exec = Jvm.exec) {pc pc' : Nat} {Ls : Array Slot} {st : List Value} {x y : Int32} (hd : decode c.code pc = .ok (.ior, 1)) (hp : pc + 1 = pc') 
    (k : Goes p e below G (T.setTop (mkF m pc' Ls (.int (x ||| y) :: st)))) : Goes p e below G (T.setTop (mkF m pc Ls (.int y :: .int x :: st))) := by
  subst hp
  exact own_go (fun _ k => XT.ior X.here hx rfl hd rfl k) k
theorem s_ishl (X : Stand p l e R s m args below meth c T locs cells slots) (hx : p.tables.exec = Jvm.exec) {pc pc' : Nat} {Ls : Array Slot} {st : List Value} {x y : Int32} (hd : decode c.code pc = .ok (.ishl, 1)) (hp : pc + 1 = pc') 
    (k : Goes p e below G (T.setTop (mkF m pc' Ls (.int (x <<< (y &&& 31)) :: st)))) : Goes p e below G (T.setTop (mkF m pc Ls (.int y :: .int x :: st))) := by
  subst hp
  exact own_go (fun _ k => XT.ishl X.here hx rfl hd rfl k) k
theorem s_ishr (X : Stand p l e R s m args below meth c T locs cells slots) (hx : p.tables.exec = Jvm.exec) {pc pc' : Nat} {Ls : Array Slot} {st : List Value} {x y : Int32} (hd : decode c.code pc = .ok (.ishr, 1)) (hp : pc + 1 = pc') 
    (k : Goes p e below G (T.setTop (mkF m pc' Ls (.int (x >>> (y &&& 31)) :: st)))) : Goes p e below G (T.setTop (mkF m pc Ls (.int y :: .int x :: st))) := by
  subst hp
  exact own_go (fun _ k => XT.ishr X.here hx rfl hd rfl k) k
theorem s_iushr (X : Stand p l e R s m args below meth c T locs cells slots) (hx : p.tables.exec = Jvm.exec) {pc pc' : Nat} {Ls : Array Slot} {st : List Value} {x y : Int32} (hd : decode c.code pc = .ok (.iushr, 1)) (hp : pc + 1 = pc') 
    (k : Goes p e below G (T.setTop (mkF m pc' Ls (.int (XT.ushr x y) :: st)))) : Goes p e below G (T.setTop (mkF m pc Ls (.int y :: .int x :: st))) := by
  subst hp
  exact own_go (fun _ k => XT.iushr X.here hx rfl hd rfl k) k
theorem s_irem (X : Stand p l e R s m args below meth c T locs cells slots) (hx : p.tables.exec = Jvm.exec) {pc pc' : Nat} {Ls : Array Slot} {st : List Value} {x y : Int32} (hd : decode c.code pc = .ok (.irem, 1)) (hp : pc + 1 = pc') (hy : y ≠ 0)
    (k : Goes p e below G (T.setTop (mkF m pc' Ls (.int (x % y) :: st)))) : Goes p e below G (T.setTop (mkF m pc Ls (.int y :: .int x :: st))) := by
  subst hp
  exact own_go (fun _ k => iremM X hx rfl hd rfl hy k) k
theorem s_ineg (X : Stand p l e R s m args below meth c T locs cells slots) (hx : p.tables.exec = Jvm.exec) {pc pc' : Nat} {Ls : Array Slot} {st : List Value} {x : Int32} (hd : decode c.code pc = .ok (.ineg, 1)) (hp : pc + 1 = pc') 
    (k : Goes p e below G (T.setTop (mkF m pc' Ls (.int (-x) :: st)))) : Goes p e below G (T.setTop (mkF m pc Ls (.int x :: st))) := by
  subst hp
  exact own_go (fun _ k => XS.ineg X.here hx rfl hd rfl k) k
theorem s_ladd (X : Stand p l e R s m args below meth c T locs cells slots) (hx : p.tables.exec = Jvm.exec) {pc pc' : Nat} {Ls : Array Slot} {st : List Value} {x y : Int64} (hd : decode c.code pc = .ok (.ladd, 1)) (hp : pc + 1 = pc') 
    (k : Goes p e below G (T.setTop (mkF m pc' Ls (.long (x + y) :: st)))) : Goes p e below G (T.setTop (mkF m pc Ls (.long y :: .long x :: st))) := by
  subst hp
  exact own_go (fun _ k => XT.ladd X.here hx rfl hd rfl k) k
theorem s_lsub (X : Stand p l e R s m args below meth c T locs cells slots) (hx : p.tables.exec = Jvm.exec) {pc pc' : Nat} {Ls : Array Slot} {st : List Value} {x y : Int64} (hd : decode c.code pc = .ok (.lsub, 1)) (hp : pc + 1 = pc') 
    (k : Goes p e below G (T.setTop (mkF m pc' Ls (.long (x - y) :: st)))) : Goes p e below G (T.setTop (mkF m pc Ls (.long y :: .long x :: st))) := by
  subst hp
  exact own_go (fun _ k => XT.lsub X.here hx rfl hd rfl k) k
theorem s_lmul (X : Stand p l e R s m args below meth c T locs cells slots) (hx : p.tables.exec = Jvm.exec) {pc pc' : Nat} {Ls : Array Slot} {st : List Value} {x y : Int64} (hd : decode c.code pc = .ok (.lmul, 1)) (hp : pc + 1 = pc') 
    (k : Goes p e below G (T.setTop (mkF m pc' Ls (.long (x * y) :: st)))) : Goes p e below G (T.setTop (mkF m pc Ls (.long y :: .long x :: st))) := by
  subst hp
  exact own_go (fun _ k => XT.lmul X.here hx rfl hd rfl k) k
theorem s_land (X : Stand p l e R s m args below meth c T locs cells slots) (hx : p.tables.exec = Jvm.exec) {pc pc' : Nat} {Ls : Array Slot} {st : List Value} {x y : Int64} (hd : decode c.code pc = .ok (.land, 1)) (hp : pc + 1 = pc') 
    (k : Goes p e below G (T.setTop (mkF m pc' Ls (.long (x &&& y) :: st)))) : Goes p e below G (T.setTop (mkF m pc Ls (.long y :: .long x :: st))) := by
  subst hp
  exact own_go (fun _ k => XT.land X.here hx rfl hd rfl k) k
theorem s_lor (X : Stand p l e R s m args below meth c T locs cells slots) (hx : p.tables.exec = Jvm.exec) {pc pc' : Nat} {Ls : Array Slot} {st : List Value} {x y : Int64} (hd : decode c.code pc = .ok (.lor, 1)) (hp : pc + 1 = pc') 
    (k : Goes p e below G (T.setTop (mkF m pc' Ls (.long (x ||| y) :: st)))) : Goes p e below G (T.setTop (mkF m pc Ls (.long y :: .long x :: st))) := by
  subst hp
  exact own_go (fun _ k => XT.lor X.here hx rfl hd rfl k) k
theorem s_lxor (X : Stand p l e R s m args below meth c T locs cells slots) (hx : p.tables.exec = Jvm.exec) {pc pc' : Nat} {Ls : Array Slot} {st : List Value} {x y : Int64} (hd : decode c.code pc = .ok (.lxor, 1)) (hp : pc + 1 = pc') 
    (k : Goes p e below G (T.setTop (mkF m pc' Ls (.long (x ^^^ y) :: st)))) : Goes p e below G (T.setTop (mkF m pc Ls (.long y :: .long x :: st))) := by
  subst hp
  exact own_go (fun _ k => XT.lxor X.here hx rfl hd rfl k) k
theorem s_lshl (X : Stand p l e R s m args below meth c T locs cells slots) (hx : p.tables.exec = Jvm.exec) {pc pc' : Nat} {Ls : Array Slot} {st : List Value} {x : Int64} {y : Int32} (hd : decode c.code pc = .ok (.lshl, 1)) (hp : pc + 1 = pc') 
    (k : Goes p e below G (T.setTop (mkF m pc' Ls (.long (x <<< (y.toInt64 &&& 63)) :: st)))) : Goes p e below G (T.setTop (mkF m pc Ls (.int y :: .long x :: st))) := by
  subst hp
  exact own_go (fun _ k => XT.lshl X.here hx rfl hd rfl k) k
theorem s_lshr (X : Stand p l e R s m args below meth c T locs cells slots) (hx : p.tables.exec = Jvm.exec) {pc pc' : Nat} {Ls : Array Slot} {st : List Value} {x : Int64} {y : Int32} (hd : decode c.code pc = .ok (.lshr, 1)) (hp : pc + 1 = pc') 
    (k : Goes p e below G (T.setTop (mkF m pc' Ls (.long (x >>> (y.toInt64 &&& 63)) :: st)))) : Goes p e below G (T.setTop (mkF m pc Ls (.int y :: .long x :: st))) := by
  subst hp
  exact own_go (fun _ k => XT.lshr X.here hx rfl hd rfl k) k
theorem s_lushr (X : Stand p l e R s m args below meth c T locs cells slots) (hx : p.tables.exec = Jvm.exec) {pc pc' : Nat} {Ls : Array Slot} {st : List Value} {x : Int64} {y : Int32} (hd : decode c.code pc = .ok (.lushr, 1)) (hp : pc + 1 = pc') 
    (k : Goes p e below G (T.setTop (mkF m pc' Ls (.long (XT.ushrL x y) :: st)))) : Goes p e below G (T.setTop (mkF m pc Ls (.int y :: .long x :: st))) := by
  subst hp
  exact own_go (fun _ k => XT.lushr X.here hx rfl hd rfl k) k
theorem s_i2l (X : Stand p l e R s m args below meth c T locs cells slots) (hx : p.tables.exec = Jvm.exec) {pc pc' : Nat} {Ls : Array Slot} {st : List Value} {x : Int32} (hd : decode c.code pc = .ok (.i2l, 1)) (hp : pc + 1 = pc') 
    (k : Goes p e below G (T.setTop (mkF m pc' Ls ((.long x.toInt64) :: st)))) : Goes p e below G (T.setTop (mkF m pc Ls (.int x :: st))) := by
  subst hp
  exact own_go (fun _ k => XT.i2l X.here hx rfl hd rfl k) k
theorem s_i2b (X : Stand p l e R s m args below meth c T locs cells slots) (hx : p.tables.exec = Jvm.exec) {pc pc' : Nat} {Ls : Array Slot} {st : List Value} {x : Int32} (hd : decode c.code pc = .ok (.i2b, 1)) (hp : pc + 1 = pc') 
    (k : Goes p e below G (T.setTop (mkF m pc' Ls ((.int x.toInt8.toInt32) :: st)))) : Goes p e below G (T.setTop (mkF m pc Ls (.int x :: st))) := by
  subst hp
  exact own_go (fun _ k => XT.i2b X.here hx rfl hd rfl k) k
theorem s_l2i (X : Stand p l e R s m args below meth c T locs cells slots) (hx : p.tables.exec = Jvm.exec) {pc pc' : Nat} {Ls : Array Slot} {st : List Value} {x : Int64} (hd : decode c.code pc = .ok (.l2i, 1)) (hp : pc + 1 = pc') 
    (k : Goes p e below G (T.setTop (mkF m pc' Ls (.int x.toInt32 :: st)))) : Goes p e below G (T.setTop (mkF m pc Ls (.long x :: st))) := by
  subst hp
  exact own_go (fun _ k => XT.l2i X.here hx rfl hd rfl k) k
theorem s_i2d (X : Stand p l e R s m args below meth c T locs cells slots) (hx : p.tables.exec = Jvm.exec) {pc pc' : Nat} {Ls : Array Slot} {st : List Value} {x : Int32} (hd : decode c.code pc = .ok (.i2d, 1)) (hp : pc + 1 = pc') 
    (k : Goes p e below G (T.setTop (mkF m pc' Ls (.double (FP.i2d x) :: st)))) : Goes p e below G (T.setTop (mkF m pc Ls (.int x :: st))) := by
  subst hp
  exact own_go (fun _ k => XS.i2dS X.here hx rfl hd rfl rfl k) k
theorem s_l2d (X : Stand p l e R s m args below meth c T locs cells slots) (hx : p.tables.exec = Jvm.exec) {pc pc' : Nat} {Ls : Array Slot} {st : List Value} {x : Int64} (hd : decode c.code pc = .ok (.l2d, 1)) (hp : pc + 1 = pc') 
    (k : Goes p e below G (T.setTop (mkF m pc' Ls (.double (FP.l2d x) :: st)))) : Goes p e below G (T.setTop (mkF m pc Ls (.long x :: st))) := by
  subst hp
  exact own_go (fun _ k => XS.l2dS X.here hx rfl hd rfl rfl k) k
theorem s_dneg (X : Stand p l e R s m args below meth c T locs cells slots) (hx : p.tables.exec = Jvm.exec) {pc pc' : Nat} {Ls : Array Slot} {st : List Value} {x : UInt64} (hd : decode c.code pc = .ok (.dneg, 1)) (hp : pc + 1 = pc') 
    (k : Goes p e below G (T.setTop (mkF m pc' Ls (.double (FP.dneg x) :: st)))) : Goes p e below G (T.setTop (mkF m pc Ls (.double x :: st))) := by
  subst hp
  exact own_go (fun _ k => XS.dnegS X.here hx rfl hd rfl rfl k) k
theorem s_dadd (X : Stand p l e R s m args below meth c T locs cells slots) (hx : p.tables.exec = Jvm.exec) {pc pc' : Nat} {Ls : Array Slot} {st : List Value} {x y : UInt64} (v : UInt64) (hd : decode c.code pc = .ok (.dadd, 1)) (hp : pc + 1 = pc') (hn : NoNaN64 (FP.dadd x y)) (hv : FP.dadd x y = v)
    (k : Goes p e below G (T.setTop (mkF m pc' Ls (.double v :: st)))) : Goes p e below G (T.setTop (mkF m pc Ls (.double y :: .double x :: st))) := by
  subst hp
  exact own_go (fun _ k => XS.daddS X.here hx rfl hd rfl hn hv k) k
theorem s_dsub (X : Stand p l e R s m args below meth c T locs cells slots) (hx : p.tables.exec = Jvm.exec) {pc pc' : Nat} {Ls : Array Slot} {st : List Value} {x y : UInt64} (v : UInt64) (hd : decode c.code pc = .ok (.dsub, 1)) (hp : pc + 1 = pc') (hn : NoNaN64 (FP.dsub x y)) (hv : FP.dsub x y = v)
    (k : Goes p e below G (T.setTop (mkF m pc' Ls (.double v :: st)))) : Goes p e below G (T.setTop (mkF m pc Ls (.double y :: .double x :: st))) := by
  subst hp
  exact own_go (fun _ k => XS.dsubS X.here hx rfl hd rfl hn hv k) k
theorem s_dmul (X : Stand p l e R s m args below meth c T locs cells slots) (hx : p.tables.exec = Jvm.exec) {pc pc' : Nat} {Ls : Array Slot} {st : List Value} {x y : UInt64} (v : UInt64) (hd : decode c.code pc = .ok (.dmul, 1)) (hp : pc + 1 = pc') (hn : NoNaN64 (FP.dmul x y)) (hv : FP.dmul x y = v)
    (k : Goes p e below G (T.setTop (mkF m pc' Ls (.double v :: st)))) : Goes p e below G (T.setTop (mkF m pc Ls (.double y :: .double x :: st))) := by
  subst hp
  exact own_go (fun _ k => XS.dmulS X.here hx rfl hd rfl hn hv k) k
theorem s_ddiv (X : Stand p l e R s m args below meth c T locs cells slots) (hx : p.tables.exec = Jvm.exec) {pc pc' : Nat} {Ls : Array Slot} {st : List Value} {x y : UInt64} (v : UInt64) (hd : decode c.code pc = .ok (.ddiv, 1)) (hp : pc + 1 = pc') (hn : NoNaN64 (FP.ddiv x y)) (hv : FP.ddiv x y = v)
    (k : Goes p e below G (T.setTop (mkF m pc' Ls (.double v :: st)))) : Goes p e below G (T.setTop (mkF m pc Ls (.double y :: .double x :: st))) := by
  subst hp
  exact own_go (fun _ k => XS.ddivS X.here hx rfl hd rfl hn hv k) k
theorem s_lcmp (X : Stand p l e R s m args below meth c T locs cells slots) (hx : p.tables.exec = Jvm.exec) {pc pc' : Nat} {Ls : Array Slot} {st : List Value} {x y : Int64} (hd : decode c.code pc = .ok (.lcmp, 1)) (hp : pc + 1 = pc') 
    (k : Goes p e below G (T.setTop (mkF m pc' Ls (.int (XT.cmpL x y) :: st)))) : Goes p e below G (T.setTop (mkF m pc Ls (.long y :: .long x :: st))) := by
  subst hp
  exact own_go (fun _ k => XT.lcmp X.here hx rfl hd rfl k) k
theorem s_dcmp (X : Stand p l e R s m args below meth c T locs cells slots) (hx : p.tables.exec = Jvm.exec) {pc pc' : Nat} {Ls : Array Slot} {st : List Value} {x y : UInt64} {o : CmpOp} (v : Int32) (hd : decode c.code pc = .ok (.dcmp o, 1)) (hp : pc + 1 = pc') (hv : cmpValue (FP.dcmp x y) o = v)
    (k : Goes p e below G (T.setTop (mkF m pc' Ls (.int v :: st)))) : Goes p e below G (T.setTop (mkF m pc Ls (.double y :: .double x :: st))) := by
  subst hp
  exact own_go (fun _ k => XS.dcmpS X.here hx rfl hd rfl hv k) k
theorem s_dup (X : Stand p l e R s m args below meth c T locs cells slots) (hx : p.tables.exec = Jvm.exec) {pc pc' : Nat} {Ls : Array Slot} {st : List Value} {x : Value} (hd : decode c.code pc = .ok (.dup, 1)) (hp : pc + 1 = pc') (hc : x.category = 1)
    (k : Goes p e below G (T.setTop (mkF m pc' Ls (x :: x :: st)))) : Goes p e below G (T.setTop (mkF m pc Ls (x :: st))) := by
  subst hp
  exact own_go (fun _ k => XS.dup X.here hx rfl hd rfl hc k) k
theorem s_pop (X : Stand p l e R s m args below meth c T locs cells slots) (hx : p.tables.exec = Jvm.exec) {pc pc' : Nat} {Ls : Array Slot} {st : List Value} {x : Value} (hd : decode c.code pc = .ok (.pop, 1)) (hp : pc + 1 = pc') (hc : x.category = 1)
    (k : Goes p e below G (T.setTop (mkF m pc' Ls (st)))) : Goes p e below G (T.setTop (mkF m pc Ls (x :: st))) := by
  subst hp
  exact own_go (fun _ k => XT.pop X.here hx rfl hd rfl hc k) k
theorem s_pop2D (X : Stand p l e R s m args below meth c T locs cells slots) (hx : p.tables.exec = Jvm.exec) {pc pc' : Nat} {Ls : Array Slot} {st : List Value} {x : UInt64} (hd : decode c.code pc = .ok (.pop2, 1)) (hp : pc + 1 = pc')
    (k : Goes p e below G (T.setTop (mkF m pc' Ls st))) : Goes p e below G (T.setTop (mkF m pc Ls (.double x :: st))) := by
  subst hp
  refine own_go (fun _ k => ?_) k
  jvm_step X.here [X.here.top, hx, hd, Value.category]
  exact k
theorem s_dup2 (X : Stand p l e R s m args below meth c T locs cells slots) (hx : p.tables.exec = Jvm.exec) {pc pc' : Nat} {Ls : Array Slot} {st : List Value} {x y : Value} (hd : decode c.code pc = .ok (.dup2, 1)) (hp : pc + 1 = pc') (hc : x.category = 1) (hc' : y.category = 1)
    (k : Goes p e below G (T.setTop (mkF m pc' Ls (x :: y :: x :: y :: st)))) : Goes p e below G (T.setTop (mkF m pc Ls (x :: y :: st))) := by
  subst hp
  exact own_go (fun _ k => XT.dup2 X.here hx rfl hd rfl hc hc' k) k
theorem s_iinc (X : Stand p l e R s m args below meth c T locs cells slots) (hx : p.tables.exec = Jvm.exec) {pc pc' : Nat} {Ls : Array Slot} {st : List Value} {j : Nat} {i : Int} {x : Int32} (v : Int32) (l' : Array Slot) (hd : decode c.code pc = .ok (.iinc j i, 3)) (hp : pc + 3 = pc') (hl : Ls[j]? = some (.val (.int x))) (hv : x + Int32.ofInt i = v) (hl' : storeLocals Ls j (.int v) = some l')
    (k : Goes p e below G (T.setTop (mkF m pc' l' (st)))) : Goes p e below G (T.setTop (mkF m pc Ls (st))) := by
  subst hp
  exact own_go (fun _ k => XS.iinc X.here hx rfl hd hl (by rw [hv]; exact hl') k) k
theorem s_goto (X : Stand p l e R s m args below meth c T locs cells slots) (hx : p.tables.exec = Jvm.exec) {pc pc' : Nat} {Ls : Array Slot} {st : List Value}  {o : Int} (hd : decode c.code pc = .ok (.goto o, 3))  (ho : 0 ≤ (pc : Int) + o) (hp : ((pc : Int) + o).toNat = pc')
    (k : Goes p e below G (T.setTop (mkF m pc' Ls (st)))) : Goes p e below G (T.setTop (mkF m pc Ls (st))) := own_go (fun _ k => XS.goto X.here hx rfl rfl hd ho hp k) k
theorem s_ifY (X : Stand p l e R s m args below meth c T locs cells slots) (hx : p.tables.exec = Jvm.exec) {pc pc' : Nat} {Ls : Array Slot} {st : List Value} {cd : ClassFile.Cond} {x : Int32} {o : Int} (hd : decode c.code pc = .ok (.ifCond cd o, 3)) (hc : ifCond.holds cd x = true) (ho : 0 ≤ (pc : Int) + o) (hp : ((pc : Int) + o).toNat = pc')
    (k : Goes p e below G (T.setTop (mkF m pc' Ls (st)))) : Goes p e below G (T.setTop (mkF m pc Ls (.int x :: st))) := own_go (fun _ k => XS.ifYes X.here hx rfl rfl hd rfl hc ho hp k) k
theorem s_icmpY (X : Stand p l e R s m args below meth c T locs cells slots) (hx : p.tables.exec = Jvm.exec) {pc pc' : Nat} {Ls : Array Slot} {st : List Value} {cd : ClassFile.Cond} {x y : Int32} {o : Int} (hd : decode c.code pc = .ok (.if_icmp cd o, 3)) (hc : if_icmp.holds cd x y = true) (ho : 0 ≤ (pc : Int) + o) (hp : ((pc : Int) + o).toNat = pc')
    (k : Goes p e below G (T.setTop (mkF m pc' Ls (st)))) : Goes p e below G (T.setTop (mkF m pc Ls (.int y :: .int x :: st))) := own_go (fun _ k => XS.icmpYes X.here hx rfl rfl hd rfl hc ho hp k) k
theorem s_acmpY (X : Stand p l e R s m args below meth c T locs cells slots) (hx : p.tables.exec = Jvm.exec) {pc pc' : Nat} {Ls : Array Slot} {st : List Value} {cd : ClassFile.ACond} {x y : Value} {o : Int} (hd : decode c.code pc = .ok (.if_acmp cd o, 3)) (h1 : x.isRef = true) (h2 : y.isRef = true) (hc : XT.acmp cd x y = true) (ho : 0 ≤ (pc : Int) + o) (hp : ((pc : Int) + o).toNat = pc')
    (k : Goes p e below G (T.setTop (mkF m pc' Ls (st)))) : Goes p e below G (T.setTop (mkF m pc Ls (y :: x :: st))) := own_go (fun _ k => XT.acmpYes X.here hx rfl rfl hd rfl h1 h2 hc ho hp k) k
theorem s_nonnullY (X : Stand p l e R s m args below meth c T locs cells slots) (hx : p.tables.exec = Jvm.exec) {pc pc' : Nat} {Ls : Array Slot} {st : List Value} {b : Addr} {o : Int} (hd : decode c.code pc = .ok (.ifnonnull o, 3))  (ho : 0 ≤ (pc : Int) + o) (hp : ((pc : Int) + o).toNat = pc')
    (k : Goes p e below G (T.setTop (mkF m pc' Ls (st)))) : Goes p e below G (T.setTop (mkF m pc Ls (.ref b :: st))) := own_go (fun _ k => XT.ifnonnullYes X.here hx rfl rfl hd rfl ho hp k) k
theorem s_ifN (X : Stand p l e R s m args below meth c T locs cells slots) (hx : p.tables.exec = Jvm.exec) {pc pc' : Nat} {Ls : Array Slot} {st : List Value} {cd : ClassFile.Cond} {x : Int32} {o : Int} (hd : decode c.code pc = .ok (.ifCond cd o, 3)) (hp : pc + 3 = pc') (hc : ifCond.holds cd x = false)
    (k : Goes p e below G (T.setTop (mkF m pc' Ls (st)))) : Goes p e below G (T.setTop (mkF m pc Ls (.int x :: st))) := by
  subst hp
  exact own_go (fun _ k => XS.ifNo X.here hx rfl hd rfl hc k) k
theorem s_icmpN (X : Stand p l e R s m args below meth c T locs cells slots) (hx : p.tables.exec = Jvm.exec) {pc pc' : Nat} {Ls : Array Slot} {st : List Value} {cd : ClassFile.Cond} {x y : Int32} {o : Int} (hd : decode c.code pc = .ok (.if_icmp cd o, 3)) (hp : pc + 3 = pc') (hc : if_icmp.holds cd x y = false)
    (k : Goes p e below G (T.setTop (mkF m pc' Ls (st)))) : Goes p e below G (T.setTop (mkF m pc Ls (.int y :: .int x :: st))) := by
  subst hp
  exact own_go (fun _ k => XS.icmpNo X.here hx rfl hd rfl hc k) k
theorem s_acmpN (X : Stand p l e R s m args below meth c T locs cells slots) (hx : p.tables.exec = Jvm.exec) {pc pc' : Nat} {Ls : Array Slot} {st : List Value} {cd : ClassFile.ACond} {x y : Value} {o : Int} (hd : decode c.code pc = .ok (.if_acmp cd o, 3)) (hp : pc + 3 = pc') (h1 : x.isRef = true) (h2 : y.isRef = true) (hc : XT.acmp cd x y = false)
    (k : Goes p e below G (T.setTop (mkF m pc' Ls (st)))) : Goes p e below G (T.setTop (mkF m pc Ls (y :: x :: st))) := by
  subst hp
  exact own_go (fun _ k => XT.acmpNo X.here hx rfl hd rfl h1 h2 hc k) k
theorem s_nullN (X : Stand p l e R s m args below meth c T locs cells slots) (hx : p.tables.exec = Jvm.exec) {pc pc' : Nat} {Ls : Array Slot} {st : List Value} {b : Addr} {o : Int} (hd : decode c.code pc = .ok (.ifnull o, 3)) (hp : pc + 3 = pc') 
    (k : Goes p e below G (T.setTop (mkF m pc' Ls (st)))) : Goes p e below G (T.setTop (mkF m pc Ls (.ref b :: st))) := by
  subst hp
  exact own_go (fun _ k => XS.ifnullNo X.here hx rfl hd rfl k) k
end Own
theorem iy_lt {x : Int32} (h : x < 0) : ifCond.holds .lt x = true := by rw [if0]; exact (tlt h).1
theorem in_lt {x : Int32} (h : ¬ x < 0) : ifCond.holds .lt x = false := by rw [if0]; exact (flt h).1
theorem iy_ge {x : Int32} (h : ¬ x < 0) : ifCond.holds .ge x = true := by rw [if0]; exact (flt h).2.1
theorem in_ge {x : Int32} (h : x < 0) : ifCond.holds .ge x = false := by rw [if0]; exact (tlt h).2.1
theorem iy_gt {x : Int32} (h : 0 < x) : ifCond.holds .gt x = true := by rw [if0]; exact (tlt h).2.2.1
theorem in_gt {x : Int32} (h : ¬ 0 < x) : ifCond.holds .gt x = false := by rw [if0]; exact (flt h).2.2.1
theorem iy_le {x : Int32} (h : ¬ 0 < x) : ifCond.holds .le x = true := by rw [if0]; exact (flt h).2.2.2
theorem in_le {x : Int32} (h : 0 < x) : ifCond.holds .le x = false := by rw [if0]; exact (tlt h).2.2.2
theorem iy_eq {x : Int32} (h : x = 0) : ifCond.holds .eq x = true := by rw [if0]; exact (teq h).1
theorem in_eq {x : Int32} (h : ¬ x = 0) : ifCond.holds .eq x = false := by rw [if0]; exact (feq h).1
theorem iy_ne {x : Int32} (h : ¬ x = 0) : ifCond.holds .ne x = true := by rw [if0]; exact (feq h).2
theorem in_ne {x : Int32} (h : x = 0) : ifCond.holds .ne x = false := by rw [if0]; exact (teq h).2
theorem cy_lt {x y : Int32} (h : x < y) : if_icmp.holds .lt x y = true := (tlt h).1
theorem cn_lt {x y : Int32} (h : ¬ x < y) : if_icmp.holds .lt x y = false := (flt h).1
theorem cy_ge {x y : Int32} (h : ¬ x < y) : if_icmp.holds .ge x y = true := (flt h).2.1
theorem cn_ge {x y : Int32} (h : x < y) : if_icmp.holds .ge x y = false := (tlt h).2.1
theorem cy_gt {x y : Int32} (h : y < x) : if_icmp.holds .gt x y = true := (tlt h).2.2.1
theorem cn_gt {x y : Int32} (h : ¬ y < x) : if_icmp.holds .gt x y = false := (flt h).2.2.1
theorem cy_le {x y : Int32} (h : ¬ y < x) : if_icmp.holds .le x y = true := (flt h).2.2.2
theorem cn_le {x y : Int32} (h : y < x) : if_icmp.holds .le x y = false := (tlt h).2.2.2
theorem cy_eq {x y : Int32} (h : x = y) : if_icmp.holds .eq x y = true := (teq h).1
theorem cn_eq {x y : Int32} (h : ¬ x = y) : if_icmp.holds .eq x y = false := (feq h).1
theorem cy_ne {x y : Int32} (h : ¬ x = y) : if_icmp.holds .ne x y = true := (feq h).2
theorem cn_ne {x y : Int32} (h : x = y) : if_icmp.holds .ne x y = false := (teq h).2
theorem own_ge0 {n : Int32} (h : 0 ≤ n.toInt) (o : CmpOp) : ¬ cmpValue (FP.dcmp (FP.i2d n) 0) o < 0 := by
  have z : FP.Core.DInt 0 0 := by
    have h := FP.Core.i2d_int 0
    rw [show FP.Core.i2d 0 = 0 by decide +kernel] at h; exact h
  rw [show FP.dcmp (FP.i2d n) 0 = some (compare n.toInt 0) from FP.Core.dcmp_int (FP.Core.i2d_int n) z, FP.Core.compare_ite, if_neg (by omega)]
  split <;> cases o <;> decide
theorem own_mask (d : Int32) : 0 ≤ (d &&& (2147483647 : Int32)).toInt := by
  have k1 := c_mask d 2147483647 31 (by decide) (by decide)
  rw [k1]; omega
theorem ay_ne {a b : Addr} (h : ¬ a = b) : XT.acmp .ne (.ref a) (.ref b) = true := by show decide (_ ≠ _) = true; simp [h]
theorem d1_0 : decode prog_14_method_1_code 0 = .ok (.aload_n 0, 1) := by decide +kernel
theorem d1_1 : decode prog_14_method_1_code 1 = .ok (.invokespecial 1, 3) := by decide +kernel
theorem d1_4 : decode prog_14_method_1_code 4 = .ok (.aload_n 0, 1) := by decide +kernel
theorem d1_5 : decode prog_14_method_1_code 5 = .ok (.dload_n 1, 1) := by decide +kernel
theorem d1_6 : decode prog_14_method_1_code 6 = .ok (.putfield 7, 3) := by decide +kernel
theorem d1_9 : decode prog_14_method_1_code 9 = .ok (.aload_n 0, 1) := by decide +kernel
theorem d1_10 : decode prog_14_method_1_code 10 = .ok (.dload_n 3, 1) := by decide +kernel
theorem d1_11 : decode prog_14_method_1_code 11 = .ok (.putfield 13, 3) := by decide +kernel
theorem d1_14 : decode prog_14_method_1_code 14 = .ok (.aload_n 0, 1) := by decide +kernel
theorem d1_15 : decode prog_14_method_1_code 15 = .ok (.dload 5, 2) := by decide +kernel
theorem d1_17 : decode prog_14_method_1_code 17 = .ok (.putfield 16, 3) := by decide +kernel
theorem d1_20 : decode prog_14_method_1_code 20 = .ok (.aload_n 0, 1) := by decide +kernel
theorem d1_21 : decode prog_14_method_1_code 21 = .ok (.dload 7, 2) := by decide +kernel
theorem d1_23 : decode prog_14_method_1_code 23 = .ok (.putfield 19, 3) := by decide +kernel
theorem d1_26 : decode prog_14_method_1_code 26 = .ok (.return_, 1) := by decide +kernel
theorem pn_1 : plainName "com/example/slewstone/slewstone/control/AttitudeQuaternion" = true := by first | (simp [plainName, overriddenIn]; done) | decide +kernel
theorem ef_1 (z0 : Addr) (z1 : UInt64) (z2 : UInt64) (z3 : UInt64) (z4 : UInt64) (m : MethodId) : entryFrame m #[.ref z0, .double z1, .double z2, .double z3, .double z4] 9 = mkF m 0 #[.val (.ref z0), .val (.double z1), .second, .val (.double z2), .second, .val (.double z3), .second, .val (.double z4), .second] [] := by first | (simp [entryFrame, mkF, argsToLocals, Value.category, maxLocals]; done) | rfl
set_option maxRecDepth 65536 in
set_option maxHeartbeats 40000000 in
theorem rm_1 (l : Launch) (Z : State) (a0 : Array Value) (hw : ∀ d ∈ tables_1, d.before a0 Z = true) (ws : List Jvm.Cond) (a : Addr) (x0 : UInt64) (x1 : UInt64) (x2 : UInt64) (x3 : UInt64) (vo0 : Value) (vo1 : Value) (vo2 : Value) (vo3 : Value) (h0 : Heap) (n0 : Nat) (Z0 : n0 ≤ h0.size) (Ea : Exa Z h0 a "com/example/slewstone/slewstone/control/AttitudeQuaternion") (Gq1 : (Fld Z h0 a "com/example/slewstone/slewstone/control/AttitudeQuaternion" "q1" "D" vo0)) (Gq2 : (Fld Z h0 a "com/example/slewstone/slewstone/control/AttitudeQuaternion" "q2" "D" vo1)) (Gq3 : (Fld Z h0 a "com/example/slewstone/slewstone/control/AttitudeQuaternion" "q3" "D" vo2)) (Gq4 : (Fld Z h0 a "com/example/slewstone/slewstone/control/AttitudeQuaternion" "q4" "D" vo3)) (ga : n0 ≤ a) :
    OwnMet l Z (⟨"com/example/slewstone/slewstone/control/AttitudeQuaternion", "<init>", "(DDDD)V"⟩ : MethodName) prog_14_method_1_code 9 none ws ({ frames := 1, cells := 0, slots := 0, locals := 12 } : Room) #[.ref a, .double x0, .double x1, .double x2, .double x3] h0 (fun v h L => v = none ∧ Fr n0 L ∧ Keep h0 h [a] ∧ Exa Z h a "com/example/slewstone/slewstone/control/AttitudeQuaternion" ∧ (Fld Z h a "com/example/slewstone/slewstone/control/AttitudeQuaternion" "q1" "D" (.double x0)) ∧ (Fld Z h a "com/example/slewstone/slewstone/control/AttitudeQuaternion" "q2" "D" (.double x1)) ∧ (Fld Z h a "com/example/slewstone/slewstone/control/AttitudeQuaternion" "q3" "D" (.double x2)) ∧ (Fld Z h a "com/example/slewstone/slewstone/control/AttitudeQuaternion" "q4" "D" (.double x3))) := by
  refine own_met (plainFor_of_name pn_1) (ef_1 a x0 x1 x2 x3) ?_
  intro p e s m below meth c s₁ hx hby hml hZ hown hnm hret hlk X0 e0
  have N0 := Fr.nil n0
  refine s_aloadN X0 hx (hb hby d1_0) (pc' := 1) rfl rfl rfl ?_
  refine s_initO X0 hx hZ hown (hw _ (List.mem_of_getElem? (i := 7) rfl)) (hw _ (List.mem_of_getElem? (i := 8) rfl)) (hw _ (List.mem_of_getElem? (i := 9) rfl)) e0 (hb hby d1_1) (pc' := 4) rfl (by rw [hml]; rfl) (by decide) (W := 0) (Nat.le_of_eq rfl) (by decide) ?_
  intro T1 X1 e1
  refine s_aloadN X1 hx (hb hby d1_4) (pc' := 5) rfl rfl rfl ?_
  refine s_dloadN X1 hx (hb hby d1_5) (pc' := 6) rfl rfl ?_
  refine s_putF X1 hx hZ hown (hw _ (List.mem_of_getElem? (i := 10) rfl)) e1 Gq1 Ea (Or.inr ⟨(hw _ (List.mem_of_getElem? (i := 11) rfl)), rfl, hnm⟩) (hw _ (List.mem_of_getElem? (i := 2) rfl)) (ty := .double) (by decide) rfl rfl (hb hby d1_6) (pc' := 9) rfl ?_
  intro T2 h2 X2 e2 W2
  have N2 := Fr.snoc X2 N0 ga
  have F2 := Gq1.same W2
  have H2 : h0.size ≤ h2.size := by rw [W2.size]; exact (Nat.le_refl _)
  refine s_aloadN X2 hx (hb hby d1_9) (pc' := 10) rfl rfl rfl ?_
  refine s_dloadN X2 hx (hb hby d1_10) (pc' := 11) rfl rfl ?_
  have fF3 := (Gq2.other W2 (Or.inr (slot_ne (C := "com/example/slewstone/slewstone/control/AttitudeQuaternion") (t := .double) (t' := .double) (Or.inr (hw _ (List.mem_of_getElem? (i := 13) rfl))) (Or.inr (hw _ (List.mem_of_getElem? (i := 11) rfl))) (by decide) (by decide) (by decide))))
  have fE4 := (Ea.wr W2)
  refine s_putF X2 hx hZ hown (hw _ (List.mem_of_getElem? (i := 12) rfl)) e2 fF3 fE4 (Or.inr ⟨(hw _ (List.mem_of_getElem? (i := 13) rfl)), rfl, hnm⟩) (hw _ (List.mem_of_getElem? (i := 2) rfl)) (ty := .double) (by decide) rfl rfl (hb hby d1_11) (pc' := 14) rfl ?_
  intro T5 h5 X5 e5 W5
  have N5 := Fr.snoc X5 N2 ga
  have F5 := fF3.same W5
  have H5 : h0.size ≤ h5.size := by rw [W5.size]; exact H2
  refine s_aloadN X5 hx (hb hby d1_14) (pc' := 15) rfl rfl rfl ?_
  refine s_dload X5 hx (hb hby d1_15) (pc' := 17) rfl rfl ?_
  have fF6 := ((Gq3.other W2 (Or.inr (slot_ne (C := "com/example/slewstone/slewstone/control/AttitudeQuaternion") (t := .double) (t' := .double) (Or.inr (hw _ (List.mem_of_getElem? (i := 15) rfl))) (Or.inr (hw _ (List.mem_of_getElem? (i := 11) rfl))) (by decide) (by decide) (by decide)))).other W5 (Or.inr (slot_ne (C := "com/example/slewstone/slewstone/control/AttitudeQuaternion") (t := .double) (t' := .double) (Or.inr (hw _ (List.mem_of_getElem? (i := 15) rfl))) (Or.inr (hw _ (List.mem_of_getElem? (i := 13) rfl))) (by decide) (by decide) (by decide))))
  have fE7 := (fE4.wr W5)
  refine s_putF X5 hx hZ hown (hw _ (List.mem_of_getElem? (i := 14) rfl)) e5 fF6 fE7 (Or.inr ⟨(hw _ (List.mem_of_getElem? (i := 15) rfl)), rfl, hnm⟩) (hw _ (List.mem_of_getElem? (i := 2) rfl)) (ty := .double) (by decide) rfl rfl (hb hby d1_17) (pc' := 20) rfl ?_
  intro T8 h8 X8 e8 W8
  have N8 := Fr.snoc X8 N5 ga
  have F8 := fF6.same W8
  have H8 : h0.size ≤ h8.size := by rw [W8.size]; exact H5
  refine s_aloadN X8 hx (hb hby d1_20) (pc' := 21) rfl rfl rfl ?_
  refine s_dload X8 hx (hb hby d1_21) (pc' := 23) rfl rfl ?_
  have fF9 := (((Gq4.other W2 (Or.inr (slot_ne (C := "com/example/slewstone/slewstone/control/AttitudeQuaternion") (t := .double) (t' := .double) (Or.inr (hw _ (List.mem_of_getElem? (i := 17) rfl))) (Or.inr (hw _ (List.mem_of_getElem? (i := 11) rfl))) (by decide) (by decide) (by decide)))).other W5 (Or.inr (slot_ne (C := "com/example/slewstone/slewstone/control/AttitudeQuaternion") (t := .double) (t' := .double) (Or.inr (hw _ (List.mem_of_getElem? (i := 17) rfl))) (Or.inr (hw _ (List.mem_of_getElem? (i := 13) rfl))) (by decide) (by decide) (by decide)))).other W8 (Or.inr (slot_ne (C := "com/example/slewstone/slewstone/control/AttitudeQuaternion") (t := .double) (t' := .double) (Or.inr (hw _ (List.mem_of_getElem? (i := 17) rfl))) (Or.inr (hw _ (List.mem_of_getElem? (i := 15) rfl))) (by decide) (by decide) (by decide))))
  have fE10 := (fE7.wr W8)
  refine s_putF X8 hx hZ hown (hw _ (List.mem_of_getElem? (i := 16) rfl)) e8 fF9 fE10 (Or.inr ⟨(hw _ (List.mem_of_getElem? (i := 17) rfl)), rfl, hnm⟩) (hw _ (List.mem_of_getElem? (i := 2) rfl)) (ty := .double) (by decide) rfl rfl (hb hby d1_23) (pc' := 26) rfl ?_
  intro T11 h11 X11 e11 W11
  have N11 := Fr.snoc X11 N8 ga
  have F11 := fF9.same W11
  have H11 : h0.size ≤ h11.size := by rw [W11.size]; exact H8
  have KK12 : Keep h0 h11 [a] := (((((Keep.refl _ _).wr W2 (Or.inl (List.mem_of_getElem? (i := 0) rfl))).wr W5 (Or.inl (List.mem_of_getElem? (i := 0) rfl))).wr W8 (Or.inl (List.mem_of_getElem? (i := 0) rfl))).wr W11 (Or.inl (List.mem_of_getElem? (i := 0) rfl)))
  have fE13 := (fE10.wr W11)
  have fF14 := (((F2.other W5 (Or.inr (slot_ne (C := "com/example/slewstone/slewstone/control/AttitudeQuaternion") (t := .double) (t' := .double) (Or.inr (hw _ (List.mem_of_getElem? (i := 11) rfl))) (Or.inr (hw _ (List.mem_of_getElem? (i := 13) rfl))) (by decide) (by decide) (by decide)))).other W8 (Or.inr (slot_ne (C := "com/example/slewstone/slewstone/control/AttitudeQuaternion") (t := .double) (t' := .double) (Or.inr (hw _ (List.mem_of_getElem? (i := 11) rfl))) (Or.inr (hw _ (List.mem_of_getElem? (i := 15) rfl))) (by decide) (by decide) (by decide)))).other W11 (Or.inr (slot_ne (C := "com/example/slewstone/slewstone/control/AttitudeQuaternion") (t := .double) (t' := .double) (Or.inr (hw _ (List.mem_of_getElem? (i := 11) rfl))) (Or.inr (hw _ (List.mem_of_getElem? (i := 17) rfl))) (by decide) (by decide) (by decide))))
  have fF15 := ((F5.other W8 (Or.inr (slot_ne (C := "com/example/slewstone/slewstone/control/AttitudeQuaternion") (t := .double) (t' := .double) (Or.inr (hw _ (List.mem_of_getElem? (i := 13) rfl))) (Or.inr (hw _ (List.mem_of_getElem? (i := 15) rfl))) (by decide) (by decide) (by decide)))).other W11 (Or.inr (slot_ne (C := "com/example/slewstone/slewstone/control/AttitudeQuaternion") (t := .double) (t' := .double) (Or.inr (hw _ (List.mem_of_getElem? (i := 13) rfl))) (Or.inr (hw _ (List.mem_of_getElem? (i := 17) rfl))) (by decide) (by decide) (by decide))))
  have fF16 := (F8.other W11 (Or.inr (slot_ne (C := "com/example/slewstone/slewstone/control/AttitudeQuaternion") (t := .double) (t' := .double) (Or.inr (hw _ (List.mem_of_getElem? (i := 15) rfl))) (Or.inr (hw _ (List.mem_of_getElem? (i := 17) rfl))) (by decide) (by decide) (by decide))))
  exact s_ret X11 hx hlk hret (hb hby d1_26) (by decide) (by decide) (by rw [e11]; exact ⟨rfl, N11, KK12, fE13, fF14, fF15, fF16, F11⟩)
theorem d3_0 : decode prog_14_method_5_code 0 = .ok (.iconst 4, 1) := by decide +kernel
theorem d3_1 : decode prog_14_method_5_code 1 = .ok (.newarray .double, 2) := by decide +kernel
theorem d3_3 : decode prog_14_method_5_code 3 = .ok (.dup, 1) := by decide +kernel
theorem d3_4 : decode prog_14_method_5_code 4 = .ok (.iconst 0, 1) := by decide +kernel
theorem d3_5 : decode prog_14_method_5_code 5 = .ok (.aload_n 0, 1) := by decide +kernel
theorem d3_6 : decode prog_14_method_5_code 6 = .ok (.getfield 7, 3) := by decide +kernel
theorem d3_9 : decode prog_14_method_5_code 9 = .ok (.dastore, 1) := by decide +kernel
theorem d3_10 : decode prog_14_method_5_code 10 = .ok (.dup, 1) := by decide +kernel
theorem d3_11 : decode prog_14_method_5_code 11 = .ok (.iconst 1, 1) := by decide +kernel
theorem d3_12 : decode prog_14_method_5_code 12 = .ok (.aload_n 0, 1) := by decide +kernel
theorem d3_13 : decode prog_14_method_5_code 13 = .ok (.getfield 13, 3) := by decide +kernel
theorem d3_16 : decode prog_14_method_5_code 16 = .ok (.dastore, 1) := by decide +kernel
theorem d3_17 : decode prog_14_method_5_code 17 = .ok (.dup, 1) := by decide +kernel
theorem d3_18 : decode prog_14_method_5_code 18 = .ok (.iconst 2, 1) := by decide +kernel
theorem d3_19 : decode prog_14_method_5_code 19 = .ok (.aload_n 0, 1) := by decide +kernel
theorem d3_20 : decode prog_14_method_5_code 20 = .ok (.getfield 16, 3) := by decide +kernel
theorem d3_23 : decode prog_14_method_5_code 23 = .ok (.dastore, 1) := by decide +kernel
theorem d3_24 : decode prog_14_method_5_code 24 = .ok (.dup, 1) := by decide +kernel
theorem d3_25 : decode prog_14_method_5_code 25 = .ok (.iconst 3, 1) := by decide +kernel
theorem d3_26 : decode prog_14_method_5_code 26 = .ok (.aload_n 0, 1) := by decide +kernel
theorem d3_27 : decode prog_14_method_5_code 27 = .ok (.getfield 19, 3) := by decide +kernel
theorem d3_30 : decode prog_14_method_5_code 30 = .ok (.dastore, 1) := by decide +kernel
theorem d3_31 : decode prog_14_method_5_code 31 = .ok (.areturn, 1) := by decide +kernel
theorem pn_3 : plainName "com/example/slewstone/slewstone/control/AttitudeQuaternion" = true := by first | (simp [plainName, overriddenIn]; done) | decide +kernel
theorem ef_3 (z0 : Addr) (m : MethodId) : entryFrame m #[.ref z0] 1 = mkF m 0 #[.val (.ref z0)] [] := by first | (simp [entryFrame, mkF, argsToLocals, Value.category, maxLocals]; done) | rfl
set_option maxRecDepth 65536 in
set_option maxHeartbeats 40000000 in
theorem rm_3 (l : Launch) (Z : State) (a0 : Array Value) (hw : ∀ d ∈ tables_1, d.before a0 Z = true) (ws : List Jvm.Cond) (a : Addr) (x0 : UInt64) (x1 : UInt64) (x2 : UInt64) (x3 : UInt64) (h0 : Heap) (n0 : Nat) (Z0 : n0 ≤ h0.size) (Gq1 : (Fld Z h0 a "com/example/slewstone/slewstone/control/AttitudeQuaternion" "q1" "D" (.double x0))) (Gq2 : (Fld Z h0 a "com/example/slewstone/slewstone/control/AttitudeQuaternion" "q2" "D" (.double x1))) (Gq3 : (Fld Z h0 a "com/example/slewstone/slewstone/control/AttitudeQuaternion" "q3" "D" (.double x2))) (Gq4 : (Fld Z h0 a "com/example/slewstone/slewstone/control/AttitudeQuaternion" "q4" "D" (.double x3))) :
    OwnMet l Z (⟨"com/example/slewstone/slewstone/control/AttitudeQuaternion", "components", "()[D"⟩ : MethodName) prog_14_method_5_code 1 (some (.array .double)) ws ({ frames := 0, cells := 1, slots := 4, locals := 0 } : Room) #[.ref a] h0 (fun v h L => ∃ (r : Addr) (kk : ClassId), v = some (.ref r) ∧ Fr n0 L ∧ Keep h0 h [] ∧ h0.size ≤ r ∧ Arv Z h r kk .double (4 : Int32) [.double x0, .double x1, .double x2, .double x3] (.double 0)) := by
  refine own_met (plainFor_of_name pn_3) (ef_3 a) ?_
  intro p e s m below meth c s₁ hx hby hml hZ hown hnm hret hlk X0 e0
  have N0 := Fr.nil n0
  refine s_iconst X0 hx (4 : Int32) (hb hby d3_0) (pc' := 1) rfl rfl ?_
  refine s_newP X0 hx hZ (hw _ (List.mem_of_getElem? (i := 23) rfl)) e0 (hb hby d3_1) (pc' := 3) rfl (by decide) 4 (by decide) (by decide) (by decide) (by decide) (ad := "[D") (by decide) ?_
  intro T1 h1 c1 o1 X1 e1 E1 g1 V1 Ex1
  have ne1_a : a ≠ o1 := Nat.ne_of_lt (by rw [g1]; exact Gq1.lt)
  have hg1 : h0.size ≤ o1 := by rw [g1]; exact (Nat.le_refl _)
  have H1 : h0.size ≤ h1.size := Nat.le_trans (Nat.le_refl _) E1.1
  have U1 : Arv Z h1 o1 c1 .double (4 : Int32) [.double 0, .double 0, .double 0, .double 0] (.double 0) := V1.pad (pad_rep [] _ 4)
  refine s_dup X1 hx (hb hby d3_3) (pc' := 4) rfl rfl ?_
  refine s_iconst X1 hx (0 : Int32) (hb hby d3_4) (pc' := 5) rfl rfl ?_
  refine s_aloadN X1 hx (hb hby d3_5) (pc' := 6) rfl rfl rfl ?_
  have fF2 := (Gq1.ext E1)
  refine s_getF X1 hx hZ hown (hw _ (List.mem_of_getElem? (i := 10) rfl)) e1 fF2 (hb hby d3_6) (pc' := 9) rfl ?_
  intro T3 X3 e3
  refine s_dastore X3 hx hZ e3 U1 (by decide) 0 (by decide) (by simp) (hb hby d3_9) (pc' := 10) rfl ?_
  intro T4 h4 X4 e4 W4 V4
  have N4 := Fr.snoc X4 N0 (Nat.le_trans Z0 hg1)
  have U4 : Arv Z h4 o1 c1 .double (4 : Int32) [.double x0, .double 0, .double 0, .double 0] (.double 0) := V4
  have H4 : h0.size ≤ h4.size := by rw [W4.size]; exact H1
  refine s_dup X4 hx (hb hby d3_10) (pc' := 11) rfl rfl ?_
  refine s_iconst X4 hx (1 : Int32) (hb hby d3_11) (pc' := 12) rfl rfl ?_
  refine s_aloadN X4 hx (hb hby d3_12) (pc' := 13) rfl rfl rfl ?_
  have fF5 := ((Gq2.ext E1).other W4 (Or.inl ne1_a))
  refine s_getF X4 hx hZ hown (hw _ (List.mem_of_getElem? (i := 12) rfl)) e4 fF5 (hb hby d3_13) (pc' := 16) rfl ?_
  intro T6 X6 e6
  refine s_dastore X6 hx hZ e6 U4 (by decide) 1 (by decide) (by simp) (hb hby d3_16) (pc' := 17) rfl ?_
  intro T7 h7 X7 e7 W7 V7
  have N7 := Fr.snoc X7 N4 (Nat.le_trans Z0 hg1)
  have U7 : Arv Z h7 o1 c1 .double (4 : Int32) [.double x0, .double x1, .double 0, .double 0] (.double 0) := V7
  have H7 : h0.size ≤ h7.size := by rw [W7.size]; exact H4
  refine s_dup X7 hx (hb hby d3_17) (pc' := 18) rfl rfl ?_
  refine s_iconst X7 hx (2 : Int32) (hb hby d3_18) (pc' := 19) rfl rfl ?_
  refine s_aloadN X7 hx (hb hby d3_19) (pc' := 20) rfl rfl rfl ?_
  have fF8 := (((Gq3.ext E1).other W4 (Or.inl ne1_a)).other W7 (Or.inl ne1_a))
  refine s_getF X7 hx hZ hown (hw _ (List.mem_of_getElem? (i := 14) rfl)) e7 fF8 (hb hby d3_20) (pc' := 23) rfl ?_
  intro T9 X9 e9
  refine s_dastore X9 hx hZ e9 U7 (by decide) 2 (by decide) (by simp) (hb hby d3_23) (pc' := 24) rfl ?_
  intro T10 h10 X10 e10 W10 V10
  have N10 := Fr.snoc X10 N7 (Nat.le_trans Z0 hg1)
  have U10 : Arv Z h10 o1 c1 .double (4 : Int32) [.double x0, .double x1, .double x2, .double 0] (.double 0) := V10
  have H10 : h0.size ≤ h10.size := by rw [W10.size]; exact H7
  refine s_dup X10 hx (hb hby d3_24) (pc' := 25) rfl rfl ?_
  refine s_iconst X10 hx (3 : Int32) (hb hby d3_25) (pc' := 26) rfl rfl ?_
  refine s_aloadN X10 hx (hb hby d3_26) (pc' := 27) rfl rfl rfl ?_
  have fF11 := ((((Gq4.ext E1).other W4 (Or.inl ne1_a)).other W7 (Or.inl ne1_a)).other W10 (Or.inl ne1_a))
  refine s_getF X10 hx hZ hown (hw _ (List.mem_of_getElem? (i := 16) rfl)) e10 fF11 (hb hby d3_27) (pc' := 30) rfl ?_
  intro T12 X12 e12
  refine s_dastore X12 hx hZ e12 U10 (by decide) 3 (by decide) (by simp) (hb hby d3_30) (pc' := 31) rfl ?_
  intro T13 h13 X13 e13 W13 V13
  have N13 := Fr.snoc X13 N10 (Nat.le_trans Z0 hg1)
  have U13 : Arv Z h13 o1 c1 .double (4 : Int32) [.double x0, .double x1, .double x2, .double x3] (.double 0) := V13
  have H13 : h0.size ≤ h13.size := by rw [W13.size]; exact H10
  have KK14 : Keep h0 h13 [] := ((((((Keep.refl _ _).ext E1).wr W4 (Or.inr hg1)).wr W7 (Or.inr hg1)).wr W10 (Or.inr hg1)).wr W13 (Or.inr hg1))
  exact s_retI X13 hx hlk hret (hb hby d3_31) rfl (Or.inr (Or.inr (Or.inr (Or.inr ⟨rfl, rfl, rfl⟩)))) (by decide) (by decide) (by rw [e13]; exact ⟨_, _, rfl, N13, KK14, hg1, U13⟩)
theorem pn_0 : plainName "com/example/slewstone/slewstone/control/AttitudeQuaternionComponentsPinLaw" = true := by first | (simp [plainName, overriddenIn]; done) | decide +kernel
def Q0 (n0 : Nat) (v : Option Value) (h : Heap) (L : List Loc) : Prop := v = some (.int 1) ∧ Fr n0 L
theorem pd_0 : parseMethodDescriptor "(DDDD)V" = some ⟨[.double, .double, .double, .double], none⟩ := by decide +kernel
theorem pd_1 : parseMethodDescriptor "()[D" = some ⟨[], some (.array .double)⟩ := by decide +kernel
theorem ef_0 (z0 : Int32) (z1 : Int32) (z2 : Int32) (z3 : Int32) (m : MethodId) : entryFrame m #[.int z0, .int z1, .int z2, .int z3] maxLocals = mkF m 0 #[.val (.int z0), .val (.int z1), .val (.int z2), .val (.int z3), .unset, .unset, .unset, .unset, .unset, .unset, .unset, .unset, .unset, .unset, .unset, .unset, .unset] [] := by first | (simp [entryFrame, mkF, argsToLocals, Value.category, maxLocals]; done) | rfl
set_option maxRecDepth 65536 in
set_option maxHeartbeats 40000000 in
theorem rm_0 (l : Launch) (Z : State) (a0 : Array Value) (hw : ∀ d ∈ tables_1, d.before a0 Z = true) (ws : List Jvm.Cond) (p0 : Int32) (p1 : Int32) (p2 : Int32) (p3 : Int32) (h0 : Heap) (n0 : Nat) (Z0 : n0 ≤ h0.size)  :
    OwnMet l Z x code maxLocals ret ws room_1 #[.int p0, .int p1, .int p2, .int p3] h0 (Q0 n0) := by
  refine own_met (plainFor_of_name pn_0) (ef_0 p0 p1 p2 p3) ?_
  intro p e s m below meth c s₁ hx hby hml hZ hown hnm hret hlk X0 e0
  have N0 := Fr.nil n0
  refine s_iloadN X0 hx (hb hby at_0) (pc' := 1) rfl rfl ?_
  refine s_i2d X0 hx (hb hby at_1) (pc' := 2) rfl ?_
  refine s_dstore X0 hx #[.val (.int p0), .val (.int p1), .val (.int p2), .val (.int p3), .val (.double (FP.i2d p0)), .second, .unset, .unset, .unset, .unset, .unset, .unset, .unset, .unset, .unset, .unset, .unset] (hb hby at_2) (pc' := 4) rfl rfl ?_
  refine s_iloadN X0 hx (hb hby at_4) (pc' := 5) rfl rfl ?_
  refine s_i2d X0 hx (hb hby at_5) (pc' := 6) rfl ?_
  refine s_dstore X0 hx #[.val (.int p0), .val (.int p1), .val (.int p2), .val (.int p3), .val (.double (FP.i2d p0)), .second, .val (.double (FP.i2d p1)), .second, .unset, .unset, .unset, .unset, .unset, .unset, .unset, .unset, .unset] (hb hby at_6) (pc' := 8) rfl rfl ?_
  refine s_iloadN X0 hx (hb hby at_8) (pc' := 9) rfl rfl ?_
  refine s_i2d X0 hx (hb hby at_9) (pc' := 10) rfl ?_
  refine s_dstore X0 hx #[.val (.int p0), .val (.int p1), .val (.int p2), .val (.int p3), .val (.double (FP.i2d p0)), .second, .val (.double (FP.i2d p1)), .second, .val (.double (FP.i2d p2)), .second, .unset, .unset, .unset, .unset, .unset, .unset, .unset] (hb hby at_10) (pc' := 12) rfl rfl ?_
  refine s_iloadN X0 hx (hb hby at_12) (pc' := 13) rfl rfl ?_
  refine s_ldcI X0 hx hZ hown (hw _ (List.mem_of_getElem? (i := 0) rfl)) (hb hby at_13) (pc' := 15) rfl ?_
  refine s_iand X0 hx (hb hby at_15) (pc' := 16) rfl ?_
  refine s_i2d X0 hx (hb hby at_16) (pc' := 17) rfl ?_
  refine s_dstore X0 hx #[.val (.int p0), .val (.int p1), .val (.int p2), .val (.int p3), .val (.double (FP.i2d p0)), .second, .val (.double (FP.i2d p1)), .second, .val (.double (FP.i2d p2)), .second, .val (.double (FP.i2d (p3 &&& (2147483647 : Int32)))), .second, .unset, .unset, .unset, .unset, .unset] (hb hby at_17) (pc' := 19) rfl rfl ?_
  have hd3 := own_mask p3
  generalize ed3 : (p3 &&& (2147483647 : Int32)) = d3
  rw [ed3] at hd3
  refine s_new X0 hx hZ hown (hw _ (List.mem_of_getElem? (i := 1) rfl)) (hw _ (List.mem_of_getElem? (i := 2) rfl)) (hw _ (List.mem_of_getElem? (i := 3) rfl)) e0 (hb hby at_19) (pc' := 22) rfl (by decide) (by decide) ?_
  intro T1 h1 o1 X1 e1 E1 g1 A1 D1
  have hg1 : h0.size ≤ o1 := by rw [g1]; exact (Nat.le_refl _)
  have H1 : h0.size ≤ h1.size := Nat.le_trans (Nat.le_refl _) E1.1
  have F1_q1 := D1 (O := "com/example/slewstone/slewstone/control/AttitudeQuaternion") (nm := "q1") (d := "D") (Or.inr (hw _ (List.mem_of_getElem? (i := 11) rfl))) (ty := .double) (by decide)
  have F1_q2 := D1 (O := "com/example/slewstone/slewstone/control/AttitudeQuaternion") (nm := "q2") (d := "D") (Or.inr (hw _ (List.mem_of_getElem? (i := 13) rfl))) (ty := .double) (by decide)
  have F1_q3 := D1 (O := "com/example/slewstone/slewstone/control/AttitudeQuaternion") (nm := "q3") (d := "D") (Or.inr (hw _ (List.mem_of_getElem? (i := 15) rfl))) (ty := .double) (by decide)
  have F1_q4 := D1 (O := "com/example/slewstone/slewstone/control/AttitudeQuaternion") (nm := "q4") (d := "D") (Or.inr (hw _ (List.mem_of_getElem? (i := 17) rfl))) (ty := .double) (by decide)
  refine s_dup X1 hx (hb hby at_22) (pc' := 23) rfl rfl ?_
  refine s_dload X1 hx (hb hby at_23) (pc' := 25) rfl rfl ?_
  refine s_dload X1 hx (hb hby at_25) (pc' := 27) rfl rfl ?_
  refine s_dload X1 hx (hb hby at_27) (pc' := 29) rfl rfl ?_
  refine s_dload X1 hx (hb hby at_29) (pc' := 31) rfl rfl ?_
  refine c_special X1 hx hZ rfl hown (hw _ (List.mem_of_getElem? (i := 4) rfl)) (hw _ (List.mem_of_getElem? (i := 5) rfl)) (hw _ (List.mem_of_getElem? (i := 3) rfl)) (hw _ (List.mem_of_getElem? (i := 6) rfl)) (by decide) e1 (rm_1 l Z a0 hw [] o1 (FP.i2d p0) (FP.i2d p1) (FP.i2d p2) (FP.i2d d3) _ _ _ _ h1 n0 (Nat.le_trans Z0 H1) A1 F1_q1 F1_q2 F1_q3 F1_q4 (Nat.le_trans Z0 hg1)) (W := 1) (by decide) (by decide) (by decide) (by decide) (by rw [hml]; rfl) (argsL := [.double (FP.i2d p0), .double (FP.i2d p1), .double (FP.i2d p2), .double (FP.i2d d3)]) (rest := [.ref o1]) (a := o1) (lenOf pd_0 rfl) rfl rfl (Nat.le_of_eq rfl) (hb hby at_31) (pc' := 34) rfl ?_
  intro T2 v2 L2 X2 hQ2
  obtain ⟨rfl, Nq2, K2, E2, Fa2, Fb2, Fc2, Fd2⟩ := hQ2
  have N2 := Fr.app N0 Nq2
  have H2 : h0.size ≤ T2.heap.size := Nat.le_trans H1 K2.1
  show Goes p e below _ (T2.setTop (mkF m 34 #[.val (.int p0), .val (.int p1), .val (.int p2), .val (.int p3), .val (.double (FP.i2d p0)), .second, .val (.double (FP.i2d p1)), .second, .val (.double (FP.i2d p2)), .second, .val (.double (FP.i2d d3)), .second, .unset, .unset, .unset, .unset, .unset] [.ref o1]))
  refine s_astore X2 hx #[.val (.int p0), .val (.int p1), .val (.int p2), .val (.int p3), .val (.double (FP.i2d p0)), .second, .val (.double (FP.i2d p1)), .second, .val (.double (FP.i2d p2)), .second, .val (.double (FP.i2d d3)), .second, .val (.ref o1), .unset, .unset, .unset, .unset] (hb hby at_34) (pc' := 36) rfl rfl rfl ?_
  refine s_aload X2 hx (hb hby at_36) (pc' := 38) rfl rfl rfl ?_
  refine c_virtual X2 hx hZ hown (hw _ (List.mem_of_getElem? (i := 18) rfl)) (hw _ (List.mem_of_getElem? (i := 19) rfl)) (hw _ (List.mem_of_getElem? (i := 21) rfl)) (hw _ (List.mem_of_getElem? (i := 20) rfl)) (hw _ (List.mem_of_getElem? (i := 3) rfl)) (hw _ (List.mem_of_getElem? (i := 22) rfl)) (by decide) rfl E2 (rm_3 l Z a0 hw [] o1 (FP.i2d p0) (FP.i2d p1) (FP.i2d p2) (FP.i2d d3) T2.heap n0 (Nat.le_trans Z0 H2) Fa2 Fb2 Fc2 Fd2) (W := 0) (by decide) (by decide) (by decide) (by decide) (by rw [hml]; rfl) (argsL := []) (rest := []) (lenOf pd_1 rfl) rfl rfl (Nat.le_of_eq rfl) (hb hby at_38) (pc' := 41) rfl ?_
  intro T3 v3 L3 X3 hQ3
  obtain ⟨r3, kk3, rfl, Nq3, K3, lo3, V3⟩ := hQ3
  have N3 := Fr.app N2 Nq3
  have H3 : h0.size ≤ T3.heap.size := Nat.le_trans H2 K3.1
  show Goes p e below _ (T3.setTop (mkF m 41 #[.val (.int p0), .val (.int p1), .val (.int p2), .val (.int p3), .val (.double (FP.i2d p0)), .second, .val (.double (FP.i2d p1)), .second, .val (.double (FP.i2d p2)), .second, .val (.double (FP.i2d d3)), .second, .val (.ref o1), .unset, .unset, .unset, .unset] [.ref r3]))
  have ne3_o1 : o1 ≠ r3 := Nat.ne_of_lt (Nat.lt_of_lt_of_le E2.lt lo3)
  have hg3 : h0.size ≤ r3 := Nat.le_trans H2 lo3
  refine s_astore X3 hx #[.val (.int p0), .val (.int p1), .val (.int p2), .val (.int p3), .val (.double (FP.i2d p0)), .second, .val (.double (FP.i2d p1)), .second, .val (.double (FP.i2d p2)), .second, .val (.double (FP.i2d d3)), .second, .val (.ref o1), .val (.ref r3), .unset, .unset, .unset] (hb hby at_41) (pc' := 43) rfl rfl rfl ?_
  refine s_aload X3 hx (hb hby at_43) (pc' := 45) rfl rfl rfl ?_
  refine s_nullN X3 hx (hb hby at_45) (pc' := 48) rfl  ?_
  refine s_aload X3 hx (hb hby at_48) (pc' := 50) rfl rfl rfl ?_
  refine s_len X3 hx hZ rfl V3 (hb hby at_50) (pc' := 51) rfl ?_
  refine s_iconst X3 hx (4 : Int32) (hb hby at_51) (pc' := 52) rfl rfl ?_
  refine s_icmpY X3 hx (hb hby at_52) (by decide) (by decide) (pc' := 57) (by decide) ?_
  refine s_aload X3 hx (hb hby at_57) (pc' := 59) rfl rfl rfl ?_
  refine s_iconst X3 hx (0 : Int32) (hb hby at_59) (pc' := 60) rfl rfl ?_
  refine s_daload X3 hx hZ rfl V3 (by decide) (v := .double (FP.i2d p0)) rfl (hb hby at_60) (pc' := 61) rfl ?_
  refine s_dload X3 hx (hb hby at_61) (pc' := 63) rfl rfl ?_
  refine s_dcmp X3 hx (0 : Int32) (hb hby at_63) (pc' := 64) rfl (dcmpV_self (i2d_fin p0).noNaN _) ?_
  refine s_ifN X3 hx (hb hby at_64) (pc' := 67) rfl (by decide) ?_
  refine s_aload X3 hx (hb hby at_67) (pc' := 69) rfl rfl rfl ?_
  refine s_iconst X3 hx (1 : Int32) (hb hby at_69) (pc' := 70) rfl rfl ?_
  refine s_daload X3 hx hZ rfl V3 (by decide) (v := .double (FP.i2d p1)) rfl (hb hby at_70) (pc' := 71) rfl ?_
  refine s_dload X3 hx (hb hby at_71) (pc' := 73) rfl rfl ?_
  refine s_dcmp X3 hx (0 : Int32) (hb hby at_73) (pc' := 74) rfl (dcmpV_self (i2d_fin p1).noNaN _) ?_
  refine s_ifN X3 hx (hb hby at_74) (pc' := 77) rfl (by decide) ?_
  refine s_aload X3 hx (hb hby at_77) (pc' := 79) rfl rfl rfl ?_
  refine s_iconst X3 hx (2 : Int32) (hb hby at_79) (pc' := 80) rfl rfl ?_
  refine s_daload X3 hx hZ rfl V3 (by decide) (v := .double (FP.i2d p2)) rfl (hb hby at_80) (pc' := 81) rfl ?_
  refine s_dload X3 hx (hb hby at_81) (pc' := 83) rfl rfl ?_
  refine s_dcmp X3 hx (0 : Int32) (hb hby at_83) (pc' := 84) rfl (dcmpV_self (i2d_fin p2).noNaN _) ?_
  refine s_ifN X3 hx (hb hby at_84) (pc' := 87) rfl (by decide) ?_
  refine s_aload X3 hx (hb hby at_87) (pc' := 89) rfl rfl rfl ?_
  refine s_iconst X3 hx (3 : Int32) (hb hby at_89) (pc' := 90) rfl rfl ?_
  refine s_daload X3 hx hZ rfl V3 (by decide) (v := .double (FP.i2d d3)) rfl (hb hby at_90) (pc' := 91) rfl ?_
  refine s_dload X3 hx (hb hby at_91) (pc' := 93) rfl rfl ?_
  refine s_dcmp X3 hx (0 : Int32) (hb hby at_93) (pc' := 94) rfl (dcmpV_self (i2d_fin d3).noNaN _) ?_
  refine s_ifN X3 hx (hb hby at_94) (pc' := 97) rfl (by decide) ?_
  refine s_iconst X3 hx (1 : Int32) (hb hby at_97) (pc' := 98) rfl rfl ?_
  refine s_goto X3 hx (hb hby at_98) (by decide) (pc' := 102) (by decide) ?_
  refine s_istore X3 hx #[.val (.int p0), .val (.int p1), .val (.int p2), .val (.int p3), .val (.double (FP.i2d p0)), .second, .val (.double (FP.i2d p1)), .second, .val (.double (FP.i2d p2)), .second, .val (.double (FP.i2d d3)), .second, .val (.ref o1), .val (.ref r3), .val (.int (1 : Int32)), .unset, .unset] (hb hby at_102) (pc' := 104) rfl rfl ?_
  refine s_aload X3 hx (hb hby at_104) (pc' := 106) rfl rfl rfl ?_
  refine s_iconst X3 hx (0 : Int32) (hb hby at_106) (pc' := 107) rfl rfl ?_
  refine s_dload X3 hx (hb hby at_107) (pc' := 109) rfl rfl ?_
  refine s_dconst1 X3 hx (hb hby at_109) (pc' := 110) rfl ?_
  refine s_dadd X3 hx (FP.dadd (FP.i2d p0) 4607182418800017408) (hb hby at_110) (pc' := 111) rfl (dadd_out (i2d_fin p0).noNaN (by unfold Fin64; decide)) rfl ?_
  refine s_dastore X3 hx hZ rfl V3 (by decide) 0 (by decide) (by simp) (hb hby at_111) (pc' := 112) rfl ?_
  intro T4 h4 X4 e4 W4 V4
  have N4 := Fr.snoc X4 N3 (Nat.le_trans Z0 hg3)
  have U4 : Arv Z h4 r3 kk3 .double (4 : Int32) [.double (FP.dadd (FP.i2d p0) 4607182418800017408), .double (FP.i2d p1), .double (FP.i2d p2), .double (FP.i2d d3)] (.double 0) := V4
  have H4 : h0.size ≤ h4.size := by rw [W4.size]; exact H3
  refine s_aload X4 hx (hb hby at_112) (pc' := 114) rfl rfl rfl ?_
  refine s_iconst X4 hx (1 : Int32) (hb hby at_114) (pc' := 115) rfl rfl ?_
  refine s_dload X4 hx (hb hby at_115) (pc' := 117) rfl rfl ?_
  refine s_dconst1 X4 hx (hb hby at_117) (pc' := 118) rfl ?_
  refine s_dadd X4 hx (FP.dadd (FP.i2d p1) 4607182418800017408) (hb hby at_118) (pc' := 119) rfl (dadd_out (i2d_fin p1).noNaN (by unfold Fin64; decide)) rfl ?_
  refine s_dastore X4 hx hZ e4 U4 (by decide) 1 (by decide) (by simp) (hb hby at_119) (pc' := 120) rfl ?_
  intro T5 h5 X5 e5 W5 V5
  have N5 := Fr.snoc X5 N4 (Nat.le_trans Z0 hg3)
  have U5 : Arv Z h5 r3 kk3 .double (4 : Int32) [.double (FP.dadd (FP.i2d p0) 4607182418800017408), .double (FP.dadd (FP.i2d p1) 4607182418800017408), .double (FP.i2d p2), .double (FP.i2d d3)] (.double 0) := V5
  have H5 : h0.size ≤ h5.size := by rw [W5.size]; exact H4
  refine s_aload X5 hx (hb hby at_120) (pc' := 122) rfl rfl rfl ?_
  refine s_iconst X5 hx (2 : Int32) (hb hby at_122) (pc' := 123) rfl rfl ?_
  refine s_dload X5 hx (hb hby at_123) (pc' := 125) rfl rfl ?_
  refine s_dconst1 X5 hx (hb hby at_125) (pc' := 126) rfl ?_
  refine s_dadd X5 hx (FP.dadd (FP.i2d p2) 4607182418800017408) (hb hby at_126) (pc' := 127) rfl (dadd_out (i2d_fin p2).noNaN (by unfold Fin64; decide)) rfl ?_
  refine s_dastore X5 hx hZ e5 U5 (by decide) 2 (by decide) (by simp) (hb hby at_127) (pc' := 128) rfl ?_
  intro T6 h6 X6 e6 W6 V6
  have N6 := Fr.snoc X6 N5 (Nat.le_trans Z0 hg3)
  have U6 : Arv Z h6 r3 kk3 .double (4 : Int32) [.double (FP.dadd (FP.i2d p0) 4607182418800017408), .double (FP.dadd (FP.i2d p1) 4607182418800017408), .double (FP.dadd (FP.i2d p2) 4607182418800017408), .double (FP.i2d d3)] (.double 0) := V6
  have H6 : h0.size ≤ h6.size := by rw [W6.size]; exact H5
  refine s_aload X6 hx (hb hby at_128) (pc' := 130) rfl rfl rfl ?_
  refine s_iconst X6 hx (3 : Int32) (hb hby at_130) (pc' := 131) rfl rfl ?_
  refine s_ldcD X6 hx hZ hown (hw _ (List.mem_of_getElem? (i := 24) rfl)) (hb hby at_131) (pc' := 134) rfl ?_
  refine s_dastore X6 hx hZ e6 U6 (by decide) 3 (by decide) (by simp) (hb hby at_134) (pc' := 135) rfl ?_
  intro T7 h7 X7 e7 W7 V7
  have N7 := Fr.snoc X7 N6 (Nat.le_trans Z0 hg3)
  have U7 : Arv Z h7 r3 kk3 .double (4 : Int32) [.double (FP.dadd (FP.i2d p0) 4607182418800017408), .double (FP.dadd (FP.i2d p1) 4607182418800017408), .double (FP.dadd (FP.i2d p2) 4607182418800017408), .double 13830554455654793216] (.double 0) := V7
  have H7 : h0.size ≤ h7.size := by rw [W7.size]; exact H6
  refine s_aload X7 hx (hb hby at_135) (pc' := 137) rfl rfl rfl ?_
  have fE8 := (((((E2.keep K3).wr W4).wr W5).wr W6).wr W7)
  have fF9 := (((((Fa2.keep K3 nin0).other W4 (Or.inl ne3_o1)).other W5 (Or.inl ne3_o1)).other W6 (Or.inl ne3_o1)).other W7 (Or.inl ne3_o1))
  have fF10 := (((((Fb2.keep K3 nin0).other W4 (Or.inl ne3_o1)).other W5 (Or.inl ne3_o1)).other W6 (Or.inl ne3_o1)).other W7 (Or.inl ne3_o1))
  have fF11 := (((((Fc2.keep K3 nin0).other W4 (Or.inl ne3_o1)).other W5 (Or.inl ne3_o1)).other W6 (Or.inl ne3_o1)).other W7 (Or.inl ne3_o1))
  have fF12 := (((((Fd2.keep K3 nin0).other W4 (Or.inl ne3_o1)).other W5 (Or.inl ne3_o1)).other W6 (Or.inl ne3_o1)).other W7 (Or.inl ne3_o1))
  refine c_virtual X7 hx hZ hown (hw _ (List.mem_of_getElem? (i := 18) rfl)) (hw _ (List.mem_of_getElem? (i := 19) rfl)) (hw _ (List.mem_of_getElem? (i := 21) rfl)) (hw _ (List.mem_of_getElem? (i := 20) rfl)) (hw _ (List.mem_of_getElem? (i := 3) rfl)) (hw _ (List.mem_of_getElem? (i := 22) rfl)) (by decide) e7 fE8 (rm_3 l Z a0 hw [] o1 (FP.i2d p0) (FP.i2d p1) (FP.i2d p2) (FP.i2d d3) h7 n0 (Nat.le_trans Z0 H7) fF9 fF10 fF11 fF12) (W := 0) (by decide) (by decide) (by decide) (by decide) (by rw [hml]; rfl) (argsL := []) (rest := []) (lenOf pd_1 rfl) rfl rfl (Nat.le_of_eq rfl) (hb hby at_137) (pc' := 140) rfl ?_
  intro T13 v13 L13 X13 hQ13
  obtain ⟨r13, kk13, rfl, Nq13, K13, lo13, V13⟩ := hQ13
  have N13 := Fr.app N7 Nq13
  have H13 : h0.size ≤ T13.heap.size := Nat.le_trans H7 K13.1
  show Goes p e below _ (T13.setTop (mkF m 140 #[.val (.int p0), .val (.int p1), .val (.int p2), .val (.int p3), .val (.double (FP.i2d p0)), .second, .val (.double (FP.i2d p1)), .second, .val (.double (FP.i2d p2)), .second, .val (.double (FP.i2d d3)), .second, .val (.ref o1), .val (.ref r3), .val (.int (1 : Int32)), .unset, .unset] [.ref r13]))
  have ne13_o1 : o1 ≠ r13 := Nat.ne_of_lt (Nat.lt_of_lt_of_le fE8.lt lo13)
  have ne13_r3 : r3 ≠ r13 := Nat.ne_of_lt (Nat.lt_of_lt_of_le U7.lt lo13)
  have hg13 : h0.size ≤ r13 := Nat.le_trans H7 lo13
  refine s_astore X13 hx #[.val (.int p0), .val (.int p1), .val (.int p2), .val (.int p3), .val (.double (FP.i2d p0)), .second, .val (.double (FP.i2d p1)), .second, .val (.double (FP.i2d p2)), .second, .val (.double (FP.i2d d3)), .second, .val (.ref o1), .val (.ref r3), .val (.int (1 : Int32)), .val (.ref r13), .unset] (hb hby at_140) (pc' := 142) rfl rfl rfl ?_
  refine s_aload X13 hx (hb hby at_142) (pc' := 144) rfl rfl rfl ?_
  refine s_nullN X13 hx (hb hby at_144) (pc' := 147) rfl  ?_
  refine s_aload X13 hx (hb hby at_147) (pc' := 149) rfl rfl rfl ?_
  refine s_len X13 hx hZ rfl V13 (hb hby at_149) (pc' := 150) rfl ?_
  refine s_iconst X13 hx (4 : Int32) (hb hby at_150) (pc' := 151) rfl rfl ?_
  refine s_icmpN X13 hx (hb hby at_151) (pc' := 154) rfl (by decide) ?_
  refine s_aload X13 hx (hb hby at_154) (pc' := 156) rfl rfl rfl ?_
  refine s_aload X13 hx (hb hby at_156) (pc' := 158) rfl rfl rfl ?_
  refine s_acmpY X13 hx (hb hby at_158) rfl rfl (ay_ne (Ne.symm ne13_r3)) (by decide) (pc' := 163) (by decide) ?_
  refine s_aload X13 hx (hb hby at_163) (pc' := 165) rfl rfl rfl ?_
  refine s_iconst X13 hx (0 : Int32) (hb hby at_165) (pc' := 166) rfl rfl ?_
  refine s_daload X13 hx hZ rfl V13 (by decide) (v := .double (FP.i2d p0)) rfl (hb hby at_166) (pc' := 167) rfl ?_
  refine s_dload X13 hx (hb hby at_167) (pc' := 169) rfl rfl ?_
  refine s_dcmp X13 hx (0 : Int32) (hb hby at_169) (pc' := 170) rfl (dcmpV_self (i2d_fin p0).noNaN _) ?_
  refine s_ifN X13 hx (hb hby at_170) (pc' := 173) rfl (by decide) ?_
  refine s_aload X13 hx (hb hby at_173) (pc' := 175) rfl rfl rfl ?_
  refine s_iconst X13 hx (1 : Int32) (hb hby at_175) (pc' := 176) rfl rfl ?_
  refine s_daload X13 hx hZ rfl V13 (by decide) (v := .double (FP.i2d p1)) rfl (hb hby at_176) (pc' := 177) rfl ?_
  refine s_dload X13 hx (hb hby at_177) (pc' := 179) rfl rfl ?_
  refine s_dcmp X13 hx (0 : Int32) (hb hby at_179) (pc' := 180) rfl (dcmpV_self (i2d_fin p1).noNaN _) ?_
  refine s_ifN X13 hx (hb hby at_180) (pc' := 183) rfl (by decide) ?_
  refine s_aload X13 hx (hb hby at_183) (pc' := 185) rfl rfl rfl ?_
  refine s_iconst X13 hx (2 : Int32) (hb hby at_185) (pc' := 186) rfl rfl ?_
  refine s_daload X13 hx hZ rfl V13 (by decide) (v := .double (FP.i2d p2)) rfl (hb hby at_186) (pc' := 187) rfl ?_
  refine s_dload X13 hx (hb hby at_187) (pc' := 189) rfl rfl ?_
  refine s_dcmp X13 hx (0 : Int32) (hb hby at_189) (pc' := 190) rfl (dcmpV_self (i2d_fin p2).noNaN _) ?_
  refine s_ifN X13 hx (hb hby at_190) (pc' := 193) rfl (by decide) ?_
  refine s_aload X13 hx (hb hby at_193) (pc' := 195) rfl rfl rfl ?_
  refine s_iconst X13 hx (3 : Int32) (hb hby at_195) (pc' := 196) rfl rfl ?_
  refine s_daload X13 hx hZ rfl V13 (by decide) (v := .double (FP.i2d d3)) rfl (hb hby at_196) (pc' := 197) rfl ?_
  refine s_dload X13 hx (hb hby at_197) (pc' := 199) rfl rfl ?_
  refine s_dcmp X13 hx (0 : Int32) (hb hby at_199) (pc' := 200) rfl (dcmpV_self (i2d_fin d3).noNaN _) ?_
  refine s_ifN X13 hx (hb hby at_200) (pc' := 203) rfl (by decide) ?_
  refine s_iconst X13 hx (1 : Int32) (hb hby at_203) (pc' := 204) rfl rfl ?_
  refine s_goto X13 hx (hb hby at_204) (by decide) (pc' := 208) (by decide) ?_
  refine s_istore X13 hx #[.val (.int p0), .val (.int p1), .val (.int p2), .val (.int p3), .val (.double (FP.i2d p0)), .second, .val (.double (FP.i2d p1)), .second, .val (.double (FP.i2d p2)), .second, .val (.double (FP.i2d d3)), .second, .val (.ref o1), .val (.ref r3), .val (.int (1 : Int32)), .val (.ref r13), .val (.int (1 : Int32))] (hb hby at_208) (pc' := 210) rfl rfl ?_
  refine s_iload X13 hx (hb hby at_210) (pc' := 212) rfl rfl ?_
  refine s_ifN X13 hx (hb hby at_212) (pc' := 215) rfl (by decide) ?_
  refine s_iload X13 hx (hb hby at_215) (pc' := 217) rfl rfl ?_
  refine s_ifN X13 hx (hb hby at_217) (pc' := 220) rfl (by decide) ?_
  refine s_aload X13 hx (hb hby at_220) (pc' := 222) rfl rfl rfl ?_
  refine s_iconst X13 hx (3 : Int32) (hb hby at_222) (pc' := 223) rfl rfl ?_
  refine s_daload X13 hx hZ rfl V13 (by decide) (v := .double (FP.i2d d3)) rfl (hb hby at_223) (pc' := 224) rfl ?_
  refine s_dconst0 X13 hx (hb hby at_224) (pc' := 225) rfl ?_
  refine s_dcmp X13 hx (cmpValue (FP.dcmp (FP.i2d d3) 0) .l) (hb hby at_225) (pc' := 226) rfl rfl ?_
  refine s_ifN X13 hx (hb hby at_226) (pc' := 229) rfl (in_lt (own_ge0 hd3 _)) ?_
  refine s_iconst X13 hx (1 : Int32) (hb hby at_229) (pc' := 230) rfl rfl ?_
  refine s_goto X13 hx (hb hby at_230) (by decide) (pc' := 234) (by decide) ?_
  exact s_retI X13 hx hlk hret (hb hby at_234) rfl (Or.inl ⟨rfl, by simp, _, rfl⟩) (by decide) (by decide) ⟨rfl, N13⟩
set_option maxRecDepth 65536 in
set_option maxHeartbeats 40000000 in
theorem comes_1 {Post : Tables → Env → Array Value → State → Outcome → State → Prop} (hpost : ∀ tb e args s v u, (limb_1_1.after args s (.returned v) u = true ∧ limb_1_2.after args s (.returned v) u = true ∧ True) → FrameEnd s (.returned v) u (Jvm.fieldLocs frame_1_writes args s ++ Jvm.arrayLocs frame_1_arrays args s ++ Jvm.staticLocs frame_1_statics s) 16 128 → Post tb e args s (.returned v) u) :
    ArmFor flags0 classFile x code maxLocals ret World_1 tables_1 room_1 Calls_1 rest_1 Pre_1 Post := by
  intro l hfl _ _ p e ha hc hk s m args below hf hA hF happ hP
  obtain ⟨hcalls, hrest, hpre⟩ := hP
  obtain ⟨-, -, -, hnamed, -, -, -, hat⟩ := (Spec.applies_iff hf).mp happ
  obtain ⟨hg, hn⟩ := and_e (Cond.before_iff.mp (show (Jvm.Cond.and given_1 narrow_1).before args s = true from hpre))
  obtain ⟨g0, gr0⟩ := and_e hg
  obtain ⟨g1, gr1⟩ := and_e gr0
  obtain ⟨g2, gr2⟩ := and_e gr1
  obtain ⟨g3, gr3⟩ := and_e gr2
  obtain ⟨w0, w1, w2, w3, rfl⟩ : ∃ w0 w1 w2 w3 : Value, args = #[w0, w1, w2, w3] := by
    have hs : args.size = 4 := by simpa [Cond.value, given_1] using g0
    obtain ⟨L⟩ := args
    match L, hs with
    | [w0, w1, w2, w3], _ => exact ⟨w0, w1, w2, w3, rfl⟩
  have hw := fun d (hd : d ∈ tables_1) => atoms_spec (ws := Jvm.Cond.code x code maxLocals ret :: tables_1) hat d (List.mem_cons_of_mem _ hd)
  have hfit : Fit s := fun {y c} hc i hi => by
    obtain ⟨ha, rfl⟩ := Array.getElem?_eq_some_iff.mp hc
    have q := List.all_eq_true.mp ((Array.all_eq_true_iff_forall_mem.mp hF) _ (Array.getElem_mem ha)) i (List.mem_range.mpr hi)
    simpa [Array.getElem?_eq_getElem hi] using q
  obtain ⟨i0, q0⟩ := is_v g1
  obtain rfl : w0 = (.int i0) := Option.some.inj q0
  obtain ⟨i1, q1⟩ := is_v g2
  obtain rfl : w1 = (.int i1) := Option.some.inj q1
  obtain ⟨i2, q2⟩ := is_v g3
  obtain rfl : w2 = (.int i2) := Option.some.inj q2
  obtain ⟨i3, q3⟩ := is_v gr3
  obtain rfl : w3 = (.int i3) := Option.some.inj q3
  obtain ⟨n, o, h1, h2, h3, _, L, rfl, ⟨rfl, N⟩, hq⟩ := rm_0 l s _ hw tables_1 i0 i1 i2 i3 s.heap s.heap.size (Nat.le_refl _)  p e ha hc hk s m _ below hf ((Spec.applies_iff_loose hf).mp happ).1 ⟨rfl, State.Warmed39.refl s, rfl⟩ trivial
  refine ⟨n, _, h1, h2, h3, hpost _ _ _ _ _ _ ⟨Cond.after_iff.mpr rfl, Cond.after_iff.mpr (eq_i res_at (Term.int_eval (1)) rfl), trivial⟩ ⟨hq.1, hq.2.1, (hq.2.2.sift fun y hy => Or.inr (N y hy)).mono (by decide) (by decide)⟩⟩
theorem main_1_1 : Claimed_1_1 := comes_1 fun _ _ _ _ _ _ h hF => ⟨h.1, hF⟩
theorem main_1_2 : Claimed_1_2 := comes_1 fun _ _ _ _ _ _ h hF => ⟨h.2.1, hF⟩
end Jvm.Pilot.@@N@@
namespace Jvm.Pilot.@@N@@
open Jvm Jvm.ClassFile Sem Op Lib Jvm.Free Jvm.Stand Jvm.Pilot.@@N@@.Jvm.D
/-! MADE BY PROGRAM (witnessworld.py) out of the Statement's table words and the real class files: 11 classes; the members and pool entries that the words name. The judged class is class 1, her method 1. -/
namespace start1
open Jvm.ClassFile
def u (s : String) : CpInfo := .utf8 (stringToUtf16 s)
/-- a pool by its gaps: so many unusable entries, then the entry; so many at the end -/
def gap : Nat → List CpInfo → List CpInfo
  | 0, r => r
  | n + 1, r => .unusable :: gap n r
def poolList (es : List (Nat × CpInfo)) (last : Nat) : List CpInfo := es.foldr (fun e r => gap e.1 (e.2 :: r)) (gap last [])
def pool (es : List (Nat × CpInfo)) (last : Nat) : Array CpInfo := ⟨poolList es last⟩
def fileOf (pool : Array CpInfo) (this : Nat) (attrs : Array Attribute := #[]) (ms : Array MethodInfo := #[]) (fl : Nat := 33) (sup : Nat := 0) (ifs : Array Nat := #[]) (fds : Array FieldInfo := #[]) : ClassFile where
  minorVersion := 0
  majorVersion := 65
  constantPool := pool
  accessFlags := fl
  thisClass := this
  superClass := sup
  interfaces := ifs
  fields := fds
  methods := ms
  attributes := attrs
def plain (name : String) (sup : Option ClassId) : Class where
  name := name
  kind := .ordinary
  loader := none
  accessFlags := 33
  super := sup
  interfaces := #[]
  cf := none
  fields := #[]
  methods := #[]
  instanceTypes := #[]
  staticTypes := #[]
  resolved := #[]
  callSites := []
  init := .initialized
  statics := none
  mirror := none

def pool0 : Array CpInfo := pool [(5, u "<init>"), (0, u "()V"), (1, .class_ 10), (1, u "java/lang/Object")] 113

def k0c0 : Code := { maxStack := 0, maxLocals := 1, code := object_method_1_code, exceptionTable := #[], attributes := #[] }
def k0m0 : Method := { name := "<init>", desc := "()V", sig := { parameters := [], returnType := none }, accessFlags := 1, code := some k0c0 }
/-- java/lang/Object -/
def k0 : Class := { plain "java/lang/Object" none with
  accessFlags := 33
  interfaces := #[]
  cf := some (fileOf pool0 8 #[] #[{ accessFlags := 1, nameIndex := 5, descriptorIndex := 6, attributes := #[] }] 33 0 #[] #[])
  fields := #[]
  methods := #[k0m0]
  instanceTypes := #[]
  staticTypes := #[]
  resolved := Array.replicate 124 none
  statics := none }

def pool1 : Array CpInfo := pool [(2, .class_ 4), (1, u "java/lang/Object"), (0, u "<init>"), (0, u "()V"), (0, .integer 2147483647), (0, .class_ 9), (0, u "com/example/slewstone/slewstone/control/AttitudeQuaternion"), (0, .methodref 8 11), (0, .nameAndType 5 12), (0, u "(DDDD)V"), (0, .methodref 8 14), (0, .nameAndType 15 16), (0, u "components"), (0, u "()[D"), (0, .double 13830554455654793216), (1, .class_ 20), (0, u "com/example/slewstone/slewstone/control/AttitudeQuaternionComponentsPinLaw"), (2, u "law"), (0, u "(IIII)Z")] 5

def k1m0 : Method := { name := "<init>", desc := "()V", sig := { parameters := [], returnType := none }, accessFlags := 1, code := none }
def k1c1 : Code := { maxStack := 10, maxLocals := 17, code := code, exceptionTable := #[], attributes := #[] }
def k1m1 : Method := { name := "law", desc := "(IIII)Z", sig := { parameters := [.int, .int, .int, .int], returnType := some .boolean }, accessFlags := 9, code := some k1c1 }
/-- com/example/slewstone/slewstone/control/AttitudeQuaternionComponentsPinLaw -/
def k1 : Class := { plain "com/example/slewstone/slewstone/control/AttitudeQuaternionComponentsPinLaw" (some 0) with
  accessFlags := 49
  interfaces := #[]
  cf := some (fileOf pool1 19 #[] #[{ accessFlags := 1, nameIndex := 5, descriptorIndex := 6, attributes := #[] }, { accessFlags := 9, nameIndex := 23, descriptorIndex := 24, attributes := #[] }] 49 2 #[] #[])
  fields := #[]
  methods := #[k1m0, k1m1]
  instanceTypes := #[]
  staticTypes := #[]
  resolved := Array.replicate 30 none
  statics := none }

def pool2 : Array CpInfo := pool [(1, .methodref 2 3), (0, .class_ 4), (0, .nameAndType 5 6), (0, u "java/lang/Object"), (0, u "<init>"), (0, u "()V"), (0, .fieldref 8 9), (0, .class_ 10), (0, .nameAndType 11 12), (0, u "com/example/slewstone/slewstone/control/AttitudeQuaternion"), (0, u "q1"), (0, u "D"), (0, .fieldref 8 14), (0, .nameAndType 15 12), (0, u "q2"), (0, .fieldref 8 17), (0, .nameAndType 18 12), (0, u "q3"), (0, .fieldref 8 20), (0, .nameAndType 21 12), (0, u "q4"), (6, u "(DDDD)V"), (58, u "components"), (0, u "()[D")] 27

def k2c0 : Code := { maxStack := 3, maxLocals := 9, code := prog_14_method_1_code, exceptionTable := #[], attributes := #[] }
def k2m0 : Method := { name := "<init>", desc := "(DDDD)V", sig := { parameters := [.double, .double, .double, .double], returnType := none }, accessFlags := 0, code := some k2c0 }
def k2c1 : Code := { maxStack := 5, maxLocals := 1, code := prog_14_method_5_code, exceptionTable := #[], attributes := #[] }
def k2m1 : Method := { name := "components", desc := "()[D", sig := { parameters := [], returnType := some (.array .double) }, accessFlags := 1, code := some k2c1 }
/-- com/example/slewstone/slewstone/control/AttitudeQuaternion -/
def k2 : Class := { plain "com/example/slewstone/slewstone/control/AttitudeQuaternion" (some 0) with
  accessFlags := 49
  interfaces := #[]
  cf := some (fileOf pool2 8 #[] #[{ accessFlags := 0, nameIndex := 5, descriptorIndex := 28, attributes := #[] }, { accessFlags := 1, nameIndex := 87, descriptorIndex := 88, attributes := #[] }] 49 2 #[] #[{ accessFlags := 18, nameIndex := 11, descriptorIndex := 12, attributes := #[] }, { accessFlags := 18, nameIndex := 15, descriptorIndex := 12, attributes := #[] }, { accessFlags := 18, nameIndex := 18, descriptorIndex := 12, attributes := #[] }, { accessFlags := 18, nameIndex := 21, descriptorIndex := 12, attributes := #[] }])
  fields := #[{ name := "q1", type := .double, accessFlags := 18, slot := 0, constantValue := 0 }, { name := "q2", type := .double, accessFlags := 18, slot := 1, constantValue := 0 }, { name := "q3", type := .double, accessFlags := 18, slot := 2, constantValue := 0 }, { name := "q4", type := .double, accessFlags := 18, slot := 3, constantValue := 0 }]
  methods := #[k2m0, k2m1]
  instanceTypes := #[.double, .double, .double, .double]
  staticTypes := #[]
  resolved := Array.replicate 116 none
  statics := none }

def pool3 : Array CpInfo := pool [(1, u "java/lang/Cloneable"), (0, .class_ 1), (0, u "java/lang/Object"), (0, .class_ 3)] 3

/-- java/lang/Cloneable -/
def k3 : Class := { plain "java/lang/Cloneable" (some 0) with
  accessFlags := 1537
  interfaces := #[]
  cf := some (fileOf pool3 2 #[] #[] 1537 4 #[] #[])
  fields := #[]
  methods := #[]
  instanceTypes := #[]
  staticTypes := #[]
  resolved := Array.replicate 8 none
  statics := none }

def pool4 : Array CpInfo := pool [(1, u "java/io/Serializable"), (0, .class_ 1), (0, u "java/lang/Object"), (0, .class_ 3)] 3

/-- java/io/Serializable -/
def k4 : Class := { plain "java/io/Serializable" (some 0) with
  accessFlags := 1537
  interfaces := #[]
  cf := some (fileOf pool4 2 #[] #[] 1537 4 #[] #[])
  fields := #[]
  methods := #[]
  instanceTypes := #[]
  staticTypes := #[]
  resolved := Array.replicate 8 none
  statics := none }

/-- the primitive byte -/
def k5 : Class := { plain "byte" none with kind := .primitive 'B', accessFlags := 0x411 }
/-- [B -/
def k6 : Class := { plain "[B" (some 0) with kind := .array 5 .byte, interfaces := #[3, 4], accessFlags := 1041 }

/-- the primitive double -/
def k7 : Class := { plain "double" none with kind := .primitive 'D', accessFlags := 0x411 }
/-- [D -/
def k8 : Class := { plain "[D" (some 0) with kind := .array 7 .double, interfaces := #[3, 4], accessFlags := 1041 }

/-- the primitive int -/
def k9 : Class := { plain "int" none with kind := .primitive 'I', accessFlags := 0x411 }
/-- [I -/
def k10 : Class := { plain "[I" (some 0) with kind := .array 9 .int, interfaces := #[3, 4], accessFlags := 1041 }

def heap : Heap := #[]
def classes : Array Class := #[k0, k1, k2, k3, k4, k5, k6, k7, k8, k9, k10]
def interned : List (Array UInt16 × Addr) := []
def slotsUsed : Nat := 0
def theMethod : MethodId := ⟨1, 1⟩
def args0 : Array Value := #[.int 5, .int 6, .int 7, .int 8]
def aboutOver (below : List Frame) : State where
  vm := { classes := classes, interned := interned.toArray }
  heap := heap
  slotsUsed := slotsUsed
  threads := #[{ frames := .invoking theMethod args0 :: below }]
def below0 : List Frame := [.native { method := ⟨0, 0⟩, args := #[] }]
def about1 : State := aboutOver below0
def p0 : Program := .bare "" "" ""
def e0 : Env := launch0.env 0 0 0
theorem w_frames : about1.frames = Frame.invoking theMethod args0 :: below0 := rfl
set_option maxRecDepth 65536 in
theorem w_args : argsFit about1.vm theMethod args0 = true := by decide +kernel
set_option maxRecDepth 65536 in
theorem w_heap : heapFits about1 = true := by decide +kernel
set_option maxRecDepth 65536 in
theorem w_runnable : about1.curStatus? = some .runnable := by decide +kernel
set_option maxRecDepth 65536 in
theorem w_alone : about1.alone = true := by decide +kernel
set_option maxRecDepth 65536 in
theorem w_named : about1.methodNamed? x = some theMethod := by decide +kernel
set_option maxRecDepth 65536 in
theorem w_hears : about1.hears theMethod below0 = true := by decide +kernel
set_option maxRecDepth 65536 in
theorem w_ripe : about1.ripe theMethod args0 below0 = true := by decide +kernel
theorem w_running : about1.status = .running := rfl
set_option maxRecDepth 65536 in
theorem w_room : about1.hasRoom e0.platform room_1 = true :=
  launch0.hasRoom_least _ room_1 (by decide +kernel) (by decide +kernel) (by decide +kernel) (by decide +kernel) (by decide +kernel) (by decide +kernel)
theorem allAtoms_all (ts : List Jvm.Cond) (a : Array Jvm.Value) (st : Jvm.State) : (allAtoms ts).before a st = ts.all (fun c => c.before a st) := by
  induction ts with
  | nil => rfl
  | cons c t ih =>
    show (Jvm.Cond.and c (allAtoms t)).before a st = _
    rw [Jvm.Cond.before_and, ih, List.all_cons]
def words1 : List Jvm.Cond := Jvm.Cond.code x code maxLocals ret :: tables_1
/-- a 'code' word, met by the world's own term for the bytes: nothing is compared byte by byte -/
theorem code_word {y : MethodName} {bytes : ByteArray} {mx : Nat} {rt : Option FieldType} {a : Array Value} {s : State} {m : MethodId} {meth : Method} {c : Code} (h1 : s.methodNamed? y = some m) (h2 : s.vm.method? m = some meth) (h3 : meth.code = some c) (h4 : c.code = bytes)
    (h5 : (c.maxLocals == mx && c.exceptionTable.isEmpty && decide (c.maxStack ≤ mostOperands) && decide (meth.sig.returnType = rt) && !meth.locks && decide (parseMethodDescriptor y.desc = some meth.sig)) = true) : (Jvm.Cond.code y bytes mx rt).before a s = true := by
  simp only [Bool.and_eq_true, beq_iff_eq, Bool.not_eq_true', decide_eq_true_eq] at h5
  obtain ⟨⟨⟨⟨⟨g1, g2⟩, g3⟩, g4⟩, g5⟩, g6⟩ := h5
  simp [Cond.before, Cond.holds, Cond.value, h1, h2, h3, h4, g1, g2, g3, g4, g5, g6]
def isCode : Jvm.Cond → Bool
  | .code _ _ _ _ => true
  | _ => false
theorem all_split {L : List Jvm.Cond} {P : Jvm.Cond → Bool} (h1 : L.all (fun c => isCode c || P c) = true) (h2 : ∀ c ∈ L.filter isCode, P c = true) : L.all P = true := by
  refine List.all_eq_true.mpr fun c hc => ?_
  have h := List.all_eq_true.mp h1 c hc
  rcases Bool.eq_false_or_eq_true (isCode c) with hi | hi
  · exact h2 c (List.mem_filter.mpr ⟨hc, hi⟩)
  · simpa [hi] using h
set_option maxRecDepth 65536 in
theorem w_c0 : (Jvm.Cond.code x code maxLocals ret).before args0 about1 = true := code_word (m := ⟨1, 1⟩) (meth := k1m1) (c := k1c1) (by decide +kernel) rfl rfl rfl (by decide +kernel)
set_option maxRecDepth 65536 in
theorem w_c1 : (Jvm.Cond.code ({ cls := "com/example/slewstone/slewstone/control/AttitudeQuaternion", name := "<init>", desc := "(DDDD)V" } : Jvm.MethodName) prog_14_method_1_code (9 : Nat) (Option.none : Option Jvm.ClassFile.FieldType)).before args0 about1 = true := code_word (m := ⟨2, 0⟩) (meth := k2m0) (c := k2c0) (by decide +kernel) rfl rfl rfl (by decide +kernel)
set_option maxRecDepth 65536 in
theorem w_c2 : (Jvm.Cond.code ({ cls := "java/lang/Object", name := "<init>", desc := "()V" } : Jvm.MethodName) object_method_1_code (1 : Nat) (Option.none : Option Jvm.ClassFile.FieldType)).before args0 about1 = true := code_word (m := ⟨0, 0⟩) (meth := k0m0) (c := k0c0) (by decide +kernel) rfl rfl rfl (by decide +kernel)
set_option maxRecDepth 65536 in
theorem w_c3 : (Jvm.Cond.code ({ cls := "com/example/slewstone/slewstone/control/AttitudeQuaternion", name := "components", desc := "()[D" } : Jvm.MethodName) prog_14_method_5_code (1 : Nat) (Option.some (Jvm.ClassFile.FieldType.array Jvm.ClassFile.FieldType.double))).before args0 about1 = true := code_word (m := ⟨2, 1⟩) (meth := k2m1) (c := k2c1) (by decide +kernel) rfl rfl rfl (by decide +kernel)
def codes1 : List Jvm.Cond := [Jvm.Cond.code x code maxLocals ret, Jvm.Cond.code ({ cls := "com/example/slewstone/slewstone/control/AttitudeQuaternion", name := "<init>", desc := "(DDDD)V" } : Jvm.MethodName) prog_14_method_1_code (9 : Nat) (Option.none : Option Jvm.ClassFile.FieldType), Jvm.Cond.code ({ cls := "java/lang/Object", name := "<init>", desc := "()V" } : Jvm.MethodName) object_method_1_code (1 : Nat) (Option.none : Option Jvm.ClassFile.FieldType), Jvm.Cond.code ({ cls := "com/example/slewstone/slewstone/control/AttitudeQuaternion", name := "components", desc := "()[D" } : Jvm.MethodName) prog_14_method_5_code (1 : Nat) (Option.some (Jvm.ClassFile.FieldType.array Jvm.ClassFile.FieldType.double))]
set_option maxRecDepth 65536 in
theorem codes_eq : words1.filter isCode = codes1 := rfl
theorem w_codes : ∀ c ∈ words1.filter isCode, c.before args0 about1 = true := by
  rw [codes_eq]
  intro c hc
  simp only [codes1, List.mem_cons, List.not_mem_nil, or_false] at hc
  rcases hc with rfl | rfl | rfl | rfl
  · exact w_c0
  · exact w_c1
  · exact w_c2
  · exact w_c3
set_option maxRecDepth 65536 in
theorem w_t1 : (words1.take 24).all (fun c => isCode c || c.before args0 about1) = true := by decide +kernel
set_option maxRecDepth 65536 in
theorem w_t2 : (words1.drop 24).all (fun c => isCode c || c.before args0 about1) = true := by decide +kernel
theorem w_tables : (allAtoms (Jvm.Cond.code x code maxLocals ret :: tables_1)).before args0 about1 = true := by
  rw [allAtoms_all]
  show words1.all (fun c => c.before args0 about1) = true
  refine all_split ?_ w_codes
  rw [← List.take_append_drop 24 words1, List.all_append, w_t1, w_t2]
  rfl
set_option maxRecDepth 65536 in
theorem w_case : (Jvm.Cond.and given_1 narrow_1).before args0 about1 = true := by decide +kernel
theorem w_applies : (headSpec (Jvm.Cond.code x code maxLocals ret :: tables_1) room_1).applies x e0.platform about1 = true :=
  (Spec.applies_iff w_frames).mpr ⟨w_running, w_runnable, w_alone, w_named, w_hears, w_ripe, w_room, w_tables⟩
theorem atStart : AtStart classFile x code maxLocals ret World_1 tables_1 room_1 Calls_1 rest_1 Pre_1 launch0 p0 e0 about1 theMethod args0 below0 :=
  ⟨lists_1, trivial, launch0.admits_env _ _ _, launch0.least_env, fairChoices_fair.cas, fairChoices_fair.clock, w_frames, w_args, w_heap, w_applies, trivial, trivial, w_case⟩
end start1
theorem witness_1 : WitnessClaimed_1 := ⟨start1.p0, start1.e0, start1.about1, start1.theMethod, start1.args0, start1.below0, start1.atStart⟩
end Jvm.Pilot.@@N@@
