import JvmDerived
import JvmDerived.Pilot.@@N@@Statement
import JvmDerived.Pilot.@@N@@Code
set_option linter.unusedVariables false
set_option linter.unusedSimpArgs false
namespace Jvm.Pilot.@@N@@
open Jvm Jvm.ClassFile Sem Op Lib Jvm.Free Jvm.Stand Jvm.LawKit Jvm.RoadKit Bundle Jvm.Pilot.@@N@@.Jvm.D Jvm.Free.Fl
section Own
variable {p : Program} {l : Launch} {e : Env} {R : Room} {s : State} {m : MethodId} {args : Array Value} {below : List Frame} {meth : Method} {c : Code} {T : State} {locs : List Loc} {cells slots : Nat} {Z : State} {a0 : Array Value} {h : Heap} {G : Outcome → State → Prop}
/-- from S the body comes to its end, and the end is as asked -/
def Goes (p : Program) (e : Env) (below : List Frame) (G : Outcome → State → Prop) (S : State) : Prop :=
  ∃ s₂ o, Steps p.tables e below S s₂ ∧ s₂.status = .running ∧ Ended s₂ below o ∧ G o s₂
theorem own_go {S S' : State} (st : ∀ t, Steps p.tables e below S' t → Steps p.tables e below S t) (k : Goes p e below G S') : Goes p e below G S := by
  obtain ⟨s₂, o, h1, h2⟩ := k
  exact ⟨s₂, o, st _ h1, h2⟩
/-- what a contract says of the end -/
def EndsAs (Q : Option Value → Heap → List Loc → Prop) (s : State) (rc rs : Nat) (o : Outcome) (U : State) : Prop :=
  ∃ v L, o = .returned v ∧ Q v U.heap L ∧ FrameEnd s o U L rc rs
abbrev OwnMet (l : Launch) (Z : State) (y : MethodName) (bytes : ByteArray) (maxL : Nat) (ret : Option FieldType) (ws : List Jvm.Cond) (rm : Room) (as' : Array Value) (h : Heap) (Q : Option Value → Heap → List Loc → Prop) : Prop :=
  MetFree l y (head1 (Jvm.Cond.code y bytes maxL ret :: ws) rm) (fun a U => a = as' ∧ Z.Warmed39 U.vm ∧ U.heap = h) (fun _ _ _ _ _ => True) (fun _ U o U' => ∃ v L, o = .returned v ∧ Q v U'.heap L ∧ FrameEnd U o U' L rm.cells rm.slots)
theorem own_met {y : MethodName} {bytes : ByteArray} {maxL : Nat} {ret : Option FieldType} {ws : List Jvm.Cond} {rm : Room} {as' : Array Value} {h : Heap} {Q : Option Value → Heap → List Loc → Prop} {Ls : Array Slot}
    (hpn : plainFor y = true) (hef : ∀ m, entryFrame m as' maxL = mkF m 0 Ls [])
    (body : ∀ (p : Program) (e : Env) (s : State) (m : MethodId) (below : List Frame) (meth : Method) (c : Code) (s₁ : State), p.tables.exec = Jvm.exec → c.code = bytes → c.maxLocals = maxL → Z.Warmed39 s.vm → s.vm.findClass y.cls = some m.cls → meth.name = y.name → meth.sig.returnType = ret → meth.locks = false →
      Stand p l e rm s m as' below meth c s₁ [] 0 0 → s₁.heap = h → Goes p e below (EndsAs Q s rm.cells rm.slots) (s₁.setTop (mkF m 0 Ls []))) :
    OwnMet l Z y bytes maxL ret ws rm as' h Q := by
  refine MetFree.of_bodySF hpn hisR ?_
  intro p e s m args below meth c s₁ Bd hml0 hP hK
  obtain ⟨rfl, hZ, hh⟩ := hP
  obtain ⟨s₂, o, h1, h2, h3, h4⟩ := body p e s m below meth c s₁ Bd.exec Bd.bytes hml0 hZ (findClass_of_methodNamed Bd.named) (name_of_methodNamed Bd.named Bd.method).1 Bd.returns Bd.notSynchronized (Stand.of_body Bd) (by rw [← hh, Bd.state]; rfl)
  exact ⟨s₂, o, castTop (hef m) h1, h2, h3, h4⟩
theorem s_retI (X : Stand p l e R s m args below meth c T locs cells slots) (hx : p.tables.exec = Jvm.exec) (hlk : meth.locks = false) {Q : Option Value → Heap → List Loc → Prop} {pc rc rs : Nat} {Ls : Array Slot} {st : List Value} {t : FieldType} {w : Value} {i : Instr} (hret : meth.sig.returnType = some t)
    (hd : decode c.code pc = .ok (i, 1)) (hn : narrow t w = w) (hi : (i = .ireturn ∧ (t = .int ∨ t = .boolean ∨ t = .byte ∨ t = .char ∨ t = .short) ∧ ∃ z, w = .int z) ∨ (i = .lreturn ∧ t = .long ∧ ∃ z, w = .long z) ∨ (i = .dreturn ∧ t = .double ∧ ∃ z, w = .double z) ∨ (i = .freturn ∧ t = .float ∧ ∃ z, w = .float z) ∨ (i = .areturn ∧ t.isReference = true ∧ w.isRef = true))
    (hc : cells ≤ rc) (hs : slots ≤ rs) (hq : Q (some w) T.heap locs) : Goes p e below (EndsAs Q s rc rs) (T.setTop (mkF m pc Ls (w :: st))) := by
  obtain ⟨fs, hr, hrun, hended, hW, hsame⟩ := X.leave (v := some w) (fun h => by rw [hret] at h; cases h) hlk
  exact ⟨_, _, retOut X hx hret hn hi hd hr, hrun, hended, _, _, rfl, hq, ⟨_, rfl⟩, hW, hsame.mono hc hs⟩
theorem s_ret (X : Stand p l e R s m args below meth c T locs cells slots) (hx : p.tables.exec = Jvm.exec) (hlk : meth.locks = false) {Q : Option Value → Heap → List Loc → Prop} {pc rc rs : Nat} {Ls : Array Slot} (hret : meth.sig.returnType = none)
    (hd : decode c.code pc = .ok (.return_, 1)) (hc : cells ≤ rc) (hs : slots ≤ rs) (hq : Q none T.heap locs) : Goes p e below (EndsAs Q s rc rs) (T.setTop (mkF m pc Ls [])) := by
  obtain ⟨fs, hr, hrun, hended, hW, hsame⟩ := X.leave (v := none) (fun _ => rfl) hlk
  exact ⟨_, _, X.returnOut hx hret hd hr, hrun, hended, _, _, rfl, hq, ⟨_, rfl⟩, hW, hsame.mono hc hs⟩
theorem c_static (X : Stand p l e R s m args below meth c T locs cells slots) (hx : p.tables.exec = Jvm.exec) (hZ : Z.Warmed39 s.vm) {own : String} {index : Nat} {y : MethodName} (hown : s.vm.findClass own = some m.cls)
    {bytes : ByteArray} {maxL : Nat} {ret : Option FieldType} (w1 : (Jvm.Cond.methodLink own index y).before a0 Z = true) (w2 : (Jvm.Cond.static y).before a0 Z = true) (w3 : (Jvm.Cond.initialized y.cls).before a0 Z = true) (w4 : (Jvm.Cond.code y bytes maxL ret).before a0 Z = true) (hy : y.cls ≠ "java/lang/invoke/MethodHandle" ∧ y.cls ≠ "java/lang/invoke/VarHandle")
    {rm : Room} {as' : Array Value} {Q : Option Value → Heap → List Loc → Prop} (eT : T.heap = h) (hM : OwnMet l Z y bytes maxL ret [] rm as' h Q) {W : Nat} (hf : rm.frames + 1 ≤ R.frames) (hl : W + (maxL + 11) + rm.locals ≤ R.locals) (hc : cells + rm.cells ≤ R.cells) (hs : slots + rm.slots ≤ R.slots)
    {pc pc' : Nat} {Ls : Array Slot} {st : List Value} (hsize : Ls.size = c.maxLocals) {argsL rest : List Value} (hlen : ∀ sig, parseMethodDescriptor y.desc = some sig → argsL.length = sig.parameters.length) (has : argsL.toArray = as') (hst : st = argsL.reverse ++ rest) (hW : (rest.map fun v => v.category).sum ≤ W)
    (hd : decode c.code pc = .ok (.invokestatic index, 3)) (hp : pc + 3 = pc')
    (k : ∀ (T' : State) (v : Option Value) (L : List Loc), Stand p l e R s m args below meth c T' (locs ++ L) (cells + rm.cells) (slots + rm.slots) → Q v T'.heap L → Goes p e below G (T'.setTop (mkF m pc' Ls (v.toList ++ rest)))) :
    Goes p e below G (T.setTop (mkF m pc Ls st)) := by
  subst hp
  obtain ⟨v, _, ⟨T', L', k', n'⟩, -, X', ⟨Lc, hQ, l1, y1, z1⟩, stp⟩ := Jvm.LawKit.callS X hx (y := y) hown (mvT hZ w1) (mvT hZ w2) (mvT hZ w3) (mvT hZ w4) hy (backOf (W := W) hM hZ w4 w3 hf hl) (g := mkF m pc Ls st) rfl hsize (argsL := argsL) (rest := rest) hlen hst (by show 2 * 0 + _ ≤ _; omega) hd (fun _ _ => ⟨has, eT, hc, hs⟩)
  dsimp only [Pt.U, Pt.locs, Pt.cells, Pt.slots] at X' l1 y1 z1 stp hQ
  subst l1 y1 z1
  exact own_go stp (k T' v Lc X' hQ)
theorem c_special (X : Stand p l e R s m args below meth c T locs cells slots) (hx : p.tables.exec = Jvm.exec) (hZ : Z.Warmed39 s.vm) {own : String} {index : Nat} {y : MethodName} (hy1 : y.name = "<init>") (hown : s.vm.findClass own = some m.cls)
    {bytes : ByteArray} {maxL : Nat} (w1 : (Jvm.Cond.methodLink own index y).before a0 Z = true) (w2 : (Jvm.Cond.instanceMethod y).before a0 Z = true) (w3 : (Jvm.Cond.initialized y.cls).before a0 Z = true) (w4 : (Jvm.Cond.code y bytes maxL none).before a0 Z = true) (hy : y.cls ≠ "java/lang/invoke/MethodHandle" ∧ y.cls ≠ "java/lang/invoke/VarHandle")
    {rm : Room} {as' : Array Value} {Q : Option Value → Heap → List Loc → Prop} (eT : T.heap = h) (hM : OwnMet l Z y bytes maxL none [] rm as' h Q) {W : Nat} (hf : rm.frames + 1 ≤ R.frames) (hl : W + (maxL + 11) + rm.locals ≤ R.locals) (hc : cells + rm.cells ≤ R.cells) (hs : slots + rm.slots ≤ R.slots)
    {pc pc' : Nat} {Ls : Array Slot} {st : List Value} (hsize : Ls.size = c.maxLocals) {a : Addr} {argsL rest : List Value} (hlen : ∀ sig, parseMethodDescriptor y.desc = some sig → argsL.length = sig.parameters.length) (has : (.ref a :: argsL).toArray = as') (hst : st = argsL.reverse ++ .ref a :: rest) (hW : (rest.map fun v => v.category).sum ≤ W)
    (hd : decode c.code pc = .ok (.invokespecial index, 3)) (hp : pc + 3 = pc')
    (k : ∀ (T' : State) (v : Option Value) (L : List Loc), Stand p l e R s m args below meth c T' (locs ++ L) (cells + rm.cells) (slots + rm.slots) → Q v T'.heap L → Goes p e below G (T'.setTop (mkF m pc' Ls (v.toList ++ rest)))) :
    Goes p e below G (T.setTop (mkF m pc Ls st)) := by
  subst hp
  obtain ⟨v, _, ⟨T', L', k', n'⟩, -, X', ⟨Lc, hQ, l1, y1, z1⟩, stp⟩ := X.specialBack hx (y := y) hy1 hown (mvT hZ w1) (mvT hZ w2) (mvT hZ w4) hy (backOf (W := W) hM hZ w4 w3 hf hl) (g := mkF m pc Ls st) rfl hsize (Steps.refl _) (a := a) (argsL := argsL) (rest := rest) hlen hst (by show 2 * 0 + _ ≤ _; omega) hd (fun _ _ => ⟨has, eT, hc, hs⟩)
  dsimp only [Pt.U, Pt.locs, Pt.cells, Pt.slots] at X' l1 y1 z1 stp hQ
  subst l1 y1 z1
  exact own_go (fun _ q => stp.trans q) (k T' v Lc X' hQ)
theorem c_virtual (X : Stand p l e R s m args below meth c T locs cells slots) (hx : p.tables.exec = Jvm.exec) (hZ : Z.Warmed39 s.vm) {own C : String} {index : Nat} {y : MethodName} (hown : s.vm.findClass own = some m.cls)
    {bytes : ByteArray} {maxL : Nat} {ret : Option FieldType} (w1 : (Jvm.Cond.methodLink own index y).before a0 Z = true) (w2 : (Jvm.Cond.declares y).before a0 Z = true) (w5 : (Jvm.Cond.selects C y y).before a0 Z = true) (w6 : (Jvm.Cond.instanceMethod y).before a0 Z = true) (w3 : (Jvm.Cond.initialized y.cls).before a0 Z = true) (w4 : (Jvm.Cond.code y bytes maxL ret).before a0 Z = true) (hy : y.cls ≠ "java/lang/invoke/MethodHandle" ∧ y.cls ≠ "java/lang/invoke/VarHandle")
    {rm : Room} {as' : Array Value} {Q : Option Value → Heap → List Loc → Prop} (eT : T.heap = h) {a : Addr} (E : Exa Z h a C) (hM : OwnMet l Z y bytes maxL ret [] rm as' h Q) {W : Nat} (hf : rm.frames + 1 ≤ R.frames) (hl : W + (maxL + 11) + rm.locals ≤ R.locals) (hc : cells + rm.cells ≤ R.cells) (hs : slots + rm.slots ≤ R.slots)
    {pc pc' : Nat} {Ls : Array Slot} {st : List Value} (hsize : Ls.size = c.maxLocals) {argsL rest : List Value} (hlen : ∀ sig, parseMethodDescriptor y.desc = some sig → argsL.length = sig.parameters.length) (has : (.ref a :: argsL).toArray = as') (hst : st = argsL.reverse ++ .ref a :: rest) (hW : (rest.map fun v => v.category).sum ≤ W)
    (hd : decode c.code pc = .ok (.invokevirtual index, 3)) (hp : pc + 3 = pc')
    (k : ∀ (T' : State) (v : Option Value) (L : List Loc), Stand p l e R s m args below meth c T' (locs ++ L) (cells + rm.cells) (slots + rm.slots) → Q v T'.heap L → Goes p e below G (T'.setTop (mkF m pc' Ls (v.toList ++ rest)))) :
    Goes p e below G (T.setTop (mkF m pc Ls st)) := by
  subst hp
  obtain ⟨cq, kq, qa, qb, qc⟩ := isOf hZ eT E
  obtain ⟨v, _, ⟨T', L', k', n'⟩, -, X', ⟨Lc, hQ, l1, y1, z1⟩, stp⟩ := X.virtualBack hx (y := y) (z := y) hown (mvT hZ w1) (mvT hZ w2) (notFace_of_selects (args := #[]) (mvT hZ w5)) (mvT hZ w5) (mvT hZ w6) hy (backOf (W := W) hM hZ w4 w3 hf hl) qa qc (g := mkF m pc Ls st) rfl hsize (Steps.refl _) (argsL := argsL) (rest := rest) hlen hst (by show 2 * 0 + _ ≤ _; omega) hd (fun _ _ => ⟨has, eT, hc, hs⟩)
  dsimp only [Pt.U, Pt.locs, Pt.cells, Pt.slots] at X' l1 y1 z1 stp hQ
  subst l1 y1 z1
  exact own_go (fun _ q => stp.trans q) (k T' v Lc X' hQ)
theorem s_new (X : Stand p l e R s m args below meth c T locs cells slots) (hx : p.tables.exec = Jvm.exec) (hZ : Z.Warmed39 s.vm) {own C : String} {index n : Nat} (hown : s.vm.findClass own = some m.cls) (w : (Jvm.Cond.classLink own index C).before a0 Z = true) (wi : (Jvm.Cond.instantiable C n).before a0 Z = true) (wz : (Jvm.Cond.initialized C).before a0 Z = true) (eT : T.heap = h)
    {pc pc' : Nat} {Ls : Array Slot} {st : List Value} (hd : decode c.code pc = .ok (.new index, 3)) (hp : pc + 3 = pc') (hc : cells + 1 ≤ R.cells) (hl : slots + n ≤ R.slots)
    (k : ∀ (T' : State) (h' : Heap) (a : Addr), Stand p l e R s m args below meth c T' locs (cells + 1) (slots + n) → T'.heap = h' → Ext h h' → a = h.size → Exa Z h' a C → (∀ {O nm d : String} {ty : FieldType}, Laid Z a0 C O nm d → parseFieldDescriptor d = some ty → Fld Z h' a O nm d (defaultValue ty)) → Goes p e below G (T'.setTop (mkF m pc' Ls (.ref a :: st)))) :
    Goes p e below G (T.setTop (mkF m pc Ls st)) := by
  subst hp
  obtain ⟨T', h', X', e', E, A, D, -, stp⟩ := newO X hx hZ hown w wi wz eT (g := mkF m pc Ls st) rfl hd hc hl
  exact own_go stp (k T' h' _ X' e' E rfl A D)
theorem s_initO (X : Stand p l e R s m args below meth c T locs cells slots) (hx : p.tables.exec = Jvm.exec) (hZ : Z.Warmed39 s.vm) {own : String} {index : Nat} (hown : s.vm.findClass own = some m.cls) (w1 : (Jvm.Cond.methodLink own index Lib.objectInit).before a0 Z = true) (w2 : (Jvm.Cond.instanceMethod Lib.objectInit).before a0 Z = true)
    (w3 : (Jvm.Cond.code Lib.objectInit ⟨#[0xb1]⟩ 1 none).before a0 Z = true) (eT : T.heap = h) {pc pc' : Nat} {Ls : Array Slot} {st : List Value} {a : Addr} (hd : decode c.code pc = .ok (.invokespecial index, 3)) (hp : pc + 3 = pc') (hsize : Ls.size = c.maxLocals)
    (hf : 1 ≤ R.frames) {W : Nat} (hW : (st.map fun v => v.category).sum ≤ W) (hl : W + 12 ≤ R.locals)
    (k : ∀ T' : State, Stand p l e R s m args below meth c T' locs cells slots → T'.heap = h → Goes p e below G (T'.setTop (mkF m pc' Ls st))) :
    Goes p e below G (T.setTop (mkF m pc Ls (.ref a :: st))) := by
  subst hp
  obtain ⟨T', X', e', stp⟩ := initO X hx hZ hown w1 w2 w3 eT (g := mkF m pc Ls (.ref a :: st)) rfl hsize rfl hd hf (W := W) (by show 2 * 0 + _ ≤ _; omega) hl
  exact own_go stp (k T' X' e')
theorem s_getF (X : Stand p l e R s m args below meth c T locs cells slots) (hx : p.tables.exec = Jvm.exec) (hZ : Z.Warmed39 s.vm) {own O n d : String} {index : Nat} (hown : s.vm.findClass own = some m.cls) (w : (Jvm.Cond.fieldLink own index O n d).before a0 Z = true)
    (eT : T.heap = h) {a : Addr} {v : Value} (F : Fld Z h a O n d v) {pc pc' : Nat} {Ls : Array Slot} {st : List Value} (hd : decode c.code pc = .ok (.getfield index, 3)) (hp : pc + 3 = pc')
    (k : ∀ T' : State, Stand p l e R s m args below meth c T' locs cells slots → T'.heap = h → Goes p e below G (T'.setTop (mkF m pc' Ls (v :: st)))) :
    Goes p e below G (T.setTop (mkF m pc Ls (.ref a :: st))) := by
  subst hp
  obtain ⟨T', X', e', stp⟩ := getF X hx hZ hown (host := "") (Or.inl w) Via.refl eT F (g := mkF m pc Ls (.ref a :: st)) rfl rfl hd
  exact own_go stp (k T' X' e')
theorem s_getS (X : Stand p l e R s m args below meth c T locs cells slots) (hx : p.tables.exec = Jvm.exec) (hZ : Z.Warmed39 s.vm) {own O n d : String} {index : Nat} (hown : s.vm.findClass own = some m.cls) (w : (Jvm.Cond.fieldLink own index O n d).before a0 Z = true)
    (eT : T.heap = h) {v : Value} (F : Sta Z h O n d v) {pc pc' : Nat} {Ls : Array Slot} {st : List Value} (hd : decode c.code pc = .ok (.getstatic index, 3)) (hp : pc + 3 = pc')
    (k : ∀ T' : State, Stand p l e R s m args below meth c T' locs cells slots → T'.heap = h → Goes p e below G (T'.setTop (mkF m pc' Ls (v :: st)))) :
    Goes p e below G (T.setTop (mkF m pc Ls st)) := by
  subst hp
  obtain ⟨T', X', e', stp⟩ := getS X hx hZ hown (host := "") w Via.refl eT F (g := mkF m pc Ls st) rfl hd
  exact own_go stp (k T' X' e')
theorem s_instY (X : Stand p l e R s m args below meth c T locs cells slots) (hx : p.tables.exec = Jvm.exec) (hZ : Z.Warmed39 s.vm) {own K : String} {index : Nat} (hown : s.vm.findClass own = some m.cls) (w : (Jvm.Cond.classLink own index K).before a0 Z = true)
    (eT : T.heap = h) {a : Addr} (F : Ins Z h a K true) {pc pc' : Nat} {Ls : Array Slot} {st : List Value} (hd : decode c.code pc = .ok (.instanceof index, 3)) (hp : pc + 3 = pc')
    (k : ∀ T' : State, Stand p l e R s m args below meth c T' locs cells slots → T'.heap = h → Goes p e below G (T'.setTop (mkF m pc' Ls (.int 1 :: st)))) :
    Goes p e below G (T.setTop (mkF m pc Ls (.ref a :: st))) := by
  subst hp
  obtain ⟨T', X', e', stp⟩ := instY X hx hZ hown w eT F (g := mkF m pc Ls (.ref a :: st)) rfl rfl hd
  exact own_go stp (k T' X' e')
theorem s_castY (X : Stand p l e R s m args below meth c T locs cells slots) (hx : p.tables.exec = Jvm.exec) (hZ : Z.Warmed39 s.vm) {own K : String} {index : Nat} (hown : s.vm.findClass own = some m.cls) (w : (Jvm.Cond.classLink own index K).before a0 Z = true)
    (eT : T.heap = h) {a : Addr} (F : Ins Z h a K true) {pc pc' : Nat} {Ls : Array Slot} {st : List Value} (hd : decode c.code pc = .ok (.checkcast index, 3)) (hp : pc + 3 = pc')
    (k : ∀ T' : State, Stand p l e R s m args below meth c T' locs cells slots → T'.heap = h → Goes p e below G (T'.setTop (mkF m pc' Ls (.ref a :: st)))) :
    Goes p e below G (T.setTop (mkF m pc Ls (.ref a :: st))) := by
  subst hp
  obtain ⟨T', X', e', stp⟩ := castY X hx hZ hown w eT F (g := mkF m pc Ls (.ref a :: st)) rfl rfl hd
  exact own_go stp (k T' X' e')
theorem s_putF (X : Stand p l e R s m args below meth c T locs cells slots) (hx : p.tables.exec = Jvm.exec) (hZ : Z.Warmed39 s.vm) {own O n d C : String} {index kk : Nat} {ty : FieldType} (hown : s.vm.findClass own = some m.cls) (w : (Jvm.Cond.fieldLink own index O n d).before a0 Z = true)
    (eT : T.heap = h) {a : Addr} {v old : Value} (F : Fld Z h a O n d old) (E : Exa Z h a C) (L : (Jvm.Cond.lays C O n d).before a0 Z = true ∨ ((Jvm.Cond.laysFinal C O n d).before a0 Z = true ∧ own = O ∧ meth.name = "<init>")) (wi : (Jvm.Cond.instantiable C kk).before a0 Z = true)
    (hty : parseFieldDescriptor d = some ty) (hn : narrow ty v = v) (hf : fits ty v = true) {pc pc' : Nat} {Ls : Array Slot} {st : List Value} (hd : decode c.code pc = .ok (.putfield index, 3)) (hp : pc + 3 = pc')
    (k : ∀ (T' : State) (h' : Heap), Stand p l e R s m args below meth c T' (locs ++ [⟨a, Jvm.RoadKit.slotOf Z O n d⟩]) cells slots → T'.heap = h' → Wr h h' a (Jvm.RoadKit.slotOf Z O n d) v → Goes p e below G (T'.setTop (mkF m pc' Ls st))) :
    Goes p e below G (T.setTop (mkF m pc Ls (v :: .ref a :: st))) := by
  subst hp
  obtain ⟨T', h', X', e', W, stp⟩ := putF X hx hZ hown (host := "") (Or.inl w) Via.refl eT F E L wi hty hn hf (g := mkF m pc Ls (v :: .ref a :: st)) rfl rfl hd
  exact own_go stp (k T' h' X' e' W)
theorem s_newP (X : Stand p l e R s m args below meth c T locs cells slots) (hx : p.tables.exec = Jvm.exec) (hZ : Z.Warmed39 s.vm) {aty : ArrayType} (w : (Jvm.Cond.arrayClass (newarray.typeOf aty)).before a0 Z = true) (eT : T.heap = h)
    {pc pc' : Nat} {Ls : Array Slot} {st : List Value} {n : Int32} (hd : decode c.code pc = .ok (.newarray aty, 2)) (hp : pc + 2 = pc') (hn : ¬ n < 0) (cap : Nat) (hcap : n.toNatClampNeg ≤ cap) (hb : cap * 8 ≤ 536870912) (hc : cells + 1 ≤ R.cells) (hl : slots + cap ≤ R.slots)
    {ad : String} (had : "[" ++ (newarray.typeOf aty).toString = ad)
    (k : ∀ (T' : State) (h' : Heap) (cA : ClassId) (a : Addr), Stand p l e R s m args below meth c T' locs (cells + 1) (slots + cap) → T'.heap = h' → Ext h h' → a = h.size → Arv Z h' a cA (newarray.typeOf aty) n [] (defaultValue (newarray.typeOf aty)) → Exa Z h' a ad → Goes p e below G (T'.setTop (mkF m pc' Ls (.ref a :: st)))) :
    Goes p e below G (T.setTop (mkF m pc Ls (.int n :: st))) := by
  subst hp
  obtain ⟨T', h', cA, X', e', E, A, Ex, stp⟩ := newPE X hx hZ w eT (g := mkF m pc Ls (.int n :: st)) rfl hd rfl hn hcap hb hc hl had
  exact own_go stp (k T' h' cA _ X' e' E rfl (Arv.new A hn) Ex)
theorem s_len (X : Stand p l e R s m args below meth c T locs cells slots) (hx : p.tables.exec = Jvm.exec) (hZ : Z.Warmed39 s.vm) (eT : T.heap = h) {a : Addr} {kk : ClassId} {ty : FieldType} {z : Int32} {vs : List Value} {dv : Value} (F : Arv Z h a kk ty z vs dv)
    {pc pc' : Nat} {Ls : Array Slot} {st : List Value} (hd : decode c.code pc = .ok (.arraylength, 1)) (hp : pc + 1 = pc')
    (k : Goes p e below G (T.setTop (mkF m pc' Ls (.int z :: st)))) : Goes p e below G (T.setTop (mkF m pc Ls (.ref a :: st))) := by
  subst hp
  obtain ⟨cl, A, q1, S, q3, H, K⟩ := F
  refine own_go (fun t q => X.arraylength hx (by rw [eT]; exact A.1) (State.isArrayOf_alike hZ.alike A.2.1) (g := mkF m pc Ls (.ref a :: st)) rfl rfl hd t ?_) k
  rw [len_of S q3]; exact q
theorem own_fitD {v : Value} (h : fits .double v = true) : ∃ x, v = .double x := fit_D h
theorem s_daload (X : Stand p l e R s m args below meth c T locs cells slots) (hx : p.tables.exec = Jvm.exec) (hZ : Z.Warmed39 s.vm) (eT : T.heap = h) {a : Addr} {kk : ClassId} {z j : Int32} {vs : List Value} {dv : Value} (F : Arv Z h a kk .double z vs dv) (hj : ¬ j < 0 ∧ j < z) {v : Value} (hv : vs.getD j.toNatClampNeg dv = v)
    {pc pc' : Nat} {Ls : Array Slot} {st : List Value} (hd : decode c.code pc = .ok (.daload, 1)) (hp : pc + 1 = pc')
    (k : Goes p e below G (T.setTop (mkF m pc' Ls (v :: st)))) : Goes p e below G (T.setTop (mkF m pc Ls (.int j :: .ref a :: st))) := by
  subst hp
  obtain ⟨cl, A, q1, S, q3, H, K⟩ := F
  exact own_go (fun t q => X.daload hx (by rw [eT]; exact A.1) (State.isArrayOf_alike hZ.alike A.2.1) A.2.2 (inb_of S hj) (H.at (inb_of S hj) hv) (g := mkF m pc Ls (.int j :: .ref a :: st)) rfl rfl hd t q) k
theorem s_laload (X : Stand p l e R s m args below meth c T locs cells slots) (hx : p.tables.exec = Jvm.exec) (hZ : Z.Warmed39 s.vm) (eT : T.heap = h) {a : Addr} {kk : ClassId} {z j : Int32} {vs : List Value} {dv : Value} (F : Arv Z h a kk .long z vs dv) (hj : ¬ j < 0 ∧ j < z) {v : Value} (hv : vs.getD j.toNatClampNeg dv = v)
    {pc pc' : Nat} {Ls : Array Slot} {st : List Value} (hd : decode c.code pc = .ok (.laload, 1)) (hp : pc + 1 = pc')
    (k : Goes p e below G (T.setTop (mkF m pc' Ls (v :: st)))) : Goes p e below G (T.setTop (mkF m pc Ls (.int j :: .ref a :: st))) := by
  subst hp
  obtain ⟨cl, A, q1, S, q3, H, K⟩ := F
  exact own_go (fun t q => X.laload hx (by rw [eT]; exact A.1) (State.isArrayOf_alike hZ.alike A.2.1) A.2.2 (inb_of S hj) (H.at (inb_of S hj) hv) (g := mkF m pc Ls (.int j :: .ref a :: st)) rfl rfl hd t q) k
theorem s_iaload (X : Stand p l e R s m args below meth c T locs cells slots) (hx : p.tables.exec = Jvm.exec) (hZ : Z.Warmed39 s.vm) (eT : T.heap = h) {a : Addr} {kk : ClassId} {z j : Int32} {vs : List Value} {dv : Value} (F : Arv Z h a kk .int z vs dv) (hj : ¬ j < 0 ∧ j < z) {v : Value} (hv : vs.getD j.toNatClampNeg dv = v)
    {pc pc' : Nat} {Ls : Array Slot} {st : List Value} (hd : decode c.code pc = .ok (.iaload, 1)) (hp : pc + 1 = pc')
    (k : Goes p e below G (T.setTop (mkF m pc' Ls (v :: st)))) : Goes p e below G (T.setTop (mkF m pc Ls (.int j :: .ref a :: st))) := by
  subst hp
  obtain ⟨cl, A, q1, S, q3, H, K⟩ := F
  exact own_go (fun t q => X.iaload hx (by rw [eT]; exact A.1) (State.isArrayOf_alike hZ.alike A.2.1) A.2.2 (inb_of S hj) (H.at (inb_of S hj) hv) (g := mkF m pc Ls (.int j :: .ref a :: st)) rfl rfl hd t q) k
theorem s_aaload (X : Stand p l e R s m args below meth c T locs cells slots) (hx : p.tables.exec = Jvm.exec) (hZ : Z.Warmed39 s.vm) (eT : T.heap = h) {a : Addr} {kk : ClassId} {ty : FieldType} {z j : Int32} {vs : List Value} {dv : Value} (F : Arv Z h a kk ty z vs dv) (hty : ty.isReference = true) (hj : ¬ j < 0 ∧ j < z) {v : Value} (hv : vs.getD j.toNatClampNeg dv = v)
    {pc pc' : Nat} {Ls : Array Slot} {st : List Value} (hd : decode c.code pc = .ok (.aaload, 1)) (hp : pc + 1 = pc')
    (k : Goes p e below G (T.setTop (mkF m pc' Ls (v :: st)))) : Goes p e below G (T.setTop (mkF m pc Ls (.int j :: .ref a :: st))) := by
  subst hp
  obtain ⟨cl, A, q1, S, q3, H, K⟩ := F
  exact own_go (fun t q => X.aaload hx (by rw [eT]; exact A.1) (State.isArrayOf_alike hZ.alike A.2.1) hty A.2.2 (inb_of S hj) (H.at (inb_of S hj) hv) (g := mkF m pc Ls (.int j :: .ref a :: st)) rfl rfl hd t q) k
theorem s_dastore (X : Stand p l e R s m args below meth c T locs cells slots) (hx : p.tables.exec = Jvm.exec) (hZ : Z.Warmed39 s.vm) (eT : T.heap = h) {a : Addr} {kk : ClassId} {z j : Int32} {vs : List Value} {dv : Value} (F : Arv Z h a kk .double z vs dv) (hj : ¬ j < 0 ∧ j < z) (i : Nat) (hi : j.toNatClampNeg = i) (hl : i < vs.length) {x : UInt64}
    {pc pc' : Nat} {Ls : Array Slot} {st : List Value} (hd : decode c.code pc = .ok (.dastore, 1)) (hp : pc + 1 = pc')
    (k : ∀ (T' : State) (h' : Heap), Stand p l e R s m args below meth c T' (locs ++ [⟨a, j.toNatClampNeg⟩]) cells slots → T'.heap = h' → Wr h h' a j.toNatClampNeg (.double x) → Arv Z h' a kk .double z (vs.set i (.double x)) dv → Goes p e below G (T'.setTop (mkF m pc' Ls st))) :
    Goes p e below G (T.setTop (mkF m pc Ls (.double x :: .int j :: .ref a :: st))) := by
  subst hp
  obtain ⟨cl, A, q1, S, q3, H, K⟩ := F
  obtain ⟨T', h', X', e', W, stp⟩ := stD X hx hZ eT A (inb_of S hj) (g := mkF m pc Ls (.double x :: .int j :: .ref a :: st)) rfl rfl hd
  exact own_go stp (k T' h' X' e' W (Arv.set A q1 S q3 H K rfl W i hi hl))
theorem s_lastore (X : Stand p l e R s m args below meth c T locs cells slots) (hx : p.tables.exec = Jvm.exec) (hZ : Z.Warmed39 s.vm) (eT : T.heap = h) {a : Addr} {kk : ClassId} {z j : Int32} {vs : List Value} {dv : Value} (F : Arv Z h a kk .long z vs dv) (hj : ¬ j < 0 ∧ j < z) (i : Nat) (hi : j.toNatClampNeg = i) (hl : i < vs.length) {x : Int64}
    {pc pc' : Nat} {Ls : Array Slot} {st : List Value} (hd : decode c.code pc = .ok (.lastore, 1)) (hp : pc + 1 = pc')
    (k : ∀ (T' : State) (h' : Heap), Stand p l e R s m args below meth c T' (locs ++ [⟨a, j.toNatClampNeg⟩]) cells slots → T'.heap = h' → Wr h h' a j.toNatClampNeg (.long x) → Arv Z h' a kk .long z (vs.set i (.long x)) dv → Goes p e below G (T'.setTop (mkF m pc' Ls st))) :
    Goes p e below G (T.setTop (mkF m pc Ls (.long x :: .int j :: .ref a :: st))) := by
  subst hp
  obtain ⟨cl, A, q1, S, q3, H, K⟩ := F
  obtain ⟨T', h', X', e', W, stp⟩ := stJ X hx hZ eT A (inb_of S hj) (g := mkF m pc Ls (.long x :: .int j :: .ref a :: st)) rfl rfl hd
  exact own_go stp (k T' h' X' e' W (Arv.set A q1 S q3 H K rfl W i hi hl))
def EndsAsW (Q : Option Value → Heap → List Loc → Prop) (s : State) (rc rs : Nat) (o : Outcome) (U : State) : Prop :=
  ∃ v L, o = .returned v ∧ Q v U.heap L ∧ ReturnedEndW s o U L rc rs
abbrev OwnMetW (l : Launch) (Z : State) (y : MethodName) (bytes : ByteArray) (maxL : Nat) (ret : Option FieldType) (ws : List Jvm.Cond) (rm : Room) (as' : Array Value) (h : Heap) (Q : Option Value → Heap → List Loc → Prop) : Prop :=
  MetFree l y (head1 (Jvm.Cond.code y bytes maxL ret :: ws) rm) (fun a U => a = as' ∧ Z.Warmed39 U.vm ∧ U.heap = h) (fun _ _ _ _ _ => True) (fun _ U o U' => ∃ v L, o = .returned v ∧ Q v U'.heap L ∧ ReturnedEndW U o U' L rm.cells rm.slots)
theorem own_metW {y : MethodName} {bytes : ByteArray} {maxL : Nat} {ret : Option FieldType} {ws : List Jvm.Cond} {rm : Room} {as' : Array Value} {h : Heap} {Q : Option Value → Heap → List Loc → Prop} {Ls : Array Slot}
    (hpn : plainFor y = true) (hef : ∀ m, entryFrame m as' maxL = mkF m 0 Ls [])
    (body : ∀ (p : Program) (e : Env) (s : State) (m : MethodId) (below : List Frame) (meth : Method) (c : Code) (s₁ : State), p.tables.exec = Jvm.exec → c.code = bytes → c.maxLocals = maxL → Z.Warmed39 s.vm → s.vm.findClass y.cls = some m.cls → meth.name = y.name → meth.sig.returnType = ret → meth.locks = false →
      Stand p l e rm (s.setVm s.vm) m as' below meth c s₁ [] 0 0 → s₁.heap = h → s.Since s.vm 0 → 0 ≤ h.size → Goes p e below (EndsAsW Q s rm.cells rm.slots) (s₁.setTop (mkF m 0 Ls []))) :
    OwnMetW l Z y bytes maxL ret ws rm as' h Q := by
  refine MetFree.of_bodySF hpn hisR ?_
  intro p e s m args below meth c s₁ Bd hml0 hP hK
  obtain ⟨rfl, hZ, hh⟩ := hP
  obtain ⟨s₂, o, h1, h2, h3, h4⟩ := body p e s m below meth c s₁ Bd.exec Bd.bytes hml0 hZ (findClass_of_methodNamed Bd.named) (name_of_methodNamed Bd.named Bd.method).1 Bd.returns Bd.notSynchronized (Stand.of_body Bd) (by rw [← hh, Bd.state]; rfl) ((State.WarmedH.refl s).since 0) (Nat.zero_le _)
  exact ⟨s₂, o, castTop (hef m) h1, h2, h3, h4⟩
theorem s_retIW {vm0 : Vm} (X : Stand p l e R (s.setVm vm0) m args below meth c T locs cells slots) (hx : p.tables.exec = Jvm.exec) (hlk : meth.locks = false) {n : Nat} (hS : s.Since vm0 n) (hk : n ≤ T.heap.size) {Q : Option Value → Heap → List Loc → Prop} {pc rc rs : Nat} {Ls : Array Slot} {st : List Value} {t : FieldType} {w : Value} {i : Instr} (hret : meth.sig.returnType = some t)
    (hd : decode c.code pc = .ok (i, 1)) (hn : narrow t w = w) (hi : (i = .ireturn ∧ (t = .int ∨ t = .boolean ∨ t = .byte ∨ t = .char ∨ t = .short) ∧ ∃ z, w = .int z) ∨ (i = .lreturn ∧ t = .long ∧ ∃ z, w = .long z) ∨ (i = .dreturn ∧ t = .double ∧ ∃ z, w = .double z) ∨ (i = .freturn ∧ t = .float ∧ ∃ z, w = .float z) ∨ (i = .areturn ∧ t.isReference = true ∧ w.isRef = true))
    (hc : cells ≤ rc) (hs : slots ≤ rs) (hq : Q (some w) T.heap locs) : Goes p e below (EndsAsW Q s rc rs) (T.setTop (mkF m pc Ls (w :: st))) := by
  obtain ⟨fs, hr, hrun, hended, hE⟩ := X.leaveW hS hk (v := some w) (fun h => by rw [hret] at h; cases h) hlk
  exact ⟨_, _, retOut X hx hret hn hi hd hr, hrun, hended, _, _, rfl, hq, hE.1, hE.2.1, hE.2.2.1, hE.2.2.2.mono hc hs⟩
theorem s_retW {vm0 : Vm} (X : Stand p l e R (s.setVm vm0) m args below meth c T locs cells slots) (hx : p.tables.exec = Jvm.exec) (hlk : meth.locks = false) {n : Nat} (hS : s.Since vm0 n) (hk : n ≤ T.heap.size) {Q : Option Value → Heap → List Loc → Prop} {pc rc rs : Nat} {Ls : Array Slot} (hret : meth.sig.returnType = none)
    (hd : decode c.code pc = .ok (.return_, 1)) (hc : cells ≤ rc) (hs : slots ≤ rs) (hq : Q none T.heap locs) : Goes p e below (EndsAsW Q s rc rs) (T.setTop (mkF m pc Ls [])) := by
  obtain ⟨fs, hr, hrun, hended, hE⟩ := X.leaveW hS hk (v := none) (fun _ => rfl) hlk
  exact ⟨_, _, X.returnOut hx hret hd hr, hrun, hended, _, _, rfl, hq, hE.1, hE.2.1, hE.2.2.1, hE.2.2.2.mono hc hs⟩
theorem s_ldcS {vm0 : Vm} (X : Stand p l e R (s.setVm vm0) m args below meth c T locs cells slots) (hx : p.tables.exec = Jvm.exec) (hZ : Z.Warmed39 vm0) {own text : String} {index : Nat} (hown : vm0.findClass own = some m.cls) (w : (Jvm.Cond.stringLink own index text).before a0 Z = true) (wS : ∀ a ∈ Bundle.stringAtoms, a.before a0 Z = true)
    (eT : T.heap = h) {k0 : Nat} (hS : s.Since vm0 k0) (hk : k0 ≤ h.size) {pc pc' : Nat} {Ls : Array Slot} {st : List Value} (hd : decode c.code pc = .ok (.ldc index, 2)) (hp : pc + 2 = pc') (n : Nat) (hn : 4 * text.toList.length ≤ n) (hbig : n ≤ 536870912) (hc : cells + 2 ≤ R.cells) (hl : slots + (n + 4) ≤ R.slots)
    (k : ∀ (a : Addr) (T' : State) (h' : Heap) (k1 : Nat), Stand p l e R (s.setVm T'.vm) m args below meth c T' locs (cells + 2) (slots + (n + 4)) → T'.heap = h' → Ext h h' → s.Since T'.vm k1 → k1 ≤ h'.size → Z.Warmed39 T'.vm → T'.vm.findClass own = some m.cls → Goes p e below G (T'.setTop (mkF m pc' Ls (.ref a :: st)))) :
    Goes p e below G (T.setTop (mkF m pc Ls st)) := by
  subst hp
  obtain ⟨a, T', h', k1, X', e', E, hS', hk', hZ', ho', stp⟩ := ldcS X hx hZ hown w wS eT hS hk (g := mkF m pc Ls st) rfl hd hn hbig hc hl
  exact own_go stp (k a T' h' k1 X' e' E hS' hk' hZ' ho')
theorem c_specialW {vm0 : Vm} (X : Stand p l e R (s.setVm vm0) m args below meth c T locs cells slots) (hx : p.tables.exec = Jvm.exec) (hZ : Z.Warmed39 vm0) {n : Nat} (hS : s.Since vm0 n) (hk : n ≤ h.size) {own : String} {index : Nat} {y : MethodName} (hy1 : y.name = "<init>") (hown : vm0.findClass own = some m.cls)
    {bytes : ByteArray} {maxL : Nat} (w1 : (Jvm.Cond.methodLink own index y).before a0 Z = true) (w2 : (Jvm.Cond.instanceMethod y).before a0 Z = true) (w3 : (Jvm.Cond.initialized y.cls).before a0 Z = true) (w4 : (Jvm.Cond.code y bytes maxL none).before a0 Z = true) (hy : y.cls ≠ "java/lang/invoke/MethodHandle" ∧ y.cls ≠ "java/lang/invoke/VarHandle")
    {rm : Room} {as' : Array Value} {Q : Option Value → Heap → List Loc → Prop} (eT : T.heap = h) (hM : OwnMetW l Z y bytes maxL none [] rm as' h Q) {W : Nat} (hf : rm.frames + 1 ≤ R.frames) (hl : W + (maxL + 11) + rm.locals ≤ R.locals) (hc : cells + rm.cells ≤ R.cells) (hs : slots + rm.slots ≤ R.slots)
    {pc pc' : Nat} {Ls : Array Slot} {st : List Value} (hsize : Ls.size = c.maxLocals) {a : Addr} {argsL rest : List Value} (hlen : ∀ sig, parseMethodDescriptor y.desc = some sig → argsL.length = sig.parameters.length) (has : (.ref a :: argsL).toArray = as') (hst : st = argsL.reverse ++ .ref a :: rest) (hW : (rest.map fun v => v.category).sum ≤ W)
    (hd : decode c.code pc = .ok (.invokespecial index, 3)) (hp : pc + 3 = pc')
    (k : ∀ (T' : State) (v : Option Value) (L : List Loc), Stand p l e R (s.setVm T'.vm) m args below meth c T' (locs ++ L) (cells + rm.cells) (slots + rm.slots) → Q v T'.heap L → s.Since T'.vm T'.heap.size → Z.Warmed39 T'.vm → T'.vm.findClass own = some m.cls → Goes p e below G (T'.setTop (mkF m pc' Ls (v.toList ++ rest)))) :
    Goes p e below G (T.setTop (mkF m pc Ls st)) := by
  subst hp
  obtain ⟨v, _, ⟨T', L', k', n'⟩, -, X', hS2, hgr, ⟨Lc, hQ, l1, y1, z1⟩, stp⟩ := X.specialBackS hx (y := y) hy1 hown (mvT (s := s.setVm vm0) hZ w1) (mvT (s := s.setVm vm0) hZ w2) (mvT (s := s.setVm vm0) hZ w4) hy (backOfS (s := s.setVm vm0) (W := W) hM hZ w4 w3 hf hl) (g := mkF m pc Ls st) rfl hsize (Steps.refl _) (a := a) (argsL := argsL) (rest := rest) hlen hst (by show 2 * 0 + _ ≤ _; omega) hd (fun _ _ => ⟨has, eT, hc, hs⟩)
  dsimp only [Pt.U, Pt.locs, Pt.cells, Pt.slots] at X' l1 y1 z1 stp hQ hS2 hgr
  subst l1 y1 z1
  exact own_go (fun _ q => stp.trans q) (k T' v Lc X' hQ (hS.trans hS2 (Nat.le_trans (by rw [eT]; exact hk) hgr)) (State.Warmed39.trans (t := s.setVm vm0) hZ hS2.1) (by rw [hS2.1.alike.findClass]; exact hown))
theorem s_absD (X : Stand p l e R s m args below meth c T locs cells slots) (hx : p.tables.exec = Jvm.exec) (hZ : Z.Warmed39 s.vm) {own : String} {index : Nat} (hown : s.vm.findClass own = some m.cls) {bytes : ByteArray} {maxL : Nat}
    (w1 : (Jvm.Cond.methodLink own index NT.mathAbs64N).before a0 Z = true) (w2 : (Jvm.Cond.static NT.mathAbs64N).before a0 Z = true) (w3 : (Jvm.Cond.initialized "java/lang/Math").before a0 Z = true) (w4 : (Jvm.Cond.code NT.mathAbs64N bytes maxL (some .double)).before a0 Z = true)
    (eT : T.heap = h) {x : UInt64} (hn : NoNaN64 x) {W : Nat} (hf : 1 ≤ R.frames) (hl : W + (maxL + 11) ≤ R.locals) {pc pc' : Nat} {Ls : Array Slot} {st : List Value} (hsize : Ls.size = c.maxLocals) (hW : (st.map fun v => v.category).sum ≤ W)
    (hd : decode c.code pc = .ok (.invokestatic index, 3)) (hp : pc + 3 = pc')
    (k : ∀ T' : State, Stand p l e R s m args below meth c T' locs cells slots → T'.heap = h → Goes p e below G (T'.setTop (mkF m pc' Ls (.double (x &&& 0x7fffffffffffffff) :: st)))) :
    Goes p e below G (T.setTop (mkF m pc Ls (.double x :: st))) := by
  subst hp
  obtain ⟨v, vm1, B, -, X', ⟨hB, hv⟩, stp⟩ := Jvm.LawKit.callS X hx (y := NT.mathAbs64N) hown (mvT hZ w1) (mvT hZ w2) (mvT hZ w3) (mvT hZ w4) (by decide) (NT.Abs64.pays (W := W) (mvT hZ w4) (mvT hZ w2) hf hl) (g := mkF m pc Ls (.double x :: st)) rfl hsize (argsL := [.double x]) (rest := st) (lenOf NT.mathAbs64_desc rfl) rfl (by show 2 * 0 + _ ≤ _; omega) hd (fun _ _ => ⟨x, rfl, hn⟩)
  have hv' := hv x ⟨rfl, hn⟩
  subst hB hv'
  exact own_go stp (k _ X' eT)
theorem s_iload (X : Stand p l e R s m args below meth c T locs cells slots) (hx : p.tables.exec = Jvm.exec) {pc pc' : Nat} {Ls : Array Slot} {st : List Value} {j : Nat} {v : Int32} (hd : decode c.code pc = .ok (.iload j, 2)) (hp : pc + 2 = pc') (hl : Ls[j]? = some (.val (.int v)))
    (k : Goes p e below G (T.setTop (mkF m pc' Ls (.int v :: st)))) : Goes p e below G (T.setTop (mkF m pc Ls (st))) := by
  subst hp
  exact own_go (fun _ k => XS.iload X.here hx rfl hd hl k) k
theorem s_iloadN (X : Stand p l e R s m args below meth c T locs cells slots) (hx : p.tables.exec = Jvm.exec) {pc pc' : Nat} {Ls : Array Slot} {st : List Value} {j : Fin 4} {v : Int32} (hd : decode c.code pc = .ok (.iload_n j, 1)) (hp : pc + 1 = pc') (hl : Ls[j.val]? = some (.val (.int v)))
    (k : Goes p e below G (T.setTop (mkF m pc' Ls (.int v :: st)))) : Goes p e below G (T.setTop (mkF m pc Ls (st))) := by
  subst hp
  exact own_go (fun _ k => XS.iloadN X.here hx rfl hd hl k) k
theorem s_istore (X : Stand p l e R s m args below meth c T locs cells slots) (hx : p.tables.exec = Jvm.exec) {pc pc' : Nat} {Ls : Array Slot} {st : List Value} {j : Nat} {v : Int32} (l' : Array Slot) (hd : decode c.code pc = .ok (.istore j, 2)) (hp : pc + 2 = pc') (hl : storeLocals Ls j (.int v) = some l')
    (k : Goes p e below G (T.setTop (mkF m pc' l' (st)))) : Goes p e below G (T.setTop (mkF m pc Ls (.int v :: st))) := by
  subst hp
  exact own_go (fun _ k => XS.istore X.here hx rfl hd rfl hl k) k
theorem s_istoreN (X : Stand p l e R s m args below meth c T locs cells slots) (hx : p.tables.exec = Jvm.exec) {pc pc' : Nat} {Ls : Array Slot} {st : List Value} {j : Fin 4} {v : Int32} (l' : Array Slot) (hd : decode c.code pc = .ok (.istore_n j, 1)) (hp : pc + 1 = pc') (hl : storeLocals Ls j.val (.int v) = some l')
    (k : Goes p e below G (T.setTop (mkF m pc' l' (st)))) : Goes p e below G (T.setTop (mkF m pc Ls (.int v :: st))) := by
  subst hp
  exact own_go (fun _ k => XS.istoreN X.here hx rfl hd rfl hl k) k
theorem s_lload (X : Stand p l e R s m args below meth c T locs cells slots) (hx : p.tables.exec = Jvm.exec) {pc pc' : Nat} {Ls : Array Slot} {st : List Value} {j : Nat} {v : Int64} (hd : decode c.code pc = .ok (.lload j, 2)) (hp : pc + 2 = pc') (hl : Ls[j]? = some (.val (.long v)))
    (k : Goes p e below G (T.setTop (mkF m pc' Ls (.long v :: st)))) : Goes p e below G (T.setTop (mkF m pc Ls (st))) := by
  subst hp
  exact own_go (fun _ k => XT.lload X.here hx rfl hd hl k) k
theorem s_lloadN (X : Stand p l e R s m args below meth c T locs cells slots) (hx : p.tables.exec = Jvm.exec) {pc pc' : Nat} {Ls : Array Slot} {st : List Value} {j : Fin 4} {v : Int64} (hd : decode c.code pc = .ok (.lload_n j, 1)) (hp : pc + 1 = pc') (hl : Ls[j.val]? = some (.val (.long v)))
    (k : Goes p e below G (T.setTop (mkF m pc' Ls (.long v :: st)))) : Goes p e below G (T.setTop (mkF m pc Ls (st))) := by
  subst hp
  exact own_go (fun _ k => XT.lloadN X.here hx rfl hd hl k) k
theorem s_lstore (X : Stand p l e R s m args below meth c T locs cells slots) (hx : p.tables.exec = Jvm.exec) {pc pc' : Nat} {Ls : Array Slot} {st : List Value} {j : Nat} {v : Int64} (l' : Array Slot) (hd : decode c.code pc = .ok (.lstore j, 2)) (hp : pc + 2 = pc') (hl : storeLocals Ls j (.long v) = some l')
    (k : Goes p e below G (T.setTop (mkF m pc' l' (st)))) : Goes p e below G (T.setTop (mkF m pc Ls (.long v :: st))) := by
  subst hp
  exact own_go (fun _ k => XT.lstore X.here hx rfl hd rfl hl k) k
theorem s_lstoreN (X : Stand p l e R s m args below meth c T locs cells slots) (hx : p.tables.exec = Jvm.exec) {pc pc' : Nat} {Ls : Array Slot} {st : List Value} {j : Fin 4} {v : Int64} (l' : Array Slot) (hd : decode c.code pc = .ok (.lstore_n j, 1)) (hp : pc + 1 = pc') (hl : storeLocals Ls j.val (.long v) = some l')
    (k : Goes p e below G (T.setTop (mkF m pc' l' (st)))) : Goes p e below G (T.setTop (mkF m pc Ls (.long v :: st))) := by
  subst hp
  exact own_go (fun _ k => XT.lstoreN X.here hx rfl hd rfl hl k) k
theorem s_dload (X : Stand p l e R s m args below meth c T locs cells slots) (hx : p.tables.exec = Jvm.exec) {pc pc' : Nat} {Ls : Array Slot} {st : List Value} {j : Nat} {v : UInt64} (hd : decode c.code pc = .ok (.dload j, 2)) (hp : pc + 2 = pc') (hl : Ls[j]? = some (.val (.double v)))
    (k : Goes p e below G (T.setTop (mkF m pc' Ls (.double v :: st)))) : Goes p e below G (T.setTop (mkF m pc Ls (st))) := by
  subst hp
  exact own_go (fun _ k => XS.dload X.here hx rfl hd hl k) k
theorem s_dloadN (X : Stand p l e R s m args below meth c T locs cells slots) (hx : p.tables.exec = Jvm.exec) {pc pc' : Nat} {Ls : Array Slot} {st : List Value} {j : Fin 4} {v : UInt64} (hd : decode c.code pc = .ok (.dload_n j, 1)) (hp : pc + 1 = pc') (hl : Ls[j.val]? = some (.val (.double v)))
    (k : Goes p e below G (T.setTop (mkF m pc' Ls (.double v :: st)))) : Goes p e below G (T.setTop (mkF m pc Ls (st))) := by
  subst hp
  exact own_go (fun _ k => XS.dloadN X.here hx rfl hd hl k) k
theorem s_dstore (X : Stand p l e R s m args below meth c T locs cells slots) (hx : p.tables.exec = Jvm.exec) {pc pc' : Nat} {Ls : Array Slot} {st : List Value} {j : Nat} {v : UInt64} (l' : Array Slot) (hd : decode c.code pc = .ok (.dstore j, 2)) (hp : pc + 2 = pc') (hl : storeLocals Ls j (.double v) = some l')
    (k : Goes p e below G (T.setTop (mkF m pc' l' (st)))) : Goes p e below G (T.setTop (mkF m pc Ls (.double v :: st))) := by
  subst hp
  exact own_go (fun _ k => XS.dstore X.here hx rfl hd rfl hl k) k
theorem s_dstoreN (X : Stand p l e R s m args below meth c T locs cells slots) (hx : p.tables.exec = Jvm.exec) {pc pc' : Nat} {Ls : Array Slot} {st : List Value} {j : Fin 4} {v : UInt64} (l' : Array Slot) (hd : decode c.code pc = .ok (.dstore_n j, 1)) (hp : pc + 1 = pc') (hl : storeLocals Ls j.val (.double v) = some l')
    (k : Goes p e below G (T.setTop (mkF m pc' l' (st)))) : Goes p e below G (T.setTop (mkF m pc Ls (.double v :: st))) := by
  subst hp
  exact own_go (fun _ k => XS.dstoreN X.here hx rfl hd rfl hl k) k
theorem s_aload (X : Stand p l e R s m args below meth c T locs cells slots) (hx : p.tables.exec = Jvm.exec) {pc pc' : Nat} {Ls : Array Slot} {st : List Value} {j : Nat} {v : Value} (hd : decode c.code pc = .ok (.aload j, 2)) (hp : pc + 2 = pc') (hl : Ls[j]? = some (.val v)) (hv : v.isRef = true)
    (k : Goes p e below G (T.setTop (mkF m pc' Ls (v :: st)))) : Goes p e below G (T.setTop (mkF m pc Ls (st))) := by
  subst hp
  exact own_go (fun _ k => XS.aload X.here hx rfl hd hl hv k) k
theorem s_aloadN (X : Stand p l e R s m args below meth c T locs cells slots) (hx : p.tables.exec = Jvm.exec) {pc pc' : Nat} {Ls : Array Slot} {st : List Value} {j : Fin 4} {v : Value} (hd : decode c.code pc = .ok (.aload_n j, 1)) (hp : pc + 1 = pc') (hl : Ls[j.val]? = some (.val v)) (hv : v.isRef = true)
    (k : Goes p e below G (T.setTop (mkF m pc' Ls (v :: st)))) : Goes p e below G (T.setTop (mkF m pc Ls (st))) := by
  subst hp
  exact own_go (fun _ k => XS.aloadN X.here hx rfl hd hl hv k) k
theorem s_astore (X : Stand p l e R s m args below meth c T locs cells slots) (hx : p.tables.exec = Jvm.exec) {pc pc' : Nat} {Ls : Array Slot} {st : List Value} {j : Nat} {v : Value} (l' : Array Slot) (hd : decode c.code pc = .ok (.astore j, 2)) (hp : pc + 2 = pc') (hv : v.isRef = true) (hl : storeLocals Ls j v = some l')
    (k : Goes p e below G (T.setTop (mkF m pc' l' (st)))) : Goes p e below G (T.setTop (mkF m pc Ls (v :: st))) := by
  subst hp
  exact own_go (fun _ k => XS.astore X.here hx rfl hd rfl hv hl k) k
theorem s_astoreN (X : Stand p l e R s m args below meth c T locs cells slots) (hx : p.tables.exec = Jvm.exec) {pc pc' : Nat} {Ls : Array Slot} {st : List Value} {j : Fin 4} {v : Value} (l' : Array Slot) (hd : decode c.code pc = .ok (.astore_n j, 1)) (hp : pc + 1 = pc') (hv : v.isRef = true) (hl : storeLocals Ls j.val v = some l')
    (k : Goes p e below G (T.setTop (mkF m pc' l' (st)))) : Goes p e below G (T.setTop (mkF m pc Ls (v :: st))) := by
  subst hp
  exact own_go (fun _ k => XS.astoreN X.here hx rfl hd rfl hv hl k) k
theorem s_iconst (X : Stand p l e R s m args below meth c T locs cells slots) (hx : p.tables.exec = Jvm.exec) {pc pc' : Nat} {Ls : Array Slot} {st : List Value} {i : Int} (v : Int32) (hd : decode c.code pc = .ok (.iconst i, 1)) (hp : pc + 1 = pc') (hv : Int32.ofInt i = v)
    (k : Goes p e below G (T.setTop (mkF m pc' Ls (.int v :: st)))) : Goes p e below G (T.setTop (mkF m pc Ls (st))) := by
  subst hp
  exact own_go (fun _ k => XS.iconst X.here hx rfl hd (by rw [hv]; exact k)) k
theorem s_bipush (X : Stand p l e R s m args below meth c T locs cells slots) (hx : p.tables.exec = Jvm.exec) {pc pc' : Nat} {Ls : Array Slot} {st : List Value} {i : Int} (v : Int32) (hd : decode c.code pc = .ok (.bipush i, 2)) (hp : pc + 2 = pc') (hv : (Int8.ofInt i).toInt32 = v)
    (k : Goes p e below G (T.setTop (mkF m pc' Ls (.int v :: st)))) : Goes p e below G (T.setTop (mkF m pc Ls (st))) := by
  subst hp
  exact own_go (fun _ k => XS.bipush X.here hx rfl hd (by rw [hv]; exact k)) k
theorem s_sipush (X : Stand p l e R s m args below meth c T locs cells slots) (hx : p.tables.exec = Jvm.exec) {pc pc' : Nat} {Ls : Array Slot} {st : List Value} {i : Int} (v : Int32) (hd : decode c.code pc = .ok (.sipush i, 3)) (hp : pc + 3 = pc') (hv : (Int16.ofInt i).toInt32 = v)
    (k : Goes p e below G (T.setTop (mkF m pc' Ls (.int v :: st)))) : Goes p e below G (T.setTop (mkF m pc Ls (st))) := by
  subst hp
  exact own_go (fun _ k => XS.sipush X.here hx rfl hd (by rw [hv]; exact k)) k
theorem s_lconst (X : Stand p l e R s m args below meth c T locs cells slots) (hx : p.tables.exec = Jvm.exec) {pc pc' : Nat} {Ls : Array Slot} {st : List Value} {i : Fin 2} (v : Int64) (hd : decode c.code pc = .ok (.lconst i, 1)) (hp : pc + 1 = pc') (hv : Int64.ofNat i = v)
    (k : Goes p e below G (T.setTop (mkF m pc' Ls (.long v :: st)))) : Goes p e below G (T.setTop (mkF m pc Ls (st))) := by
  subst hp
  exact own_go (fun _ k => XT.lconst X.here hx rfl hd (by rw [hv]; exact k)) k
theorem s_dconst0 (X : Stand p l e R s m args below meth c T locs cells slots) (hx : p.tables.exec = Jvm.exec) {pc pc' : Nat} {Ls : Array Slot} {st : List Value}  (hd : decode c.code pc = .ok (.dconst 0, 1)) (hp : pc + 1 = pc') 
    (k : Goes p e below G (T.setTop (mkF m pc' Ls (.double 0 :: st)))) : Goes p e below G (T.setTop (mkF m pc Ls (st))) := by
  subst hp
  exact own_go (fun _ k => XS.dconst0 X.here hx rfl hd rfl k) k
theorem s_dconst1 (X : Stand p l e R s m args below meth c T locs cells slots) (hx : p.tables.exec = Jvm.exec) {pc pc' : Nat} {Ls : Array Slot} {st : List Value}  (hd : decode c.code pc = .ok (.dconst 1, 1)) (hp : pc + 1 = pc') 
    (k : Goes p e below G (T.setTop (mkF m pc' Ls (.double 4607182418800017408 :: st)))) : Goes p e below G (T.setTop (mkF m pc Ls (st))) := by
  subst hp
  exact own_go (fun _ k => XS.dconst1 X.here hx rfl hd rfl k) k
theorem s_aconstNull (X : Stand p l e R s m args below meth c T locs cells slots) (hx : p.tables.exec = Jvm.exec) {pc pc' : Nat} {Ls : Array Slot} {st : List Value}  (hd : decode c.code pc = .ok (.aconst_null, 1)) (hp : pc + 1 = pc') 
    (k : Goes p e below G (T.setTop (mkF m pc' Ls (.null :: st)))) : Goes p e below G (T.setTop (mkF m pc Ls (st))) := by
  subst hp
  exact own_go (fun _ k => XS.aconstNull X.here hx rfl hd k) k
theorem s_ldcI (X : Stand p l e R s m args below meth c T locs cells slots) (hx : p.tables.exec = Jvm.exec) {pc pc' : Nat} {Ls : Array Slot} {st : List Value} (hZ : Z.Warmed39 s.vm) {own : String} {j : Nat} {v : Int32} (hown : s.vm.findClass own = some m.cls) (w : (Jvm.Cond.constant own j v).before a0 Z = true) (hd : decode c.code pc = .ok (.ldc j, 2)) (hp : pc + 2 = pc') 
    (k : Goes p e below G (T.setTop (mkF m pc' Ls (.int v :: st)))) : Goes p e below G (T.setTop (mkF m pc Ls (st))) := by
  subst hp
  exact own_go (fun _ k => X.ldcInt hx hown (mvT hZ w) (g := mkF m pc Ls st) rfl hd _ k) k
theorem s_ldcJ (X : Stand p l e R s m args below meth c T locs cells slots) (hx : p.tables.exec = Jvm.exec) {pc pc' : Nat} {Ls : Array Slot} {st : List Value} (hZ : Z.Warmed39 s.vm) {own : String} {j : Nat} {v : Int64} (hown : s.vm.findClass own = some m.cls) (w : (Jvm.Cond.constantLong own j v).before a0 Z = true) (hd : decode c.code pc = .ok (.ldc2_w j, 3)) (hp : pc + 3 = pc') 
    (k : Goes p e below G (T.setTop (mkF m pc' Ls (.long v :: st)))) : Goes p e below G (T.setTop (mkF m pc Ls (st))) := by
  subst hp
  exact own_go (fun _ k => X.ldc2Long hx hown (mvT hZ w) (g := mkF m pc Ls st) rfl hd _ k) k
theorem s_ldcD (X : Stand p l e R s m args below meth c T locs cells slots) (hx : p.tables.exec = Jvm.exec) {pc pc' : Nat} {Ls : Array Slot} {st : List Value} (hZ : Z.Warmed39 s.vm) {own : String} {j : Nat} {v : UInt64} (hown : s.vm.findClass own = some m.cls) (w : (Jvm.Cond.constantDouble own j v).before a0 Z = true) (hd : decode c.code pc = .ok (.ldc2_w j, 3)) (hp : pc + 3 = pc') 
    (k : Goes p e below G (T.setTop (mkF m pc' Ls (.double v :: st)))) : Goes p e below G (T.setTop (mkF m pc Ls (st))) := by
  subst hp
  exact own_go (fun _ k => X.ldc2DoubleC hx hown (mvT hZ w) (g := mkF m pc Ls st) rfl hd _ k) k
theorem s_iadd (X : Stand p l e R s m args below meth c T locs cells slots) (hx : p.tables.exec = Jvm.exec) {pc pc' : Nat} {Ls : Array Slot} {st : List Value} {x y : Int32} (hd : decode c.code pc = .ok (.iadd, 1)) (hp : pc + 1 = pc') 
    (k : Goes p e below G (T.setTop (mkF m pc' Ls (.int (x + y) :: st)))) : Goes p e below G (T.setTop (mkF m pc Ls (.int y :: .int x :: st))) := by
  subst hp
  exact own_go (fun _ k => XS.iadd X.here hx rfl hd rfl k) k
theorem s_isub (X : Stand p l e R s m args below meth c T locs cells slots) (hx : p.tables.exec = Jvm.exec) {pc pc' : Nat} {Ls : Array Slot} {st : List Value} {x y : Int32} (hd : decode c.code pc = .ok (.isub, 1)) (hp : pc + 1 = pc') 
    (k : Goes p e below G (T.setTop (mkF m pc' Ls (.int (x - y) :: st)))) : Goes p e below G (T.setTop (mkF m pc Ls (.int y :: .int x :: st))) := by
  subst hp
  exact own_go (fun _ k => XS.isub X.here hx rfl hd rfl k) k
theorem s_imul (X : Stand p l e R s m args below meth c T locs cells slots) (hx : p.tables.exec = Jvm.exec) {pc pc' : Nat} {Ls : Array Slot} {st : List Value} {x y : Int32} (hd : decode c.code pc = .ok (.imul, 1)) (hp : pc + 1 = pc') 
    (k : Goes p e below G (T.setTop (mkF m pc' Ls (.int (x * y) :: st)))) : Goes p e below G (T.setTop (mkF m pc Ls (.int y :: .int x :: st))) := by
  subst hp
  exact own_go (fun _ k => XS.imul X.here hx rfl hd rfl k) k
theorem s_iand (X : Stand p l e R s m args below meth c T locs cells slots) (hx : p.tables.exec = Jvm.exec) {pc pc' : Nat} {Ls : Array Slot} {st : List Value} {x y : Int32} (hd : decode c.code pc = .ok (.iand, 1)) (hp : pc + 1 = pc') 
    (k : Goes p e below G (T.setTop (mkF m pc' Ls (.int (x &&& y) :: st)))) : Goes p e below G (T.setTop (mkF m pc Ls (.int y :: .int x :: st))) := by
  subst hp
  exact own_go (fun _ k => XS.iand X.here hx rfl hd rfl k) k
theorem s_ixor (X : Stand p l e R s m args below meth c T locs cells slots) (hx : p.tables.exec = Jvm.exec) {pc pc' : Nat} {Ls : Array Slot} {st : List Value} {x y : Int32} (hd : decode c.code pc = .ok (.ixor, 1)) (hp : pc + 1 = pc') 
    (k : Goes p e below G (T.setTop (mkF m pc' Ls (.int (x ^^^ y) :: st)))) : Goes p e below G (T.setTop (mkF m pc Ls (.int y :: .int x :: st))) := by
  subst hp
  exact own_go (fun _ k => XT.ixor X.here hx rfl hd rfl k) k
theorem s_ior (X : Stand p l e R s m args below meth c T locs cells slots) (hx : p.tables.exec = Jvm.exec) {pc pc' : Nat} {Ls : Array Slot} {st : List Value} {x y : Int32} (hd : decode c.code pc = .ok (.ior, 1)) (hp : pc + 1 = pc') 
    (k : Goes p e below G (T.setTop (mkF m pc' Ls (.int (x ||| y) :: st)))) : Goes p e below G (T.setTop (mkF m pc Ls (.int y :: .int x :: st))) := by
  subst hp
  exact own_go (fun _ k => XT.ior X.here hx rfl hd rfl k) k
theorem s_ishl (X : Stand p l e R s m args below meth c T locs cells slots) (hx : p.tables.exec = Jvm.exec) {pc pc' : Nat} {Ls : Array Slot} {st : List Value} {x y : Int32} (hd : decode c.code pc = .ok (.ishl, 1)) (hp : pc + 1 = pc') 
    (k : Goes p e below G (T.setTop (mkF m pc' Ls (.int (x <<< (y &&& 31)) :: st)))) : Goes p e below G (T.setTop (mkF m pc Ls (.int y :: .int x :: st))) := by
  subst hp
  exact own_go (fun _ k => XT.ishl X.here hx rfl hd rfl k) k
theorem s_ishr (X : Stand p l e R s m args below meth c T locs cells slots) (hx : p.tables.exec = Jvm.exec) {pc pc' : Nat} {Ls : Array Slot} {st : List Value} {x y : Int32} (hd : decode c.code pc = .ok (.ishr, 1)) (hp : pc + 1 = pc') 
    (k : Goes p e below G (T.setTop (mkF m pc' Ls (.int (x >>> (y &&& 31)) :: st)))) : Goes p e below G (T.setTop (mkF m pc Ls (.int y :: .int x :: st))) := by
  subst hp
  exact own_go (fun _ k => XT.ishr X.here hx rfl hd rfl k) k
theorem s_iushr (X : Stand p l e R s m args below meth c T locs cells slots) (hx : p.tables.exec = Jvm.exec) {pc pc' : Nat} {Ls : Array Slot} {st : List Value} {x y : Int32} (hd : decode c.code pc = .ok (.iushr, 1)) (hp : pc + 1 = pc') 
    (k : Goes p e below G (T.setTop (mkF m pc' Ls (.int (XT.ushr x y) :: st)))) : Goes p e below G (T.setTop (mkF m pc Ls (.int y :: .int x :: st))) := by
  subst hp
  exact own_go (fun _ k => XT.iushr X.here hx rfl hd rfl k) k
theorem s_irem (X : Stand p l e R s m args below meth c T locs cells slots) (hx : p.tables.exec = Jvm.exec) {pc pc' : Nat} {Ls : Array Slot} {st : List Value} {x y : Int32} (hd : decode c.code pc = .ok (.irem, 1)) (hp : pc + 1 = pc') (hy : y ≠ 0)
    (k : Goes p e below G (T.setTop (mkF m pc' Ls (.int (x % y) :: st)))) : Goes p e below G (T.setTop (mkF m pc Ls (.int y :: .int x :: st))) := by
  subst hp
  exact own_go (fun _ k => iremM X hx rfl hd rfl hy k) k
theorem s_ineg (X : Stand p l e R s m args below meth c T locs cells slots) (hx : p.tables.exec = Jvm.exec) {pc pc' : Nat} {Ls : Array Slot} {st : List Value} {x : Int32} (hd : decode c.code pc = .ok (.ineg, 1)) (hp : pc + 1 = pc') 
    (k : Goes p e below G (T.setTop (mkF m pc' Ls (.int (-x) :: st)))) : Goes p e below G (T.setTop (mkF m pc Ls (.int x :: st))) := by
  subst hp
  exact own_go (fun _ k => XS.ineg X.here hx rfl hd rfl k) k
theorem s_ladd (X : Stand p l e R s m args below meth c T locs cells slots) (hx : p.tables.exec = Jvm.exec) {pc pc' : Nat} {Ls : Array Slot} {st : List Value} {x y : Int64} (hd : decode c.code pc = .ok (.ladd, 1)) (hp : pc + 1 = pc') 
    (k : Goes p e below G (T.setTop (mkF m pc' Ls (.long (x + y) :: st)))) : Goes p e below G (T.setTop (mkF m pc Ls (.long y :: .long x :: st))) := by
  subst hp
  exact own_go (fun _ k => XT.ladd X.here hx rfl hd rfl k) k
theorem s_lsub (X : Stand p l e R s m args below meth c T locs cells slots) (hx : p.tables.exec = Jvm.exec) {pc pc' : Nat} {Ls : Array Slot} {st : List Value} {x y : Int64} (hd : decode c.code pc = .ok (.lsub, 1)) (hp : pc + 1 = pc') 
    (k : Goes p e below G (T.setTop (mkF m pc' Ls (.long (x - y) :: st)))) : Goes p e below G (T.setTop (mkF m pc Ls (.long y :: .long x :: st))) := by
  subst hp
  exact own_go (fun _ k => XT.lsub X.here hx rfl hd rfl k) k
theorem s_lmul (X : Stand p l e R s m args below meth c T locs cells slots) (hx : p.tables.exec = Jvm.exec) {pc pc' : Nat} {Ls : Array Slot} {st : List Value} {x y : Int64} (hd : decode c.code pc = .ok (.lmul, 1)) (hp : pc + 1 = pc') 
    (k : Goes p e below G (T.setTop (mkF m pc' Ls (.long (x * y) :: st)))) : Goes p e below G (T.setTop (mkF m pc Ls (.long y :: .long x :: st))) := by
  subst hp
  exact own_go (fun _ k => XT.lmul X.here hx rfl hd rfl k) k
theorem s_land (X : Stand p l e R s m args below meth c T locs cells slots) (hx : p.tables.exec = Jvm.exec) {pc pc' : Nat} {Ls : Array Slot} {st : List Value} {x y : Int64} (hd : decode c.code pc = .ok (.land, 1)) (hp : pc + 1 = pc') 
    (k : Goes p e below G (T.setTop (mkF m pc' Ls (.long (x &&& y) :: st)))) : Goes p e below G (T.setTop (mkF m pc Ls (.long y :: .long x :: st))) := by
  subst hp
  exact own_go (fun _ k => XT.land X.here hx rfl hd rfl k) k
theorem s_lor (X : Stand p l e R s m args below meth c T locs cells slots) (hx : p.tables.exec = Jvm.exec) {pc pc' : Nat} {Ls : Array Slot} {st : List Value} {x y : Int64} (hd : decode c.code pc = .ok (.lor, 1)) (hp : pc + 1 = pc') 
    (k : Goes p e below G (T.setTop (mkF m pc' Ls (.long (x ||| y) :: st)))) : Goes p e below G (T.setTop (mkF m pc Ls (.long y :: .long x :: st))) := by
  subst hp
  exact own_go (fun _ k => XT.lor X.here hx rfl hd rfl k) k
theorem s_lxor (X : Stand p l e R s m args below meth c T locs cells slots) (hx : p.tables.exec = Jvm.exec) {pc pc' : Nat} {Ls : Array Slot} {st : List Value} {x y : Int64} (hd : decode c.code pc = .ok (.lxor, 1)) (hp : pc + 1 = pc') 
    (k : Goes p e below G (T.setTop (mkF m pc' Ls (.long (x ^^^ y) :: st)))) : Goes p e below G (T.setTop (mkF m pc Ls (.long y :: .long x :: st))) := by
  subst hp
  exact own_go (fun _ k => XT.lxor X.here hx rfl hd rfl k) k
theorem s_lshl (X : Stand p l e R s m args below meth c T locs cells slots) (hx : p.tables.exec = Jvm.exec) {pc pc' : Nat} {Ls : Array Slot} {st : List Value} {x : Int64} {y : Int32} (hd : decode c.code pc = .ok (.lshl, 1)) (hp : pc + 1 = pc') 
    (k : Goes p e below G (T.setTop (mkF m pc' Ls (.long (x <<< (y.toInt64 &&& 63)) :: st)))) : Goes p e below G (T.setTop (mkF m pc Ls (.int y :: .long x :: st))) := by
  subst hp
  exact own_go (fun _ k => XT.lshl X.here hx rfl hd rfl k) k
theorem s_lshr (X : Stand p l e R s m args below meth c T locs cells slots) (hx : p.tables.exec = Jvm.exec) {pc pc' : Nat} {Ls : Array Slot} {st : List Value} {x : Int64} {y : Int32} (hd : decode c.code pc = .ok (.lshr, 1)) (hp : pc + 1 = pc') 
    (k : Goes p e below G (T.setTop (mkF m pc' Ls (.long (x >>> (y.toInt64 &&& 63)) :: st)))) : Goes p e below G (T.setTop (mkF m pc Ls (.int y :: .long x :: st))) := by
  subst hp
  exact own_go (fun _ k => XT.lshr X.here hx rfl hd rfl k) k
theorem s_lushr (X : Stand p l e R s m args below meth c T locs cells slots) (hx : p.tables.exec = Jvm.exec) {pc pc' : Nat} {Ls : Array Slot} {st : List Value} {x : Int64} {y : Int32} (hd : decode c.code pc = .ok (.lushr, 1)) (hp : pc + 1 = pc') 
    (k : Goes p e below G (T.setTop (mkF m pc' Ls (.long (XT.ushrL x y) :: st)))) : Goes p e below G (T.setTop (mkF m pc Ls (.int y :: .long x :: st))) := by
  subst hp
  exact own_go (fun _ k => XT.lushr X.here hx rfl hd rfl k) k
theorem s_i2l (X : Stand p l e R s m args below meth c T locs cells slots) (hx : p.tables.exec = Jvm.exec) {pc pc' : Nat} {Ls : Array Slot} {st : List Value} {x : Int32} (hd : decode c.code pc = .ok (.i2l, 1)) (hp : pc + 1 = pc') 
    (k : Goes p e below G (T.setTop (mkF m pc' Ls ((.long x.toInt64) :: st)))) : Goes p e below G (T.setTop (mkF m pc Ls (.int x :: st))) := by
  subst hp
  exact own_go (fun _ k => XT.i2l X.here hx rfl hd rfl k) k
theorem s_i2b (X : Stand p l e R s m args below meth c T locs cells slots) (hx : p.tables.exec = Jvm.exec) {pc pc' : Nat} {Ls : Array Slot} {st : List Value} {x : Int32} (hd : decode c.code pc = .ok (.i2b, 1)) (hp : pc + 1 = pc') 
    (k : Goes p e below G (T.setTop (mkF m pc' Ls ((.int x.toInt8.toInt32) :: st)))) : Goes p e below G (T.setTop (mkF m pc Ls (.int x :: st))) := by
  subst hp
  exact own_go (fun _ k => XT.i2b X.here hx rfl hd rfl k) k
theorem s_l2i (X : Stand p l e R s m args below meth c T locs cells slots) (hx : p.tables.exec = Jvm.exec) {pc pc' : Nat} {Ls : Array Slot} {st : List Value} {x : Int64} (hd : decode c.code pc = .ok (.l2i, 1)) (hp : pc + 1 = pc') 
    (k : Goes p e below G (T.setTop (mkF m pc' Ls (.int x.toInt32 :: st)))) : Goes p e below G (T.setTop (mkF m pc Ls (.long x :: st))) := by
  subst hp
  exact own_go (fun _ k => XT.l2i X.here hx rfl hd rfl k) k
theorem s_i2d (X : Stand p l e R s m args below meth c T locs cells slots) (hx : p.tables.exec = Jvm.exec) {pc pc' : Nat} {Ls : Array Slot} {st : List Value} {x : Int32} (hd : decode c.code pc = .ok (.i2d, 1)) (hp : pc + 1 = pc') 
    (k : Goes p e below G (T.setTop (mkF m pc' Ls (.double (FP.i2d x) :: st)))) : Goes p e below G (T.setTop (mkF m pc Ls (.int x :: st))) := by
  subst hp
  exact own_go (fun _ k => XS.i2dS X.here hx rfl hd rfl rfl k) k
theorem s_l2d (X : Stand p l e R s m args below meth c T locs cells slots) (hx : p.tables.exec = Jvm.exec) {pc pc' : Nat} {Ls : Array Slot} {st : List Value} {x : Int64} (hd : decode c.code pc = .ok (.l2d, 1)) (hp : pc + 1 = pc') 
    (k : Goes p e below G (T.setTop (mkF m pc' Ls (.double (FP.l2d x) :: st)))) : Goes p e below G (T.setTop (mkF m pc Ls (.long x :: st))) := by
  subst hp
  exact own_go (fun _ k => XS.l2dS X.here hx rfl hd rfl rfl k) k
theorem s_dneg (X : Stand p l e R s m args below meth c T locs cells slots) (hx : p.tables.exec = Jvm.exec) {pc pc' : Nat} {Ls : Array Slot} {st : List Value} {x : UInt64} (hd : decode c.code pc = .ok (.dneg, 1)) (hp : pc + 1 = pc') 
    (k : Goes p e below G (T.setTop (mkF m pc' Ls (.double (FP.dneg x) :: st)))) : Goes p e below G (T.setTop (mkF m pc Ls (.double x :: st))) := by
  subst hp
  exact own_go (fun _ k => XS.dnegS X.here hx rfl hd rfl rfl k) k
theorem s_dadd (X : Stand p l e R s m args below meth c T locs cells slots) (hx : p.tables.exec = Jvm.exec) {pc pc' : Nat} {Ls : Array Slot} {st : List Value} {x y : UInt64} (v : UInt64) (hd : decode c.code pc = .ok (.dadd, 1)) (hp : pc + 1 = pc') (hn : NoNaN64 (FP.dadd x y)) (hv : FP.dadd x y = v)
    (k : Goes p e below G (T.setTop (mkF m pc' Ls (.double v :: st)))) : Goes p e below G (T.setTop (mkF m pc Ls (.double y :: .double x :: st))) := by
  subst hp
  exact own_go (fun _ k => XS.daddS X.here hx rfl hd rfl hn hv k) k
theorem s_dsub (X : Stand p l e R s m args below meth c T locs cells slots) (hx : p.tables.exec = Jvm.exec) {pc pc' : Nat} {Ls : Array Slot} {st : List Value} {x y : UInt64} (v : UInt64) (hd : decode c.code pc = .ok (.dsub, 1)) (hp : pc + 1 = pc') (hn : NoNaN64 (FP.dsub x y)) (hv : FP.dsub x y = v)
    (k : Goes p e below G (T.setTop (mkF m pc' Ls (.double v :: st)))) : Goes p e below G (T.setTop (mkF m pc Ls (.double y :: .double x :: st))) := by
  subst hp
  exact own_go (fun _ k => XS.dsubS X.here hx rfl hd rfl hn hv k) k
theorem s_dmul (X : Stand p l e R s m args below meth c T locs cells slots) (hx : p.tables.exec = Jvm.exec) {pc pc' : Nat} {Ls : Array Slot} {st : List Value} {x y : UInt64} (v : UInt64) (hd : decode c.code pc = .ok (.dmul, 1)) (hp : pc + 1 = pc') (hn : NoNaN64 (FP.dmul x y)) (hv : FP.dmul x y = v)
    (k : Goes p e below G (T.setTop (mkF m pc' Ls (.double v :: st)))) : Goes p e below G (T.setTop (mkF m pc Ls (.double y :: .double x :: st))) := by
  subst hp
  exact own_go (fun _ k => XS.dmulS X.here hx rfl hd rfl hn hv k) k
theorem s_ddiv (X : Stand p l e R s m args below meth c T locs cells slots) (hx : p.tables.exec = Jvm.exec) {pc pc' : Nat} {Ls : Array Slot} {st : List Value} {x y : UInt64} (v : UInt64) (hd : decode c.code pc = .ok (.ddiv, 1)) (hp : pc + 1 = pc') (hn : NoNaN64 (FP.ddiv x y)) (hv : FP.ddiv x y = v)
    (k : Goes p e below G (T.setTop (mkF m pc' Ls (.double v :: st)))) : Goes p e below G (T.setTop (mkF m pc Ls (.double y :: .double x :: st))) := by
  subst hp
  exact own_go (fun _ k => XS.ddivS X.here hx rfl hd rfl hn hv k) k
theorem s_lcmp (X : Stand p l e R s m args below meth c T locs cells slots) (hx : p.tables.exec = Jvm.exec) {pc pc' : Nat} {Ls : Array Slot} {st : List Value} {x y : Int64} (hd : decode c.code pc = .ok (.lcmp, 1)) (hp : pc + 1 = pc') 
    (k : Goes p e below G (T.setTop (mkF m pc' Ls (.int (XT.cmpL x y) :: st)))) : Goes p e below G (T.setTop (mkF m pc Ls (.long y :: .long x :: st))) := by
  subst hp
  exact own_go (fun _ k => XT.lcmp X.here hx rfl hd rfl k) k
theorem s_dcmp (X : Stand p l e R s m args below meth c T locs cells slots) (hx : p.tables.exec = Jvm.exec) {pc pc' : Nat} {Ls : Array Slot} {st : List Value} {x y : UInt64} {o : CmpOp} (v : Int32) (hd : decode c.code pc = .ok (.dcmp o, 1)) (hp : pc + 1 = pc') (hv : cmpValue (FP.dcmp x y) o = v)
    (k : Goes p e below G (T.setTop (mkF m pc' Ls (.int v :: st)))) : Goes p e below G (T.setTop (mkF m pc Ls (.double y :: .double x :: st))) := by
  subst hp
  exact own_go (fun _ k => XS.dcmpS X.here hx rfl hd rfl hv k) k
theorem s_dup (X : Stand p l e R s m args below meth c T locs cells slots) (hx : p.tables.exec = Jvm.exec) {pc pc' : Nat} {Ls : Array Slot} {st : List Value} {x : Value} (hd : decode c.code pc = .ok (.dup, 1)) (hp : pc + 1 = pc') (hc : x.category = 1)
    (k : Goes p e below G (T.setTop (mkF m pc' Ls (x :: x :: st)))) : Goes p e below G (T.setTop (mkF m pc Ls (x :: st))) := by
  subst hp
  exact own_go (fun _ k => XS.dup X.here hx rfl hd rfl hc k) k
theorem s_pop (X : Stand p l e R s m args below meth c T locs cells slots) (hx : p.tables.exec = Jvm.exec) {pc pc' : Nat} {Ls : Array Slot} {st : List Value} {x : Value} (hd : decode c.code pc = .ok (.pop, 1)) (hp : pc + 1 = pc') (hc : x.category = 1)
    (k : Goes p e below G (T.setTop (mkF m pc' Ls (st)))) : Goes p e below G (T.setTop (mkF m pc Ls (x :: st))) := by
  subst hp
  exact own_go (fun _ k => XT.pop X.here hx rfl hd rfl hc k) k
theorem s_pop2D (X : Stand p l e R s m args below meth c T locs cells slots) (hx : p.tables.exec = Jvm.exec) {pc pc' : Nat} {Ls : Array Slot} {st : List Value} {x : UInt64} (hd : decode c.code pc = .ok (.pop2, 1)) (hp : pc + 1 = pc')
    (k : Goes p e below G (T.setTop (mkF m pc' Ls st))) : Goes p e below G (T.setTop (mkF m pc Ls (.double x :: st))) := by
  subst hp
  refine own_go (fun _ k => ?_) k
  jvm_step X.here [X.here.top, hx, hd, Value.category]
  exact k
theorem s_dup2 (X : Stand p l e R s m args below meth c T locs cells slots) (hx : p.tables.exec = Jvm.exec) {pc pc' : Nat} {Ls : Array Slot} {st : List Value} {x y : Value} (hd : decode c.code pc = .ok (.dup2, 1)) (hp : pc + 1 = pc') (hc : x.category = 1) (hc' : y.category = 1)
    (k : Goes p e below G (T.setTop (mkF m pc' Ls (x :: y :: x :: y :: st)))) : Goes p e below G (T.setTop (mkF m pc Ls (x :: y :: st))) := by
  subst hp
  exact own_go (fun _ k => XT.dup2 X.here hx rfl hd rfl hc hc' k) k
theorem s_iinc (X : Stand p l e R s m args below meth c T locs cells slots) (hx : p.tables.exec = Jvm.exec) {pc pc' : Nat} {Ls : Array Slot} {st : List Value} {j : Nat} {i : Int} {x : Int32} (v : Int32) (l' : Array Slot) (hd : decode c.code pc = .ok (.iinc j i, 3)) (hp : pc + 3 = pc') (hl : Ls[j]? = some (.val (.int x))) (hv : x + Int32.ofInt i = v) (hl' : storeLocals Ls j (.int v) = some l')
    (k : Goes p e below G (T.setTop (mkF m pc' l' (st)))) : Goes p e below G (T.setTop (mkF m pc Ls (st))) := by
  subst hp
  exact own_go (fun _ k => XS.iinc X.here hx rfl hd hl (by rw [hv]; exact hl') k) k
theorem s_goto (X : Stand p l e R s m args below meth c T locs cells slots) (hx : p.tables.exec = Jvm.exec) {pc pc' : Nat} {Ls : Array Slot} {st : List Value}  {o : Int} (hd : decode c.code pc = .ok (.goto o, 3))  (ho : 0 ≤ (pc : Int) + o) (hp : ((pc : Int) + o).toNat = pc')
    (k : Goes p e below G (T.setTop (mkF m pc' Ls (st)))) : Goes p e below G (T.setTop (mkF m pc Ls (st))) := own_go (fun _ k => XS.goto X.here hx rfl rfl hd ho hp k) k
theorem s_ifY (X : Stand p l e R s m args below meth c T locs cells slots) (hx : p.tables.exec = Jvm.exec) {pc pc' : Nat} {Ls : Array Slot} {st : List Value} {cd : ClassFile.Cond} {x : Int32} {o : Int} (hd : decode c.code pc = .ok (.ifCond cd o, 3)) (hc : ifCond.holds cd x = true) (ho : 0 ≤ (pc : Int) + o) (hp : ((pc : Int) + o).toNat = pc')
    (k : Goes p e below G (T.setTop (mkF m pc' Ls (st)))) : Goes p e below G (T.setTop (mkF m pc Ls (.int x :: st))) := own_go (fun _ k => XS.ifYes X.here hx rfl rfl hd rfl hc ho hp k) k
theorem s_icmpY (X : Stand p l e R s m args below meth c T locs cells slots) (hx : p.tables.exec = Jvm.exec) {pc pc' : Nat} {Ls : Array Slot} {st : List Value} {cd : ClassFile.Cond} {x y : Int32} {o : Int} (hd : decode c.code pc = .ok (.if_icmp cd o, 3)) (hc : if_icmp.holds cd x y = true) (ho : 0 ≤ (pc : Int) + o) (hp : ((pc : Int) + o).toNat = pc')
    (k : Goes p e below G (T.setTop (mkF m pc' Ls (st)))) : Goes p e below G (T.setTop (mkF m pc Ls (.int y :: .int x :: st))) := own_go (fun _ k => XS.icmpYes X.here hx rfl rfl hd rfl hc ho hp k) k
theorem s_acmpY (X : Stand p l e R s m args below meth c T locs cells slots) (hx : p.tables.exec = Jvm.exec) {pc pc' : Nat} {Ls : Array Slot} {st : List Value} {cd : ClassFile.ACond} {x y : Value} {o : Int} (hd : decode c.code pc = .ok (.if_acmp cd o, 3)) (h1 : x.isRef = true) (h2 : y.isRef = true) (hc : XT.acmp cd x y = true) (ho : 0 ≤ (pc : Int) + o) (hp : ((pc : Int) + o).toNat = pc')
    (k : Goes p e below G (T.setTop (mkF m pc' Ls (st)))) : Goes p e below G (T.setTop (mkF m pc Ls (y :: x :: st))) := own_go (fun _ k => XT.acmpYes X.here hx rfl rfl hd rfl h1 h2 hc ho hp k) k
theorem s_nonnullY (X : Stand p l e R s m args below meth c T locs cells slots) (hx : p.tables.exec = Jvm.exec) {pc pc' : Nat} {Ls : Array Slot} {st : List Value} {b : Addr} {o : Int} (hd : decode c.code pc = .ok (.ifnonnull o, 3))  (ho : 0 ≤ (pc : Int) + o) (hp : ((pc : Int) + o).toNat = pc')
    (k : Goes p e below G (T.setTop (mkF m pc' Ls (st)))) : Goes p e below G (T.setTop (mkF m pc Ls (.ref b :: st))) := own_go (fun _ k => XT.ifnonnullYes X.here hx rfl rfl hd rfl ho hp k) k
theorem s_ifN (X : Stand p l e R s m args below meth c T locs cells slots) (hx : p.tables.exec = Jvm.exec) {pc pc' : Nat} {Ls : Array Slot} {st : List Value} {cd : ClassFile.Cond} {x : Int32} {o : Int} (hd : decode c.code pc = .ok (.ifCond cd o, 3)) (hp : pc + 3 = pc') (hc : ifCond.holds cd x = false)
    (k : Goes p e below G (T.setTop (mkF m pc' Ls (st)))) : Goes p e below G (T.setTop (mkF m pc Ls (.int x :: st))) := by
  subst hp
  exact own_go (fun _ k => XS.ifNo X.here hx rfl hd rfl hc k) k
theorem s_icmpN (X : Stand p l e R s m args below meth c T locs cells slots) (hx : p.tables.exec = Jvm.exec) {pc pc' : Nat} {Ls : Array Slot} {st : List Value} {cd : ClassFile.Cond} {x y : Int32} {o : Int} (hd : decode c.code pc = .ok (.if_icmp cd o, 3)) (hp : pc + 3 = pc') (hc : if_icmp.holds cd x y = false)
    (k : Goes p e below G (T.setTop (mkF m pc' Ls (st)))) : Goes p e below G (T.setTop (mkF m pc Ls (.int y :: .int x :: st))) := by
  subst hp
  exact own_go (fun _ k => XS.icmpNo X.here hx rfl hd rfl hc k) k
theorem s_acmpN (X : Stand p l e R s m args below meth c T locs cells slots) (hx : p.tables.exec = Jvm.exec) {pc pc' : Nat} {Ls : Array Slot} {st : List Value} {cd : ClassFile.ACond} {x y : Value} {o : Int} (hd : decode c.code pc = .ok (.if_acmp cd o, 3)) (hp : pc + 3 = pc') (h1 : x.isRef = true) (h2 : y.isRef = true) (hc : XT.acmp cd x y = false)
    (k : Goes p e below G (T.setTop (mkF m pc' Ls (st)))) : Goes p e below G (T.setTop (mkF m pc Ls (y :: x :: st))) := by
  subst hp
  exact own_go (fun _ k => XT.acmpNo X.here hx rfl hd rfl h1 h2 hc k) k
theorem s_nullN (X : Stand p l e R s m args below meth c T locs cells slots) (hx : p.tables.exec = Jvm.exec) {pc pc' : Nat} {Ls : Array Slot} {st : List Value} {b : Addr} {o : Int} (hd : decode c.code pc = .ok (.ifnull o, 3)) (hp : pc + 3 = pc') 
    (k : Goes p e below G (T.setTop (mkF m pc' Ls (st)))) : Goes p e below G (T.setTop (mkF m pc Ls (.ref b :: st))) := by
  subst hp
  exact own_go (fun _ k => XS.ifnullNo X.here hx rfl hd rfl k) k
end Own
theorem iy_lt {x : Int32} (h : x < 0) : ifCond.holds .lt x = true := by rw [if0]; exact (tlt h).1
theorem in_lt {x : Int32} (h : ¬ x < 0) : ifCond.holds .lt x = false := by rw [if0]; exact (flt h).1
theorem iy_ge {x : Int32} (h : ¬ x < 0) : ifCond.holds .ge x = true := by rw [if0]; exact (flt h).2.1
theorem in_ge {x : Int32} (h : x < 0) : ifCond.holds .ge x = false := by rw [if0]; exact (tlt h).2.1
theorem iy_gt {x : Int32} (h : 0 < x) : ifCond.holds .gt x = true := by rw [if0]; exact (tlt h).2.2.1
theorem in_gt {x : Int32} (h : ¬ 0 < x) : ifCond.holds .gt x = false := by rw [if0]; exact (flt h).2.2.1
theorem iy_le {x : Int32} (h : ¬ 0 < x) : ifCond.holds .le x = true := by rw [if0]; exact (flt h).2.2.2
theorem in_le {x : Int32} (h : 0 < x) : ifCond.holds .le x = false := by rw [if0]; exact (tlt h).2.2.2
theorem iy_eq {x : Int32} (h : x = 0) : ifCond.holds .eq x = true := by rw [if0]; exact (teq h).1
theorem in_eq {x : Int32} (h : ¬ x = 0) : ifCond.holds .eq x = false := by rw [if0]; exact (feq h).1
theorem iy_ne {x : Int32} (h : ¬ x = 0) : ifCond.holds .ne x = true := by rw [if0]; exact (feq h).2
theorem in_ne {x : Int32} (h : x = 0) : ifCond.holds .ne x = false := by rw [if0]; exact (teq h).2
theorem cy_lt {x y : Int32} (h : x < y) : if_icmp.holds .lt x y = true := (tlt h).1
theorem cn_lt {x y : Int32} (h : ¬ x < y) : if_icmp.holds .lt x y = false := (flt h).1
theorem cy_ge {x y : Int32} (h : ¬ x < y) : if_icmp.holds .ge x y = true := (flt h).2.1
theorem cn_ge {x y : Int32} (h : x < y) : if_icmp.holds .ge x y = false := (tlt h).2.1
theorem cy_gt {x y : Int32} (h : y < x) : if_icmp.holds .gt x y = true := (tlt h).2.2.1
theorem cn_gt {x y : Int32} (h : ¬ y < x) : if_icmp.holds .gt x y = false := (flt h).2.2.1
theorem cy_le {x y : Int32} (h : ¬ y < x) : if_icmp.holds .le x y = true := (flt h).2.2.2
theorem cn_le {x y : Int32} (h : y < x) : if_icmp.holds .le x y = false := (tlt h).2.2.2
theorem cy_eq {x y : Int32} (h : x = y) : if_icmp.holds .eq x y = true := (teq h).1
theorem cn_eq {x y : Int32} (h : ¬ x = y) : if_icmp.holds .eq x y = false := (feq h).1
theorem cy_ne {x y : Int32} (h : ¬ x = y) : if_icmp.holds .ne x y = true := (feq h).2
theorem cn_ne {x y : Int32} (h : x = y) : if_icmp.holds .ne x y = false := (teq h).2
section OwnFl
open Jvm.FP
theorem own_ratio {i j : Int} {a b : UInt64} (ha : Core.DInt i a) (hb : Core.DInt j b) (hj : j ≠ 0) :
    ∃ sg : Bool, (i ≠ 0 → sg = (decide (i < 0) != decide (j < 0))) ∧ Core.val64 (FP.ddiv a b) = Core.roundRatio Core.b64 sg i.natAbs j.natAbs 0 := by
  unfold Core.DInt at ha hb
  have e := Core.val64_ddiv a b
  cases va : Core.val64 a with
  | nan => rw [va] at ha; exact ha.elim
  | inf s => rw [va] at ha; exact ha.elim
  | fin s c q =>
    cases vb : Core.val64 b with
    | nan => rw [vb] at hb; exact hb.elim
    | inf t => rw [vb] at hb; exact hb.elim
    | fin t d r =>
      rw [va] at ha; rw [vb] at hb
      have hd : d ≠ 0 := fun q => hj ((Core.whole_zero hb).mp q)
      have e1 := Core.whole_natAbs ha
      have e2 := Core.whole_natAbs hb
      refine ⟨(s != t), fun hi => by rw [Core.whole_sign ha hi, Core.whole_sign hb hj], ?_⟩
      show Core.val64 (Core.ddiv a b) = _
      rw [e, va, vb]
      show (if d = 0 then _ else Core.roundRatio Core.b64 (s != t) c d (q - r)) = _
      rw [if_neg hd]
      refine Core.roundRatio_congr (by omega) (by omega) ?_
      obtain ⟨m, hu, hv⟩ : ∃ m, q.toNat + (-r).toNat = (q - r).toNat + m ∧ (-q).toNat + r.toNat = (r - q).toNat + m := ⟨(q.toNat + (-r).toNat) - (q - r).toNat, by omega, by omega⟩
      have key : c * j.natAbs * 2 ^ (q.toNat + (-r).toNat) = i.natAbs * d * 2 ^ ((-q).toNat + r.toNat) := by
        rw [Nat.pow_add, Nat.pow_add]
        calc c * j.natAbs * (2 ^ q.toNat * 2 ^ (-r).toNat) = (c * 2 ^ q.toNat) * (j.natAbs * 2 ^ (-r).toNat) := by ac_rfl
          _ = (i.natAbs * 2 ^ (-q).toNat) * (d * 2 ^ r.toNat) := by rw [e1, ← e2]
          _ = _ := by ac_rfl
      rw [hu, hv, Nat.pow_add, Nat.pow_add, ← Nat.mul_assoc, ← Nat.mul_assoc] at key
      have k2 := Nat.eq_of_mul_eq_mul_right (Nat.two_pow_pos m) key
      rw [show (q - r - 0) = q - r by omega, show (0 - (q - r)) = r - q by omega]
      exact k2
theorem own_ddiv_int {q j : Int} {a b : UInt64} (ha : Core.DInt (q * j) a) (hb : Core.DInt j b) (hj : j ≠ 0) (hq : q.natAbs ≤ 2 ^ 53) : Core.DInt q (FP.ddiv a b) := by
  obtain ⟨sg, h1, h2⟩ := own_ratio ha hb hj
  unfold Core.DInt
  rw [h2, Core.roundRatio_congr (A' := q.natAbs) (B' := 1) (e' := 0) (by omega) (by omega) (by rw [Int.natAbs_mul]; simp)]
  refine Core.whole_round Core.good_b64 Core.wide_b64 (d := .fin sg q.natAbs 0) hq ?_
  show Core.signed sg (q.natAbs * 1) = q * ((1 : Nat) : Int)
  rw [Nat.mul_one]
  by_cases hz : q = 0
  · subst hz; cases sg <;> rfl
  · have hs := h1 (fun z => (Int.mul_eq_zero.mp z).elim hz hj)
    have : sg = decide (q < 0) := by
      rw [hs]
      rcases Int.lt_or_gt_of_ne hz with h3 | h3 <;> rcases Int.lt_or_gt_of_ne hj with h4 | h4
      · have := Int.mul_pos_of_neg_of_neg h3 h4
        simp [h3, h4, show ¬ q * j < 0 by omega]
      · have := Int.mul_neg_of_neg_of_pos h3 h4
        simp [h3, this, show ¬ j < 0 by omega]
      · have := Int.mul_neg_of_pos_of_neg h3 h4
        simp [h4, this, show ¬ q < 0 by omega]
      · have := Int.mul_pos h3 h4
        simp [show ¬ q * j < 0 by omega, show ¬ j < 0 by omega, show ¬ q < 0 by omega]
    rw [this]
    unfold Core.signed
    by_cases h : q < 0 <;> simp [h] <;> omega
theorem own_ratio_pos {sg : Bool} {A B : Nat} (hB : 0 < B) (h : B ≤ A * 2 ^ 1074) : 1 ≤ Core.zmag Core.b64 (Core.roundRatio Core.b64 sg A B 0) := by
  have q := Core.zmag_roundRatio_ge (f := Core.b64) Core.good_b64 (s := sg) (A := A) (B := B) (e := 0) (e0 := -1074) (V := .fin false 1 (-1074)) hB (by unfold Core.fits; decide +kernel) (by decide +kernel) (by decide) (by
    rw [show Core.zmag Core.b64 (.fin false 1 (-1074)) = 1 by decide +kernel, show (Core.b64.qmin - -1074).toNat = 0 by decide +kernel]
    show 1 * 2 ^ 0 * B ≤ A * 2 ^ ((0 : Int) - -1074).toNat
    rw [show ((0 : Int) - -1074).toNat = 1074 by decide]
    omega)
  rw [show Core.zmag Core.b64 (.fin false 1 (-1074)) = 1 by decide +kernel] at q
  exact q
theorem own_dcmp_z {x y : UInt64} (hx : Core.val64 x ≠ .nan) (hy : Core.val64 y ≠ .nan) : FP.dcmp x y = some (compare (Core.zval Core.b64 (Core.val64 x)) (Core.zval Core.b64 (Core.val64 y))) :=
  Core.order_zval Core.good_b64 (Core.val64_fits x) (Core.val64_fits y) hx hy
theorem own_zval0 : Core.zval Core.b64 (Core.val64 0) = 0 := by decide +kernel
theorem own_nan0 : Core.val64 0 ≠ .nan := by decide +kernel
theorem own_cmp_lt {a b : Int} (h : a < b) : compare a b = .lt := by rw [Core.compare_ite, if_pos h]
theorem own_cmp_gt {a b : Int} (h : b < a) : compare a b = .gt := by rw [Core.compare_ite, if_neg (by omega), if_neg (by omega)]
theorem own_cmp_eq {a b : Int} (h : a = b) : compare a b = .eq := by rw [Core.compare_ite, if_neg (by omega), if_pos h]
theorem own_sg_n {P : Prop} [Decidable P] (h : P) (z : Nat) : Core.signed (decide P) z = -(z : Int) := by rw [decide_eq_true h]; rfl
theorem own_sg_p {P : Prop} [Decidable P] (h : ¬ P) (z : Nat) : Core.signed (decide P) z = (z : Int) := by rw [decide_eq_false h]; rfl
theorem own_l2d_z {a : Int64} (h : a ≠ 0) : ∃ z : Nat, 0 < z ∧ Core.zval Core.b64 (Core.val64 (FP.l2d a)) = Core.signed (decide (a.toInt < 0)) z := by
  obtain ⟨c, q, hc⟩ := Core.l2d_shape a
  have hn : Core.val64 (FP.l2d a) ≠ .nan := by show Core.val64 (Core.l2d a) ≠ _; rw [hc]; intro z; cases z
  refine ⟨Core.zmag Core.b64 (Core.val64 (FP.l2d a)), ?_, ?_⟩
  · rw [Core.zmag_bits hn]
    refine Nat.pos_of_ne_zero fun z => ?_
    exact Core.l2d_ne_zero h (Core.unitsOf_eq_zero.mp z)
  · show Core.signed (Core.sgn (Core.val64 (Core.l2d a))) _ = _
    rw [hc]; rfl
theorem own_l2d_nan (a : Int64) : Core.val64 (FP.l2d a) ≠ .nan := val64_no.mp (l2d_fin a).noNaN
end OwnFl
def own_rt (t : UInt64) : UInt64 := if cmpValue (FP.dcmp t 0) .l = 0 then 4607182418800017408 else t
theorem own_max {x : UInt64} (h : Fin64 x) : ¬ 0 < cmpValue (FP.dcmp (x &&& 0x7fffffffffffffff) 9218868437227405311) .g := by
  have q := (FP.Core.le_max (a := x) (noNaN64_no.mp h.noNaN)).mpr (fin64_core.mp h)
  rcases q with q | q
  · rw [show FP.dcmp (x &&& 0x7fffffffffffffff) 9218868437227405311 = some .lt from q]; decide
  · rw [show FP.dcmp (x &&& 0x7fffffffffffffff) 9218868437227405311 = some .eq from q]; decide
theorem own_rt_nz {t : UInt64} (hn : FP.Core.val64 t ≠ .nan) (h : FP.Core.zval FP.Core.b64 (FP.Core.val64 t) ≠ 0) : own_rt t = t := by
  have e : ¬ cmpValue (FP.dcmp t 0) .l = 0 := by
    rw [own_dcmp_z hn own_nan0, own_zval0]
    rcases Int.lt_or_gt_of_ne h with q | q
    · rw [own_cmp_lt q]; decide
    · rw [own_cmp_gt q]; decide
  rw [own_rt, if_neg e]
theorem own_rt_i {a : Int32} (h : ¬ a = 0) : own_rt (FP.i2d a) = FP.i2d a := by
  have hz : ¬ a.toInt64 = 0 := fun q => h (Int32.toInt_inj.mp (by rw [← Int32.toInt_toInt64, q]; rfl))
  obtain ⟨z, z1, z2⟩ := own_l2d_z hz
  rw [i2d_w]
  refine own_rt_nz (own_l2d_nan _) ?_
  rw [z2]; unfold FP.Core.signed; split <;> omega
theorem own_k1024 : FP.Core.DInt 1024 4652218415073722368 := by
  have h := FP.Core.i2d_int 1024
  rw [show FP.Core.i2d 1024 = 4652218415073722368 by decide +kernel] at h
  exact h
theorem own_rt_q {a : Int32} (h : ¬ a = 0) : own_rt (FP.ddiv (FP.i2d a) 4652218415073722368) = FP.ddiv (FP.i2d a) 4652218415073722368 := by
  have hne : a.toInt ≠ 0 := fun q => h (Int32.toInt_inj.mp (by rw [q]; rfl))
  obtain ⟨sg, s1, s2⟩ := own_ratio (FP.Core.i2d_int a) own_k1024 (by decide)
  have hn : FP.Core.val64 (FP.ddiv (FP.i2d a) 4652218415073722368) ≠ .nan := by rw [s2]; exact FP.Core.roundRatio_ne_nan _ _ _ _ _
  have hp : 1 ≤ FP.Core.zmag FP.Core.b64 (FP.Core.roundRatio FP.Core.b64 sg a.toInt.natAbs (1024 : Int).natAbs 0) := own_ratio_pos (by decide) (by
    have : 1 ≤ a.toInt.natAbs := by omega
    calc (1024 : Int).natAbs ≤ 1 * 2 ^ 1074 := by decide +kernel
      _ ≤ _ := Nat.mul_le_mul_right _ this)
  refine own_rt_nz hn ?_
  unfold FP.Core.zval; rw [s2]; unfold FP.Core.signed; split <;> omega
theorem own_fin_q (a : Int32) : Fin64 (FP.ddiv (FP.i2d a) 4652218415073722368) := by
  have h1 : Mag64 1088 (FP.i2d a) := by rw [i2d_w]; exact l2d_mag _
  have h2 : Big64 1033 4652218415073722368 := by unfold Big64; decide
  have h3 := ddiv_mag h1 h2 (by decide) (by decide)
  unfold Mag64 at h3
  rw [fin64_iff]
  exact Nat.lt_of_lt_of_le h3 (by decide)
theorem own_mode (k : Int32) : let m := (k &&& (3 : Int32)); m = 0 ∨ m = 1 ∨ m = 2 ∨ m = 3 := by
  intro m
  have k1 : m.toInt = k.toInt % (2 ^ 2 : Nat) := c_mask k 3 2 (by decide) (by decide)
  simp only [← Int32.toInt_inj]
  show m.toInt = 0 ∨ m.toInt = 1 ∨ m.toInt = 2 ∨ m.toInt = 3
  omega
theorem own_str {Z : State} {a0 : Array Value} (hw : ∀ d ∈ tables_1, d.before a0 Z = true) : ∀ d ∈ Bundle.stringAtoms, d.before a0 Z = true := by
  intro d hd
  simp only [Bundle.stringAtoms, List.mem_cons, List.not_mem_nil, or_false] at hd
  rcases hd with rfl | rfl | rfl | rfl | rfl | rfl | rfl
  · exact (hw _ (List.mem_of_getElem? (i := 16) rfl))
  · exact (hw _ (List.mem_of_getElem? (i := 17) rfl))
  · exact (hw _ (List.mem_of_getElem? (i := 18) rfl))
  · exact (hw _ (List.mem_of_getElem? (i := 19) rfl))
  · exact (hw _ (List.mem_of_getElem? (i := 20) rfl))
  · exact (hw _ (List.mem_of_getElem? (i := 21) rfl))
  · exact (hw _ (List.mem_of_getElem? (i := 22) rfl))
theorem d2_0 : decode jdk_30_method_1_code 0 = .ok (.aload_n 0, 1) := by decide +kernel
theorem d2_1 : decode jdk_30_method_1_code 1 = .ok (.invokespecial 1, 3) := by decide +kernel
theorem d2_4 : decode jdk_30_method_1_code 4 = .ok (.return_, 1) := by decide +kernel
theorem pn_2 : plainName "java/lang/Record" = true := by first | (simp [plainName, overriddenIn]; done) | decide +kernel
theorem ef_2 (z0 : Addr) (m : MethodId) : entryFrame m #[.ref z0] 1 = mkF m 0 #[.val (.ref z0)] [] := by first | (simp [entryFrame, mkF, argsToLocals, Value.category, maxLocals]; done) | rfl
set_option maxRecDepth 65536 in
set_option maxHeartbeats 40000000 in
theorem rm_2 (l : Launch) (Z : State) (a0 : Array Value) (hw : ∀ d ∈ tables_1, d.before a0 Z = true) (ws : List Jvm.Cond) (a : Addr) (h0 : Heap) (n0 : Nat) (Z0 : n0 ≤ h0.size)  :
    OwnMet l Z (⟨"java/lang/Record", "<init>", "()V"⟩ : MethodName) jdk_30_method_1_code 1 none ws ({ frames := 1, cells := 0, slots := 0, locals := 12 } : Room) #[.ref a] h0 (fun v h L => v = none ∧ Fr n0 L ∧ h = h0) := by
  refine own_met (plainFor_of_name pn_2) (ef_2 a) ?_
  intro p e s m below meth c s₁ hx hby hml hZ hown hnm hret hlk X0 e0
  have N0 := Fr.nil n0
  refine s_aloadN X0 hx (hb hby d2_0) (pc' := 1) rfl rfl rfl ?_
  refine s_initO X0 hx hZ hown (hw _ (List.mem_of_getElem? (i := 12) rfl)) (hw _ (List.mem_of_getElem? (i := 13) rfl)) (hw _ (List.mem_of_getElem? (i := 14) rfl)) e0 (hb hby d2_1) (pc' := 4) rfl (by rw [hml]; rfl) (by decide) (W := 0) (Nat.le_of_eq rfl) (by decide) ?_
  intro T1 X1 e1
  exact s_ret X1 hx hlk hret (hb hby d2_4) (by decide) (by decide) ⟨rfl, N0, e1⟩
theorem d5_0 : decode jdk_117_method_8_code 0 = .ok (.dload_n 0, 1) := by decide +kernel
theorem d5_1 : decode jdk_117_method_8_code 1 = .ok (.invokestatic 38, 3) := by decide +kernel
theorem d5_4 : decode jdk_117_method_8_code 4 = .ok (.ldc2_w 111, 3) := by decide +kernel
theorem d5_7 : decode jdk_117_method_8_code 7 = .ok (.dcmp .g, 1) := by decide +kernel
theorem d5_8 : decode jdk_117_method_8_code 8 = .ok (.ifCond .gt 7, 3) := by decide +kernel
theorem d5_11 : decode jdk_117_method_8_code 11 = .ok (.iconst 1, 1) := by decide +kernel
theorem d5_12 : decode jdk_117_method_8_code 12 = .ok (.goto 4, 3) := by decide +kernel
theorem d5_15 : decode jdk_117_method_8_code 15 = .ok (.iconst 0, 1) := by decide +kernel
theorem d5_16 : decode jdk_117_method_8_code 16 = .ok (.ireturn, 1) := by decide +kernel
theorem pn_5 : plainName "java/lang/Double" = true := by first | (simp [plainName, overriddenIn]; done) | decide +kernel
theorem ef_5 (z0 : UInt64) (m : MethodId) : entryFrame m #[.double z0] 2 = mkF m 0 #[.val (.double z0), .second] [] := by first | (simp [entryFrame, mkF, argsToLocals, Value.category, maxLocals]; done) | rfl
set_option maxRecDepth 65536 in
set_option maxHeartbeats 40000000 in
theorem rm_5 (l : Launch) (Z : State) (a0 : Array Value) (hw : ∀ d ∈ tables_1, d.before a0 Z = true) (ws : List Jvm.Cond) (x1 : UInt64) (h0 : Heap) (n0 : Nat) (Z0 : n0 ≤ h0.size) (hf : Fin64 x1) :
    OwnMet l Z (⟨"java/lang/Double", "isFinite", "(D)Z"⟩ : MethodName) jdk_117_method_8_code 2 (some .boolean) ws ({ frames := 1, cells := 0, slots := 0, locals := 13 } : Room) #[.double x1] h0 (fun v h L => v = some (.int (1 : Int32)) ∧ Fr n0 L ∧ h = h0) := by
  refine own_met (plainFor_of_name pn_5) (ef_5 x1) ?_
  intro p e s m below meth c s₁ hx hby hml hZ hown hnm hret hlk X0 e0
  have N0 := Fr.nil n0
  refine s_dloadN X0 hx (hb hby d5_0) (pc' := 1) rfl rfl ?_
  refine s_absD X0 hx hZ hown (hw _ (List.mem_of_getElem? (i := 31) rfl)) (hw _ (List.mem_of_getElem? (i := 32) rfl)) (hw _ (List.mem_of_getElem? (i := 33) rfl)) (hw _ (List.mem_of_getElem? (i := 34) rfl)) e0 hf.noNaN (W := 0) (by decide) (by decide) (by rw [hml]; rfl) (Nat.le_of_eq rfl) (hb hby d5_1) (pc' := 4) rfl ?_
  intro T1 X1 e1
  refine s_ldcD X1 hx hZ hown (hw _ (List.mem_of_getElem? (i := 35) rfl)) (hb hby d5_4) (pc' := 7) rfl ?_
  refine s_dcmp X1 hx (cmpValue (FP.dcmp (x1 &&& 0x7fffffffffffffff) 9218868437227405311) .g) (hb hby d5_7) (pc' := 8) rfl rfl ?_
  refine s_ifN X1 hx (hb hby d5_8) (pc' := 11) rfl (in_gt (own_max hf)) ?_
  refine s_iconst X1 hx (1 : Int32) (hb hby d5_11) (pc' := 12) rfl rfl ?_
  refine s_goto X1 hx (hb hby d5_12) (by decide) (pc' := 16) (by decide) ?_
  exact s_retI X1 hx hlk hret (hb hby d5_16) rfl (Or.inl ⟨rfl, by simp, _, rfl⟩) (by decide) (by decide) ⟨rfl, N0, e1⟩
theorem d4_0 : decode prog_25_method_2_code 0 = .ok (.dload_n 0, 1) := by decide +kernel
theorem d4_1 : decode prog_25_method_2_code 1 = .ok (.invokestatic 7, 3) := by decide +kernel
theorem d4_4 : decode prog_25_method_2_code 4 = .ok (.ifCond .ne 18, 3) := by decide +kernel
theorem d4_7 : decode prog_25_method_2_code 7 = .ok (.new 13, 3) := by decide +kernel
theorem d4_10 : decode prog_25_method_2_code 10 = .ok (.dup, 1) := by decide +kernel
theorem d4_11 : decode prog_25_method_2_code 11 = .ok (.aload_n 2, 1) := by decide +kernel
theorem d4_12 : decode prog_25_method_2_code 12 = .ok (.dload_n 0, 1) := by decide +kernel
theorem d4_13 : decode prog_25_method_2_code 13 = .ok (.invokedynamic 15, 5) := by decide +kernel
theorem d4_18 : decode prog_25_method_2_code 18 = .ok (.invokespecial 19, 3) := by decide +kernel
theorem d4_21 : decode prog_25_method_2_code 21 = .ok (.athrow, 1) := by decide +kernel
theorem d4_22 : decode prog_25_method_2_code 22 = .ok (.dload_n 0, 1) := by decide +kernel
theorem d4_23 : decode prog_25_method_2_code 23 = .ok (.dreturn, 1) := by decide +kernel
theorem pn_4 : plainName "com/example/sensiflow/sensiflow/input/FiniteValues" = true := by first | (simp [plainName, overriddenIn]; done) | decide +kernel
theorem pd_0 : parseMethodDescriptor "(D)Z" = some ⟨[.double], some .boolean⟩ := by decide +kernel
theorem ef_4 (z0 : UInt64) (z1 : Addr) (m : MethodId) : entryFrame m #[.double z0, .ref z1] 3 = mkF m 0 #[.val (.double z0), .second, .val (.ref z1)] [] := by first | (simp [entryFrame, mkF, argsToLocals, Value.category, maxLocals]; done) | rfl
set_option maxRecDepth 65536 in
set_option maxHeartbeats 40000000 in
theorem rm_4 (l : Launch) (Z : State) (a0 : Array Value) (hw : ∀ d ∈ tables_1, d.before a0 Z = true) (ws : List Jvm.Cond) (x1 : UInt64) (b : Addr) (h0 : Heap) (n0 : Nat) (Z0 : n0 ≤ h0.size) (hf : Fin64 x1) :
    OwnMet l Z (⟨"com/example/sensiflow/sensiflow/input/FiniteValues", "require", "(DLjava/lang/String;)D"⟩ : MethodName) prog_25_method_2_code 3 (some .double) ws ({ frames := 2, cells := 0, slots := 0, locals := 26 } : Room) #[.double x1, .ref b] h0 (fun v h L => v = some (.double x1) ∧ Fr n0 L ∧ h = h0) := by
  refine own_met (plainFor_of_name pn_4) (ef_4 x1 b) ?_
  intro p e s m below meth c s₁ hx hby hml hZ hown hnm hret hlk X0 e0
  have N0 := Fr.nil n0
  refine s_dloadN X0 hx (hb hby d4_0) (pc' := 1) rfl rfl ?_
  refine c_static X0 hx hZ hown (hw _ (List.mem_of_getElem? (i := 27) rfl)) (hw _ (List.mem_of_getElem? (i := 28) rfl)) (hw _ (List.mem_of_getElem? (i := 29) rfl)) (hw _ (List.mem_of_getElem? (i := 30) rfl)) (by decide) e0 (rm_5 l Z a0 hw [] x1 h0 n0 Z0 hf) (W := 0) (by decide) (by decide) (by decide) (by decide) (by rw [hml]; rfl) (argsL := [.double x1]) (rest := []) (lenOf pd_0 rfl) rfl rfl (Nat.le_of_eq rfl) (hb hby d4_1) (pc' := 4) rfl ?_
  intro T1 v1 L1 X1 hQ1
  obtain ⟨rfl, Nq1, eh1⟩ := hQ1
  have N1 := Fr.app N0 Nq1
  show Goes p e below _ (T1.setTop (mkF m 4 #[.val (.double x1), .second, .val (.ref b)] [.int (1 : Int32)]))
  refine s_ifY X1 hx (hb hby d4_4) (by decide) (by decide) (pc' := 22) (by decide) ?_
  refine s_dloadN X1 hx (hb hby d4_22) (pc' := 23) rfl rfl ?_
  exact s_retI X1 hx hlk hret (hb hby d4_23) rfl (Or.inr (Or.inr (Or.inl ⟨rfl, rfl, _, rfl⟩))) (by decide) (by decide) ⟨rfl, N1, eh1⟩
theorem d1_0 : decode prog_20_method_1_code 0 = .ok (.aload_n 0, 1) := by decide +kernel
theorem d1_1 : decode prog_20_method_1_code 1 = .ok (.invokespecial 1, 3) := by decide +kernel
theorem d1_4 : decode prog_20_method_1_code 4 = .ok (.dload 5, 2) := by decide +kernel
theorem d1_6 : decode prog_20_method_1_code 6 = .ok (.ldc 7, 2) := by decide +kernel
theorem d1_8 : decode prog_20_method_1_code 8 = .ok (.invokestatic 9, 3) := by decide +kernel
theorem d1_11 : decode prog_20_method_1_code 11 = .ok (.pop2, 1) := by decide +kernel
theorem d1_12 : decode prog_20_method_1_code 12 = .ok (.dload 9, 2) := by decide +kernel
theorem d1_14 : decode prog_20_method_1_code 14 = .ok (.ldc 15, 2) := by decide +kernel
theorem d1_16 : decode prog_20_method_1_code 16 = .ok (.invokestatic 9, 3) := by decide +kernel
theorem d1_19 : decode prog_20_method_1_code 19 = .ok (.pop2, 1) := by decide +kernel
theorem d1_20 : decode prog_20_method_1_code 20 = .ok (.dload 11, 2) := by decide +kernel
theorem d1_22 : decode prog_20_method_1_code 22 = .ok (.ldc 17, 2) := by decide +kernel
theorem d1_24 : decode prog_20_method_1_code 24 = .ok (.invokestatic 9, 3) := by decide +kernel
theorem d1_27 : decode prog_20_method_1_code 27 = .ok (.pop2, 1) := by decide +kernel
theorem d1_28 : decode prog_20_method_1_code 28 = .ok (.aload_n 0, 1) := by decide +kernel
theorem d1_29 : decode prog_20_method_1_code 29 = .ok (.iload_n 1, 1) := by decide +kernel
theorem d1_30 : decode prog_20_method_1_code 30 = .ok (.putfield 19, 3) := by decide +kernel
theorem d1_33 : decode prog_20_method_1_code 33 = .ok (.aload_n 0, 1) := by decide +kernel
theorem d1_34 : decode prog_20_method_1_code 34 = .ok (.iload_n 2, 1) := by decide +kernel
theorem d1_35 : decode prog_20_method_1_code 35 = .ok (.putfield 25, 3) := by decide +kernel
theorem d1_38 : decode prog_20_method_1_code 38 = .ok (.aload_n 0, 1) := by decide +kernel
theorem d1_39 : decode prog_20_method_1_code 39 = .ok (.dload_n 3, 1) := by decide +kernel
theorem d1_40 : decode prog_20_method_1_code 40 = .ok (.putfield 28, 3) := by decide +kernel
theorem d1_43 : decode prog_20_method_1_code 43 = .ok (.aload_n 0, 1) := by decide +kernel
theorem d1_44 : decode prog_20_method_1_code 44 = .ok (.dload 5, 2) := by decide +kernel
theorem d1_46 : decode prog_20_method_1_code 46 = .ok (.putfield 32, 3) := by decide +kernel
theorem d1_49 : decode prog_20_method_1_code 49 = .ok (.aload_n 0, 1) := by decide +kernel
theorem d1_50 : decode prog_20_method_1_code 50 = .ok (.dload 7, 2) := by decide +kernel
theorem d1_52 : decode prog_20_method_1_code 52 = .ok (.putfield 35, 3) := by decide +kernel
theorem d1_55 : decode prog_20_method_1_code 55 = .ok (.aload_n 0, 1) := by decide +kernel
theorem d1_56 : decode prog_20_method_1_code 56 = .ok (.dload 9, 2) := by decide +kernel
theorem d1_58 : decode prog_20_method_1_code 58 = .ok (.putfield 38, 3) := by decide +kernel
theorem d1_61 : decode prog_20_method_1_code 61 = .ok (.aload_n 0, 1) := by decide +kernel
theorem d1_62 : decode prog_20_method_1_code 62 = .ok (.dload 11, 2) := by decide +kernel
theorem d1_64 : decode prog_20_method_1_code 64 = .ok (.putfield 41, 3) := by decide +kernel
theorem d1_67 : decode prog_20_method_1_code 67 = .ok (.aload_n 0, 1) := by decide +kernel
theorem d1_68 : decode prog_20_method_1_code 68 = .ok (.iload 13, 2) := by decide +kernel
theorem d1_70 : decode prog_20_method_1_code 70 = .ok (.putfield 44, 3) := by decide +kernel
theorem d1_73 : decode prog_20_method_1_code 73 = .ok (.return_, 1) := by decide +kernel
theorem pn_1 : plainName "com/example/sensiflow/sensiflow/input/Branch" = true := by first | (simp [plainName, overriddenIn]; done) | decide +kernel
theorem pd_1 : parseMethodDescriptor "()V" = some ⟨[], none⟩ := by decide +kernel
theorem pd_2 : parseMethodDescriptor "(DLjava/lang/String;)D" = some ⟨[.double, (.object "java/lang/String")], some .double⟩ := by decide +kernel
theorem ef_1 (z0 : Addr) (z1 : Int32) (z2 : Int32) (z3 : UInt64) (z4 : UInt64) (z5 : UInt64) (z6 : UInt64) (z7 : UInt64) (z8 : Int32) (m : MethodId) : entryFrame m #[.ref z0, .int z1, .int z2, .double z3, .double z4, .double z5, .double z6, .double z7, .int z8] 14 = mkF m 0 #[.val (.ref z0), .val (.int z1), .val (.int z2), .val (.double z3), .second, .val (.double z4), .second, .val (.double z5), .second, .val (.double z6), .second, .val (.double z7), .second, .val (.int z8)] [] := by first | (simp [entryFrame, mkF, argsToLocals, Value.category, maxLocals]; done) | rfl
set_option maxRecDepth 65536 in
set_option maxHeartbeats 40000000 in
theorem rm_1 (l : Launch) (Z : State) (a0 : Array Value) (hw : ∀ d ∈ tables_1, d.before a0 Z = true) (ws : List Jvm.Cond) (a : Addr) (k1 : Int32) (k2 : Int32) (x0 : UInt64) (x1 : UInt64) (x2 : UInt64) (x3 : UInt64) (x4 : UInt64) (z1 : Int32) (vo0 : Value) (vo1 : Value) (vo2 : Value) (vo3 : Value) (vo4 : Value) (vo5 : Value) (vo6 : Value) (vo7 : Value) (h0 : Heap) (n0 : Nat) (Z0 : n0 ≤ h0.size) (hz : z1 = 0 ∨ z1 = 1) (Ea : Exa Z h0 a "com/example/sensiflow/sensiflow/input/Branch") (G0 : (Fld Z h0 a "com/example/sensiflow/sensiflow/input/Branch" "fromBus" "I" vo0)) (G1 : (Fld Z h0 a "com/example/sensiflow/sensiflow/input/Branch" "toBus" "I" vo1)) (G2 : (Fld Z h0 a "com/example/sensiflow/sensiflow/input/Branch" "r" "D" vo2)) (G3 : (Fld Z h0 a "com/example/sensiflow/sensiflow/input/Branch" "x" "D" vo3)) (G4 : (Fld Z h0 a "com/example/sensiflow/sensiflow/input/Branch" "b" "D" vo4)) (G5 : (Fld Z h0 a "com/example/sensiflow/sensiflow/input/Branch" "tap" "D" vo5)) (G6 : (Fld Z h0 a "com/example/sensiflow/sensiflow/input/Branch" "shift" "D" vo6)) (G7 : (Fld Z h0 a "com/example/sensiflow/sensiflow/input/Branch" "inService" "Z" vo7)) (ga : n0 ≤ a) (hf1 : Fin64 x1) (hf3 : Fin64 x3) (hf4 : Fin64 x4) :
    OwnMetW l Z (⟨"com/example/sensiflow/sensiflow/input/Branch", "<init>", "(IIDDDDDZ)V"⟩ : MethodName) prog_20_method_1_code 14 none ws ({ frames := 3, cells := 6, slots := 60, locals := 44 } : Room) #[.ref a, .int k1, .int k2, .double x0, .double x1, .double x2, .double x3, .double x4, .int z1] h0 (fun v h L => v = none ∧ Fr n0 L ∧ Keep h0 h [a] ∧ Exa Z h a "com/example/sensiflow/sensiflow/input/Branch" ∧ (Fld Z h a "com/example/sensiflow/sensiflow/input/Branch" "tap" "D" (.double x3))) := by
  refine own_metW (plainFor_of_name pn_1) (ef_1 a k1 k2 x0 x1 x2 x3 x4 z1) ?_
  intro p e s m below meth c s₁ hx hby hml hZ hown hnm hret hlk X0 e0 hS0 J0
  have N0 := Fr.nil n0
  have hstr := own_str hw
  rcases hz with rfl | rfl
  ·
    refine s_aloadN X0 hx (hb hby d1_0) (pc' := 1) rfl rfl rfl ?_
    refine c_special X0 hx hZ rfl hown (hw _ (List.mem_of_getElem? (i := 7) rfl)) (hw _ (List.mem_of_getElem? (i := 8) rfl)) (hw _ (List.mem_of_getElem? (i := 10) rfl)) (hw _ (List.mem_of_getElem? (i := 11) rfl)) (by decide) e0 (rm_2 l Z a0 hw [] a h0 n0 Z0) (W := 0) (by decide) (by decide) (by decide) (by decide) (by rw [hml]; rfl) (argsL := []) (rest := []) (a := a) (lenOf pd_1 rfl) rfl rfl (Nat.le_of_eq rfl) (hb hby d1_1) (pc' := 4) rfl ?_
    intro T1 v1 L1 X1 hQ1
    obtain ⟨rfl, Nq1, eh1⟩ := hQ1
    have N1 := Fr.app N0 Nq1
    show Goes p e below _ (T1.setTop (mkF m 4 #[.val (.ref a), .val (.int k1), .val (.int k2), .val (.double x0), .second, .val (.double x1), .second, .val (.double x2), .second, .val (.double x3), .second, .val (.double x4), .second, .val (.int (0 : Int32))] []))
    refine s_dload X1 hx (hb hby d1_4) (pc' := 6) rfl rfl ?_
    refine s_ldcS X1 hx hZ hown (hw _ (List.mem_of_getElem? (i := 15) rfl)) hstr eh1 hS0 J0 (hb hby d1_6) (pc' := 8) rfl 16 (by decide) (by decide) (by decide) (by decide) ?_
    intro a2 T2 h2 kS2 X2 e2 E2 hS2 J2 hZ2 ho2
    have H2 : h0.size ≤ h2.size := Nat.le_trans (Nat.le_refl _) E2.1
    refine c_static X2 hx hZ2 ho2 (hw _ (List.mem_of_getElem? (i := 23) rfl)) (hw _ (List.mem_of_getElem? (i := 24) rfl)) (hw _ (List.mem_of_getElem? (i := 25) rfl)) (hw _ (List.mem_of_getElem? (i := 26) rfl)) (by decide) e2 (rm_4 l Z a0 hw [] x1 a2 h2 n0 (Nat.le_trans Z0 H2) hf1) (W := 0) (by decide) (by decide) (by decide) (by decide) (by rw [hml]; rfl) (argsL := [.double x1, .ref a2]) (rest := []) (lenOf pd_2 rfl) rfl rfl (Nat.le_of_eq rfl) (hb hby d1_8) (pc' := 11) rfl ?_
    intro T3 v3 L3 X3 hQ3
    obtain ⟨rfl, Nq3, eh3⟩ := hQ3
    have N3 := Fr.app N1 Nq3
    show Goes p e below _ (T3.setTop (mkF m 11 #[.val (.ref a), .val (.int k1), .val (.int k2), .val (.double x0), .second, .val (.double x1), .second, .val (.double x2), .second, .val (.double x3), .second, .val (.double x4), .second, .val (.int (0 : Int32))] [.double x1]))
    refine s_pop2D X3 hx (hb hby d1_11) (pc' := 12) rfl ?_
    refine s_dload X3 hx (hb hby d1_12) (pc' := 14) rfl rfl ?_
    refine s_ldcS X3 hx hZ2 ho2 (hw _ (List.mem_of_getElem? (i := 36) rfl)) hstr eh3 hS2 J2 (hb hby d1_14) (pc' := 16) rfl 12 (by decide) (by decide) (by decide) (by decide) ?_
    intro a4 T4 h4 kS4 X4 e4 E4 hS4 J4 hZ4 ho4
    have H4 : h0.size ≤ h4.size := Nat.le_trans H2 E4.1
    refine c_static X4 hx hZ4 ho4 (hw _ (List.mem_of_getElem? (i := 23) rfl)) (hw _ (List.mem_of_getElem? (i := 24) rfl)) (hw _ (List.mem_of_getElem? (i := 25) rfl)) (hw _ (List.mem_of_getElem? (i := 26) rfl)) (by decide) e4 (rm_4 l Z a0 hw [] x3 a4 h4 n0 (Nat.le_trans Z0 H4) hf3) (W := 0) (by decide) (by decide) (by decide) (by decide) (by rw [hml]; rfl) (argsL := [.double x3, .ref a4]) (rest := []) (lenOf pd_2 rfl) rfl rfl (Nat.le_of_eq rfl) (hb hby d1_16) (pc' := 19) rfl ?_
    intro T5 v5 L5 X5 hQ5
    obtain ⟨rfl, Nq5, eh5⟩ := hQ5
    have N5 := Fr.app N3 Nq5
    show Goes p e below _ (T5.setTop (mkF m 19 #[.val (.ref a), .val (.int k1), .val (.int k2), .val (.double x0), .second, .val (.double x1), .second, .val (.double x2), .second, .val (.double x3), .second, .val (.double x4), .second, .val (.int (0 : Int32))] [.double x3]))
    refine s_pop2D X5 hx (hb hby d1_19) (pc' := 20) rfl ?_
    refine s_dload X5 hx (hb hby d1_20) (pc' := 22) rfl rfl ?_
    refine s_ldcS X5 hx hZ4 ho4 (hw _ (List.mem_of_getElem? (i := 37) rfl)) hstr eh5 hS4 J4 (hb hby d1_22) (pc' := 24) rfl 20 (by decide) (by decide) (by decide) (by decide) ?_
    intro a6 T6 h6 kS6 X6 e6 E6 hS6 J6 hZ6 ho6
    have H6 : h0.size ≤ h6.size := Nat.le_trans H4 E6.1
    refine c_static X6 hx hZ6 ho6 (hw _ (List.mem_of_getElem? (i := 23) rfl)) (hw _ (List.mem_of_getElem? (i := 24) rfl)) (hw _ (List.mem_of_getElem? (i := 25) rfl)) (hw _ (List.mem_of_getElem? (i := 26) rfl)) (by decide) e6 (rm_4 l Z a0 hw [] x4 a6 h6 n0 (Nat.le_trans Z0 H6) hf4) (W := 0) (by decide) (by decide) (by decide) (by decide) (by rw [hml]; rfl) (argsL := [.double x4, .ref a6]) (rest := []) (lenOf pd_2 rfl) rfl rfl (Nat.le_of_eq rfl) (hb hby d1_24) (pc' := 27) rfl ?_
    intro T7 v7 L7 X7 hQ7
    obtain ⟨rfl, Nq7, eh7⟩ := hQ7
    have N7 := Fr.app N5 Nq7
    show Goes p e below _ (T7.setTop (mkF m 27 #[.val (.ref a), .val (.int k1), .val (.int k2), .val (.double x0), .second, .val (.double x1), .second, .val (.double x2), .second, .val (.double x3), .second, .val (.double x4), .second, .val (.int (0 : Int32))] [.double x4]))
    refine s_pop2D X7 hx (hb hby d1_27) (pc' := 28) rfl ?_
    refine s_aloadN X7 hx (hb hby d1_28) (pc' := 29) rfl rfl rfl ?_
    refine s_iloadN X7 hx (hb hby d1_29) (pc' := 30) rfl rfl ?_
    have fF8 := (((G0.ext E2).ext E4).ext E6)
    have fE9 := (((Ea.ext E2).ext E4).ext E6)
    refine s_putF X7 hx hZ6 ho6 (hw _ (List.mem_of_getElem? (i := 38) rfl)) eh7 fF8 fE9 (Or.inr ⟨(hw _ (List.mem_of_getElem? (i := 39) rfl)), rfl, hnm⟩) (hw _ (List.mem_of_getElem? (i := 2) rfl)) (ty := .int) (by decide) rfl rfl (hb hby d1_30) (pc' := 33) rfl ?_
    intro T10 h10 X10 e10 W10
    have N10 := Fr.snoc X10 N7 ga
    have F10 := fF8.same W10
    have J10 := Nat.le_trans J6 (Nat.le_of_eq W10.size.symm)
    have H10 : h0.size ≤ h10.size := by rw [W10.size]; exact H6
    refine s_aloadN X10 hx (hb hby d1_33) (pc' := 34) rfl rfl rfl ?_
    refine s_iloadN X10 hx (hb hby d1_34) (pc' := 35) rfl rfl ?_
    have fF11 := ((((G1.ext E2).ext E4).ext E6).other W10 (Or.inr (slot_ne (C := "com/example/sensiflow/sensiflow/input/Branch") (t := .int) (t' := .int) (Or.inr (hw _ (List.mem_of_getElem? (i := 41) rfl))) (Or.inr (hw _ (List.mem_of_getElem? (i := 39) rfl))) (by decide) (by decide) (by decide))))
    have fE12 := (fE9.wr W10)
    refine s_putF X10 hx hZ6 ho6 (hw _ (List.mem_of_getElem? (i := 40) rfl)) e10 fF11 fE12 (Or.inr ⟨(hw _ (List.mem_of_getElem? (i := 41) rfl)), rfl, hnm⟩) (hw _ (List.mem_of_getElem? (i := 2) rfl)) (ty := .int) (by decide) rfl rfl (hb hby d1_35) (pc' := 38) rfl ?_
    intro T13 h13 X13 e13 W13
    have N13 := Fr.snoc X13 N10 ga
    have F13 := fF11.same W13
    have J13 := Nat.le_trans J10 (Nat.le_of_eq W13.size.symm)
    have H13 : h0.size ≤ h13.size := by rw [W13.size]; exact H10
    refine s_aloadN X13 hx (hb hby d1_38) (pc' := 39) rfl rfl rfl ?_
    refine s_dloadN X13 hx (hb hby d1_39) (pc' := 40) rfl rfl ?_
    have fF14 := (((((G2.ext E2).ext E4).ext E6).other W10 (Or.inr (slot_ne (C := "com/example/sensiflow/sensiflow/input/Branch") (t := .double) (t' := .int) (Or.inr (hw _ (List.mem_of_getElem? (i := 43) rfl))) (Or.inr (hw _ (List.mem_of_getElem? (i := 39) rfl))) (by decide) (by decide) (by decide)))).other W13 (Or.inr (slot_ne (C := "com/example/sensiflow/sensiflow/input/Branch") (t := .double) (t' := .int) (Or.inr (hw _ (List.mem_of_getElem? (i := 43) rfl))) (Or.inr (hw _ (List.mem_of_getElem? (i := 41) rfl))) (by decide) (by decide) (by decide))))
    have fE15 := (fE12.wr W13)
    refine s_putF X13 hx hZ6 ho6 (hw _ (List.mem_of_getElem? (i := 42) rfl)) e13 fF14 fE15 (Or.inr ⟨(hw _ (List.mem_of_getElem? (i := 43) rfl)), rfl, hnm⟩) (hw _ (List.mem_of_getElem? (i := 2) rfl)) (ty := .double) (by decide) rfl rfl (hb hby d1_40) (pc' := 43) rfl ?_
    intro T16 h16 X16 e16 W16
    have N16 := Fr.snoc X16 N13 ga
    have F16 := fF14.same W16
    have J16 := Nat.le_trans J13 (Nat.le_of_eq W16.size.symm)
    have H16 : h0.size ≤ h16.size := by rw [W16.size]; exact H13
    refine s_aloadN X16 hx (hb hby d1_43) (pc' := 44) rfl rfl rfl ?_
    refine s_dload X16 hx (hb hby d1_44) (pc' := 46) rfl rfl ?_
    have fF17 := ((((((G3.ext E2).ext E4).ext E6).other W10 (Or.inr (slot_ne (C := "com/example/sensiflow/sensiflow/input/Branch") (t := .double) (t' := .int) (Or.inr (hw _ (List.mem_of_getElem? (i := 45) rfl))) (Or.inr (hw _ (List.mem_of_getElem? (i := 39) rfl))) (by decide) (by decide) (by decide)))).other W13 (Or.inr (slot_ne (C := "com/example/sensiflow/sensiflow/input/Branch") (t := .double) (t' := .int) (Or.inr (hw _ (List.mem_of_getElem? (i := 45) rfl))) (Or.inr (hw _ (List.mem_of_getElem? (i := 41) rfl))) (by decide) (by decide) (by decide)))).other W16 (Or.inr (slot_ne (C := "com/example/sensiflow/sensiflow/input/Branch") (t := .double) (t' := .double) (Or.inr (hw _ (List.mem_of_getElem? (i := 45) rfl))) (Or.inr (hw _ (List.mem_of_getElem? (i := 43) rfl))) (by decide) (by decide) (by decide))))
    have fE18 := (fE15.wr W16)
    refine s_putF X16 hx hZ6 ho6 (hw _ (List.mem_of_getElem? (i := 44) rfl)) e16 fF17 fE18 (Or.inr ⟨(hw _ (List.mem_of_getElem? (i := 45) rfl)), rfl, hnm⟩) (hw _ (List.mem_of_getElem? (i := 2) rfl)) (ty := .double) (by decide) rfl rfl (hb hby d1_46) (pc' := 49) rfl ?_
    intro T19 h19 X19 e19 W19
    have N19 := Fr.snoc X19 N16 ga
    have F19 := fF17.same W19
    have J19 := Nat.le_trans J16 (Nat.le_of_eq W19.size.symm)
    have H19 : h0.size ≤ h19.size := by rw [W19.size]; exact H16
    refine s_aloadN X19 hx (hb hby d1_49) (pc' := 50) rfl rfl rfl ?_
    refine s_dload X19 hx (hb hby d1_50) (pc' := 52) rfl rfl ?_
    have fF20 := (((((((G4.ext E2).ext E4).ext E6).other W10 (Or.inr (slot_ne (C := "com/example/sensiflow/sensiflow/input/Branch") (t := .double) (t' := .int) (Or.inr (hw _ (List.mem_of_getElem? (i := 47) rfl))) (Or.inr (hw _ (List.mem_of_getElem? (i := 39) rfl))) (by decide) (by decide) (by decide)))).other W13 (Or.inr (slot_ne (C := "com/example/sensiflow/sensiflow/input/Branch") (t := .double) (t' := .int) (Or.inr (hw _ (List.mem_of_getElem? (i := 47) rfl))) (Or.inr (hw _ (List.mem_of_getElem? (i := 41) rfl))) (by decide) (by decide) (by decide)))).other W16 (Or.inr (slot_ne (C := "com/example/sensiflow/sensiflow/input/Branch") (t := .double) (t' := .double) (Or.inr (hw _ (List.mem_of_getElem? (i := 47) rfl))) (Or.inr (hw _ (List.mem_of_getElem? (i := 43) rfl))) (by decide) (by decide) (by decide)))).other W19 (Or.inr (slot_ne (C := "com/example/sensiflow/sensiflow/input/Branch") (t := .double) (t' := .double) (Or.inr (hw _ (List.mem_of_getElem? (i := 47) rfl))) (Or.inr (hw _ (List.mem_of_getElem? (i := 45) rfl))) (by decide) (by decide) (by decide))))
    have fE21 := (fE18.wr W19)
    refine s_putF X19 hx hZ6 ho6 (hw _ (List.mem_of_getElem? (i := 46) rfl)) e19 fF20 fE21 (Or.inr ⟨(hw _ (List.mem_of_getElem? (i := 47) rfl)), rfl, hnm⟩) (hw _ (List.mem_of_getElem? (i := 2) rfl)) (ty := .double) (by decide) rfl rfl (hb hby d1_52) (pc' := 55) rfl ?_
    intro T22 h22 X22 e22 W22
    have N22 := Fr.snoc X22 N19 ga
    have F22 := fF20.same W22
    have J22 := Nat.le_trans J19 (Nat.le_of_eq W22.size.symm)
    have H22 : h0.size ≤ h22.size := by rw [W22.size]; exact H19
    refine s_aloadN X22 hx (hb hby d1_55) (pc' := 56) rfl rfl rfl ?_
    refine s_dload X22 hx (hb hby d1_56) (pc' := 58) rfl rfl ?_
    have fF23 := ((((((((G5.ext E2).ext E4).ext E6).other W10 (Or.inr (slot_ne (C := "com/example/sensiflow/sensiflow/input/Branch") (t := .double) (t' := .int) (Or.inr (hw _ (List.mem_of_getElem? (i := 49) rfl))) (Or.inr (hw _ (List.mem_of_getElem? (i := 39) rfl))) (by decide) (by decide) (by decide)))).other W13 (Or.inr (slot_ne (C := "com/example/sensiflow/sensiflow/input/Branch") (t := .double) (t' := .int) (Or.inr (hw _ (List.mem_of_getElem? (i := 49) rfl))) (Or.inr (hw _ (List.mem_of_getElem? (i := 41) rfl))) (by decide) (by decide) (by decide)))).other W16 (Or.inr (slot_ne (C := "com/example/sensiflow/sensiflow/input/Branch") (t := .double) (t' := .double) (Or.inr (hw _ (List.mem_of_getElem? (i := 49) rfl))) (Or.inr (hw _ (List.mem_of_getElem? (i := 43) rfl))) (by decide) (by decide) (by decide)))).other W19 (Or.inr (slot_ne (C := "com/example/sensiflow/sensiflow/input/Branch") (t := .double) (t' := .double) (Or.inr (hw _ (List.mem_of_getElem? (i := 49) rfl))) (Or.inr (hw _ (List.mem_of_getElem? (i := 45) rfl))) (by decide) (by decide) (by decide)))).other W22 (Or.inr (slot_ne (C := "com/example/sensiflow/sensiflow/input/Branch") (t := .double) (t' := .double) (Or.inr (hw _ (List.mem_of_getElem? (i := 49) rfl))) (Or.inr (hw _ (List.mem_of_getElem? (i := 47) rfl))) (by decide) (by decide) (by decide))))
    have fE24 := (fE21.wr W22)
    refine s_putF X22 hx hZ6 ho6 (hw _ (List.mem_of_getElem? (i := 48) rfl)) e22 fF23 fE24 (Or.inr ⟨(hw _ (List.mem_of_getElem? (i := 49) rfl)), rfl, hnm⟩) (hw _ (List.mem_of_getElem? (i := 2) rfl)) (ty := .double) (by decide) rfl rfl (hb hby d1_58) (pc' := 61) rfl ?_
    intro T25 h25 X25 e25 W25
    have N25 := Fr.snoc X25 N22 ga
    have F25 := fF23.same W25
    have J25 := Nat.le_trans J22 (Nat.le_of_eq W25.size.symm)
    have H25 : h0.size ≤ h25.size := by rw [W25.size]; exact H22
    refine s_aloadN X25 hx (hb hby d1_61) (pc' := 62) rfl rfl rfl ?_
    refine s_dload X25 hx (hb hby d1_62) (pc' := 64) rfl rfl ?_
    have fF26 := (((((((((G6.ext E2).ext E4).ext E6).other W10 (Or.inr (slot_ne (C := "com/example/sensiflow/sensiflow/input/Branch") (t := .double) (t' := .int) (Or.inr (hw _ (List.mem_of_getElem? (i := 51) rfl))) (Or.inr (hw _ (List.mem_of_getElem? (i := 39) rfl))) (by decide) (by decide) (by decide)))).other W13 (Or.inr (slot_ne (C := "com/example/sensiflow/sensiflow/input/Branch") (t := .double) (t' := .int) (Or.inr (hw _ (List.mem_of_getElem? (i := 51) rfl))) (Or.inr (hw _ (List.mem_of_getElem? (i := 41) rfl))) (by decide) (by decide) (by decide)))).other W16 (Or.inr (slot_ne (C := "com/example/sensiflow/sensiflow/input/Branch") (t := .double) (t' := .double) (Or.inr (hw _ (List.mem_of_getElem? (i := 51) rfl))) (Or.inr (hw _ (List.mem_of_getElem? (i := 43) rfl))) (by decide) (by decide) (by decide)))).other W19 (Or.inr (slot_ne (C := "com/example/sensiflow/sensiflow/input/Branch") (t := .double) (t' := .double) (Or.inr (hw _ (List.mem_of_getElem? (i := 51) rfl))) (Or.inr (hw _ (List.mem_of_getElem? (i := 45) rfl))) (by decide) (by decide) (by decide)))).other W22 (Or.inr (slot_ne (C := "com/example/sensiflow/sensiflow/input/Branch") (t := .double) (t' := .double) (Or.inr (hw _ (List.mem_of_getElem? (i := 51) rfl))) (Or.inr (hw _ (List.mem_of_getElem? (i := 47) rfl))) (by decide) (by decide) (by decide)))).other W25 (Or.inr (slot_ne (C := "com/example/sensiflow/sensiflow/input/Branch") (t := .double) (t' := .double) (Or.inr (hw _ (List.mem_of_getElem? (i := 51) rfl))) (Or.inr (hw _ (List.mem_of_getElem? (i := 49) rfl))) (by decide) (by decide) (by decide))))
    have fE27 := (fE24.wr W25)
    refine s_putF X25 hx hZ6 ho6 (hw _ (List.mem_of_getElem? (i := 50) rfl)) e25 fF26 fE27 (Or.inr ⟨(hw _ (List.mem_of_getElem? (i := 51) rfl)), rfl, hnm⟩) (hw _ (List.mem_of_getElem? (i := 2) rfl)) (ty := .double) (by decide) rfl rfl (hb hby d1_64) (pc' := 67) rfl ?_
    intro T28 h28 X28 e28 W28
    have N28 := Fr.snoc X28 N25 ga
    have F28 := fF26.same W28
    have J28 := Nat.le_trans J25 (Nat.le_of_eq W28.size.symm)
    have H28 : h0.size ≤ h28.size := by rw [W28.size]; exact H25
    refine s_aloadN X28 hx (hb hby d1_67) (pc' := 68) rfl rfl rfl ?_
    refine s_iload X28 hx (hb hby d1_68) (pc' := 70) rfl rfl ?_
    have fF29 := ((((((((((G7.ext E2).ext E4).ext E6).other W10 (Or.inr (slot_ne (C := "com/example/sensiflow/sensiflow/input/Branch") (t := .boolean) (t' := .int) (Or.inr (hw _ (List.mem_of_getElem? (i := 53) rfl))) (Or.inr (hw _ (List.mem_of_getElem? (i := 39) rfl))) (by decide) (by decide) (by decide)))).other W13 (Or.inr (slot_ne (C := "com/example/sensiflow/sensiflow/input/Branch") (t := .boolean) (t' := .int) (Or.inr (hw _ (List.mem_of_getElem? (i := 53) rfl))) (Or.inr (hw _ (List.mem_of_getElem? (i := 41) rfl))) (by decide) (by decide) (by decide)))).other W16 (Or.inr (slot_ne (C := "com/example/sensiflow/sensiflow/input/Branch") (t := .boolean) (t' := .double) (Or.inr (hw _ (List.mem_of_getElem? (i := 53) rfl))) (Or.inr (hw _ (List.mem_of_getElem? (i := 43) rfl))) (by decide) (by decide) (by decide)))).other W19 (Or.inr (slot_ne (C := "com/example/sensiflow/sensiflow/input/Branch") (t := .boolean) (t' := .double) (Or.inr (hw _ (List.mem_of_getElem? (i := 53) rfl))) (Or.inr (hw _ (List.mem_of_getElem? (i := 45) rfl))) (by decide) (by decide) (by decide)))).other W22 (Or.inr (slot_ne (C := "com/example/sensiflow/sensiflow/input/Branch") (t := .boolean) (t' := .double) (Or.inr (hw _ (List.mem_of_getElem? (i := 53) rfl))) (Or.inr (hw _ (List.mem_of_getElem? (i := 47) rfl))) (by decide) (by decide) (by decide)))).other W25 (Or.inr (slot_ne (C := "com/example/sensiflow/sensiflow/input/Branch") (t := .boolean) (t' := .double) (Or.inr (hw _ (List.mem_of_getElem? (i := 53) rfl))) (Or.inr (hw _ (List.mem_of_getElem? (i := 49) rfl))) (by decide) (by decide) (by decide)))).other W28 (Or.inr (slot_ne (C := "com/example/sensiflow/sensiflow/input/Branch") (t := .boolean) (t' := .double) (Or.inr (hw _ (List.mem_of_getElem? (i := 53) rfl))) (Or.inr (hw _ (List.mem_of_getElem? (i := 51) rfl))) (by decide) (by decide) (by decide))))
    have fE30 := (fE27.wr W28)
    refine s_putF X28 hx hZ6 ho6 (hw _ (List.mem_of_getElem? (i := 52) rfl)) e28 fF29 fE30 (Or.inr ⟨(hw _ (List.mem_of_getElem? (i := 53) rfl)), rfl, hnm⟩) (hw _ (List.mem_of_getElem? (i := 2) rfl)) (ty := .boolean) (by decide) rfl rfl (hb hby d1_70) (pc' := 73) rfl ?_
    intro T31 h31 X31 e31 W31
    have N31 := Fr.snoc X31 N28 ga
    have F31 := fF29.same W31
    have J31 := Nat.le_trans J28 (Nat.le_of_eq W31.size.symm)
    have H31 : h0.size ≤ h31.size := by rw [W31.size]; exact H28
    have KK32 : Keep h0 h31 [a] := ((((((((((((Keep.refl _ _).ext E2).ext E4).ext E6).wr W10 (Or.inl (List.mem_of_getElem? (i := 0) rfl))).wr W13 (Or.inl (List.mem_of_getElem? (i := 0) rfl))).wr W16 (Or.inl (List.mem_of_getElem? (i := 0) rfl))).wr W19 (Or.inl (List.mem_of_getElem? (i := 0) rfl))).wr W22 (Or.inl (List.mem_of_getElem? (i := 0) rfl))).wr W25 (Or.inl (List.mem_of_getElem? (i := 0) rfl))).wr W28 (Or.inl (List.mem_of_getElem? (i := 0) rfl))).wr W31 (Or.inl (List.mem_of_getElem? (i := 0) rfl)))
    have fE33 := (fE30.wr W31)
    have fF34 := ((F25.other W28 (Or.inr (slot_ne (C := "com/example/sensiflow/sensiflow/input/Branch") (t := .double) (t' := .double) (Or.inr (hw _ (List.mem_of_getElem? (i := 49) rfl))) (Or.inr (hw _ (List.mem_of_getElem? (i := 51) rfl))) (by decide) (by decide) (by decide)))).other W31 (Or.inr (slot_ne (C := "com/example/sensiflow/sensiflow/input/Branch") (t := .double) (t' := .boolean) (Or.inr (hw _ (List.mem_of_getElem? (i := 49) rfl))) (Or.inr (hw _ (List.mem_of_getElem? (i := 53) rfl))) (by decide) (by decide) (by decide))))
    exact s_retW X31 hx hlk hS6 (by rw [e31]; exact J31) hret (hb hby d1_73) (by decide) (by decide) (by rw [e31]; exact ⟨rfl, N31, KK32, fE33, fF34⟩)
  ·
    refine s_aloadN X0 hx (hb hby d1_0) (pc' := 1) rfl rfl rfl ?_
    refine c_special X0 hx hZ rfl hown (hw _ (List.mem_of_getElem? (i := 7) rfl)) (hw _ (List.mem_of_getElem? (i := 8) rfl)) (hw _ (List.mem_of_getElem? (i := 10) rfl)) (hw _ (List.mem_of_getElem? (i := 11) rfl)) (by decide) e0 (rm_2 l Z a0 hw [] a h0 n0 Z0) (W := 0) (by decide) (by decide) (by decide) (by decide) (by rw [hml]; rfl) (argsL := []) (rest := []) (a := a) (lenOf pd_1 rfl) rfl rfl (Nat.le_of_eq rfl) (hb hby d1_1) (pc' := 4) rfl ?_
    intro T35 v35 L35 X35 hQ35
    obtain ⟨rfl, Nq35, eh35⟩ := hQ35
    have N35 := Fr.app N0 Nq35
    show Goes p e below _ (T35.setTop (mkF m 4 #[.val (.ref a), .val (.int k1), .val (.int k2), .val (.double x0), .second, .val (.double x1), .second, .val (.double x2), .second, .val (.double x3), .second, .val (.double x4), .second, .val (.int (1 : Int32))] []))
    refine s_dload X35 hx (hb hby d1_4) (pc' := 6) rfl rfl ?_
    refine s_ldcS X35 hx hZ hown (hw _ (List.mem_of_getElem? (i := 15) rfl)) hstr eh35 hS0 J0 (hb hby d1_6) (pc' := 8) rfl 16 (by decide) (by decide) (by decide) (by decide) ?_
    intro a36 T36 h36 kS36 X36 e36 E36 hS36 J36 hZ36 ho36
    have H36 : h0.size ≤ h36.size := Nat.le_trans (Nat.le_refl _) E36.1
    refine c_static X36 hx hZ36 ho36 (hw _ (List.mem_of_getElem? (i := 23) rfl)) (hw _ (List.mem_of_getElem? (i := 24) rfl)) (hw _ (List.mem_of_getElem? (i := 25) rfl)) (hw _ (List.mem_of_getElem? (i := 26) rfl)) (by decide) e36 (rm_4 l Z a0 hw [] x1 a36 h36 n0 (Nat.le_trans Z0 H36) hf1) (W := 0) (by decide) (by decide) (by decide) (by decide) (by rw [hml]; rfl) (argsL := [.double x1, .ref a36]) (rest := []) (lenOf pd_2 rfl) rfl rfl (Nat.le_of_eq rfl) (hb hby d1_8) (pc' := 11) rfl ?_
    intro T37 v37 L37 X37 hQ37
    obtain ⟨rfl, Nq37, eh37⟩ := hQ37
    have N37 := Fr.app N35 Nq37
    show Goes p e below _ (T37.setTop (mkF m 11 #[.val (.ref a), .val (.int k1), .val (.int k2), .val (.double x0), .second, .val (.double x1), .second, .val (.double x2), .second, .val (.double x3), .second, .val (.double x4), .second, .val (.int (1 : Int32))] [.double x1]))
    refine s_pop2D X37 hx (hb hby d1_11) (pc' := 12) rfl ?_
    refine s_dload X37 hx (hb hby d1_12) (pc' := 14) rfl rfl ?_
    refine s_ldcS X37 hx hZ36 ho36 (hw _ (List.mem_of_getElem? (i := 36) rfl)) hstr eh37 hS36 J36 (hb hby d1_14) (pc' := 16) rfl 12 (by decide) (by decide) (by decide) (by decide) ?_
    intro a38 T38 h38 kS38 X38 e38 E38 hS38 J38 hZ38 ho38
    have H38 : h0.size ≤ h38.size := Nat.le_trans H36 E38.1
    refine c_static X38 hx hZ38 ho38 (hw _ (List.mem_of_getElem? (i := 23) rfl)) (hw _ (List.mem_of_getElem? (i := 24) rfl)) (hw _ (List.mem_of_getElem? (i := 25) rfl)) (hw _ (List.mem_of_getElem? (i := 26) rfl)) (by decide) e38 (rm_4 l Z a0 hw [] x3 a38 h38 n0 (Nat.le_trans Z0 H38) hf3) (W := 0) (by decide) (by decide) (by decide) (by decide) (by rw [hml]; rfl) (argsL := [.double x3, .ref a38]) (rest := []) (lenOf pd_2 rfl) rfl rfl (Nat.le_of_eq rfl) (hb hby d1_16) (pc' := 19) rfl ?_
    intro T39 v39 L39 X39 hQ39
    obtain ⟨rfl, Nq39, eh39⟩ := hQ39
    have N39 := Fr.app N37 Nq39
    show Goes p e below _ (T39.setTop (mkF m 19 #[.val (.ref a), .val (.int k1), .val (.int k2), .val (.double x0), .second, .val (.double x1), .second, .val (.double x2), .second, .val (.double x3), .second, .val (.double x4), .second, .val (.int (1 : Int32))] [.double x3]))
    refine s_pop2D X39 hx (hb hby d1_19) (pc' := 20) rfl ?_
    refine s_dload X39 hx (hb hby d1_20) (pc' := 22) rfl rfl ?_
    refine s_ldcS X39 hx hZ38 ho38 (hw _ (List.mem_of_getElem? (i := 37) rfl)) hstr eh39 hS38 J38 (hb hby d1_22) (pc' := 24) rfl 20 (by decide) (by decide) (by decide) (by decide) ?_
    intro a40 T40 h40 kS40 X40 e40 E40 hS40 J40 hZ40 ho40
    have H40 : h0.size ≤ h40.size := Nat.le_trans H38 E40.1
    refine c_static X40 hx hZ40 ho40 (hw _ (List.mem_of_getElem? (i := 23) rfl)) (hw _ (List.mem_of_getElem? (i := 24) rfl)) (hw _ (List.mem_of_getElem? (i := 25) rfl)) (hw _ (List.mem_of_getElem? (i := 26) rfl)) (by decide) e40 (rm_4 l Z a0 hw [] x4 a40 h40 n0 (Nat.le_trans Z0 H40) hf4) (W := 0) (by decide) (by decide) (by decide) (by decide) (by rw [hml]; rfl) (argsL := [.double x4, .ref a40]) (rest := []) (lenOf pd_2 rfl) rfl rfl (Nat.le_of_eq rfl) (hb hby d1_24) (pc' := 27) rfl ?_
    intro T41 v41 L41 X41 hQ41
    obtain ⟨rfl, Nq41, eh41⟩ := hQ41
    have N41 := Fr.app N39 Nq41
    show Goes p e below _ (T41.setTop (mkF m 27 #[.val (.ref a), .val (.int k1), .val (.int k2), .val (.double x0), .second, .val (.double x1), .second, .val (.double x2), .second, .val (.double x3), .second, .val (.double x4), .second, .val (.int (1 : Int32))] [.double x4]))
    refine s_pop2D X41 hx (hb hby d1_27) (pc' := 28) rfl ?_
    refine s_aloadN X41 hx (hb hby d1_28) (pc' := 29) rfl rfl rfl ?_
    refine s_iloadN X41 hx (hb hby d1_29) (pc' := 30) rfl rfl ?_
    have fF42 := (((G0.ext E36).ext E38).ext E40)
    have fE43 := (((Ea.ext E36).ext E38).ext E40)
    refine s_putF X41 hx hZ40 ho40 (hw _ (List.mem_of_getElem? (i := 38) rfl)) eh41 fF42 fE43 (Or.inr ⟨(hw _ (List.mem_of_getElem? (i := 39) rfl)), rfl, hnm⟩) (hw _ (List.mem_of_getElem? (i := 2) rfl)) (ty := .int) (by decide) rfl rfl (hb hby d1_30) (pc' := 33) rfl ?_
    intro T44 h44 X44 e44 W44
    have N44 := Fr.snoc X44 N41 ga
    have F44 := fF42.same W44
    have J44 := Nat.le_trans J40 (Nat.le_of_eq W44.size.symm)
    have H44 : h0.size ≤ h44.size := by rw [W44.size]; exact H40
    refine s_aloadN X44 hx (hb hby d1_33) (pc' := 34) rfl rfl rfl ?_
    refine s_iloadN X44 hx (hb hby d1_34) (pc' := 35) rfl rfl ?_
    have fF45 := ((((G1.ext E36).ext E38).ext E40).other W44 (Or.inr (slot_ne (C := "com/example/sensiflow/sensiflow/input/Branch") (t := .int) (t' := .int) (Or.inr (hw _ (List.mem_of_getElem? (i := 41) rfl))) (Or.inr (hw _ (List.mem_of_getElem? (i := 39) rfl))) (by decide) (by decide) (by decide))))
    have fE46 := (fE43.wr W44)
    refine s_putF X44 hx hZ40 ho40 (hw _ (List.mem_of_getElem? (i := 40) rfl)) e44 fF45 fE46 (Or.inr ⟨(hw _ (List.mem_of_getElem? (i := 41) rfl)), rfl, hnm⟩) (hw _ (List.mem_of_getElem? (i := 2) rfl)) (ty := .int) (by decide) rfl rfl (hb hby d1_35) (pc' := 38) rfl ?_
    intro T47 h47 X47 e47 W47
    have N47 := Fr.snoc X47 N44 ga
    have F47 := fF45.same W47
    have J47 := Nat.le_trans J44 (Nat.le_of_eq W47.size.symm)
    have H47 : h0.size ≤ h47.size := by rw [W47.size]; exact H44
    refine s_aloadN X47 hx (hb hby d1_38) (pc' := 39) rfl rfl rfl ?_
    refine s_dloadN X47 hx (hb hby d1_39) (pc' := 40) rfl rfl ?_
    have fF48 := (((((G2.ext E36).ext E38).ext E40).other W44 (Or.inr (slot_ne (C := "com/example/sensiflow/sensiflow/input/Branch") (t := .double) (t' := .int) (Or.inr (hw _ (List.mem_of_getElem? (i := 43) rfl))) (Or.inr (hw _ (List.mem_of_getElem? (i := 39) rfl))) (by decide) (by decide) (by decide)))).other W47 (Or.inr (slot_ne (C := "com/example/sensiflow/sensiflow/input/Branch") (t := .double) (t' := .int) (Or.inr (hw _ (List.mem_of_getElem? (i := 43) rfl))) (Or.inr (hw _ (List.mem_of_getElem? (i := 41) rfl))) (by decide) (by decide) (by decide))))
    have fE49 := (fE46.wr W47)
    refine s_putF X47 hx hZ40 ho40 (hw _ (List.mem_of_getElem? (i := 42) rfl)) e47 fF48 fE49 (Or.inr ⟨(hw _ (List.mem_of_getElem? (i := 43) rfl)), rfl, hnm⟩) (hw _ (List.mem_of_getElem? (i := 2) rfl)) (ty := .double) (by decide) rfl rfl (hb hby d1_40) (pc' := 43) rfl ?_
    intro T50 h50 X50 e50 W50
    have N50 := Fr.snoc X50 N47 ga
    have F50 := fF48.same W50
    have J50 := Nat.le_trans J47 (Nat.le_of_eq W50.size.symm)
    have H50 : h0.size ≤ h50.size := by rw [W50.size]; exact H47
    refine s_aloadN X50 hx (hb hby d1_43) (pc' := 44) rfl rfl rfl ?_
    refine s_dload X50 hx (hb hby d1_44) (pc' := 46) rfl rfl ?_
    have fF51 := ((((((G3.ext E36).ext E38).ext E40).other W44 (Or.inr (slot_ne (C := "com/example/sensiflow/sensiflow/input/Branch") (t := .double) (t' := .int) (Or.inr (hw _ (List.mem_of_getElem? (i := 45) rfl))) (Or.inr (hw _ (List.mem_of_getElem? (i := 39) rfl))) (by decide) (by decide) (by decide)))).other W47 (Or.inr (slot_ne (C := "com/example/sensiflow/sensiflow/input/Branch") (t := .double) (t' := .int) (Or.inr (hw _ (List.mem_of_getElem? (i := 45) rfl))) (Or.inr (hw _ (List.mem_of_getElem? (i := 41) rfl))) (by decide) (by decide) (by decide)))).other W50 (Or.inr (slot_ne (C := "com/example/sensiflow/sensiflow/input/Branch") (t := .double) (t' := .double) (Or.inr (hw _ (List.mem_of_getElem? (i := 45) rfl))) (Or.inr (hw _ (List.mem_of_getElem? (i := 43) rfl))) (by decide) (by decide) (by decide))))
    have fE52 := (fE49.wr W50)
    refine s_putF X50 hx hZ40 ho40 (hw _ (List.mem_of_getElem? (i := 44) rfl)) e50 fF51 fE52 (Or.inr ⟨(hw _ (List.mem_of_getElem? (i := 45) rfl)), rfl, hnm⟩) (hw _ (List.mem_of_getElem? (i := 2) rfl)) (ty := .double) (by decide) rfl rfl (hb hby d1_46) (pc' := 49) rfl ?_
    intro T53 h53 X53 e53 W53
    have N53 := Fr.snoc X53 N50 ga
    have F53 := fF51.same W53
    have J53 := Nat.le_trans J50 (Nat.le_of_eq W53.size.symm)
    have H53 : h0.size ≤ h53.size := by rw [W53.size]; exact H50
    refine s_aloadN X53 hx (hb hby d1_49) (pc' := 50) rfl rfl rfl ?_
    refine s_dload X53 hx (hb hby d1_50) (pc' := 52) rfl rfl ?_
    have fF54 := (((((((G4.ext E36).ext E38).ext E40).other W44 (Or.inr (slot_ne (C := "com/example/sensiflow/sensiflow/input/Branch") (t := .double) (t' := .int) (Or.inr (hw _ (List.mem_of_getElem? (i := 47) rfl))) (Or.inr (hw _ (List.mem_of_getElem? (i := 39) rfl))) (by decide) (by decide) (by decide)))).other W47 (Or.inr (slot_ne (C := "com/example/sensiflow/sensiflow/input/Branch") (t := .double) (t' := .int) (Or.inr (hw _ (List.mem_of_getElem? (i := 47) rfl))) (Or.inr (hw _ (List.mem_of_getElem? (i := 41) rfl))) (by decide) (by decide) (by decide)))).other W50 (Or.inr (slot_ne (C := "com/example/sensiflow/sensiflow/input/Branch") (t := .double) (t' := .double) (Or.inr (hw _ (List.mem_of_getElem? (i := 47) rfl))) (Or.inr (hw _ (List.mem_of_getElem? (i := 43) rfl))) (by decide) (by decide) (by decide)))).other W53 (Or.inr (slot_ne (C := "com/example/sensiflow/sensiflow/input/Branch") (t := .double) (t' := .double) (Or.inr (hw _ (List.mem_of_getElem? (i := 47) rfl))) (Or.inr (hw _ (List.mem_of_getElem? (i := 45) rfl))) (by decide) (by decide) (by decide))))
    have fE55 := (fE52.wr W53)
    refine s_putF X53 hx hZ40 ho40 (hw _ (List.mem_of_getElem? (i := 46) rfl)) e53 fF54 fE55 (Or.inr ⟨(hw _ (List.mem_of_getElem? (i := 47) rfl)), rfl, hnm⟩) (hw _ (List.mem_of_getElem? (i := 2) rfl)) (ty := .double) (by decide) rfl rfl (hb hby d1_52) (pc' := 55) rfl ?_
    intro T56 h56 X56 e56 W56
    have N56 := Fr.snoc X56 N53 ga
    have F56 := fF54.same W56
    have J56 := Nat.le_trans J53 (Nat.le_of_eq W56.size.symm)
    have H56 : h0.size ≤ h56.size := by rw [W56.size]; exact H53
    refine s_aloadN X56 hx (hb hby d1_55) (pc' := 56) rfl rfl rfl ?_
    refine s_dload X56 hx (hb hby d1_56) (pc' := 58) rfl rfl ?_
    have fF57 := ((((((((G5.ext E36).ext E38).ext E40).other W44 (Or.inr (slot_ne (C := "com/example/sensiflow/sensiflow/input/Branch") (t := .double) (t' := .int) (Or.inr (hw _ (List.mem_of_getElem? (i := 49) rfl))) (Or.inr (hw _ (List.mem_of_getElem? (i := 39) rfl))) (by decide) (by decide) (by decide)))).other W47 (Or.inr (slot_ne (C := "com/example/sensiflow/sensiflow/input/Branch") (t := .double) (t' := .int) (Or.inr (hw _ (List.mem_of_getElem? (i := 49) rfl))) (Or.inr (hw _ (List.mem_of_getElem? (i := 41) rfl))) (by decide) (by decide) (by decide)))).other W50 (Or.inr (slot_ne (C := "com/example/sensiflow/sensiflow/input/Branch") (t := .double) (t' := .double) (Or.inr (hw _ (List.mem_of_getElem? (i := 49) rfl))) (Or.inr (hw _ (List.mem_of_getElem? (i := 43) rfl))) (by decide) (by decide) (by decide)))).other W53 (Or.inr (slot_ne (C := "com/example/sensiflow/sensiflow/input/Branch") (t := .double) (t' := .double) (Or.inr (hw _ (List.mem_of_getElem? (i := 49) rfl))) (Or.inr (hw _ (List.mem_of_getElem? (i := 45) rfl))) (by decide) (by decide) (by decide)))).other W56 (Or.inr (slot_ne (C := "com/example/sensiflow/sensiflow/input/Branch") (t := .double) (t' := .double) (Or.inr (hw _ (List.mem_of_getElem? (i := 49) rfl))) (Or.inr (hw _ (List.mem_of_getElem? (i := 47) rfl))) (by decide) (by decide) (by decide))))
    have fE58 := (fE55.wr W56)
    refine s_putF X56 hx hZ40 ho40 (hw _ (List.mem_of_getElem? (i := 48) rfl)) e56 fF57 fE58 (Or.inr ⟨(hw _ (List.mem_of_getElem? (i := 49) rfl)), rfl, hnm⟩) (hw _ (List.mem_of_getElem? (i := 2) rfl)) (ty := .double) (by decide) rfl rfl (hb hby d1_58) (pc' := 61) rfl ?_
    intro T59 h59 X59 e59 W59
    have N59 := Fr.snoc X59 N56 ga
    have F59 := fF57.same W59
    have J59 := Nat.le_trans J56 (Nat.le_of_eq W59.size.symm)
    have H59 : h0.size ≤ h59.size := by rw [W59.size]; exact H56
    refine s_aloadN X59 hx (hb hby d1_61) (pc' := 62) rfl rfl rfl ?_
    refine s_dload X59 hx (hb hby d1_62) (pc' := 64) rfl rfl ?_
    have fF60 := (((((((((G6.ext E36).ext E38).ext E40).other W44 (Or.inr (slot_ne (C := "com/example/sensiflow/sensiflow/input/Branch") (t := .double) (t' := .int) (Or.inr (hw _ (List.mem_of_getElem? (i := 51) rfl))) (Or.inr (hw _ (List.mem_of_getElem? (i := 39) rfl))) (by decide) (by decide) (by decide)))).other W47 (Or.inr (slot_ne (C := "com/example/sensiflow/sensiflow/input/Branch") (t := .double) (t' := .int) (Or.inr (hw _ (List.mem_of_getElem? (i := 51) rfl))) (Or.inr (hw _ (List.mem_of_getElem? (i := 41) rfl))) (by decide) (by decide) (by decide)))).other W50 (Or.inr (slot_ne (C := "com/example/sensiflow/sensiflow/input/Branch") (t := .double) (t' := .double) (Or.inr (hw _ (List.mem_of_getElem? (i := 51) rfl))) (Or.inr (hw _ (List.mem_of_getElem? (i := 43) rfl))) (by decide) (by decide) (by decide)))).other W53 (Or.inr (slot_ne (C := "com/example/sensiflow/sensiflow/input/Branch") (t := .double) (t' := .double) (Or.inr (hw _ (List.mem_of_getElem? (i := 51) rfl))) (Or.inr (hw _ (List.mem_of_getElem? (i := 45) rfl))) (by decide) (by decide) (by decide)))).other W56 (Or.inr (slot_ne (C := "com/example/sensiflow/sensiflow/input/Branch") (t := .double) (t' := .double) (Or.inr (hw _ (List.mem_of_getElem? (i := 51) rfl))) (Or.inr (hw _ (List.mem_of_getElem? (i := 47) rfl))) (by decide) (by decide) (by decide)))).other W59 (Or.inr (slot_ne (C := "com/example/sensiflow/sensiflow/input/Branch") (t := .double) (t' := .double) (Or.inr (hw _ (List.mem_of_getElem? (i := 51) rfl))) (Or.inr (hw _ (List.mem_of_getElem? (i := 49) rfl))) (by decide) (by decide) (by decide))))
    have fE61 := (fE58.wr W59)
    refine s_putF X59 hx hZ40 ho40 (hw _ (List.mem_of_getElem? (i := 50) rfl)) e59 fF60 fE61 (Or.inr ⟨(hw _ (List.mem_of_getElem? (i := 51) rfl)), rfl, hnm⟩) (hw _ (List.mem_of_getElem? (i := 2) rfl)) (ty := .double) (by decide) rfl rfl (hb hby d1_64) (pc' := 67) rfl ?_
    intro T62 h62 X62 e62 W62
    have N62 := Fr.snoc X62 N59 ga
    have F62 := fF60.same W62
    have J62 := Nat.le_trans J59 (Nat.le_of_eq W62.size.symm)
    have H62 : h0.size ≤ h62.size := by rw [W62.size]; exact H59
    refine s_aloadN X62 hx (hb hby d1_67) (pc' := 68) rfl rfl rfl ?_
    refine s_iload X62 hx (hb hby d1_68) (pc' := 70) rfl rfl ?_
    have fF63 := ((((((((((G7.ext E36).ext E38).ext E40).other W44 (Or.inr (slot_ne (C := "com/example/sensiflow/sensiflow/input/Branch") (t := .boolean) (t' := .int) (Or.inr (hw _ (List.mem_of_getElem? (i := 53) rfl))) (Or.inr (hw _ (List.mem_of_getElem? (i := 39) rfl))) (by decide) (by decide) (by decide)))).other W47 (Or.inr (slot_ne (C := "com/example/sensiflow/sensiflow/input/Branch") (t := .boolean) (t' := .int) (Or.inr (hw _ (List.mem_of_getElem? (i := 53) rfl))) (Or.inr (hw _ (List.mem_of_getElem? (i := 41) rfl))) (by decide) (by decide) (by decide)))).other W50 (Or.inr (slot_ne (C := "com/example/sensiflow/sensiflow/input/Branch") (t := .boolean) (t' := .double) (Or.inr (hw _ (List.mem_of_getElem? (i := 53) rfl))) (Or.inr (hw _ (List.mem_of_getElem? (i := 43) rfl))) (by decide) (by decide) (by decide)))).other W53 (Or.inr (slot_ne (C := "com/example/sensiflow/sensiflow/input/Branch") (t := .boolean) (t' := .double) (Or.inr (hw _ (List.mem_of_getElem? (i := 53) rfl))) (Or.inr (hw _ (List.mem_of_getElem? (i := 45) rfl))) (by decide) (by decide) (by decide)))).other W56 (Or.inr (slot_ne (C := "com/example/sensiflow/sensiflow/input/Branch") (t := .boolean) (t' := .double) (Or.inr (hw _ (List.mem_of_getElem? (i := 53) rfl))) (Or.inr (hw _ (List.mem_of_getElem? (i := 47) rfl))) (by decide) (by decide) (by decide)))).other W59 (Or.inr (slot_ne (C := "com/example/sensiflow/sensiflow/input/Branch") (t := .boolean) (t' := .double) (Or.inr (hw _ (List.mem_of_getElem? (i := 53) rfl))) (Or.inr (hw _ (List.mem_of_getElem? (i := 49) rfl))) (by decide) (by decide) (by decide)))).other W62 (Or.inr (slot_ne (C := "com/example/sensiflow/sensiflow/input/Branch") (t := .boolean) (t' := .double) (Or.inr (hw _ (List.mem_of_getElem? (i := 53) rfl))) (Or.inr (hw _ (List.mem_of_getElem? (i := 51) rfl))) (by decide) (by decide) (by decide))))
    have fE64 := (fE61.wr W62)
    refine s_putF X62 hx hZ40 ho40 (hw _ (List.mem_of_getElem? (i := 52) rfl)) e62 fF63 fE64 (Or.inr ⟨(hw _ (List.mem_of_getElem? (i := 53) rfl)), rfl, hnm⟩) (hw _ (List.mem_of_getElem? (i := 2) rfl)) (ty := .boolean) (by decide) rfl rfl (hb hby d1_70) (pc' := 73) rfl ?_
    intro T65 h65 X65 e65 W65
    have N65 := Fr.snoc X65 N62 ga
    have F65 := fF63.same W65
    have J65 := Nat.le_trans J62 (Nat.le_of_eq W65.size.symm)
    have H65 : h0.size ≤ h65.size := by rw [W65.size]; exact H62
    have KK66 : Keep h0 h65 [a] := ((((((((((((Keep.refl _ _).ext E36).ext E38).ext E40).wr W44 (Or.inl (List.mem_of_getElem? (i := 0) rfl))).wr W47 (Or.inl (List.mem_of_getElem? (i := 0) rfl))).wr W50 (Or.inl (List.mem_of_getElem? (i := 0) rfl))).wr W53 (Or.inl (List.mem_of_getElem? (i := 0) rfl))).wr W56 (Or.inl (List.mem_of_getElem? (i := 0) rfl))).wr W59 (Or.inl (List.mem_of_getElem? (i := 0) rfl))).wr W62 (Or.inl (List.mem_of_getElem? (i := 0) rfl))).wr W65 (Or.inl (List.mem_of_getElem? (i := 0) rfl)))
    have fE67 := (fE64.wr W65)
    have fF68 := ((F59.other W62 (Or.inr (slot_ne (C := "com/example/sensiflow/sensiflow/input/Branch") (t := .double) (t' := .double) (Or.inr (hw _ (List.mem_of_getElem? (i := 49) rfl))) (Or.inr (hw _ (List.mem_of_getElem? (i := 51) rfl))) (by decide) (by decide) (by decide)))).other W65 (Or.inr (slot_ne (C := "com/example/sensiflow/sensiflow/input/Branch") (t := .double) (t' := .boolean) (Or.inr (hw _ (List.mem_of_getElem? (i := 49) rfl))) (Or.inr (hw _ (List.mem_of_getElem? (i := 53) rfl))) (by decide) (by decide) (by decide))))
    exact s_retW X65 hx hlk hS40 (by rw [e65]; exact J65) hret (hb hby d1_73) (by decide) (by decide) (by rw [e65]; exact ⟨rfl, N65, KK66, fE67, fF68⟩)
theorem d7_0 : decode prog_20_method_3_code 0 = .ok (.aload_n 0, 1) := by decide +kernel
theorem d7_1 : decode prog_20_method_3_code 1 = .ok (.getfield 38, 3) := by decide +kernel
theorem d7_4 : decode prog_20_method_3_code 4 = .ok (.dconst 0, 1) := by decide +kernel
theorem d7_5 : decode prog_20_method_3_code 5 = .ok (.dcmp .l, 1) := by decide +kernel
theorem d7_6 : decode prog_20_method_3_code 6 = .ok (.ifCond .ne 7, 3) := by decide +kernel
theorem d7_9 : decode prog_20_method_3_code 9 = .ok (.dconst 1, 1) := by decide +kernel
theorem d7_10 : decode prog_20_method_3_code 10 = .ok (.goto 7, 3) := by decide +kernel
theorem d7_13 : decode prog_20_method_3_code 13 = .ok (.aload_n 0, 1) := by decide +kernel
theorem d7_14 : decode prog_20_method_3_code 14 = .ok (.getfield 38, 3) := by decide +kernel
theorem d7_17 : decode prog_20_method_3_code 17 = .ok (.dreturn, 1) := by decide +kernel
theorem pn_7 : plainName "com/example/sensiflow/sensiflow/input/Branch" = true := by first | (simp [plainName, overriddenIn]; done) | decide +kernel
theorem ef_7 (z0 : Addr) (m : MethodId) : entryFrame m #[.ref z0] 1 = mkF m 0 #[.val (.ref z0)] [] := by first | (simp [entryFrame, mkF, argsToLocals, Value.category, maxLocals]; done) | rfl
set_option maxRecDepth 65536 in
set_option maxHeartbeats 40000000 in
theorem rm_7 (l : Launch) (Z : State) (a0 : Array Value) (hw : ∀ d ∈ tables_1, d.before a0 Z = true) (ws : List Jvm.Cond) (a : Addr) (x1 : UInt64) (h0 : Heap) (n0 : Nat) (Z0 : n0 ≤ h0.size) (Gt : (Fld Z h0 a "com/example/sensiflow/sensiflow/input/Branch" "tap" "D" (.double x1))) :
    OwnMet l Z (⟨"com/example/sensiflow/sensiflow/input/Branch", "ratio", "()D"⟩ : MethodName) prog_20_method_3_code 1 (some .double) ws ({ frames := 0, cells := 0, slots := 0, locals := 0 } : Room) #[.ref a] h0 (fun v h L => v = some (.double (own_rt x1)) ∧ Fr n0 L ∧ h = h0) := by
  refine own_met (plainFor_of_name pn_7) (ef_7 a) ?_
  intro p e s m below meth c s₁ hx hby hml hZ hown hnm hret hlk X0 e0
  have N0 := Fr.nil n0
  refine s_aloadN X0 hx (hb hby d7_0) (pc' := 1) rfl rfl rfl ?_
  refine s_getF X0 hx hZ hown (hw _ (List.mem_of_getElem? (i := 48) rfl)) e0 Gt (hb hby d7_1) (pc' := 4) rfl ?_
  intro T1 X1 e1
  refine s_dconst0 X1 hx (hb hby d7_4) (pc' := 5) rfl ?_
  refine s_dcmp X1 hx (cmpValue (FP.dcmp x1 0) .l) (hb hby d7_5) (pc' := 6) rfl rfl ?_
  by_cases h1 : (cmpValue (FP.dcmp x1 0) .l) = 0
  ·
    refine s_ifN X1 hx (hb hby d7_6) (pc' := 9) rfl (in_ne h1) ?_
    refine s_dconst1 X1 hx (hb hby d7_9) (pc' := 10) rfl ?_
    refine s_goto X1 hx (hb hby d7_10) (by decide) (pc' := 17) (by decide) ?_
    exact s_retI X1 hx hlk hret (hb hby d7_17) rfl (Or.inr (Or.inr (Or.inl ⟨rfl, rfl, _, rfl⟩))) (by decide) (by decide) ⟨by rw [own_rt, if_pos h1], N0, e1⟩
  ·
    refine s_ifY X1 hx (hb hby d7_6) (iy_ne h1) (by decide) (pc' := 13) (by decide) ?_
    refine s_aloadN X1 hx (hb hby d7_13) (pc' := 14) rfl rfl rfl ?_
    refine s_getF X1 hx hZ hown (hw _ (List.mem_of_getElem? (i := 48) rfl)) e1 Gt (hb hby d7_14) (pc' := 17) rfl ?_
    intro T2 X2 e2
    exact s_retI X2 hx hlk hret (hb hby d7_17) rfl (Or.inr (Or.inr (Or.inl ⟨rfl, rfl, _, rfl⟩))) (by decide) (by decide) ⟨by rw [own_rt, if_neg h1], N0, e2⟩
theorem pn_0 : plainName "com/example/sensiflow/sensiflow/input/BranchRatioPinLaw" = true := by first | (simp [plainName, overriddenIn]; done) | decide +kernel
def Q0 (n0 : Nat) (v : Option Value) (h : Heap) (L : List Loc) : Prop := v = some (.int 1) ∧ Fr n0 L
theorem pd_3 : parseMethodDescriptor "(IIDDDDDZ)V" = some ⟨[.int, .int, .double, .double, .double, .double, .double, .boolean], none⟩ := by decide +kernel
theorem pd_4 : parseMethodDescriptor "()D" = some ⟨[], some .double⟩ := by decide +kernel
theorem ef_0 (z0 : Int32) (z1 : Int32) (z2 : Int32) (z3 : Int32) (z4 : Int32) (z5 : Int32) (m : MethodId) : entryFrame m #[.int z0, .int z1, .int z2, .int z3, .int z4, .int z5] maxLocals = mkF m 0 #[.val (.int z0), .val (.int z1), .val (.int z2), .val (.int z3), .val (.int z4), .val (.int z5), .unset, .unset, .unset, .unset, .unset, .unset] [] := by first | (simp [entryFrame, mkF, argsToLocals, Value.category, maxLocals]; done) | rfl
set_option maxRecDepth 65536 in
set_option maxHeartbeats 40000000 in
theorem rm_0 (l : Launch) (Z : State) (a0 : Array Value) (hw : ∀ d ∈ tables_1, d.before a0 Z = true) (ws : List Jvm.Cond) (p0 : Int32) (p1 : Int32) (p2 : Int32) (p3 : Int32) (p4 : Int32) (p5 : Int32) (h0 : Heap) (n0 : Nat) (Z0 : n0 ≤ h0.size)  :
    OwnMetW l Z x code maxLocals ret ws room_1 #[.int p0, .int p1, .int p2, .int p3, .int p4, .int p5] h0 (Q0 n0) := by
  refine own_metW (plainFor_of_name pn_0) (ef_0 p0 p1 p2 p3 p4 p5) ?_
  intro p e s m below meth c s₁ hx hby hml hZ hown hnm hret hlk X0 e0 hS0 J0
  have N0 := Fr.nil n0
  refine s_iload X0 hx (hb hby at_0) (pc' := 2) rfl rfl ?_
  refine s_iconst X0 hx (3 : Int32) (hb hby at_2) (pc' := 3) rfl rfl ?_
  refine s_iand X0 hx (hb hby at_3) (pc' := 4) rfl ?_
  refine s_istore X0 hx #[.val (.int p0), .val (.int p1), .val (.int p2), .val (.int p3), .val (.int p4), .val (.int p5), .val (.int (p5 &&& (3 : Int32))), .unset, .unset, .unset, .unset, .unset] (hb hby at_4) (pc' := 6) rfl rfl ?_
  have hm := own_mode p5
  generalize em : (p5 &&& (3 : Int32)) = md
  simp only [em] at hm
  have tail : ∀ tp : UInt64, Fin64 tp → (¬ (1 : Int32) < md → own_rt tp = 4607182418800017408) → (p0 = 0 → own_rt tp = 4607182418800017408) → ((1 : Int32) < md → ¬ p0 = 0 → own_rt tp = tp) → Goes p e below (EndsAsW (Q0 n0) s room_1.cells room_1.slots) (s₁.setTop (mkF m 52 #[.val (.int p0), .val (.int p1), .val (.int p2), .val (.int p3), .val (.int p4), .val (.int p5), .val (.int md), .val (.double tp), .second, .unset, .unset, .unset] [])) := by
    intro tp hfin hA hB hC
    refine s_new X0 hx hZ hown (hw _ (List.mem_of_getElem? (i := 1) rfl)) (hw _ (List.mem_of_getElem? (i := 2) rfl)) (hw _ (List.mem_of_getElem? (i := 3) rfl)) e0 (hb hby at_52) (pc' := 55) rfl (by decide) (by decide) ?_
    intro T1 h1 o1 X1 e1 E1 g1 A1 D1
    have hg1 : h0.size ≤ o1 := by rw [g1]; exact (Nat.le_refl _)
    have J1 := Nat.le_trans J0 (E1.1)
    have H1 : h0.size ≤ h1.size := Nat.le_trans (Nat.le_refl _) E1.1
    have F1_fromBus := D1 (O := "com/example/sensiflow/sensiflow/input/Branch") (nm := "fromBus") (d := "I") (Or.inr (hw _ (List.mem_of_getElem? (i := 39) rfl))) (ty := .int) (by decide)
    have F1_toBus := D1 (O := "com/example/sensiflow/sensiflow/input/Branch") (nm := "toBus") (d := "I") (Or.inr (hw _ (List.mem_of_getElem? (i := 41) rfl))) (ty := .int) (by decide)
    have F1_r := D1 (O := "com/example/sensiflow/sensiflow/input/Branch") (nm := "r") (d := "D") (Or.inr (hw _ (List.mem_of_getElem? (i := 43) rfl))) (ty := .double) (by decide)
    have F1_x := D1 (O := "com/example/sensiflow/sensiflow/input/Branch") (nm := "x") (d := "D") (Or.inr (hw _ (List.mem_of_getElem? (i := 45) rfl))) (ty := .double) (by decide)
    have F1_b := D1 (O := "com/example/sensiflow/sensiflow/input/Branch") (nm := "b") (d := "D") (Or.inr (hw _ (List.mem_of_getElem? (i := 47) rfl))) (ty := .double) (by decide)
    have F1_tap := D1 (O := "com/example/sensiflow/sensiflow/input/Branch") (nm := "tap") (d := "D") (Or.inr (hw _ (List.mem_of_getElem? (i := 49) rfl))) (ty := .double) (by decide)
    have F1_shift := D1 (O := "com/example/sensiflow/sensiflow/input/Branch") (nm := "shift") (d := "D") (Or.inr (hw _ (List.mem_of_getElem? (i := 51) rfl))) (ty := .double) (by decide)
    have F1_inService := D1 (O := "com/example/sensiflow/sensiflow/input/Branch") (nm := "inService") (d := "Z") (Or.inr (hw _ (List.mem_of_getElem? (i := 53) rfl))) (ty := .boolean) (by decide)
    refine s_dup X1 hx (hb hby at_55) (pc' := 56) rfl rfl ?_
    refine s_iloadN X1 hx (hb hby at_56) (pc' := 57) rfl rfl ?_
    refine s_iloadN X1 hx (hb hby at_57) (pc' := 58) rfl rfl ?_
    refine s_iload X1 hx (hb hby at_58) (pc' := 60) rfl rfl ?_
    refine s_i2d X1 hx (hb hby at_60) (pc' := 61) rfl ?_
    refine s_iloadN X1 hx (hb hby at_61) (pc' := 62) rfl rfl ?_
    refine s_i2d X1 hx (hb hby at_62) (pc' := 63) rfl ?_
    refine s_iload X1 hx (hb hby at_63) (pc' := 65) rfl rfl ?_
    refine s_i2d X1 hx (hb hby at_65) (pc' := 66) rfl ?_
    refine s_dload X1 hx (hb hby at_66) (pc' := 68) rfl rfl ?_
    refine s_iloadN X1 hx (hb hby at_68) (pc' := 69) rfl rfl ?_
    refine s_i2d X1 hx (hb hby at_69) (pc' := 70) rfl ?_
    refine s_iload X1 hx (hb hby at_70) (pc' := 72) rfl rfl ?_
    refine s_iconst X1 hx (4 : Int32) (hb hby at_72) (pc' := 73) rfl rfl ?_
    refine s_iand X1 hx (hb hby at_73) (pc' := 74) rfl ?_
    by_cases h4 : (p5 &&& (4 : Int32)) = 0
    ·
      refine s_ifY X1 hx (hb hby at_74) (iy_eq h4) (by decide) (pc' := 81) (by decide) ?_
      refine s_iconst X1 hx (0 : Int32) (hb hby at_81) (pc' := 82) rfl rfl ?_
      refine c_specialW X1 hx hZ hS0 J1 rfl hown (hw _ (List.mem_of_getElem? (i := 4) rfl)) (hw _ (List.mem_of_getElem? (i := 5) rfl)) (hw _ (List.mem_of_getElem? (i := 3) rfl)) (hw _ (List.mem_of_getElem? (i := 6) rfl)) (by decide) e1 (rm_1 l Z a0 hw [] o1 p2 p3 (FP.i2d p4) (FP.i2d p1) (FP.i2d p4) tp (FP.i2d p1) (0 : Int32) _ _ _ _ _ _ _ _ h1 n0 (Nat.le_trans Z0 H1) (by decide) A1 F1_fromBus F1_toBus F1_r F1_x F1_b F1_tap F1_shift F1_inService (Nat.le_trans Z0 hg1) (i2d_fin _) hfin (i2d_fin _)) (W := 1) (by decide) (by decide) (by decide) (by decide) (by rw [hml]; rfl) (argsL := [.int p2, .int p3, .double (FP.i2d p4), .double (FP.i2d p1), .double (FP.i2d p4), .double tp, .double (FP.i2d p1), .int (0 : Int32)]) (rest := [.ref o1]) (a := o1) (lenOf pd_3 rfl) rfl rfl (Nat.le_of_eq rfl) (hb hby at_82) (pc' := 85) rfl ?_
      intro T2 v2 L2 X2 hQ2 hS2 hZ2 ho2
      obtain ⟨rfl, Nq2, K2, E2, Ft2⟩ := hQ2
      have N2 := Fr.app N0 Nq2
      have H2 : h0.size ≤ T2.heap.size := Nat.le_trans H1 K2.1
      show Goes p e below _ (T2.setTop (mkF m 85 #[.val (.int p0), .val (.int p1), .val (.int p2), .val (.int p3), .val (.int p4), .val (.int p5), .val (.int md), .val (.double tp), .second, .unset, .unset, .unset] [.ref o1]))
      refine s_astore X2 hx #[.val (.int p0), .val (.int p1), .val (.int p2), .val (.int p3), .val (.int p4), .val (.int p5), .val (.int md), .val (.double tp), .second, .val (.ref o1), .unset, .unset] (hb hby at_85) (pc' := 87) rfl rfl rfl ?_
      refine s_aload X2 hx (hb hby at_87) (pc' := 89) rfl rfl rfl ?_
      refine c_virtual X2 hx hZ2 ho2 (hw _ (List.mem_of_getElem? (i := 54) rfl)) (hw _ (List.mem_of_getElem? (i := 55) rfl)) (hw _ (List.mem_of_getElem? (i := 57) rfl)) (hw _ (List.mem_of_getElem? (i := 56) rfl)) (hw _ (List.mem_of_getElem? (i := 3) rfl)) (hw _ (List.mem_of_getElem? (i := 58) rfl)) (by decide) rfl E2 (rm_7 l Z a0 hw [] o1 tp T2.heap n0 (Nat.le_trans Z0 H2) Ft2) (W := 0) (by decide) (by decide) (by decide) (by decide) (by rw [hml]; rfl) (argsL := []) (rest := []) (lenOf pd_4 rfl) rfl rfl (Nat.le_of_eq rfl) (hb hby at_89) (pc' := 92) rfl ?_
      intro T3 v3 L3 X3 hQ3
      obtain ⟨rfl, Nq3, eh3⟩ := hQ3
      have N3 := Fr.app N2 Nq3
      show Goes p e below _ (T3.setTop (mkF m 92 #[.val (.int p0), .val (.int p1), .val (.int p2), .val (.int p3), .val (.int p4), .val (.int p5), .val (.int md), .val (.double tp), .second, .val (.ref o1), .unset, .unset] [.double (own_rt tp)]))
      refine s_dstore X3 hx #[.val (.int p0), .val (.int p1), .val (.int p2), .val (.int p3), .val (.int p4), .val (.int p5), .val (.int md), .val (.double tp), .second, .val (.ref o1), .val (.double (own_rt tp)), .second] (hb hby at_92) (pc' := 94) rfl rfl ?_
      refine s_iload X3 hx (hb hby at_94) (pc' := 96) rfl rfl ?_
      refine s_iconst X3 hx (1 : Int32) (hb hby at_96) (pc' := 97) rfl rfl ?_
      by_cases h1 : (1 : Int32) < md
      ·
        refine s_icmpY X3 hx (hb hby at_97) (cy_gt h1) (by decide) (pc' := 113) (by decide) ?_
        refine s_iloadN X3 hx (hb hby at_113) (pc' := 114) rfl rfl ?_
        by_cases h0 : p0 = 0
        ·
          refine s_ifN X3 hx (hb hby at_114) (pc' := 117) rfl (in_ne h0) ?_
          refine s_dload X3 hx (hb hby at_117) (pc' := 119) rfl rfl ?_
          refine s_dconst1 X3 hx (hb hby at_119) (pc' := 120) rfl ?_
          refine s_dcmp X3 hx (0 : Int32) (hb hby at_120) (pc' := 121) rfl (by rw [hB h0]; exact dcmpV_self (by unfold NoNaN64; decide) _) ?_
          refine s_ifN X3 hx (hb hby at_121) (pc' := 124) rfl (by decide) ?_
          refine s_iconst X3 hx (1 : Int32) (hb hby at_124) (pc' := 125) rfl rfl ?_
          refine s_goto X3 hx (hb hby at_125) (by decide) (pc' := 129) (by decide) ?_
          exact s_retIW X3 hx hlk hS2 (by rw [eh3]; exact (Nat.le_refl _)) hret (hb hby at_129) rfl (Or.inl ⟨rfl, by simp, _, rfl⟩) (by decide) (by decide) ⟨rfl, N3⟩
        ·
          refine s_ifY X3 hx (hb hby at_114) (iy_ne h0) (by decide) (pc' := 130) (by decide) ?_
          refine s_dload X3 hx (hb hby at_130) (pc' := 132) rfl rfl ?_
          refine s_dload X3 hx (hb hby at_132) (pc' := 134) rfl rfl ?_
          refine s_dcmp X3 hx (0 : Int32) (hb hby at_134) (pc' := 135) rfl (by rw [hC h1 h0]; exact dcmpV_self hfin.noNaN _) ?_
          refine s_ifN X3 hx (hb hby at_135) (pc' := 138) rfl (by decide) ?_
          refine s_iconst X3 hx (1 : Int32) (hb hby at_138) (pc' := 139) rfl rfl ?_
          refine s_goto X3 hx (hb hby at_139) (by decide) (pc' := 143) (by decide) ?_
          exact s_retIW X3 hx hlk hS2 (by rw [eh3]; exact (Nat.le_refl _)) hret (hb hby at_143) rfl (Or.inl ⟨rfl, by simp, _, rfl⟩) (by decide) (by decide) ⟨rfl, N3⟩
      ·
        refine s_icmpN X3 hx (hb hby at_97) (pc' := 100) rfl (cn_gt h1) ?_
        refine s_dload X3 hx (hb hby at_100) (pc' := 102) rfl rfl ?_
        refine s_dconst1 X3 hx (hb hby at_102) (pc' := 103) rfl ?_
        refine s_dcmp X3 hx (0 : Int32) (hb hby at_103) (pc' := 104) rfl (by rw [hA h1]; exact dcmpV_self (by unfold NoNaN64; decide) _) ?_
        refine s_ifN X3 hx (hb hby at_104) (pc' := 107) rfl (by decide) ?_
        refine s_iconst X3 hx (1 : Int32) (hb hby at_107) (pc' := 108) rfl rfl ?_
        refine s_goto X3 hx (hb hby at_108) (by decide) (pc' := 112) (by decide) ?_
        exact s_retIW X3 hx hlk hS2 (by rw [eh3]; exact (Nat.le_refl _)) hret (hb hby at_112) rfl (Or.inl ⟨rfl, by simp, _, rfl⟩) (by decide) (by decide) ⟨rfl, N3⟩
    ·
      refine s_ifN X1 hx (hb hby at_74) (pc' := 77) rfl (in_eq h4) ?_
      refine s_iconst X1 hx (1 : Int32) (hb hby at_77) (pc' := 78) rfl rfl ?_
      refine s_goto X1 hx (hb hby at_78) (by decide) (pc' := 82) (by decide) ?_
      refine c_specialW X1 hx hZ hS0 J1 rfl hown (hw _ (List.mem_of_getElem? (i := 4) rfl)) (hw _ (List.mem_of_getElem? (i := 5) rfl)) (hw _ (List.mem_of_getElem? (i := 3) rfl)) (hw _ (List.mem_of_getElem? (i := 6) rfl)) (by decide) e1 (rm_1 l Z a0 hw [] o1 p2 p3 (FP.i2d p4) (FP.i2d p1) (FP.i2d p4) tp (FP.i2d p1) (1 : Int32) _ _ _ _ _ _ _ _ h1 n0 (Nat.le_trans Z0 H1) (by decide) A1 F1_fromBus F1_toBus F1_r F1_x F1_b F1_tap F1_shift F1_inService (Nat.le_trans Z0 hg1) (i2d_fin _) hfin (i2d_fin _)) (W := 1) (by decide) (by decide) (by decide) (by decide) (by rw [hml]; rfl) (argsL := [.int p2, .int p3, .double (FP.i2d p4), .double (FP.i2d p1), .double (FP.i2d p4), .double tp, .double (FP.i2d p1), .int (1 : Int32)]) (rest := [.ref o1]) (a := o1) (lenOf pd_3 rfl) rfl rfl (Nat.le_of_eq rfl) (hb hby at_82) (pc' := 85) rfl ?_
      intro T4 v4 L4 X4 hQ4 hS4 hZ4 ho4
      obtain ⟨rfl, Nq4, K4, E4, Ft4⟩ := hQ4
      have N4 := Fr.app N0 Nq4
      have H4 : h0.size ≤ T4.heap.size := Nat.le_trans H1 K4.1
      show Goes p e below _ (T4.setTop (mkF m 85 #[.val (.int p0), .val (.int p1), .val (.int p2), .val (.int p3), .val (.int p4), .val (.int p5), .val (.int md), .val (.double tp), .second, .unset, .unset, .unset] [.ref o1]))
      refine s_astore X4 hx #[.val (.int p0), .val (.int p1), .val (.int p2), .val (.int p3), .val (.int p4), .val (.int p5), .val (.int md), .val (.double tp), .second, .val (.ref o1), .unset, .unset] (hb hby at_85) (pc' := 87) rfl rfl rfl ?_
      refine s_aload X4 hx (hb hby at_87) (pc' := 89) rfl rfl rfl ?_
      refine c_virtual X4 hx hZ4 ho4 (hw _ (List.mem_of_getElem? (i := 54) rfl)) (hw _ (List.mem_of_getElem? (i := 55) rfl)) (hw _ (List.mem_of_getElem? (i := 57) rfl)) (hw _ (List.mem_of_getElem? (i := 56) rfl)) (hw _ (List.mem_of_getElem? (i := 3) rfl)) (hw _ (List.mem_of_getElem? (i := 58) rfl)) (by decide) rfl E4 (rm_7 l Z a0 hw [] o1 tp T4.heap n0 (Nat.le_trans Z0 H4) Ft4) (W := 0) (by decide) (by decide) (by decide) (by decide) (by rw [hml]; rfl) (argsL := []) (rest := []) (lenOf pd_4 rfl) rfl rfl (Nat.le_of_eq rfl) (hb hby at_89) (pc' := 92) rfl ?_
      intro T5 v5 L5 X5 hQ5
      obtain ⟨rfl, Nq5, eh5⟩ := hQ5
      have N5 := Fr.app N4 Nq5
      show Goes p e below _ (T5.setTop (mkF m 92 #[.val (.int p0), .val (.int p1), .val (.int p2), .val (.int p3), .val (.int p4), .val (.int p5), .val (.int md), .val (.double tp), .second, .val (.ref o1), .unset, .unset] [.double (own_rt tp)]))
      refine s_dstore X5 hx #[.val (.int p0), .val (.int p1), .val (.int p2), .val (.int p3), .val (.int p4), .val (.int p5), .val (.int md), .val (.double tp), .second, .val (.ref o1), .val (.double (own_rt tp)), .second] (hb hby at_92) (pc' := 94) rfl rfl ?_
      refine s_iload X5 hx (hb hby at_94) (pc' := 96) rfl rfl ?_
      refine s_iconst X5 hx (1 : Int32) (hb hby at_96) (pc' := 97) rfl rfl ?_
      by_cases h1 : (1 : Int32) < md
      ·
        refine s_icmpY X5 hx (hb hby at_97) (cy_gt h1) (by decide) (pc' := 113) (by decide) ?_
        refine s_iloadN X5 hx (hb hby at_113) (pc' := 114) rfl rfl ?_
        by_cases h0 : p0 = 0
        ·
          refine s_ifN X5 hx (hb hby at_114) (pc' := 117) rfl (in_ne h0) ?_
          refine s_dload X5 hx (hb hby at_117) (pc' := 119) rfl rfl ?_
          refine s_dconst1 X5 hx (hb hby at_119) (pc' := 120) rfl ?_
          refine s_dcmp X5 hx (0 : Int32) (hb hby at_120) (pc' := 121) rfl (by rw [hB h0]; exact dcmpV_self (by unfold NoNaN64; decide) _) ?_
          refine s_ifN X5 hx (hb hby at_121) (pc' := 124) rfl (by decide) ?_
          refine s_iconst X5 hx (1 : Int32) (hb hby at_124) (pc' := 125) rfl rfl ?_
          refine s_goto X5 hx (hb hby at_125) (by decide) (pc' := 129) (by decide) ?_
          exact s_retIW X5 hx hlk hS4 (by rw [eh5]; exact (Nat.le_refl _)) hret (hb hby at_129) rfl (Or.inl ⟨rfl, by simp, _, rfl⟩) (by decide) (by decide) ⟨rfl, N5⟩
        ·
          refine s_ifY X5 hx (hb hby at_114) (iy_ne h0) (by decide) (pc' := 130) (by decide) ?_
          refine s_dload X5 hx (hb hby at_130) (pc' := 132) rfl rfl ?_
          refine s_dload X5 hx (hb hby at_132) (pc' := 134) rfl rfl ?_
          refine s_dcmp X5 hx (0 : Int32) (hb hby at_134) (pc' := 135) rfl (by rw [hC h1 h0]; exact dcmpV_self hfin.noNaN _) ?_
          refine s_ifN X5 hx (hb hby at_135) (pc' := 138) rfl (by decide) ?_
          refine s_iconst X5 hx (1 : Int32) (hb hby at_138) (pc' := 139) rfl rfl ?_
          refine s_goto X5 hx (hb hby at_139) (by decide) (pc' := 143) (by decide) ?_
          exact s_retIW X5 hx hlk hS4 (by rw [eh5]; exact (Nat.le_refl _)) hret (hb hby at_143) rfl (Or.inl ⟨rfl, by simp, _, rfl⟩) (by decide) (by decide) ⟨rfl, N5⟩
      ·
        refine s_icmpN X5 hx (hb hby at_97) (pc' := 100) rfl (cn_gt h1) ?_
        refine s_dload X5 hx (hb hby at_100) (pc' := 102) rfl rfl ?_
        refine s_dconst1 X5 hx (hb hby at_102) (pc' := 103) rfl ?_
        refine s_dcmp X5 hx (0 : Int32) (hb hby at_103) (pc' := 104) rfl (by rw [hA h1]; exact dcmpV_self (by unfold NoNaN64; decide) _) ?_
        refine s_ifN X5 hx (hb hby at_104) (pc' := 107) rfl (by decide) ?_
        refine s_iconst X5 hx (1 : Int32) (hb hby at_107) (pc' := 108) rfl rfl ?_
        refine s_goto X5 hx (hb hby at_108) (by decide) (pc' := 112) (by decide) ?_
        exact s_retIW X5 hx hlk hS4 (by rw [eh5]; exact (Nat.le_refl _)) hret (hb hby at_112) rfl (Or.inl ⟨rfl, by simp, _, rfl⟩) (by decide) (by decide) ⟨rfl, N5⟩
  rcases hm with rfl | rfl | rfl | rfl
  ·
    refine s_iload X0 hx (hb hby at_6) (pc' := 8) rfl rfl ?_
    refine s_ifN X0 hx (hb hby at_8) (pc' := 11) rfl (by decide) ?_
    refine s_dconst0 X0 hx (hb hby at_11) (pc' := 12) rfl ?_
    refine s_dstore X0 hx #[.val (.int p0), .val (.int p1), .val (.int p2), .val (.int p3), .val (.int p4), .val (.int p5), .val (.int (0 : Int32)), .val (.double 0), .second, .unset, .unset, .unset] (hb hby at_12) (pc' := 14) rfl rfl ?_
    refine s_goto X0 hx (hb hby at_14) (by decide) (pc' := 52) (by decide) ?_
    exact tail 0 (by unfold Fin64; decide) (fun _ => by decide +kernel) (fun _ => by decide +kernel) (fun h _ => absurd h (by decide))
  ·
    refine s_iload X0 hx (hb hby at_6) (pc' := 8) rfl rfl ?_
    refine s_ifY X0 hx (hb hby at_8) (by decide) (by decide) (pc' := 17) (by decide) ?_
    refine s_iload X0 hx (hb hby at_17) (pc' := 19) rfl rfl ?_
    refine s_iconst X0 hx (1 : Int32) (hb hby at_19) (pc' := 20) rfl rfl ?_
    refine s_icmpN X0 hx (hb hby at_20) (pc' := 23) rfl (by decide) ?_
    refine s_ldcD X0 hx hZ hown (hw _ (List.mem_of_getElem? (i := 59) rfl)) (hb hby at_23) (pc' := 26) rfl ?_
    refine s_dstore X0 hx #[.val (.int p0), .val (.int p1), .val (.int p2), .val (.int p3), .val (.int p4), .val (.int p5), .val (.int (1 : Int32)), .val (.double 9223372036854775808), .second, .unset, .unset, .unset] (hb hby at_26) (pc' := 28) rfl rfl ?_
    refine s_goto X0 hx (hb hby at_28) (by decide) (pc' := 52) (by decide) ?_
    exact tail 9223372036854775808 (by unfold Fin64; decide) (fun _ => by decide +kernel) (fun _ => by decide +kernel) (fun h _ => absurd h (by decide))
  ·
    refine s_iload X0 hx (hb hby at_6) (pc' := 8) rfl rfl ?_
    refine s_ifY X0 hx (hb hby at_8) (by decide) (by decide) (pc' := 17) (by decide) ?_
    refine s_iload X0 hx (hb hby at_17) (pc' := 19) rfl rfl ?_
    refine s_iconst X0 hx (1 : Int32) (hb hby at_19) (pc' := 20) rfl rfl ?_
    refine s_icmpY X0 hx (hb hby at_20) (by decide) (by decide) (pc' := 31) (by decide) ?_
    refine s_iload X0 hx (hb hby at_31) (pc' := 33) rfl rfl ?_
    refine s_iconst X0 hx (2 : Int32) (hb hby at_33) (pc' := 34) rfl rfl ?_
    refine s_icmpN X0 hx (hb hby at_34) (pc' := 37) rfl (by decide) ?_
    refine s_iloadN X0 hx (hb hby at_37) (pc' := 38) rfl rfl ?_
    refine s_i2d X0 hx (hb hby at_38) (pc' := 39) rfl ?_
    refine s_dstore X0 hx #[.val (.int p0), .val (.int p1), .val (.int p2), .val (.int p3), .val (.int p4), .val (.int p5), .val (.int (2 : Int32)), .val (.double (FP.i2d p0)), .second, .unset, .unset, .unset] (hb hby at_39) (pc' := 41) rfl rfl ?_
    refine s_goto X0 hx (hb hby at_41) (by decide) (pc' := 52) (by decide) ?_
    exact tail (FP.i2d p0) (i2d_fin _) (fun h => absurd (by decide) h) (fun h => by rw [h]; decide +kernel) (fun _ h => own_rt_i h)
  ·
    refine s_iload X0 hx (hb hby at_6) (pc' := 8) rfl rfl ?_
    refine s_ifY X0 hx (hb hby at_8) (by decide) (by decide) (pc' := 17) (by decide) ?_
    refine s_iload X0 hx (hb hby at_17) (pc' := 19) rfl rfl ?_
    refine s_iconst X0 hx (1 : Int32) (hb hby at_19) (pc' := 20) rfl rfl ?_
    refine s_icmpY X0 hx (hb hby at_20) (by decide) (by decide) (pc' := 31) (by decide) ?_
    refine s_iload X0 hx (hb hby at_31) (pc' := 33) rfl rfl ?_
    refine s_iconst X0 hx (2 : Int32) (hb hby at_33) (pc' := 34) rfl rfl ?_
    refine s_icmpY X0 hx (hb hby at_34) (by decide) (by decide) (pc' := 44) (by decide) ?_
    refine s_iloadN X0 hx (hb hby at_44) (pc' := 45) rfl rfl ?_
    refine s_i2d X0 hx (hb hby at_45) (pc' := 46) rfl ?_
    refine s_ldcD X0 hx hZ hown (hw _ (List.mem_of_getElem? (i := 0) rfl)) (hb hby at_46) (pc' := 49) rfl ?_
    refine s_ddiv X0 hx (FP.ddiv (FP.i2d p0) 4652218415073722368) (hb hby at_49) (pc' := 50) rfl (ddiv_out (i2d_fin p0).noNaN (by unfold Fin64; decide) (by unfold Nz64; decide)) rfl ?_
    refine s_dstore X0 hx #[.val (.int p0), .val (.int p1), .val (.int p2), .val (.int p3), .val (.int p4), .val (.int p5), .val (.int (3 : Int32)), .val (.double (FP.ddiv (FP.i2d p0) 4652218415073722368)), .second, .unset, .unset, .unset] (hb hby at_50) (pc' := 52) rfl rfl ?_
    exact tail (FP.ddiv (FP.i2d p0) 4652218415073722368) (own_fin_q _) (fun h => absurd (by decide) h) (fun h => by rw [h]; decide +kernel) (fun _ h => own_rt_q h)
set_option maxRecDepth 65536 in
set_option maxHeartbeats 40000000 in
theorem comes_1 {Post : Tables → Env → Array Value → State → Outcome → State → Prop} (hpost : ∀ tb e args s v u, (limb_1_1.after args s (.returned v) u = true ∧ limb_1_2.after args s (.returned v) u = true ∧ True) → ReturnedEndW s (.returned v) u (Jvm.fieldLocs frame_1_writes args s ++ Jvm.arrayLocs frame_1_arrays args s ++ Jvm.staticLocs frame_1_statics s) 16 3200 → Post tb e args s (.returned v) u) :
    ArmFor flags0 classFile x code maxLocals ret World_1 tables_1 room_1 Calls_1 rest_1 Pre_1 Post := by
  intro l hfl _ _ p e ha hc hk s m args below hf hA hF happ hP
  obtain ⟨hcalls, hrest, hpre⟩ := hP
  obtain ⟨-, -, -, hnamed, -, -, -, hat⟩ := (Spec.applies_iff hf).mp happ
  obtain ⟨hg, hn⟩ := and_e (Cond.before_iff.mp (show (Jvm.Cond.and given_1 narrow_1).before args s = true from hpre))
  obtain ⟨g0, gr0⟩ := and_e hg
  obtain ⟨g1, gr1⟩ := and_e gr0
  obtain ⟨g2, gr2⟩ := and_e gr1
  obtain ⟨g3, gr3⟩ := and_e gr2
  obtain ⟨g4, gr4⟩ := and_e gr3
  obtain ⟨g5, gr5⟩ := and_e gr4
  obtain ⟨w0, w1, w2, w3, w4, w5, rfl⟩ : ∃ w0 w1 w2 w3 w4 w5 : Value, args = #[w0, w1, w2, w3, w4, w5] := by
    have hs : args.size = 6 := by simpa [Cond.value, given_1] using g0
    obtain ⟨L⟩ := args
    match L, hs with
    | [w0, w1, w2, w3, w4, w5], _ => exact ⟨w0, w1, w2, w3, w4, w5, rfl⟩
  have hw := fun d (hd : d ∈ tables_1) => atoms_spec (ws := Jvm.Cond.code x code maxLocals ret :: tables_1) hat d (List.mem_cons_of_mem _ hd)
  have hfit : Fit s := fun {y c} hc i hi => by
    obtain ⟨ha, rfl⟩ := Array.getElem?_eq_some_iff.mp hc
    have q := List.all_eq_true.mp ((Array.all_eq_true_iff_forall_mem.mp hF) _ (Array.getElem_mem ha)) i (List.mem_range.mpr hi)
    simpa [Array.getElem?_eq_getElem hi] using q
  obtain ⟨i0, q0⟩ := is_v g1
  obtain rfl : w0 = (.int i0) := Option.some.inj q0
  obtain ⟨i1, q1⟩ := is_v g2
  obtain rfl : w1 = (.int i1) := Option.some.inj q1
  obtain ⟨i2, q2⟩ := is_v g3
  obtain rfl : w2 = (.int i2) := Option.some.inj q2
  obtain ⟨i3, q3⟩ := is_v g4
  obtain rfl : w3 = (.int i3) := Option.some.inj q3
  obtain ⟨i4, q4⟩ := is_v g5
  obtain rfl : w4 = (.int i4) := Option.some.inj q4
  obtain ⟨i5, q5⟩ := is_v gr5
  obtain rfl : w5 = (.int i5) := Option.some.inj q5
  obtain ⟨n, o, h1, h2, h3, _, L, rfl, ⟨rfl, N⟩, hq⟩ := rm_0 l s _ hw tables_1 i0 i1 i2 i3 i4 i5 s.heap s.heap.size (Nat.le_refl _)  p e ha hc hk s m _ below hf ((Spec.applies_iff_loose hf).mp happ).1 ⟨rfl, State.Warmed39.refl s, rfl⟩ trivial
  refine ⟨n, _, h1, h2, h3, hpost _ _ _ _ _ _ ⟨Cond.after_iff.mpr rfl, Cond.after_iff.mpr (eq_i res_at (Term.int_eval (1)) rfl), trivial⟩ ⟨hq.1, hq.2.1, hq.2.2.1, (hq.2.2.2.sift fun y hy => Or.inr (N y hy)).mono (by decide) (by decide)⟩⟩
theorem main_1_1 : Claimed_1_1 := comes_1 fun _ _ _ _ _ _ h hF => ⟨h.1, hF⟩
theorem main_1_2 : Claimed_1_2 := comes_1 fun _ _ _ _ _ _ h hF => ⟨h.2.1, hF⟩
end Jvm.Pilot.@@N@@
namespace Jvm.Pilot.@@N@@
open Jvm Jvm.ClassFile Sem Op Lib Jvm.Free Jvm.Stand Jvm.Pilot.@@N@@.Jvm.D
/-! MADE BY PROGRAM (witnessworld.py) out of the Statement's table words and the real class files: 19 classes; the members and pool entries that the words name. The judged class is class 1, her method 1. -/
namespace start1
open Jvm.ClassFile
def u (s : String) : CpInfo := .utf8 (stringToUtf16 s)
/-- a pool by its gaps: so many unusable entries, then the entry; so many at the end -/
def gap : Nat → List CpInfo → List CpInfo
  | 0, r => r
  | n + 1, r => .unusable :: gap n r
def poolList (es : List (Nat × CpInfo)) (last : Nat) : List CpInfo := es.foldr (fun e r => gap e.1 (e.2 :: r)) (gap last [])
def pool (es : List (Nat × CpInfo)) (last : Nat) : Array CpInfo := ⟨poolList es last⟩
def fileOf (pool : Array CpInfo) (this : Nat) (attrs : Array Attribute := #[]) (ms : Array MethodInfo := #[]) (fl : Nat := 33) (sup : Nat := 0) (ifs : Array Nat := #[]) (fds : Array FieldInfo := #[]) : ClassFile where
  minorVersion := 0
  majorVersion := 65
  constantPool := pool
  accessFlags := fl
  thisClass := this
  superClass := sup
  interfaces := ifs
  fields := fds
  methods := ms
  attributes := attrs
def plain (name : String) (sup : Option ClassId) : Class where
  name := name
  kind := .ordinary
  loader := none
  accessFlags := 33
  super := sup
  interfaces := #[]
  cf := none
  fields := #[]
  methods := #[]
  instanceTypes := #[]
  staticTypes := #[]
  resolved := #[]
  callSites := []
  init := .initialized
  statics := none
  mirror := none

def pool0 : Array CpInfo := pool [(5, u "<init>"), (0, u "()V"), (1, .class_ 10), (1, u "java/lang/Object")] 113

def k0c0 : Code := { maxStack := 0, maxLocals := 1, code := object_method_1_code, exceptionTable := #[], attributes := #[] }
def k0m0 : Method := { name := "<init>", desc := "()V", sig := { parameters := [], returnType := none }, accessFlags := 1, code := some k0c0 }
/-- java/lang/Object -/
def k0 : Class := { plain "java/lang/Object" none with
  accessFlags := 33
  interfaces := #[]
  cf := some (fileOf pool0 8 #[] #[{ accessFlags := 1, nameIndex := 5, descriptorIndex := 6, attributes := #[] }] 33 0 #[] #[])
  fields := #[]
  methods := #[k0m0]
  instanceTypes := #[]
  staticTypes := #[]
  resolved := Array.replicate 124 none
  statics := none }

def pool1 : Array CpInfo := pool [(2, .class_ 4), (1, u "java/lang/Object"), (0, u "<init>"), (0, u "()V"), (0, .double 9223372036854775808), (1, .double 4652218415073722368), (1, .class_ 12), (0, u "com/example/sensiflow/sensiflow/input/Branch"), (0, .methodref 11 14), (0, .nameAndType 5 15), (0, u "(IIDDDDDZ)V"), (0, .methodref 11 17), (0, .nameAndType 18 19), (0, u "ratio"), (0, u "()D"), (0, .class_ 21), (0, u "com/example/sensiflow/sensiflow/input/BranchRatioPinLaw"), (2, u "law"), (0, u "(IIIIII)Z")] 3

def k1m0 : Method := { name := "<init>", desc := "()V", sig := { parameters := [], returnType := none }, accessFlags := 2, code := none }
def k1c1 : Code := { maxStack := 16, maxLocals := 12, code := code, exceptionTable := #[], attributes := #[] }
def k1m1 : Method := { name := "law", desc := "(IIIIII)Z", sig := { parameters := [.int, .int, .int, .int, .int, .int], returnType := some .boolean }, accessFlags := 9, code := some k1c1 }
/-- com/example/sensiflow/sensiflow/input/BranchRatioPinLaw -/
def k1 : Class := { plain "com/example/sensiflow/sensiflow/input/BranchRatioPinLaw" (some 0) with
  accessFlags := 49
  interfaces := #[]
  cf := some (fileOf pool1 20 #[] #[{ accessFlags := 2, nameIndex := 5, descriptorIndex := 6, attributes := #[] }, { accessFlags := 9, nameIndex := 24, descriptorIndex := 25, attributes := #[] }] 49 2 #[] #[])
  fields := #[]
  methods := #[k1m0, k1m1]
  instanceTypes := #[]
  staticTypes := #[]
  resolved := Array.replicate 29 none
  statics := none }

def pool2 : Array CpInfo := pool [(1, .methodref 2 3), (0, .class_ 4), (0, .nameAndType 5 6), (0, u "java/lang/Object"), (0, u "<init>"), (0, u "()V"), (0, .class_ 8), (0, u "java/lang/Record")] 13

def k2c0 : Code := { maxStack := 1, maxLocals := 1, code := jdk_30_method_1_code, exceptionTable := #[], attributes := #[] }
def k2m0 : Method := { name := "<init>", desc := "()V", sig := { parameters := [], returnType := none }, accessFlags := 4, code := some k2c0 }
/-- java/lang/Record -/
def k2 : Class := { plain "java/lang/Record" (some 0) with
  accessFlags := 1057
  interfaces := #[]
  cf := some (fileOf pool2 7 #[] #[{ accessFlags := 4, nameIndex := 5, descriptorIndex := 6, attributes := #[] }] 1057 2 #[] #[])
  fields := #[]
  methods := #[k2m0]
  instanceTypes := #[]
  staticTypes := #[]
  resolved := Array.replicate 22 none
  statics := none }

def pool3 : Array CpInfo := pool [(1, .methodref 2 3), (0, .class_ 4), (0, .nameAndType 5 6), (0, u "java/lang/Record"), (0, u "<init>"), (0, u "()V"), (0, .string 8), (0, u "BR_X"), (0, .methodref 10 11), (0, .class_ 12), (0, .nameAndType 13 14), (0, u "com/example/sensiflow/sensiflow/input/FiniteValues"), (0, u "require"), (0, u "(DLjava/lang/String;)D"), (0, .string 16), (0, u "TAP"), (0, .string 18), (0, u "SHIFT"), (0, .fieldref 20 21), (0, .class_ 22), (0, .nameAndType 23 24), (0, u "com/example/sensiflow/sensiflow/input/Branch"), (0, u "fromBus"), (0, u "I"), (0, .fieldref 20 26), (0, .nameAndType 27 24), (0, u "toBus"), (0, .fieldref 20 29), (0, .nameAndType 30 31), (0, u "r"), (0, u "D"), (0, .fieldref 20 33), (0, .nameAndType 34 31), (0, u "x"), (0, .fieldref 20 36), (0, .nameAndType 37 31), (0, u "b"), (0, .fieldref 20 39), (0, .nameAndType 40 31), (0, u "tap"), (0, .fieldref 20 42), (0, .nameAndType 43 31), (0, u "shift"), (0, .fieldref 20 45), (0, .nameAndType 46 47), (0, u "inService"), (0, u "Z"), (2, u "(IIDDDDDZ)V"), (16, u "ratio"), (0, u "()D")] 32

def k3c0 : Code := { maxStack := 3, maxLocals := 14, code := prog_20_method_1_code, exceptionTable := #[], attributes := #[] }
def k3m0 : Method := { name := "<init>", desc := "(IIDDDDDZ)V", sig := { parameters := [.int, .int, .double, .double, .double, .double, .double, .boolean], returnType := none }, accessFlags := 1, code := some k3c0 }
def k3c1 : Code := { maxStack := 4, maxLocals := 1, code := prog_20_method_3_code, exceptionTable := #[], attributes := #[] }
def k3m1 : Method := { name := "ratio", desc := "()D", sig := { parameters := [], returnType := some .double }, accessFlags := 1, code := some k3c1 }
/-- com/example/sensiflow/sensiflow/input/Branch -/
def k3 : Class := { plain "com/example/sensiflow/sensiflow/input/Branch" (some 2) with
  accessFlags := 49
  interfaces := #[]
  cf := some (fileOf pool3 20 #[] #[{ accessFlags := 1, nameIndex := 5, descriptorIndex := 50, attributes := #[] }, { accessFlags := 1, nameIndex := 67, descriptorIndex := 68, attributes := #[] }] 49 2 #[] #[{ accessFlags := 18, nameIndex := 23, descriptorIndex := 24, attributes := #[] }, { accessFlags := 18, nameIndex := 27, descriptorIndex := 24, attributes := #[] }, { accessFlags := 18, nameIndex := 30, descriptorIndex := 31, attributes := #[] }, { accessFlags := 18, nameIndex := 34, descriptorIndex := 31, attributes := #[] }, { accessFlags := 18, nameIndex := 37, descriptorIndex := 31, attributes := #[] }, { accessFlags := 18, nameIndex := 40, descriptorIndex := 31, attributes := #[] }, { accessFlags := 18, nameIndex := 43, descriptorIndex := 31, attributes := #[] }, { accessFlags := 18, nameIndex := 46, descriptorIndex := 47, attributes := #[] }])
  fields := #[{ name := "fromBus", type := .int, accessFlags := 18, slot := 0, constantValue := 0 }, { name := "toBus", type := .int, accessFlags := 18, slot := 1, constantValue := 0 }, { name := "r", type := .double, accessFlags := 18, slot := 2, constantValue := 0 }, { name := "x", type := .double, accessFlags := 18, slot := 3, constantValue := 0 }, { name := "b", type := .double, accessFlags := 18, slot := 4, constantValue := 0 }, { name := "tap", type := .double, accessFlags := 18, slot := 5, constantValue := 0 }, { name := "shift", type := .double, accessFlags := 18, slot := 6, constantValue := 0 }, { name := "inService", type := .boolean, accessFlags := 18, slot := 7, constantValue := 0 }]
  methods := #[k3m0, k3m1]
  instanceTypes := #[.int, .int, .double, .double, .double, .double, .double, .boolean]
  staticTypes := #[]
  resolved := Array.replicate 101 none
  statics := none }

def pool4 : Array CpInfo := pool [(1, .class_ 2), (0, u "java/io/Serializable"), (0, .class_ 4), (0, u "java/lang/Object")] 2

/-- java/io/Serializable -/
def k4 : Class := { plain "java/io/Serializable" (some 0) with
  accessFlags := 1537
  interfaces := #[]
  cf := some (fileOf pool4 1 #[] #[] 1537 3 #[] #[])
  fields := #[]
  methods := #[]
  instanceTypes := #[]
  staticTypes := #[]
  resolved := Array.replicate 7 none
  statics := none }

def pool5 : Array CpInfo := pool [(1, .class_ 2), (0, u "java/lang/Comparable"), (0, .class_ 4), (0, u "java/lang/Object")] 7

/-- java/lang/Comparable -/
def k5 : Class := { plain "java/lang/Comparable" (some 0) with
  accessFlags := 1537
  interfaces := #[]
  cf := some (fileOf pool5 1 #[] #[] 1537 3 #[] #[])
  fields := #[]
  methods := #[]
  instanceTypes := #[]
  staticTypes := #[]
  resolved := Array.replicate 12 none
  statics := none }

def pool6 : Array CpInfo := pool [(2, .class_ 4), (1, u "java/lang/CharSequence"), (42, .class_ 48), (0, u "java/lang/CharSequence$1CodePointIterator"), (10, .class_ 60), (0, u "java/lang/CharSequence$1CharIterator"), (5, .class_ 67), (0, u "java/lang/Object")] 63

/-- java/lang/CharSequence -/
def k6 : Class := { plain "java/lang/CharSequence" (some 0) with
  accessFlags := 1537
  interfaces := #[]
  cf := some (fileOf pool6 2 #[.nestMembers #[47, 59]] #[] 1537 66 #[] #[])
  fields := #[]
  methods := #[]
  instanceTypes := #[]
  staticTypes := #[]
  resolved := Array.replicate 131 none
  statics := none }

def pool7 : Array CpInfo := pool [(1, .class_ 2), (0, u "java/lang/constant/Constable"), (0, .class_ 4), (0, u "java/lang/Object")] 6

/-- java/lang/constant/Constable -/
def k7 : Class := { plain "java/lang/constant/Constable" (some 0) with
  accessFlags := 1537
  interfaces := #[]
  cf := some (fileOf pool7 1 #[] #[] 1537 3 #[] #[])
  fields := #[]
  methods := #[]
  instanceTypes := #[]
  staticTypes := #[]
  resolved := Array.replicate 11 none
  statics := none }

def pool8 : Array CpInfo := pool [(1, .class_ 2), (0, u "java/lang/constant/ConstantDesc"), (0, .class_ 4), (0, u "java/lang/Object")] 32

/-- java/lang/constant/ConstantDesc -/
def k8 : Class := { plain "java/lang/constant/ConstantDesc" (some 0) with
  accessFlags := 1537
  interfaces := #[]
  cf := some (fileOf pool8 1 #[] #[] 1537 3 #[] #[])
  fields := #[]
  methods := #[]
  instanceTypes := #[]
  staticTypes := #[]
  resolved := Array.replicate 37 none
  statics := none }

def pool9 : Array CpInfo := pool [(2, .class_ 4), (1, u "java/lang/Object"), (0, u "<init>"), (0, u "()V"), (3, .class_ 12), (1, u "java/lang/String"), (0, u "value"), (0, u "[B"), (2, u "coder"), (0, u "B"), (2, u "hash"), (0, u "I"), (2, u "hashIsZero"), (0, u "Z"), (13, u "COMPACT_STRINGS"), (534, .class_ 576), (0, u "java/lang/CharSequence"), (22, u "CASE_INSENSITIVE_ORDER"), (0, u "Ljava/util/Comparator;"), (500, u "serialPersistentFields"), (0, u "[Ljava/io/ObjectStreamField;"), (0, .class_ 1104), (0, u "java/lang/String$CaseInsensitiveComparator"), (1, .class_ 1107), (0, u "java/io/Serializable"), (0, .class_ 1109), (0, u "java/lang/Comparable"), (0, .class_ 1111), (0, u "java/lang/constant/Constable"), (0, .class_ 1113), (0, u "java/lang/constant/ConstantDesc"), (2, u "serialVersionUID"), (0, u "J"), (3, u "REPL"), (0, u "C"), (2, u "LATIN1"), (1, u "UTF16")] 323

def k9m0 : Method := { name := "<init>", desc := "()V", sig := { parameters := [], returnType := none }, accessFlags := 1, code := none }
/-- java/lang/String -/
def k9 : Class := { plain "java/lang/String" (some 0) with
  accessFlags := 49
  interfaces := #[4, 5, 6, 7, 8]
  cf := some (fileOf pool9 10 #[.nestMembers #[1103]] #[{ accessFlags := 1, nameIndex := 5, descriptorIndex := 6, attributes := #[] }] 49 2 #[1106, 1108, 575, 1110, 1112] #[{ accessFlags := 18, nameIndex := 13, descriptorIndex := 14, attributes := #[] }, { accessFlags := 18, nameIndex := 17, descriptorIndex := 18, attributes := #[] }, { accessFlags := 2, nameIndex := 21, descriptorIndex := 22, attributes := #[] }, { accessFlags := 2, nameIndex := 25, descriptorIndex := 26, attributes := #[] }, { accessFlags := 26, nameIndex := 1116, descriptorIndex := 1117, attributes := #[] }, { accessFlags := 24, nameIndex := 40, descriptorIndex := 26, attributes := #[] }, { accessFlags := 26, nameIndex := 1101, descriptorIndex := 1102, attributes := #[] }, { accessFlags := 26, nameIndex := 1121, descriptorIndex := 1122, attributes := #[] }, { accessFlags := 25, nameIndex := 599, descriptorIndex := 600, attributes := #[] }, { accessFlags := 24, nameIndex := 1125, descriptorIndex := 18, attributes := #[] }, { accessFlags := 24, nameIndex := 1127, descriptorIndex := 18, attributes := #[] }])
  fields := #[{ name := "value", type := (.array .byte), accessFlags := 18, slot := 0, constantValue := 0 }, { name := "coder", type := .byte, accessFlags := 18, slot := 1, constantValue := 0 }, { name := "hash", type := .int, accessFlags := 2, slot := 2, constantValue := 0 }, { name := "hashIsZero", type := .boolean, accessFlags := 2, slot := 3, constantValue := 0 }, { name := "serialVersionUID", type := .long, accessFlags := 26, slot := 0, constantValue := 0 }, { name := "COMPACT_STRINGS", type := .boolean, accessFlags := 24, slot := 1, constantValue := 0 }, { name := "serialPersistentFields", type := (.array (.object "java/io/ObjectStreamField")), accessFlags := 26, slot := 2, constantValue := 0 }, { name := "REPL", type := .char, accessFlags := 26, slot := 3, constantValue := 0 }, { name := "CASE_INSENSITIVE_ORDER", type := (.object "java/util/Comparator"), accessFlags := 25, slot := 4, constantValue := 0 }, { name := "LATIN1", type := .byte, accessFlags := 24, slot := 5, constantValue := 0 }, { name := "UTF16", type := .byte, accessFlags := 24, slot := 6, constantValue := 0 }]
  methods := #[k9m0]
  instanceTypes := #[(.array .byte), .byte, .int, .boolean]
  staticTypes := #[.long, .boolean, (.array (.object "java/io/ObjectStreamField")), .char, (.object "java/util/Comparator"), .byte, .byte]
  resolved := Array.replicate 1451 none
  statics := none }

def pool10 : Array CpInfo := pool [(2, .class_ 4), (1, u "java/lang/Object"), (0, u "<init>"), (0, u "()V"), (0, .methodref 8 9), (0, .class_ 10), (0, .nameAndType 11 12), (0, u "java/lang/Double"), (0, u "isFinite"), (0, u "(D)Z"), (10, .class_ 25), (1, u "com/example/sensiflow/sensiflow/input/FiniteValues"), (0, u "require"), (0, u "(DLjava/lang/String;)D")] 32

def k10m0 : Method := { name := "<init>", desc := "()V", sig := { parameters := [], returnType := none }, accessFlags := 2, code := none }
def k10c1 : Code := { maxStack := 5, maxLocals := 3, code := prog_25_method_2_code, exceptionTable := #[], attributes := #[] }
def k10m1 : Method := { name := "require", desc := "(DLjava/lang/String;)D", sig := { parameters := [.double, (.object "java/lang/String")], returnType := some .double }, accessFlags := 9, code := some k10c1 }
/-- com/example/sensiflow/sensiflow/input/FiniteValues -/
def k10 : Class := { plain "com/example/sensiflow/sensiflow/input/FiniteValues" (some 0) with
  accessFlags := 49
  interfaces := #[]
  cf := some (fileOf pool10 23 #[] #[{ accessFlags := 2, nameIndex := 5, descriptorIndex := 6, attributes := #[] }, { accessFlags := 9, nameIndex := 26, descriptorIndex := 27, attributes := #[] }] 49 2 #[] #[])
  fields := #[]
  methods := #[k10m0, k10m1]
  instanceTypes := #[]
  staticTypes := #[]
  resolved := Array.replicate 60 none
  statics := none }

def pool11 : Array CpInfo := pool [(2, .class_ 4), (1, u "java/lang/Object"), (0, u "<init>"), (0, u "()V"), (1, .class_ 10), (1, u "java/lang/Number"), (2, .class_ 14), (0, u "java/io/Serializable"), (0, u "serialVersionUID"), (0, u "J")] 20

def k11m0 : Method := { name := "<init>", desc := "()V", sig := { parameters := [], returnType := none }, accessFlags := 1, code := none }
/-- java/lang/Number -/
def k11 : Class := { plain "java/lang/Number" (some 0) with
  accessFlags := 1057
  interfaces := #[4]
  cf := some (fileOf pool11 8 #[] #[{ accessFlags := 1, nameIndex := 5, descriptorIndex := 6, attributes := #[] }] 1057 2 #[13] #[{ accessFlags := 26, nameIndex := 15, descriptorIndex := 16, attributes := #[] }])
  fields := #[{ name := "serialVersionUID", type := .long, accessFlags := 26, slot := 0, constantValue := 0 }]
  methods := #[k11m0]
  instanceTypes := #[]
  staticTypes := #[.long]
  resolved := Array.replicate 37 none
  statics := none }

def pool12 : Array CpInfo := pool [(1, .class_ 2), (0, u "java/lang/Double"), (10, u "isFinite"), (0, u "(D)Z"), (8, .class_ 25), (1, u "java/lang/Math"), (12, .methodref 23 39), (0, .nameAndType 40 41), (0, u "abs"), (0, u "(D)D"), (69, .double 9218868437227405311), (2, .class_ 116), (1, u "java/lang/Number"), (3, u "value"), (0, u "D"), (51, u "TYPE"), (0, u "Ljava/lang/Class;"), (0, .class_ 176), (0, u "java/lang/Comparable"), (0, .class_ 178), (0, u "java/lang/constant/Constable"), (0, .class_ 180), (0, u "java/lang/constant/ConstantDesc"), (0, u "POSITIVE_INFINITY"), (3, u "NEGATIVE_INFINITY"), (2, u "NaN"), (2, u "MAX_VALUE"), (0, u "MIN_NORMAL"), (0, u "MIN_VALUE"), (2, u "SIZE"), (0, u "I"), (1, u "PRECISION"), (1, u "MAX_EXPONENT"), (1, u "MIN_EXPONENT"), (1, u "BYTES"), (3, u "serialVersionUID"), (0, u "J")] 79

def k12c0 : Code := { maxStack := 4, maxLocals := 2, code := jdk_117_method_8_code, exceptionTable := #[], attributes := #[] }
def k12m0 : Method := { name := "isFinite", desc := "(D)Z", sig := { parameters := [.double], returnType := some .boolean }, accessFlags := 9, code := some k12c0 }
/-- java/lang/Double -/
def k12 : Class := { plain "java/lang/Double" (some 11) with
  accessFlags := 49
  interfaces := #[5, 7, 8]
  cf := some (fileOf pool12 1 #[] #[{ accessFlags := 9, nameIndex := 13, descriptorIndex := 14, attributes := #[] }] 49 114 #[175, 177, 179] #[{ accessFlags := 25, nameIndex := 181, descriptorIndex := 121, attributes := #[] }, { accessFlags := 25, nameIndex := 185, descriptorIndex := 121, attributes := #[] }, { accessFlags := 25, nameIndex := 188, descriptorIndex := 121, attributes := #[] }, { accessFlags := 25, nameIndex := 191, descriptorIndex := 121, attributes := #[] }, { accessFlags := 25, nameIndex := 192, descriptorIndex := 121, attributes := #[] }, { accessFlags := 25, nameIndex := 193, descriptorIndex := 121, attributes := #[] }, { accessFlags := 25, nameIndex := 196, descriptorIndex := 197, attributes := #[] }, { accessFlags := 25, nameIndex := 199, descriptorIndex := 197, attributes := #[] }, { accessFlags := 25, nameIndex := 201, descriptorIndex := 197, attributes := #[] }, { accessFlags := 25, nameIndex := 203, descriptorIndex := 197, attributes := #[] }, { accessFlags := 25, nameIndex := 205, descriptorIndex := 197, attributes := #[] }, { accessFlags := 25, nameIndex := 173, descriptorIndex := 174, attributes := #[] }, { accessFlags := 18, nameIndex := 120, descriptorIndex := 121, attributes := #[] }, { accessFlags := 26, nameIndex := 209, descriptorIndex := 210, attributes := #[] }])
  fields := #[{ name := "POSITIVE_INFINITY", type := .double, accessFlags := 25, slot := 0, constantValue := 0 }, { name := "NEGATIVE_INFINITY", type := .double, accessFlags := 25, slot := 1, constantValue := 0 }, { name := "NaN", type := .double, accessFlags := 25, slot := 2, constantValue := 0 }, { name := "MAX_VALUE", type := .double, accessFlags := 25, slot := 3, constantValue := 0 }, { name := "MIN_NORMAL", type := .double, accessFlags := 25, slot := 4, constantValue := 0 }, { name := "MIN_VALUE", type := .double, accessFlags := 25, slot := 5, constantValue := 0 }, { name := "SIZE", type := .int, accessFlags := 25, slot := 6, constantValue := 0 }, { name := "PRECISION", type := .int, accessFlags := 25, slot := 7, constantValue := 0 }, { name := "MAX_EXPONENT", type := .int, accessFlags := 25, slot := 8, constantValue := 0 }, { name := "MIN_EXPONENT", type := .int, accessFlags := 25, slot := 9, constantValue := 0 }, { name := "BYTES", type := .int, accessFlags := 25, slot := 10, constantValue := 0 }, { name := "TYPE", type := (.object "java/lang/Class"), accessFlags := 25, slot := 11, constantValue := 0 }, { name := "value", type := .double, accessFlags := 18, slot := 0, constantValue := 0 }, { name := "serialVersionUID", type := .long, accessFlags := 26, slot := 12, constantValue := 0 }]
  methods := #[k12m0]
  instanceTypes := #[.double]
  staticTypes := #[.double, .double, .double, .double, .double, .double, .int, .int, .int, .int, .int, (.object "java/lang/Class"), .long]
  resolved := Array.replicate 290 none
  statics := none }

def pool13 : Array CpInfo := pool [(1, .class_ 2), (0, u "java/lang/Math"), (1, .class_ 6), (1, u "java/lang/Object"), (0, u "<init>"), (0, u "()V"), (5, u "(D)D"), (83, .class_ 100), (1, u "java/lang/Math$RandomNumberGeneratorHolder"), (23, u "abs"), (47, u "negativeZeroFloatBits"), (0, u "J"), (2, u "negativeZeroDoubleBits"), (68, u "$assertionsDisabled"), (0, u "Z"), (91, u "twoToTheDoubleScaleDown"), (0, u "D"), (4, u "twoToTheDoubleScaleUp"), (9, u "E"), (3, u "PI"), (2, u "TAU"), (2, u "DEGREES_TO_RADIANS"), (0, u "RADIANS_TO_DEGREES")] 94

def k13m0 : Method := { name := "<init>", desc := "()V", sig := { parameters := [], returnType := none }, accessFlags := 2, code := none }
def k13c1 : Code := { maxStack := 4, maxLocals := 2, code := jdk_29_method_64_code, exceptionTable := #[], attributes := #[] }
def k13m1 : Method := { name := "abs", desc := "(D)D", sig := { parameters := [.double], returnType := some .double }, accessFlags := 9, code := some k13c1 }
/-- java/lang/Math -/
def k13 : Class := { plain "java/lang/Math" (some 0) with
  accessFlags := 49
  interfaces := #[]
  cf := some (fileOf pool13 1 #[.nestMembers #[98]] #[{ accessFlags := 2, nameIndex := 7, descriptorIndex := 8, attributes := #[] }, { accessFlags := 9, nameIndex := 124, descriptorIndex := 14, attributes := #[] }] 49 4 #[] #[{ accessFlags := 25, nameIndex := 354, descriptorIndex := 339, attributes := #[] }, { accessFlags := 25, nameIndex := 358, descriptorIndex := 339, attributes := #[] }, { accessFlags := 25, nameIndex := 361, descriptorIndex := 339, attributes := #[] }, { accessFlags := 26, nameIndex := 364, descriptorIndex := 339, attributes := #[] }, { accessFlags := 26, nameIndex := 365, descriptorIndex := 339, attributes := #[] }, { accessFlags := 26, nameIndex := 172, descriptorIndex := 173, attributes := #[] }, { accessFlags := 26, nameIndex := 176, descriptorIndex := 173, attributes := #[] }, { accessFlags := 8, nameIndex := 344, descriptorIndex := 339, attributes := #[] }, { accessFlags := 8, nameIndex := 338, descriptorIndex := 339, attributes := #[] }, { accessFlags := 4120, nameIndex := 245, descriptorIndex := 246, attributes := #[] }])
  fields := #[{ name := "E", type := .double, accessFlags := 25, slot := 0, constantValue := 0 }, { name := "PI", type := .double, accessFlags := 25, slot := 1, constantValue := 0 }, { name := "TAU", type := .double, accessFlags := 25, slot := 2, constantValue := 0 }, { name := "DEGREES_TO_RADIANS", type := .double, accessFlags := 26, slot := 3, constantValue := 0 }, { name := "RADIANS_TO_DEGREES", type := .double, accessFlags := 26, slot := 4, constantValue := 0 }, { name := "negativeZeroFloatBits", type := .long, accessFlags := 26, slot := 5, constantValue := 0 }, { name := "negativeZeroDoubleBits", type := .long, accessFlags := 26, slot := 6, constantValue := 0 }, { name := "twoToTheDoubleScaleUp", type := .double, accessFlags := 8, slot := 7, constantValue := 0 }, { name := "twoToTheDoubleScaleDown", type := .double, accessFlags := 8, slot := 8, constantValue := 0 }, { name := "$assertionsDisabled", type := .boolean, accessFlags := 4120, slot := 9, constantValue := 0 }]
  methods := #[k13m0, k13m1]
  instanceTypes := #[]
  staticTypes := #[.double, .double, .double, .double, .double, .long, .long, .double, .double, .boolean]
  resolved := Array.replicate 460 none
  statics := none }

def pool14 : Array CpInfo := pool [(1, u "java/lang/Cloneable"), (0, .class_ 1), (0, u "java/lang/Object"), (0, .class_ 3)] 3

/-- java/lang/Cloneable -/
def k14 : Class := { plain "java/lang/Cloneable" (some 0) with
  accessFlags := 1537
  interfaces := #[]
  cf := some (fileOf pool14 2 #[] #[] 1537 4 #[] #[])
  fields := #[]
  methods := #[]
  instanceTypes := #[]
  staticTypes := #[]
  resolved := Array.replicate 8 none
  statics := none }

/-- the primitive byte -/
def k15 : Class := { plain "byte" none with kind := .primitive 'B', accessFlags := 0x411 }
/-- [B -/
def k16 : Class := { plain "[B" (some 0) with kind := .array 15 .byte, interfaces := #[14, 4], accessFlags := 1041 }

/-- the primitive int -/
def k17 : Class := { plain "int" none with kind := .primitive 'I', accessFlags := 0x411 }
/-- [I -/
def k18 : Class := { plain "[I" (some 0) with kind := .array 17 .int, interfaces := #[14, 4], accessFlags := 1041 }

def heap : Heap := #[]
def classes : Array Class := #[k0, k1, k2, k3, k4, k5, k6, k7, k8, k9, k10, k11, k12, k13, k14, k15, k16, k17, k18]
def interned : List (Array UInt16 × Addr) := []
def slotsUsed : Nat := 0
def theMethod : MethodId := ⟨1, 1⟩
def args0 : Array Value := #[.int 5, .int 6, .int 7, .int 8, .int 9, .int 2]
def aboutOver (below : List Frame) : State where
  vm := { classes := classes, interned := interned.toArray }
  heap := heap
  slotsUsed := slotsUsed
  threads := #[{ frames := .invoking theMethod args0 :: below }]
def below0 : List Frame := [.native { method := ⟨0, 0⟩, args := #[] }]
def about1 : State := aboutOver below0
def p0 : Program := .bare "" "" ""
def e0 : Env := launch0.env 0 0 0
theorem w_frames : about1.frames = Frame.invoking theMethod args0 :: below0 := rfl
set_option maxRecDepth 65536 in
theorem w_args : argsFit about1.vm theMethod args0 = true := by decide +kernel
set_option maxRecDepth 65536 in
theorem w_heap : heapFits about1 = true := by decide +kernel
set_option maxRecDepth 65536 in
theorem w_runnable : about1.curStatus? = some .runnable := by decide +kernel
set_option maxRecDepth 65536 in
theorem w_alone : about1.alone = true := by decide +kernel
set_option maxRecDepth 65536 in
theorem w_named : about1.methodNamed? x = some theMethod := by decide +kernel
set_option maxRecDepth 65536 in
theorem w_hears : about1.hears theMethod below0 = true := by decide +kernel
set_option maxRecDepth 65536 in
theorem w_ripe : about1.ripe theMethod args0 below0 = true := by decide +kernel
theorem w_running : about1.status = .running := rfl
set_option maxRecDepth 65536 in
theorem w_room : about1.hasRoom e0.platform room_1 = true :=
  launch0.hasRoom_least _ room_1 (by decide +kernel) (by decide +kernel) (by decide +kernel) (by decide +kernel) (by decide +kernel) (by decide +kernel)
theorem allAtoms_all (ts : List Jvm.Cond) (a : Array Jvm.Value) (st : Jvm.State) : (allAtoms ts).before a st = ts.all (fun c => c.before a st) := by
  induction ts with
  | nil => rfl
  | cons c t ih =>
    show (Jvm.Cond.and c (allAtoms t)).before a st = _
    rw [Jvm.Cond.before_and, ih, List.all_cons]
def words1 : List Jvm.Cond := Jvm.Cond.code x code maxLocals ret :: tables_1
/-- a 'code' word, met by the world's own term for the bytes: nothing is compared byte by byte -/
theorem code_word {y : MethodName} {bytes : ByteArray} {mx : Nat} {rt : Option FieldType} {a : Array Value} {s : State} {m : MethodId} {meth : Method} {c : Code} (h1 : s.methodNamed? y = some m) (h2 : s.vm.method? m = some meth) (h3 : meth.code = some c) (h4 : c.code = bytes)
    (h5 : (c.maxLocals == mx && c.exceptionTable.isEmpty && decide (c.maxStack ≤ mostOperands) && decide (meth.sig.returnType = rt) && !meth.locks && decide (parseMethodDescriptor y.desc = some meth.sig)) = true) : (Jvm.Cond.code y bytes mx rt).before a s = true := by
  simp only [Bool.and_eq_true, beq_iff_eq, Bool.not_eq_true', decide_eq_true_eq] at h5
  obtain ⟨⟨⟨⟨⟨g1, g2⟩, g3⟩, g4⟩, g5⟩, g6⟩ := h5
  simp [Cond.before, Cond.holds, Cond.value, h1, h2, h3, h4, g1, g2, g3, g4, g5, g6]
def isCode : Jvm.Cond → Bool
  | .code _ _ _ _ => true
  | _ => false
theorem all_split {L : List Jvm.Cond} {P : Jvm.Cond → Bool} (h1 : L.all (fun c => isCode c || P c) = true) (h2 : ∀ c ∈ L.filter isCode, P c = true) : L.all P = true := by
  refine List.all_eq_true.mpr fun c hc => ?_
  have h := List.all_eq_true.mp h1 c hc
  rcases Bool.eq_false_or_eq_true (isCode c) with hi | hi
  · exact h2 c (List.mem_filter.mpr ⟨hc, hi⟩)
  · simpa [hi] using h
set_option maxRecDepth 65536 in
theorem w_c0 : (Jvm.Cond.code x code maxLocals ret).before args0 about1 = true := code_word (m := ⟨1, 1⟩) (meth := k1m1) (c := k1c1) (by decide +kernel) rfl rfl rfl (by decide +kernel)
set_option maxRecDepth 65536 in
theorem w_c1 : (Jvm.Cond.code ({ cls := "com/example/sensiflow/sensiflow/input/Branch", name := "<init>", desc := "(IIDDDDDZ)V" } : Jvm.MethodName) prog_20_method_1_code (14 : Nat) (Option.none : Option Jvm.ClassFile.FieldType)).before args0 about1 = true := code_word (m := ⟨3, 0⟩) (meth := k3m0) (c := k3c0) (by decide +kernel) rfl rfl rfl (by decide +kernel)
set_option maxRecDepth 65536 in
theorem w_c2 : (Jvm.Cond.code ({ cls := "java/lang/Record", name := "<init>", desc := "()V" } : Jvm.MethodName) jdk_30_method_1_code (1 : Nat) (Option.none : Option Jvm.ClassFile.FieldType)).before args0 about1 = true := code_word (m := ⟨2, 0⟩) (meth := k2m0) (c := k2c0) (by decide +kernel) rfl rfl rfl (by decide +kernel)
set_option maxRecDepth 65536 in
theorem w_c3 : (Jvm.Cond.code ({ cls := "java/lang/Object", name := "<init>", desc := "()V" } : Jvm.MethodName) object_method_1_code (1 : Nat) (Option.none : Option Jvm.ClassFile.FieldType)).before args0 about1 = true := code_word (m := ⟨0, 0⟩) (meth := k0m0) (c := k0c0) (by decide +kernel) rfl rfl rfl (by decide +kernel)
set_option maxRecDepth 65536 in
theorem w_c4 : (Jvm.Cond.code ({ cls := "com/example/sensiflow/sensiflow/input/FiniteValues", name := "require", desc := "(DLjava/lang/String;)D" } : Jvm.MethodName) prog_25_method_2_code (3 : Nat) (Option.some Jvm.ClassFile.FieldType.double)).before args0 about1 = true := code_word (m := ⟨10, 1⟩) (meth := k10m1) (c := k10c1) (by decide +kernel) rfl rfl rfl (by decide +kernel)
set_option maxRecDepth 65536 in
theorem w_c5 : (Jvm.Cond.code ({ cls := "java/lang/Double", name := "isFinite", desc := "(D)Z" } : Jvm.MethodName) jdk_117_method_8_code (2 : Nat) (Option.some Jvm.ClassFile.FieldType.boolean)).before args0 about1 = true := code_word (m := ⟨12, 0⟩) (meth := k12m0) (c := k12c0) (by decide +kernel) rfl rfl rfl (by decide +kernel)
set_option maxRecDepth 65536 in
theorem w_c6 : (Jvm.Cond.code ({ cls := "java/lang/Math", name := "abs", desc := "(D)D" } : Jvm.MethodName) jdk_29_method_64_code (2 : Nat) (Option.some Jvm.ClassFile.FieldType.double)).before args0 about1 = true := code_word (m := ⟨13, 1⟩) (meth := k13m1) (c := k13c1) (by decide +kernel) rfl rfl rfl (by decide +kernel)
set_option maxRecDepth 65536 in
theorem w_c7 : (Jvm.Cond.code ({ cls := "com/example/sensiflow/sensiflow/input/Branch", name := "ratio", desc := "()D" } : Jvm.MethodName) prog_20_method_3_code (1 : Nat) (Option.some Jvm.ClassFile.FieldType.double)).before args0 about1 = true := code_word (m := ⟨3, 1⟩) (meth := k3m1) (c := k3c1) (by decide +kernel) rfl rfl rfl (by decide +kernel)
def codes1 : List Jvm.Cond := [Jvm.Cond.code x code maxLocals ret, Jvm.Cond.code ({ cls := "com/example/sensiflow/sensiflow/input/Branch", name := "<init>", desc := "(IIDDDDDZ)V" } : Jvm.MethodName) prog_20_method_1_code (14 : Nat) (Option.none : Option Jvm.ClassFile.FieldType), Jvm.Cond.code ({ cls := "java/lang/Record", name := "<init>", desc := "()V" } : Jvm.MethodName) jdk_30_method_1_code (1 : Nat) (Option.none : Option Jvm.ClassFile.FieldType), Jvm.Cond.code ({ cls := "java/lang/Object", name := "<init>", desc := "()V" } : Jvm.MethodName) object_method_1_code (1 : Nat) (Option.none : Option Jvm.ClassFile.FieldType), Jvm.Cond.code ({ cls := "com/example/sensiflow/sensiflow/input/FiniteValues", name := "require", desc := "(DLjava/lang/String;)D" } : Jvm.MethodName) prog_25_method_2_code (3 : Nat) (Option.some Jvm.ClassFile.FieldType.double), Jvm.Cond.code ({ cls := "java/lang/Double", name := "isFinite", desc := "(D)Z" } : Jvm.MethodName) jdk_117_method_8_code (2 : Nat) (Option.some Jvm.ClassFile.FieldType.boolean), Jvm.Cond.code ({ cls := "java/lang/Math", name := "abs", desc := "(D)D" } : Jvm.MethodName) jdk_29_method_64_code (2 : Nat) (Option.some Jvm.ClassFile.FieldType.double), Jvm.Cond.code ({ cls := "com/example/sensiflow/sensiflow/input/Branch", name := "ratio", desc := "()D" } : Jvm.MethodName) prog_20_method_3_code (1 : Nat) (Option.some Jvm.ClassFile.FieldType.double)]
set_option maxRecDepth 65536 in
theorem codes_eq : words1.filter isCode = codes1 := rfl
theorem w_codes : ∀ c ∈ words1.filter isCode, c.before args0 about1 = true := by
  rw [codes_eq]
  intro c hc
  simp only [codes1, List.mem_cons, List.not_mem_nil, or_false] at hc
  rcases hc with rfl | rfl | rfl | rfl | rfl | rfl | rfl | rfl
  · exact w_c0
  · exact w_c1
  · exact w_c2
  · exact w_c3
  · exact w_c4
  · exact w_c5
  · exact w_c6
  · exact w_c7
set_option maxRecDepth 65536 in
theorem w_t1 : (words1.take 24).all (fun c => isCode c || c.before args0 about1) = true := by decide +kernel
set_option maxRecDepth 65536 in
theorem w_t2 : ((words1.drop 24).take 24).all (fun c => isCode c || c.before args0 about1) = true := by decide +kernel
set_option maxRecDepth 65536 in
theorem w_t3 : ((words1.drop 24).drop 24).all (fun c => isCode c || c.before args0 about1) = true := by decide +kernel
theorem w_tables : (allAtoms (Jvm.Cond.code x code maxLocals ret :: tables_1)).before args0 about1 = true := by
  rw [allAtoms_all]
  show words1.all (fun c => c.before args0 about1) = true
  refine all_split ?_ w_codes
  rw [← List.take_append_drop 24 words1, List.all_append, w_t1, ← List.take_append_drop 24 (words1.drop 24), List.all_append, w_t2, w_t3]
  rfl
set_option maxRecDepth 65536 in
theorem w_case : (Jvm.Cond.and given_1 narrow_1).before args0 about1 = true := by decide +kernel
theorem w_applies : (headSpec (Jvm.Cond.code x code maxLocals ret :: tables_1) room_1).applies x e0.platform about1 = true :=
  (Spec.applies_iff w_frames).mpr ⟨w_running, w_runnable, w_alone, w_named, w_hears, w_ripe, w_room, w_tables⟩
theorem atStart : AtStart classFile x code maxLocals ret World_1 tables_1 room_1 Calls_1 rest_1 Pre_1 launch0 p0 e0 about1 theMethod args0 below0 :=
  ⟨lists_1, trivial, launch0.admits_env _ _ _, launch0.least_env, fairChoices_fair.cas, fairChoices_fair.clock, w_frames, w_args, w_heap, w_applies, trivial, trivial, w_case⟩
end start1
theorem witness_1 : WitnessClaimed_1 := ⟨start1.p0, start1.e0, start1.about1, start1.theMethod, start1.args0, start1.below0, start1.atStart⟩
end Jvm.Pilot.@@N@@
