import JvmDerived
import JvmDerived.Pilot.@@N@@Statement
import JvmDerived.Pilot.@@N@@Code
set_option linter.unusedVariables false
set_option linter.unusedSimpArgs false
namespace Jvm.Pilot.@@N@@
open Jvm Jvm.ClassFile Sem Op Lib Jvm.Free Jvm.Stand Jvm.LawKit Jvm.RoadKit Bundle Jvm.Pilot.@@N@@.Jvm.D Jvm.Free.Fl
section Own
variable {p : Program} {l : Launch} {e : Env} {R : Room} {s : State} {m : MethodId} {args : Array Value} {below : List Frame} {meth : Method} {c : Code} {T : State} {locs : List Loc} {cells slots : Nat} {Z : State} {a0 : Array Value} {h : Heap} {G : Outcome → State → Prop}
/-- from S the body comes to its end, and the end is as asked -/
def Goes (p : Program) (e : Env) (below : List Frame) (G : Outcome → State → Prop) (S : State) : Prop :=
  ∃ s₂ o, Steps p.tables e below S s₂ ∧ s₂.status = .running ∧ Ended s₂ below o ∧ G o s₂
theorem own_go {S S' : State} (st : ∀ t, Steps p.tables e below S' t → Steps p.tables e below S t) (k : Goes p e below G S') : Goes p e below G S := by
  obtain ⟨s₂, o, h1, h2⟩ := k
  exact ⟨s₂, o, st _ h1, h2⟩
/-- what a contract says of the end -/
def EndsAs (Q : Option Value → Heap → List Loc → Prop) (s : State) (rc rs : Nat) (o : Outcome) (U : State) : Prop :=
  ∃ v L, o = .returned v ∧ Q v U.heap L ∧ FrameEnd s o U L rc rs
abbrev OwnMet (l : Launch) (Z : State) (y : MethodName) (bytes : ByteArray) (maxL : Nat) (ret : Option FieldType) (ws : List Jvm.Cond) (rm : Room) (as' : Array Value) (h : Heap) (Q : Option Value → Heap → List Loc → Prop) : Prop :=
  MetFree l y (head1 (Jvm.Cond.code y bytes maxL ret :: ws) rm) (fun a U => a = as' ∧ Z.Warmed39 U.vm ∧ U.heap = h) (fun _ _ _ _ _ => True) (fun _ U o U' => ∃ v L, o = .returned v ∧ Q v U'.heap L ∧ FrameEnd U o U' L rm.cells rm.slots)
theorem own_met {y : MethodName} {bytes : ByteArray} {maxL : Nat} {ret : Option FieldType} {ws : List Jvm.Cond} {rm : Room} {as' : Array Value} {h : Heap} {Q : Option Value → Heap → List Loc → Prop} {Ls : Array Slot}
    (hpn : plainFor y = true) (hef : ∀ m, entryFrame m as' maxL = mkF m 0 Ls [])
    (body : ∀ (p : Program) (e : Env) (s : State) (m : MethodId) (below : List Frame) (meth : Method) (c : Code) (s₁ : State), p.tables.exec = Jvm.exec → c.code = bytes → c.maxLocals = maxL → Z.Warmed39 s.vm → s.vm.findClass y.cls = some m.cls → meth.name = y.name → meth.sig.returnType = ret → meth.locks = false →
      Stand p l e rm s m as' below meth c s₁ [] 0 0 → s₁.heap = h → Goes p e below (EndsAs Q s rm.cells rm.slots) (s₁.setTop (mkF m 0 Ls []))) :
    OwnMet l Z y bytes maxL ret ws rm as' h Q := by
  refine MetFree.of_bodySF hpn hisR ?_
  intro p e s m args below meth c s₁ Bd hml0 hP hK
  obtain ⟨rfl, hZ, hh⟩ := hP
  obtain ⟨s₂, o, h1, h2, h3, h4⟩ := body p e s m below meth c s₁ Bd.exec Bd.bytes hml0 hZ (findClass_of_methodNamed Bd.named) (name_of_methodNamed Bd.named Bd.method).1 Bd.returns Bd.notSynchronized (Stand.of_body Bd) (by rw [← hh, Bd.state]; rfl)
  exact ⟨s₂, o, castTop (hef m) h1, h2, h3, h4⟩
theorem s_retI (X : Stand p l e R s m args below meth c T locs cells slots) (hx : p.tables.exec = Jvm.exec) (hlk : meth.locks = false) {Q : Option Value → Heap → List Loc → Prop} {pc rc rs : Nat} {Ls : Array Slot} {st : List Value} {t : FieldType} {w : Value} {i : Instr} (hret : meth.sig.returnType = some t)
    (hd : decode c.code pc = .ok (i, 1)) (hn : narrow t w = w) (hi : (i = .ireturn ∧ (t = .int ∨ t = .boolean ∨ t = .byte ∨ t = .char ∨ t = .short) ∧ ∃ z, w = .int z) ∨ (i = .lreturn ∧ t = .long ∧ ∃ z, w = .long z) ∨ (i = .dreturn ∧ t = .double ∧ ∃ z, w = .double z) ∨ (i = .freturn ∧ t = .float ∧ ∃ z, w = .float z) ∨ (i = .areturn ∧ t.isReference = true ∧ w.isRef = true))
    (hc : cells ≤ rc) (hs : slots ≤ rs) (hq : Q (some w) T.heap locs) : Goes p e below (EndsAs Q s rc rs) (T.setTop (mkF m pc Ls (w :: st))) := by
  obtain ⟨fs, hr, hrun, hended, hW, hsame⟩ := X.leave (v := some w) (fun h => by rw [hret] at h; cases h) hlk
  exact ⟨_, _, retOut X hx hret hn hi hd hr, hrun, hended, _, _, rfl, hq, ⟨_, rfl⟩, hW, hsame.mono hc hs⟩
theorem s_ret (X : Stand p l e R s m args below meth c T locs cells slots) (hx : p.tables.exec = Jvm.exec) (hlk : meth.locks = false) {Q : Option Value → Heap → List Loc → Prop} {pc rc rs : Nat} {Ls : Array Slot} (hret : meth.sig.returnType = none)
    (hd : decode c.code pc = .ok (.return_, 1)) (hc : cells ≤ rc) (hs : slots ≤ rs) (hq : Q none T.heap locs) : Goes p e below (EndsAs Q s rc rs) (T.setTop (mkF m pc Ls [])) := by
  obtain ⟨fs, hr, hrun, hended, hW, hsame⟩ := X.leave (v := none) (fun _ => rfl) hlk
  exact ⟨_, _, X.returnOut hx hret hd hr, hrun, hended, _, _, rfl, hq, ⟨_, rfl⟩, hW, hsame.mono hc hs⟩
theorem c_static (X : Stand p l e R s m args below meth c T locs cells slots) (hx : p.tables.exec = Jvm.exec) (hZ : Z.Warmed39 s.vm) {own : String} {index : Nat} {y : MethodName} (hown : s.vm.findClass own = some m.cls)
    {bytes : ByteArray} {maxL : Nat} {ret : Option FieldType} (w1 : (Jvm.Cond.methodLink own index y).before a0 Z = true) (w2 : (Jvm.Cond.static y).before a0 Z = true) (w3 : (Jvm.Cond.initialized y.cls).before a0 Z = true) (w4 : (Jvm.Cond.code y bytes maxL ret).before a0 Z = true) (hy : y.cls ≠ "java/lang/invoke/MethodHandle" ∧ y.cls ≠ "java/lang/invoke/VarHandle")
    {rm : Room} {as' : Array Value} {Q : Option Value → Heap → List Loc → Prop} (eT : T.heap = h) (hM : OwnMet l Z y bytes maxL ret [] rm as' h Q) {W : Nat} (hf : rm.frames + 1 ≤ R.frames) (hl : W + (maxL + 11) + rm.locals ≤ R.locals) (hc : cells + rm.cells ≤ R.cells) (hs : slots + rm.slots ≤ R.slots)
    {pc pc' : Nat} {Ls : Array Slot} {st : List Value} (hsize : Ls.size = c.maxLocals) {argsL rest : List Value} (hlen : ∀ sig, parseMethodDescriptor y.desc = some sig → argsL.length = sig.parameters.length) (has : argsL.toArray = as') (hst : st = argsL.reverse ++ rest) (hW : (rest.map fun v => v.category).sum ≤ W)
    (hd : decode c.code pc = .ok (.invokestatic index, 3)) (hp : pc + 3 = pc')
    (k : ∀ (T' : State) (v : Option Value) (L : List Loc), Stand p l e R s m args below meth c T' (locs ++ L) (cells + rm.cells) (slots + rm.slots) → Q v T'.heap L → Goes p e below G (T'.setTop (mkF m pc' Ls (v.toList ++ rest)))) :
    Goes p e below G (T.setTop (mkF m pc Ls st)) := by
  subst hp
  obtain ⟨v, _, ⟨T', L', k', n'⟩, -, X', ⟨Lc, hQ, l1, y1, z1⟩, stp⟩ := Jvm.LawKit.callS X hx (y := y) hown (mvT hZ w1) (mvT hZ w2) (mvT hZ w3) (mvT hZ w4) hy (backOf (W := W) hM hZ w4 w3 hf hl) (g := mkF m pc Ls st) rfl hsize (argsL := argsL) (rest := rest) hlen hst (by show 2 * 0 + _ ≤ _; omega) hd (fun _ _ => ⟨has, eT, hc, hs⟩)
  dsimp only [Pt.U, Pt.locs, Pt.cells, Pt.slots] at X' l1 y1 z1 stp hQ
  subst l1 y1 z1
  exact own_go stp (k T' v Lc X' hQ)
theorem c_special (X : Stand p l e R s m args below meth c T locs cells slots) (hx : p.tables.exec = Jvm.exec) (hZ : Z.Warmed39 s.vm) {own : String} {index : Nat} {y : MethodName} (hy1 : y.name = "<init>") (hown : s.vm.findClass own = some m.cls)
    {bytes : ByteArray} {maxL : Nat} (w1 : (Jvm.Cond.methodLink own index y).before a0 Z = true) (w2 : (Jvm.Cond.instanceMethod y).before a0 Z = true) (w3 : (Jvm.Cond.initialized y.cls).before a0 Z = true) (w4 : (Jvm.Cond.code y bytes maxL none).before a0 Z = true) (hy : y.cls ≠ "java/lang/invoke/MethodHandle" ∧ y.cls ≠ "java/lang/invoke/VarHandle")
    {rm : Room} {as' : Array Value} {Q : Option Value → Heap → List Loc → Prop} (eT : T.heap = h) (hM : OwnMet l Z y bytes maxL none [] rm as' h Q) {W : Nat} (hf : rm.frames + 1 ≤ R.frames) (hl : W + (maxL + 11) + rm.locals ≤ R.locals) (hc : cells + rm.cells ≤ R.cells) (hs : slots + rm.slots ≤ R.slots)
    {pc pc' : Nat} {Ls : Array Slot} {st : List Value} (hsize : Ls.size = c.maxLocals) {a : Addr} {argsL rest : List Value} (hlen : ∀ sig, parseMethodDescriptor y.desc = some sig → argsL.length = sig.parameters.length) (has : (.ref a :: argsL).toArray = as') (hst : st = argsL.reverse ++ .ref a :: rest) (hW : (rest.map fun v => v.category).sum ≤ W)
    (hd : decode c.code pc = .ok (.invokespecial index, 3)) (hp : pc + 3 = pc')
    (k : ∀ (T' : State) (v : Option Value) (L : List Loc), Stand p l e R s m args below meth c T' (locs ++ L) (cells + rm.cells) (slots + rm.slots) → Q v T'.heap L → Goes p e below G (T'.setTop (mkF m pc' Ls (v.toList ++ rest)))) :
    Goes p e below G (T.setTop (mkF m pc Ls st)) := by
  subst hp
  obtain ⟨v, _, ⟨T', L', k', n'⟩, -, X', ⟨Lc, hQ, l1, y1, z1⟩, stp⟩ := X.specialBack hx (y := y) hy1 hown (mvT hZ w1) (mvT hZ w2) (mvT hZ w4) hy (backOf (W := W) hM hZ w4 w3 hf hl) (g := mkF m pc Ls st) rfl hsize (Steps.refl _) (a := a) (argsL := argsL) (rest := rest) hlen hst (by show 2 * 0 + _ ≤ _; omega) hd (fun _ _ => ⟨has, eT, hc, hs⟩)
  dsimp only [Pt.U, Pt.locs, Pt.cells, Pt.slots] at X' l1 y1 z1 stp hQ
  subst l1 y1 z1
  exact own_go (fun _ q => stp.trans q) (k T' v Lc X' hQ)
theorem c_virtual (X : Stand p l e R s m args below meth c T locs cells slots) (hx : p.tables.exec = Jvm.exec) (hZ : Z.Warmed39 s.vm) {own C : String} {index : Nat} {y : MethodName} (hown : s.vm.findClass own = some m.cls)
    {bytes : ByteArray} {maxL : Nat} {ret : Option FieldType} (w1 : (Jvm.Cond.methodLink own index y).before a0 Z = true) (w2 : (Jvm.Cond.declares y).before a0 Z = true) (w5 : (Jvm.Cond.selects C y y).before a0 Z = true) (w6 : (Jvm.Cond.instanceMethod y).before a0 Z = true) (w3 : (Jvm.Cond.initialized y.cls).before a0 Z = true) (w4 : (Jvm.Cond.code y bytes maxL ret).before a0 Z = true) (hy : y.cls ≠ "java/lang/invoke/MethodHandle" ∧ y.cls ≠ "java/lang/invoke/VarHandle")
    {rm : Room} {as' : Array Value} {Q : Option Value → Heap → List Loc → Prop} (eT : T.heap = h) {a : Addr} (E : Exa Z h a C) (hM : OwnMet l Z y bytes maxL ret [] rm as' h Q) {W : Nat} (hf : rm.frames + 1 ≤ R.frames) (hl : W + (maxL + 11) + rm.locals ≤ R.locals) (hc : cells + rm.cells ≤ R.cells) (hs : slots + rm.slots ≤ R.slots)
    {pc pc' : Nat} {Ls : Array Slot} {st : List Value} (hsize : Ls.size = c.maxLocals) {argsL rest : List Value} (hlen : ∀ sig, parseMethodDescriptor y.desc = some sig → argsL.length = sig.parameters.length) (has : (.ref a :: argsL).toArray = as') (hst : st = argsL.reverse ++ .ref a :: rest) (hW : (rest.map fun v => v.category).sum ≤ W)
    (hd : decode c.code pc = .ok (.invokevirtual index, 3)) (hp : pc + 3 = pc')
    (k : ∀ (T' : State) (v : Option Value) (L : List Loc), Stand p l e R s m args below meth c T' (locs ++ L) (cells + rm.cells) (slots + rm.slots) → Q v T'.heap L → Goes p e below G (T'.setTop (mkF m pc' Ls (v.toList ++ rest)))) :
    Goes p e below G (T.setTop (mkF m pc Ls st)) := by
  subst hp
  obtain ⟨cq, kq, qa, qb, qc⟩ := isOf hZ eT E
  obtain ⟨v, _, ⟨T', L', k', n'⟩, -, X', ⟨Lc, hQ, l1, y1, z1⟩, stp⟩ := X.virtualBack hx (y := y) (z := y) hown (mvT hZ w1) (mvT hZ w2) (notFace_of_selects (args := #[]) (mvT hZ w5)) (mvT hZ w5) (mvT hZ w6) hy (backOf (W := W) hM hZ w4 w3 hf hl) qa qc (g := mkF m pc Ls st) rfl hsize (Steps.refl _) (argsL := argsL) (rest := rest) hlen hst (by show 2 * 0 + _ ≤ _; omega) hd (fun _ _ => ⟨has, eT, hc, hs⟩)
  dsimp only [Pt.U, Pt.locs, Pt.cells, Pt.slots] at X' l1 y1 z1 stp hQ
  subst l1 y1 z1
  exact own_go (fun _ q => stp.trans q) (k T' v Lc X' hQ)
theorem s_new (X : Stand p l e R s m args below meth c T locs cells slots) (hx : p.tables.exec = Jvm.exec) (hZ : Z.Warmed39 s.vm) {own C : String} {index n : Nat} (hown : s.vm.findClass own = some m.cls) (w : (Jvm.Cond.classLink own index C).before a0 Z = true) (wi : (Jvm.Cond.instantiable C n).before a0 Z = true) (wz : (Jvm.Cond.initialized C).before a0 Z = true) (eT : T.heap = h)
    {pc pc' : Nat} {Ls : Array Slot} {st : List Value} (hd : decode c.code pc = .ok (.new index, 3)) (hp : pc + 3 = pc') (hc : cells + 1 ≤ R.cells) (hl : slots + n ≤ R.slots)
    (k : ∀ (T' : State) (h' : Heap) (a : Addr), Stand p l e R s m args below meth c T' locs (cells + 1) (slots + n) → T'.heap = h' → Ext h h' → a = h.size → Exa Z h' a C → (∀ {O nm d : String} {ty : FieldType}, Laid Z a0 C O nm d → parseFieldDescriptor d = some ty → Fld Z h' a O nm d (defaultValue ty)) → Goes p e below G (T'.setTop (mkF m pc' Ls (.ref a :: st)))) :
    Goes p e below G (T.setTop (mkF m pc Ls st)) := by
  subst hp
  obtain ⟨T', h', X', e', E, A, D, -, stp⟩ := newO X hx hZ hown w wi wz eT (g := mkF m pc Ls st) rfl hd hc hl
  exact own_go stp (k T' h' _ X' e' E rfl A D)
theorem s_initO (X : Stand p l e R s m args below meth c T locs cells slots) (hx : p.tables.exec = Jvm.exec) (hZ : Z.Warmed39 s.vm) {own : String} {index : Nat} (hown : s.vm.findClass own = some m.cls) (w1 : (Jvm.Cond.methodLink own index Lib.objectInit).before a0 Z = true) (w2 : (Jvm.Cond.instanceMethod Lib.objectInit).before a0 Z = true)
    (w3 : (Jvm.Cond.code Lib.objectInit ⟨#[0xb1]⟩ 1 none).before a0 Z = true) (eT : T.heap = h) {pc pc' : Nat} {Ls : Array Slot} {st : List Value} {a : Addr} (hd : decode c.code pc = .ok (.invokespecial index, 3)) (hp : pc + 3 = pc') (hsize : Ls.size = c.maxLocals)
    (hf : 1 ≤ R.frames) {W : Nat} (hW : (st.map fun v => v.category).sum ≤ W) (hl : W + 12 ≤ R.locals)
    (k : ∀ T' : State, Stand p l e R s m args below meth c T' locs cells slots → T'.heap = h → Goes p e below G (T'.setTop (mkF m pc' Ls st))) :
    Goes p e below G (T.setTop (mkF m pc Ls (.ref a :: st))) := by
  subst hp
  obtain ⟨T', X', e', stp⟩ := initO X hx hZ hown w1 w2 w3 eT (g := mkF m pc Ls (.ref a :: st)) rfl hsize rfl hd hf (W := W) (by show 2 * 0 + _ ≤ _; omega) hl
  exact own_go stp (k T' X' e')
theorem s_getF (X : Stand p l e R s m args below meth c T locs cells slots) (hx : p.tables.exec = Jvm.exec) (hZ : Z.Warmed39 s.vm) {own O n d : String} {index : Nat} (hown : s.vm.findClass own = some m.cls) (w : (Jvm.Cond.fieldLink own index O n d).before a0 Z = true)
    (eT : T.heap = h) {a : Addr} {v : Value} (F : Fld Z h a O n d v) {pc pc' : Nat} {Ls : Array Slot} {st : List Value} (hd : decode c.code pc = .ok (.getfield index, 3)) (hp : pc + 3 = pc')
    (k : ∀ T' : State, Stand p l e R s m args below meth c T' locs cells slots → T'.heap = h → Goes p e below G (T'.setTop (mkF m pc' Ls (v :: st)))) :
    Goes p e below G (T.setTop (mkF m pc Ls (.ref a :: st))) := by
  subst hp
  obtain ⟨T', X', e', stp⟩ := getF X hx hZ hown (host := "") (Or.inl w) Via.refl eT F (g := mkF m pc Ls (.ref a :: st)) rfl rfl hd
  exact own_go stp (k T' X' e')
theorem s_getS (X : Stand p l e R s m args below meth c T locs cells slots) (hx : p.tables.exec = Jvm.exec) (hZ : Z.Warmed39 s.vm) {own O n d : String} {index : Nat} (hown : s.vm.findClass own = some m.cls) (w : (Jvm.Cond.fieldLink own index O n d).before a0 Z = true)
    (eT : T.heap = h) {v : Value} (F : Sta Z h O n d v) {pc pc' : Nat} {Ls : Array Slot} {st : List Value} (hd : decode c.code pc = .ok (.getstatic index, 3)) (hp : pc + 3 = pc')
    (k : ∀ T' : State, Stand p l e R s m args below meth c T' locs cells slots → T'.heap = h → Goes p e below G (T'.setTop (mkF m pc' Ls (v :: st)))) :
    Goes p e below G (T.setTop (mkF m pc Ls st)) := by
  subst hp
  obtain ⟨T', X', e', stp⟩ := getS X hx hZ hown (host := "") w Via.refl eT F (g := mkF m pc Ls st) rfl hd
  exact own_go stp (k T' X' e')
theorem s_instY (X : Stand p l e R s m args below meth c T locs cells slots) (hx : p.tables.exec = Jvm.exec) (hZ : Z.Warmed39 s.vm) {own K : String} {index : Nat} (hown : s.vm.findClass own = some m.cls) (w : (Jvm.Cond.classLink own index K).before a0 Z = true)
    (eT : T.heap = h) {a : Addr} (F : Ins Z h a K true) {pc pc' : Nat} {Ls : Array Slot} {st : List Value} (hd : decode c.code pc = .ok (.instanceof index, 3)) (hp : pc + 3 = pc')
    (k : ∀ T' : State, Stand p l e R s m args below meth c T' locs cells slots → T'.heap = h → Goes p e below G (T'.setTop (mkF m pc' Ls (.int 1 :: st)))) :
    Goes p e below G (T.setTop (mkF m pc Ls (.ref a :: st))) := by
  subst hp
  obtain ⟨T', X', e', stp⟩ := instY X hx hZ hown w eT F (g := mkF m pc Ls (.ref a :: st)) rfl rfl hd
  exact own_go stp (k T' X' e')
theorem s_castY (X : Stand p l e R s m args below meth c T locs cells slots) (hx : p.tables.exec = Jvm.exec) (hZ : Z.Warmed39 s.vm) {own K : String} {index : Nat} (hown : s.vm.findClass own = some m.cls) (w : (Jvm.Cond.classLink own index K).before a0 Z = true)
    (eT : T.heap = h) {a : Addr} (F : Ins Z h a K true) {pc pc' : Nat} {Ls : Array Slot} {st : List Value} (hd : decode c.code pc = .ok (.checkcast index, 3)) (hp : pc + 3 = pc')
    (k : ∀ T' : State, Stand p l e R s m args below meth c T' locs cells slots → T'.heap = h → Goes p e below G (T'.setTop (mkF m pc' Ls (.ref a :: st)))) :
    Goes p e below G (T.setTop (mkF m pc Ls (.ref a :: st))) := by
  subst hp
  obtain ⟨T', X', e', stp⟩ := castY X hx hZ hown w eT F (g := mkF m pc Ls (.ref a :: st)) rfl rfl hd
  exact own_go stp (k T' X' e')
theorem s_putF (X : Stand p l e R s m args below meth c T locs cells slots) (hx : p.tables.exec = Jvm.exec) (hZ : Z.Warmed39 s.vm) {own O n d C : String} {index kk : Nat} {ty : FieldType} (hown : s.vm.findClass own = some m.cls) (w : (Jvm.Cond.fieldLink own index O n d).before a0 Z = true)
    (eT : T.heap = h) {a : Addr} {v old : Value} (F : Fld Z h a O n d old) (E : Exa Z h a C) (L : (Jvm.Cond.lays C O n d).before a0 Z = true ∨ ((Jvm.Cond.laysFinal C O n d).before a0 Z = true ∧ own = O ∧ meth.name = "<init>")) (wi : (Jvm.Cond.instantiable C kk).before a0 Z = true)
    (hty : parseFieldDescriptor d = some ty) (hn : narrow ty v = v) (hf : fits ty v = true) {pc pc' : Nat} {Ls : Array Slot} {st : List Value} (hd : decode c.code pc = .ok (.putfield index, 3)) (hp : pc + 3 = pc')
    (k : ∀ (T' : State) (h' : Heap), Stand p l e R s m args below meth c T' (locs ++ [⟨a, Jvm.RoadKit.slotOf Z O n d⟩]) cells slots → T'.heap = h' → Wr h h' a (Jvm.RoadKit.slotOf Z O n d) v → Goes p e below G (T'.setTop (mkF m pc' Ls st))) :
    Goes p e below G (T.setTop (mkF m pc Ls (v :: .ref a :: st))) := by
  subst hp
  obtain ⟨T', h', X', e', W, stp⟩ := putF X hx hZ hown (host := "") (Or.inl w) Via.refl eT F E L wi hty hn hf (g := mkF m pc Ls (v :: .ref a :: st)) rfl rfl hd
  exact own_go stp (k T' h' X' e' W)
theorem s_newP (X : Stand p l e R s m args below meth c T locs cells slots) (hx : p.tables.exec = Jvm.exec) (hZ : Z.Warmed39 s.vm) {aty : ArrayType} (w : (Jvm.Cond.arrayClass (newarray.typeOf aty)).before a0 Z = true) (eT : T.heap = h)
    {pc pc' : Nat} {Ls : Array Slot} {st : List Value} {n : Int32} (hd : decode c.code pc = .ok (.newarray aty, 2)) (hp : pc + 2 = pc') (hn : ¬ n < 0) (cap : Nat) (hcap : n.toNatClampNeg ≤ cap) (hb : cap * 8 ≤ 536870912) (hc : cells + 1 ≤ R.cells) (hl : slots + cap ≤ R.slots)
    {ad : String} (had : "[" ++ (newarray.typeOf aty).toString = ad)
    (k : ∀ (T' : State) (h' : Heap) (cA : ClassId) (a : Addr), Stand p l e R s m args below meth c T' locs (cells + 1) (slots + cap) → T'.heap = h' → Ext h h' → a = h.size → Arv Z h' a cA (newarray.typeOf aty) n [] (defaultValue (newarray.typeOf aty)) → Exa Z h' a ad → Goes p e below G (T'.setTop (mkF m pc' Ls (.ref a :: st)))) :
    Goes p e below G (T.setTop (mkF m pc Ls (.int n :: st))) := by
  subst hp
  obtain ⟨T', h', cA, X', e', E, A, Ex, stp⟩ := newPE X hx hZ w eT (g := mkF m pc Ls (.int n :: st)) rfl hd rfl hn hcap hb hc hl had
  exact own_go stp (k T' h' cA _ X' e' E rfl (Arv.new A hn) Ex)
theorem s_len (X : Stand p l e R s m args below meth c T locs cells slots) (hx : p.tables.exec = Jvm.exec) (hZ : Z.Warmed39 s.vm) (eT : T.heap = h) {a : Addr} {kk : ClassId} {ty : FieldType} {z : Int32} {vs : List Value} {dv : Value} (F : Arv Z h a kk ty z vs dv)
    {pc pc' : Nat} {Ls : Array Slot} {st : List Value} (hd : decode c.code pc = .ok (.arraylength, 1)) (hp : pc + 1 = pc')
    (k : Goes p e below G (T.setTop (mkF m pc' Ls (.int z :: st)))) : Goes p e below G (T.setTop (mkF m pc Ls (.ref a :: st))) := by
  subst hp
  obtain ⟨cl, A, q1, S, q3, H, K⟩ := F
  refine own_go (fun t q => X.arraylength hx (by rw [eT]; exact A.1) (State.isArrayOf_alike hZ.alike A.2.1) (g := mkF m pc Ls (.ref a :: st)) rfl rfl hd t ?_) k
  rw [len_of S q3]; exact q
theorem own_fitD {v : Value} (h : fits .double v = true) : ∃ x, v = .double x := fit_D h
theorem s_daload (X : Stand p l e R s m args below meth c T locs cells slots) (hx : p.tables.exec = Jvm.exec) (hZ : Z.Warmed39 s.vm) (eT : T.heap = h) {a : Addr} {kk : ClassId} {z j : Int32} {vs : List Value} {dv : Value} (F : Arv Z h a kk .double z vs dv) (hj : ¬ j < 0 ∧ j < z) {v : Value} (hv : vs.getD j.toNatClampNeg dv = v)
    {pc pc' : Nat} {Ls : Array Slot} {st : List Value} (hd : decode c.code pc = .ok (.daload, 1)) (hp : pc + 1 = pc')
    (k : Goes p e below G (T.setTop (mkF m pc' Ls (v :: st)))) : Goes p e below G (T.setTop (mkF m pc Ls (.int j :: .ref a :: st))) := by
  subst hp
  obtain ⟨cl, A, q1, S, q3, H, K⟩ := F
  exact own_go (fun t q => X.daload hx (by rw [eT]; exact A.1) (State.isArrayOf_alike hZ.alike A.2.1) A.2.2 (inb_of S hj) (H.at (inb_of S hj) hv) (g := mkF m pc Ls (.int j :: .ref a :: st)) rfl rfl hd t q) k
theorem s_laload (X : Stand p l e R s m args below meth c T locs cells slots) (hx : p.tables.exec = Jvm.exec) (hZ : Z.Warmed39 s.vm) (eT : T.heap = h) {a : Addr} {kk : ClassId} {z j : Int32} {vs : List Value} {dv : Value} (F : Arv Z h a kk .long z vs dv) (hj : ¬ j < 0 ∧ j < z) {v : Value} (hv : vs.getD j.toNatClampNeg dv = v)
    {pc pc' : Nat} {Ls : Array Slot} {st : List Value} (hd : decode c.code pc = .ok (.laload, 1)) (hp : pc + 1 = pc')
    (k : Goes p e below G (T.setTop (mkF m pc' Ls (v :: st)))) : Goes p e below G (T.setTop (mkF m pc Ls (.int j :: .ref a :: st))) := by
  subst hp
  obtain ⟨cl, A, q1, S, q3, H, K⟩ := F
  exact own_go (fun t q => X.laload hx (by rw [eT]; exact A.1) (State.isArrayOf_alike hZ.alike A.2.1) A.2.2 (inb_of S hj) (H.at (inb_of S hj) hv) (g := mkF m pc Ls (.int j :: .ref a :: st)) rfl rfl hd t q) k
theorem s_iaload (X : Stand p l e R s m args below meth c T locs cells slots) (hx : p.tables.exec = Jvm.exec) (hZ : Z.Warmed39 s.vm) (eT : T.heap = h) {a : Addr} {kk : ClassId} {z j : Int32} {vs : List Value} {dv : Value} (F : Arv Z h a kk .int z vs dv) (hj : ¬ j < 0 ∧ j < z) {v : Value} (hv : vs.getD j.toNatClampNeg dv = v)
    {pc pc' : Nat} {Ls : Array Slot} {st : List Value} (hd : decode c.code pc = .ok (.iaload, 1)) (hp : pc + 1 = pc')
    (k : Goes p e below G (T.setTop (mkF m pc' Ls (v :: st)))) : Goes p e below G (T.setTop (mkF m pc Ls (.int j :: .ref a :: st))) := by
  subst hp
  obtain ⟨cl, A, q1, S, q3, H, K⟩ := F
  exact own_go (fun t q => X.iaload hx (by rw [eT]; exact A.1) (State.isArrayOf_alike hZ.alike A.2.1) A.2.2 (inb_of S hj) (H.at (inb_of S hj) hv) (g := mkF m pc Ls (.int j :: .ref a :: st)) rfl rfl hd t q) k
theorem s_aaload (X : Stand p l e R s m args below meth c T locs cells slots) (hx : p.tables.exec = Jvm.exec) (hZ : Z.Warmed39 s.vm) (eT : T.heap = h) {a : Addr} {kk : ClassId} {ty : FieldType} {z j : Int32} {vs : List Value} {dv : Value} (F : Arv Z h a kk ty z vs dv) (hty : ty.isReference = true) (hj : ¬ j < 0 ∧ j < z) {v : Value} (hv : vs.getD j.toNatClampNeg dv = v)
    {pc pc' : Nat} {Ls : Array Slot} {st : List Value} (hd : decode c.code pc = .ok (.aaload, 1)) (hp : pc + 1 = pc')
    (k : Goes p e below G (T.setTop (mkF m pc' Ls (v :: st)))) : Goes p e below G (T.setTop (mkF m pc Ls (.int j :: .ref a :: st))) := by
  subst hp
  obtain ⟨cl, A, q1, S, q3, H, K⟩ := F
  exact own_go (fun t q => X.aaload hx (by rw [eT]; exact A.1) (State.isArrayOf_alike hZ.alike A.2.1) hty A.2.2 (inb_of S hj) (H.at (inb_of S hj) hv) (g := mkF m pc Ls (.int j :: .ref a :: st)) rfl rfl hd t q) k
theorem s_dastore (X : Stand p l e R s m args below meth c T locs cells slots) (hx : p.tables.exec = Jvm.exec) (hZ : Z.Warmed39 s.vm) (eT : T.heap = h) {a : Addr} {kk : ClassId} {z j : Int32} {vs : List Value} {dv : Value} (F : Arv Z h a kk .double z vs dv) (hj : ¬ j < 0 ∧ j < z) (i : Nat) (hi : j.toNatClampNeg = i) (hl : i < vs.length) {x : UInt64}
    {pc pc' : Nat} {Ls : Array Slot} {st : List Value} (hd : decode c.code pc = .ok (.dastore, 1)) (hp : pc + 1 = pc')
    (k : ∀ (T' : State) (h' : Heap), Stand p l e R s m args below meth c T' (locs ++ [⟨a, j.toNatClampNeg⟩]) cells slots → T'.heap = h' → Wr h h' a j.toNatClampNeg (.double x) → Arv Z h' a kk .double z (vs.set i (.double x)) dv → Goes p e below G (T'.setTop (mkF m pc' Ls st))) :
    Goes p e below G (T.setTop (mkF m pc Ls (.double x :: .int j :: .ref a :: st))) := by
  subst hp
  obtain ⟨cl, A, q1, S, q3, H, K⟩ := F
  obtain ⟨T', h', X', e', W, stp⟩ := stD X hx hZ eT A (inb_of S hj) (g := mkF m pc Ls (.double x :: .int j :: .ref a :: st)) rfl rfl hd
  exact own_go stp (k T' h' X' e' W (Arv.set A q1 S q3 H K rfl W i hi hl))
theorem s_lastore (X : Stand p l e R s m args below meth c T locs cells slots) (hx : p.tables.exec = Jvm.exec) (hZ : Z.Warmed39 s.vm) (eT : T.heap = h) {a : Addr} {kk : ClassId} {z j : Int32} {vs : List Value} {dv : Value} (F : Arv Z h a kk .long z vs dv) (hj : ¬ j < 0 ∧ j < z) (i : Nat) (hi : j.toNatClampNeg = i) (hl : i < vs.length) {x : Int64}
    {pc pc' : Nat} {Ls : Array Slot} {st : List Value} (hd : decode c.code pc = .ok (.lastore, 1)) (hp : pc + 1 = pc')
    (k : ∀ (T' : State) (h' : Heap), Stand p l e R s m args below meth c T' (locs ++ [⟨a, j.toNatClampNeg⟩]) cells slots → T'.heap = h' → Wr h h' a j.toNatClampNeg (.long x) → Arv Z h' a kk .long z (vs.set i (.long x)) dv → Goes p e below G (T'.setTop (mkF m pc' Ls st))) :
    Goes p e below G (T.setTop (mkF m pc Ls (.long x :: .int j :: .ref a :: st))) := by
  subst hp
  obtain ⟨cl, A, q1, S, q3, H, K⟩ := F
  obtain ⟨T', h', X', e', W, stp⟩ := stJ X hx hZ eT A (inb_of S hj) (g := mkF m pc Ls (.long x :: .int j :: .ref a :: st)) rfl rfl hd
  exact own_go stp (k T' h' X' e' W (Arv.set A q1 S q3 H K rfl W i hi hl))
theorem s_iload (X : Stand p l e R s m args below meth c T locs cells slots) (hx : p.tables.exec = Jvm.exec) {pc pc' : Nat} {Ls : Array Slot} {st : List Value} {j : Nat} {v : Int32} (hd : decode c.code pc = .ok (.iload j, 2)) (hp : pc + 2 = pc') (hl : Ls[j]? = some (.val (.int v)))
    (k : Goes p e below G (T.setTop (mkF m pc' Ls (.int v :: st)))) : Goes p e below G (T.setTop (mkF m pc Ls (st))) := by
  subst hp
  exact own_go (fun _ k => XS.iload X.here hx rfl hd hl k) k
theorem s_iloadN (X : Stand p l e R s m args below meth c T locs cells slots) (hx : p.tables.exec = Jvm.exec) {pc pc' : Nat} {Ls : Array Slot} {st : List Value} {j : Fin 4} {v : Int32} (hd : decode c.code pc = .ok (.iload_n j, 1)) (hp : pc + 1 = pc') (hl : Ls[j.val]? = some (.val (.int v)))
    (k : Goes p e below G (T.setTop (mkF m pc' Ls (.int v :: st)))) : Goes p e below G (T.setTop (mkF m pc Ls (st))) := by
  subst hp
  exact own_go (fun _ k => XS.iloadN X.here hx rfl hd hl k) k
theorem s_istore (X : Stand p l e R s m args below meth c T locs cells slots) (hx : p.tables.exec = Jvm.exec) {pc pc' : Nat} {Ls : Array Slot} {st : List Value} {j : Nat} {v : Int32} (l' : Array Slot) (hd : decode c.code pc = .ok (.istore j, 2)) (hp : pc + 2 = pc') (hl : storeLocals Ls j (.int v) = some l')
    (k : Goes p e below G (T.setTop (mkF m pc' l' (st)))) : Goes p e below G (T.setTop (mkF m pc Ls (.int v :: st))) := by
  subst hp
  exact own_go (fun _ k => XS.istore X.here hx rfl hd rfl hl k) k
theorem s_istoreN (X : Stand p l e R s m args below meth c T locs cells slots) (hx : p.tables.exec = Jvm.exec) {pc pc' : Nat} {Ls : Array Slot} {st : List Value} {j : Fin 4} {v : Int32} (l' : Array Slot) (hd : decode c.code pc = .ok (.istore_n j, 1)) (hp : pc + 1 = pc') (hl : storeLocals Ls j.val (.int v) = some l')
    (k : Goes p e below G (T.setTop (mkF m pc' l' (st)))) : Goes p e below G (T.setTop (mkF m pc Ls (.int v :: st))) := by
  subst hp
  exact own_go (fun _ k => XS.istoreN X.here hx rfl hd rfl hl k) k
theorem s_lload (X : Stand p l e R s m args below meth c T locs cells slots) (hx : p.tables.exec = Jvm.exec) {pc pc' : Nat} {Ls : Array Slot} {st : List Value} {j : Nat} {v : Int64} (hd : decode c.code pc = .ok (.lload j, 2)) (hp : pc + 2 = pc') (hl : Ls[j]? = some (.val (.long v)))
    (k : Goes p e below G (T.setTop (mkF m pc' Ls (.long v :: st)))) : Goes p e below G (T.setTop (mkF m pc Ls (st))) := by
  subst hp
  exact own_go (fun _ k => XT.lload X.here hx rfl hd hl k) k
theorem s_lloadN (X : Stand p l e R s m args below meth c T locs cells slots) (hx : p.tables.exec = Jvm.exec) {pc pc' : Nat} {Ls : Array Slot} {st : List Value} {j : Fin 4} {v : Int64} (hd : decode c.code pc = .ok (.lload_n j, 1)) (hp : pc + 1 = pc') (hl : Ls[j.val]? = some (.val (.long v)))
    (k : Goes p e below G (T.setTop (mkF m pc' Ls (.long v :: st)))) : Goes p e below G (T.setTop (mkF m pc Ls (st))) := by
  subst hp
  exact own_go (fun _ k => XT.lloadN X.here hx rfl hd hl k) k
theorem s_lstore (X : Stand p l e R s m args below meth c T locs cells slots) (hx : p.tables.exec = Jvm.exec) {pc pc' : Nat} {Ls : Array Slot} {st : List Value} {j : Nat} {v : Int64} (l' : Array Slot) (hd : decode c.code pc = .ok (.lstore j, 2)) (hp : pc + 2 = pc') (hl : storeLocals Ls j (.long v) = some l')
    (k : Goes p e below G (T.setTop (mkF m pc' l' (st)))) : Goes p e below G (T.setTop (mkF m pc Ls (.long v :: st))) := by
  subst hp
  exact own_go (fun _ k => XT.lstore X.here hx rfl hd rfl hl k) k
theorem s_lstoreN (X : Stand p l e R s m args below meth c T locs cells slots) (hx : p.tables.exec = Jvm.exec) {pc pc' : Nat} {Ls : Array Slot} {st : List Value} {j : Fin 4} {v : Int64} (l' : Array Slot) (hd : decode c.code pc = .ok (.lstore_n j, 1)) (hp : pc + 1 = pc') (hl : storeLocals Ls j.val (.long v) = some l')
    (k : Goes p e below G (T.setTop (mkF m pc' l' (st)))) : Goes p e below G (T.setTop (mkF m pc Ls (.long v :: st))) := by
  subst hp
  exact own_go (fun _ k => XT.lstoreN X.here hx rfl hd rfl hl k) k
theorem s_dload (X : Stand p l e R s m args below meth c T locs cells slots) (hx : p.tables.exec = Jvm.exec) {pc pc' : Nat} {Ls : Array Slot} {st : List Value} {j : Nat} {v : UInt64} (hd : decode c.code pc = .ok (.dload j, 2)) (hp : pc + 2 = pc') (hl : Ls[j]? = some (.val (.double v)))
    (k : Goes p e below G (T.setTop (mkF m pc' Ls (.double v :: st)))) : Goes p e below G (T.setTop (mkF m pc Ls (st))) := by
  subst hp
  exact own_go (fun _ k => XS.dload X.here hx rfl hd hl k) k
theorem s_dloadN (X : Stand p l e R s m args below meth c T locs cells slots) (hx : p.tables.exec = Jvm.exec) {pc pc' : Nat} {Ls : Array Slot} {st : List Value} {j : Fin 4} {v : UInt64} (hd : decode c.code pc = .ok (.dload_n j, 1)) (hp : pc + 1 = pc') (hl : Ls[j.val]? = some (.val (.double v)))
    (k : Goes p e below G (T.setTop (mkF m pc' Ls (.double v :: st)))) : Goes p e below G (T.setTop (mkF m pc Ls (st))) := by
  subst hp
  exact own_go (fun _ k => XS.dloadN X.here hx rfl hd hl k) k
theorem s_dstore (X : Stand p l e R s m args below meth c T locs cells slots) (hx : p.tables.exec = Jvm.exec) {pc pc' : Nat} {Ls : Array Slot} {st : List Value} {j : Nat} {v : UInt64} (l' : Array Slot) (hd : decode c.code pc = .ok (.dstore j, 2)) (hp : pc + 2 = pc') (hl : storeLocals Ls j (.double v) = some l')
    (k : Goes p e below G (T.setTop (mkF m pc' l' (st)))) : Goes p e below G (T.setTop (mkF m pc Ls (.double v :: st))) := by
  subst hp
  exact own_go (fun _ k => XS.dstore X.here hx rfl hd rfl hl k) k
theorem s_dstoreN (X : Stand p l e R s m args below meth c T locs cells slots) (hx : p.tables.exec = Jvm.exec) {pc pc' : Nat} {Ls : Array Slot} {st : List Value} {j : Fin 4} {v : UInt64} (l' : Array Slot) (hd : decode c.code pc = .ok (.dstore_n j, 1)) (hp : pc + 1 = pc') (hl : storeLocals Ls j.val (.double v) = some l')
    (k : Goes p e below G (T.setTop (mkF m pc' l' (st)))) : Goes p e below G (T.setTop (mkF m pc Ls (.double v :: st))) := by
  subst hp
  exact own_go (fun _ k => XS.dstoreN X.here hx rfl hd rfl hl k) k
theorem s_aload (X : Stand p l e R s m args below meth c T locs cells slots) (hx : p.tables.exec = Jvm.exec) {pc pc' : Nat} {Ls : Array Slot} {st : List Value} {j : Nat} {v : Value} (hd : decode c.code pc = .ok (.aload j, 2)) (hp : pc + 2 = pc') (hl : Ls[j]? = some (.val v)) (hv : v.isRef = true)
    (k : Goes p e below G (T.setTop (mkF m pc' Ls (v :: st)))) : Goes p e below G (T.setTop (mkF m pc Ls (st))) := by
  subst hp
  exact own_go (fun _ k => XS.aload X.here hx rfl hd hl hv k) k
theorem s_aloadN (X : Stand p l e R s m args below meth c T locs cells slots) (hx : p.tables.exec = Jvm.exec) {pc pc' : Nat} {Ls : Array Slot} {st : List Value} {j : Fin 4} {v : Value} (hd : decode c.code pc = .ok (.aload_n j, 1)) (hp : pc + 1 = pc') (hl : Ls[j.val]? = some (.val v)) (hv : v.isRef = true)
    (k : Goes p e below G (T.setTop (mkF m pc' Ls (v :: st)))) : Goes p e below G (T.setTop (mkF m pc Ls (st))) := by
  subst hp
  exact own_go (fun _ k => XS.aloadN X.here hx rfl hd hl hv k) k
theorem s_astore (X : Stand p l e R s m args below meth c T locs cells slots) (hx : p.tables.exec = Jvm.exec) {pc pc' : Nat} {Ls : Array Slot} {st : List Value} {j : Nat} {v : Value} (l' : Array Slot) (hd : decode c.code pc = .ok (.astore j, 2)) (hp : pc + 2 = pc') (hv : v.isRef = true) (hl : storeLocals Ls j v = some l')
    (k : Goes p e below G (T.setTop (mkF m pc' l' (st)))) : Goes p e below G (T.setTop (mkF m pc Ls (v :: st))) := by
  subst hp
  exact own_go (fun _ k => XS.astore X.here hx rfl hd rfl hv hl k) k
theorem s_astoreN (X : Stand p l e R s m args below meth c T locs cells slots) (hx : p.tables.exec = Jvm.exec) {pc pc' : Nat} {Ls : Array Slot} {st : List Value} {j : Fin 4} {v : Value} (l' : Array Slot) (hd : decode c.code pc = .ok (.astore_n j, 1)) (hp : pc + 1 = pc') (hv : v.isRef = true) (hl : storeLocals Ls j.val v = some l')
    (k : Goes p e below G (T.setTop (mkF m pc' l' (st)))) : Goes p e below G (T.setTop (mkF m pc Ls (v :: st))) := by
  subst hp
  exact own_go (fun _ k => XS.astoreN X.here hx rfl hd rfl hv hl k) k
theorem s_iconst (X : Stand p l e R s m args below meth c T locs cells slots) (hx : p.tables.exec = Jvm.exec) {pc pc' : Nat} {Ls : Array Slot} {st : List Value} {i : Int} (v : Int32) (hd : decode c.code pc = .ok (.iconst i, 1)) (hp : pc + 1 = pc') (hv : Int32.ofInt i = v)
    (k : Goes p e below G (T.setTop (mkF m pc' Ls (.int v :: st)))) : Goes p e below G (T.setTop (mkF m pc Ls (st))) := by
  subst hp
  exact own_go (fun _ k => XS.iconst X.here hx rfl hd (by rw [hv]; exact k)) k
theorem s_bipush (X : Stand p l e R s m args below meth c T locs cells slots) (hx : p.tables.exec = Jvm.exec) {pc pc' : Nat} {Ls : Array Slot} {st : List Value} {i : Int} (v : Int32) (hd : decode c.code pc = .ok (.bipush i, 2)) (hp : pc + 2 = pc') (hv : (Int8.ofInt i).toInt32 = v)
    (k : Goes p e below G (T.setTop (mkF m pc' Ls (.int v :: st)))) : Goes p e below G (T.setTop (mkF m pc Ls (st))) := by
  subst hp
  exact own_go (fun _ k => XS.bipush X.here hx rfl hd (by rw [hv]; exact k)) k
theorem s_sipush (X : Stand p l e R s m args below meth c T locs cells slots) (hx : p.tables.exec = Jvm.exec) {pc pc' : Nat} {Ls : Array Slot} {st : List Value} {i : Int} (v : Int32) (hd : decode c.code pc = .ok (.sipush i, 3)) (hp : pc + 3 = pc') (hv : (Int16.ofInt i).toInt32 = v)
    (k : Goes p e below G (T.setTop (mkF m pc' Ls (.int v :: st)))) : Goes p e below G (T.setTop (mkF m pc Ls (st))) := by
  subst hp
  exact own_go (fun _ k => XS.sipush X.here hx rfl hd (by rw [hv]; exact k)) k
theorem s_lconst (X : Stand p l e R s m args below meth c T locs cells slots) (hx : p.tables.exec = Jvm.exec) {pc pc' : Nat} {Ls : Array Slot} {st : List Value} {i : Fin 2} (v : Int64) (hd : decode c.code pc = .ok (.lconst i, 1)) (hp : pc + 1 = pc') (hv : Int64.ofNat i = v)
    (k : Goes p e below G (T.setTop (mkF m pc' Ls (.long v :: st)))) : Goes p e below G (T.setTop (mkF m pc Ls (st))) := by
  subst hp
  exact own_go (fun _ k => XT.lconst X.here hx rfl hd (by rw [hv]; exact k)) k
theorem s_dconst0 (X : Stand p l e R s m args below meth c T locs cells slots) (hx : p.tables.exec = Jvm.exec) {pc pc' : Nat} {Ls : Array Slot} {st : List Value}  (hd : decode c.code pc = .ok (.dconst 0, 1)) (hp : pc + 1 = pc') 
    (k : Goes p e below G (T.setTop (mkF m pc' Ls (.double 0 :: st)))) : Goes p e below G (T.setTop (mkF m pc Ls (st))) := by
  subst hp
  exact own_go (fun _ k => XS.dconst0 X.here hx rfl hd rfl k) k
theorem s_dconst1 (X : Stand p l e R s m args below meth c T locs cells slots) (hx : p.tables.exec = Jvm.exec) {pc pc' : Nat} {Ls : Array Slot} {st : List Value}  (hd : decode c.code pc = .ok (.dconst 1, 1)) (hp : pc + 1 = pc') 
    (k : Goes p e below G (T.setTop (mkF m pc' Ls (.double 4607182418800017408 :: st)))) : Goes p e below G (T.setTop (mkF m pc Ls (st))) := by
  subst hp
  exact own_go (fun _ k => XS.dconst1 X.here hx rfl hd rfl k) k
theorem s_aconstNull (X : Stand p l e R s m args below meth c T locs cells slots) (hx : p.tables.exec = Jvm.exec) {pc pc' : Nat} {Ls : Array Slot} {st : List Value}  (hd : decode c.code pc = .ok (.aconst_null, 1)) (hp : pc + 1 = pc') 
    (k : Goes p e below G (T.setTop (mkF m pc' Ls (.null :: st)))) : Goes p e below G (T.setTop (mkF m pc Ls (st))) := by
  subst hp
  exact own_go (fun _ k => XS.aconstNull X.here hx rfl hd k) k
theorem s_ldcI (X : Stand p l e R s m args below meth c T locs cells slots) (hx : p.tables.exec = Jvm.exec) {pc pc' : Nat} {Ls : Array Slot} {st : List Value} (hZ : Z.Warmed39 s.vm) {own : String} {j : Nat} {v : Int32} (hown : s.vm.findClass own = some m.cls) (w : (Jvm.Cond.constant own j v).before a0 Z = true) (hd : decode c.code pc = .ok (.ldc j, 2)) (hp : pc + 2 = pc') 
    (k : Goes p e below G (T.setTop (mkF m pc' Ls (.int v :: st)))) : Goes p e below G (T.setTop (mkF m pc Ls (st))) := by
  subst hp
  exact own_go (fun _ k => X.ldcInt hx hown (mvT hZ w) (g := mkF m pc Ls st) rfl hd _ k) k
theorem s_ldcJ (X : Stand p l e R s m args below meth c T locs cells slots) (hx : p.tables.exec = Jvm.exec) {pc pc' : Nat} {Ls : Array Slot} {st : List Value} (hZ : Z.Warmed39 s.vm) {own : String} {j : Nat} {v : Int64} (hown : s.vm.findClass own = some m.cls) (w : (Jvm.Cond.constantLong own j v).before a0 Z = true) (hd : decode c.code pc = .ok (.ldc2_w j, 3)) (hp : pc + 3 = pc') 
    (k : Goes p e below G (T.setTop (mkF m pc' Ls (.long v :: st)))) : Goes p e below G (T.setTop (mkF m pc Ls (st))) := by
  subst hp
  exact own_go (fun _ k => X.ldc2Long hx hown (mvT hZ w) (g := mkF m pc Ls st) rfl hd _ k) k
theorem s_ldcD (X : Stand p l e R s m args below meth c T locs cells slots) (hx : p.tables.exec = Jvm.exec) {pc pc' : Nat} {Ls : Array Slot} {st : List Value} (hZ : Z.Warmed39 s.vm) {own : String} {j : Nat} {v : UInt64} (hown : s.vm.findClass own = some m.cls) (w : (Jvm.Cond.constantDouble own j v).before a0 Z = true) (hd : decode c.code pc = .ok (.ldc2_w j, 3)) (hp : pc + 3 = pc') 
    (k : Goes p e below G (T.setTop (mkF m pc' Ls (.double v :: st)))) : Goes p e below G (T.setTop (mkF m pc Ls (st))) := by
  subst hp
  exact own_go (fun _ k => X.ldc2DoubleC hx hown (mvT hZ w) (g := mkF m pc Ls st) rfl hd _ k) k
theorem s_iadd (X : Stand p l e R s m args below meth c T locs cells slots) (hx : p.tables.exec = Jvm.exec) {pc pc' : Nat} {Ls : Array Slot} {st : List Value} {x y : Int32} (hd : decode c.code pc = .ok (.iadd, 1)) (hp : pc + 1 = pc') 
    (k : Goes p e below G (T.setTop (mkF m pc' Ls (.int (x + y) :: st)))) : Goes p e below G (T.setTop (mkF m pc Ls (.int y :: .int x :: st))) := by
  subst hp
  exact own_go (fun _ k => XS.iadd X.here hx rfl hd rfl k) k
theorem s_isub (X : Stand p l e R s m args below meth c T locs cells slots) (hx : p.tables.exec = Jvm.exec) {pc pc' : Nat} {Ls : Array Slot} {st : List Value} {x y : Int32} (hd : decode c.code pc = .ok (.isub, 1)) (hp : pc + 1 = pc') 
    (k : Goes p e below G (T.setTop (mkF m pc' Ls (.int (x - y) :: st)))) : Goes p e below G (T.setTop (mkF m pc Ls (.int y :: .int x :: st))) := by
  subst hp
  exact own_go (fun _ k => XS.isub X.here hx rfl hd rfl k) k
theorem s_imul (X : Stand p l e R s m args below meth c T locs cells slots) (hx : p.tables.exec = Jvm.exec) {pc pc' : Nat} {Ls : Array Slot} {st : List Value} {x y : Int32} (hd : decode c.code pc = .ok (.imul, 1)) (hp : pc + 1 = pc') 
    (k : Goes p e below G (T.setTop (mkF m pc' Ls (.int (x * y) :: st)))) : Goes p e below G (T.setTop (mkF m pc Ls (.int y :: .int x :: st))) := by
  subst hp
  exact own_go (fun _ k => XS.imul X.here hx rfl hd rfl k) k
theorem s_iand (X : Stand p l e R s m args below meth c T locs cells slots) (hx : p.tables.exec = Jvm.exec) {pc pc' : Nat} {Ls : Array Slot} {st : List Value} {x y : Int32} (hd : decode c.code pc = .ok (.iand, 1)) (hp : pc + 1 = pc') 
    (k : Goes p e below G (T.setTop (mkF m pc' Ls (.int (x &&& y) :: st)))) : Goes p e below G (T.setTop (mkF m pc Ls (.int y :: .int x :: st))) := by
  subst hp
  exact own_go (fun _ k => XS.iand X.here hx rfl hd rfl k) k
theorem s_ixor (X : Stand p l e R s m args below meth c T locs cells slots) (hx : p.tables.exec = Jvm.exec) {pc pc' : Nat} {Ls : Array Slot} {st : List Value} {x y : Int32} (hd : decode c.code pc = .ok (.ixor, 1)) (hp : pc + 1 = pc') 
    (k : Goes p e below G (T.setTop (mkF m pc' Ls (.int (x ^^^ y) :: st)))) : Goes p e below G (T.setTop (mkF m pc Ls (.int y :: .int x :: st))) := by
  subst hp
  exact own_go (fun _ k => XT.ixor X.here hx rfl hd rfl k) k
theorem s_ior (X : Stand p l e R s m args below meth c T locs cells slots) (hx : p.tables.exec = Jvm.exec) {pc pc' : Nat} {Ls : Array Slot} {st : List Value} {x y : Int32} (hd : decode c.code pc = .ok (.ior, 1)) (hp : pc + 1 = pc') 
    (k : Goes p e below G (T.setTop (mkF m pc' Ls (.int (x ||| y) :: st)))) : Goes p e below G (T.setTop (mkF m pc Ls (.int y :: .int x :: st))) := by
  subst hp
  exact own_go (fun _ k => XT.ior X.here hx rfl hd rfl k) k
theorem s_ishl (X : Stand p l e R s m args below meth c T locs cells slots) (hx : p.tables.exec = Jvm.exec) {pc pc' : Nat} {Ls : Array Slot} {st : List Value} {x y : Int32} (hd : decode c.code pc = .ok (.ishl, 1)) (hp : pc + 1 = pc') 
    (k : Goes p e below G (T.setTop (mkF m pc' Ls (.int (x <<< (y &&& 31)) :: st)))) : Goes p e below G (T.setTop (mkF m pc Ls (.int y :: .int x :: st))) := by
  subst hp
  exact own_go (fun _ k => XT.ishl X.here hx rfl hd rfl k) k
theorem s_ishr (X : Stand p l e R s m args below meth c T locs cells slots) (hx : p.tables.exec = Jvm.exec) {pc pc' : Nat} {Ls : Array Slot} {st : List Value} {x y : Int32} (hd : decode c.code pc = .ok (.ishr, 1)) (hp : pc + 1 = pc') 
    (k : Goes p e below G (T.setTop (mkF m pc' Ls (.int (x >>> (y &&& 31)) :: st)))) : Goes p e below G (T.setTop (mkF m pc Ls (.int y :: .int x :: st))) := by
  subst hp
  exact own_go (fun _ k => XT.ishr X.here hx rfl hd rfl k) k
theorem s_iushr (X : Stand p l e R s m args below meth c T locs cells slots) (hx : p.tables.exec = Jvm.exec) {pc pc' : Nat} {Ls : Array Slot} {st : List Value} {x y : Int32} (hd : decode c.code pc = .ok (.iushr, 1)) (hp : pc + 1 = pc') 
    (k : Goes p e below G (T.setTop (mkF m pc' Ls (.int (XT.ushr x y) :: st)))) : Goes p e below G (T.setTop (mkF m pc Ls (.int y :: .int x :: st))) := by
  subst hp
  exact own_go (fun _ k => XT.iushr X.here hx rfl hd rfl k) k
theorem s_irem (X : Stand p l e R s m args below meth c T locs cells slots) (hx : p.tables.exec = Jvm.exec) {pc pc' : Nat} {Ls : Array Slot} {st : List Value} {x y : Int32} (hd : decode c.code pc = .ok (.irem, 1)) (hp : pc + 1 = pc') (hy : y ≠ 0)
    (k : Goes p e below G (T.setTop (mkF m pc' Ls (.int (x % y) :: st)))) : Goes p e below G (T.setTop (mkF m pc Ls (.int y :: .int x :: st))) := by
  subst hp
  exact own_go (fun _ k => iremM X hx rfl hd rfl hy k) k
theorem s_ineg (X : Stand p l e R s m args below meth c T locs cells slots) (hx : p.tables.exec = Jvm.exec) {pc pc' : Nat} {Ls : Array Slot} {st : List Value} {x : Int32} (hd : decode c.code pc = .ok (.ineg, 1)) (hp : pc + 1 = pc') 
    (k : Goes p e below G (T.setTop (mkF m pc' Ls (.int (-x) :: st)))) : Goes p e below G (T.setTop (mkF m pc Ls (.int x :: st))) := by
  subst hp
  exact own_go (fun _ k => XS.ineg X.here hx rfl hd rfl k) k
theorem s_ladd (X : Stand p l e R s m args below meth c T locs cells slots) (hx : p.tables.exec = Jvm.exec) {pc pc' : Nat} {Ls : Array Slot} {st : List Value} {x y : Int64} (hd : decode c.code pc = .ok (.ladd, 1)) (hp : pc + 1 = pc') 
    (k : Goes p e below G (T.setTop (mkF m pc' Ls (.long (x + y) :: st)))) : Goes p e below G (T.setTop (mkF m pc Ls (.long y :: .long x :: st))) := by
  subst hp
  exact own_go (fun _ k => XT.ladd X.here hx rfl hd rfl k) k
theorem s_lsub (X : Stand p l e R s m args below meth c T locs cells slots) (hx : p.tables.exec = Jvm.exec) {pc pc' : Nat} {Ls : Array Slot} {st : List Value} {x y : Int64} (hd : decode c.code pc = .ok (.lsub, 1)) (hp : pc + 1 = pc') 
    (k : Goes p e below G (T.setTop (mkF m pc' Ls (.long (x - y) :: st)))) : Goes p e below G (T.setTop (mkF m pc Ls (.long y :: .long x :: st))) := by
  subst hp
  exact own_go (fun _ k => XT.lsub X.here hx rfl hd rfl k) k
theorem s_lmul (X : Stand p l e R s m args below meth c T locs cells slots) (hx : p.tables.exec = Jvm.exec) {pc pc' : Nat} {Ls : Array Slot} {st : List Value} {x y : Int64} (hd : decode c.code pc = .ok (.lmul, 1)) (hp : pc + 1 = pc') 
    (k : Goes p e below G (T.setTop (mkF m pc' Ls (.long (x * y) :: st)))) : Goes p e below G (T.setTop (mkF m pc Ls (.long y :: .long x :: st))) := by
  subst hp
  exact own_go (fun _ k => XT.lmul X.here hx rfl hd rfl k) k
theorem s_land (X : Stand p l e R s m args below meth c T locs cells slots) (hx : p.tables.exec = Jvm.exec) {pc pc' : Nat} {Ls : Array Slot} {st : List Value} {x y : Int64} (hd : decode c.code pc = .ok (.land, 1)) (hp : pc + 1 = pc') 
    (k : Goes p e below G (T.setTop (mkF m pc' Ls (.long (x &&& y) :: st)))) : Goes p e below G (T.setTop (mkF m pc Ls (.long y :: .long x :: st))) := by
  subst hp
  exact own_go (fun _ k => XT.land X.here hx rfl hd rfl k) k
theorem s_lor (X : Stand p l e R s m args below meth c T locs cells slots) (hx : p.tables.exec = Jvm.exec) {pc pc' : Nat} {Ls : Array Slot} {st : List Value} {x y : Int64} (hd : decode c.code pc = .ok (.lor, 1)) (hp : pc + 1 = pc') 
    (k : Goes p e below G (T.setTop (mkF m pc' Ls (.long (x ||| y) :: st)))) : Goes p e below G (T.setTop (mkF m pc Ls (.long y :: .long x :: st))) := by
  subst hp
  exact own_go (fun _ k => XT.lor X.here hx rfl hd rfl k) k
theorem s_lxor (X : Stand p l e R s m args below meth c T locs cells slots) (hx : p.tables.exec = Jvm.exec) {pc pc' : Nat} {Ls : Array Slot} {st : List Value} {x y : Int64} (hd : decode c.code pc = .ok (.lxor, 1)) (hp : pc + 1 = pc') 
    (k : Goes p e below G (T.setTop (mkF m pc' Ls (.long (x ^^^ y) :: st)))) : Goes p e below G (T.setTop (mkF m pc Ls (.long y :: .long x :: st))) := by
  subst hp
  exact own_go (fun _ k => XT.lxor X.here hx rfl hd rfl k) k
theorem s_lshl (X : Stand p l e R s m args below meth c T locs cells slots) (hx : p.tables.exec = Jvm.exec) {pc pc' : Nat} {Ls : Array Slot} {st : List Value} {x : Int64} {y : Int32} (hd : decode c.code pc = .ok (.lshl, 1)) (hp : pc + 1 = pc') 
    (k : Goes p e below G (T.setTop (mkF m pc' Ls (.long (x <<< (y.toInt64 &&& 63)) :: st)))) : Goes p e below G (T.setTop (mkF m pc Ls (.int y :: .long x :: st))) := by
  subst hp
  exact own_go (fun _ k => XT.lshl X.here hx rfl hd rfl k) k
theorem s_lshr (X : Stand p l e R s m args below meth c T locs cells slots) (hx : p.tables.exec = Jvm.exec) {pc pc' : Nat} {Ls : Array Slot} {st : List Value} {x : Int64} {y : Int32} (hd : decode c.code pc = .ok (.lshr, 1)) (hp : pc + 1 = pc') 
    (k : Goes p e below G (T.setTop (mkF m pc' Ls (.long (x >>> (y.toInt64 &&& 63)) :: st)))) : Goes p e below G (T.setTop (mkF m pc Ls (.int y :: .long x :: st))) := by
  subst hp
  exact own_go (fun _ k => XT.lshr X.here hx rfl hd rfl k) k
theorem s_lushr (X : Stand p l e R s m args below meth c T locs cells slots) (hx : p.tables.exec = Jvm.exec) {pc pc' : Nat} {Ls : Array Slot} {st : List Value} {x : Int64} {y : Int32} (hd : decode c.code pc = .ok (.lushr, 1)) (hp : pc + 1 = pc') 
    (k : Goes p e below G (T.setTop (mkF m pc' Ls (.long (XT.ushrL x y) :: st)))) : Goes p e below G (T.setTop (mkF m pc Ls (.int y :: .long x :: st))) := by
  subst hp
  exact own_go (fun _ k => XT.lushr X.here hx rfl hd rfl k) k
theorem s_i2l (X : Stand p l e R s m args below meth c T locs cells slots) (hx : p.tables.exec = Jvm.exec) {pc pc' : Nat} {Ls : Array Slot} {st : List Value} {x : Int32} (hd : decode c.code pc = .ok (.i2l, 1)) (hp : pc + 1 = pc') 
    (k : Goes p e below G (T.setTop (mkF m pc' Ls ((.long x.toInt64) :: st)))) : Goes p e below G (T.setTop (mkF m pc Ls (.int x :: st))) := by
  subst hp
  exact own_go (fun _ k => XT.i2l X.here hx rfl hd rfl k) k
theorem s_i2b (X : Stand p l e R s m args below meth c T locs cells slots) (hx : p.tables.exec = Jvm.exec) {pc pc' : Nat} {Ls : Array Slot} {st : List Value} {x : Int32} (hd : decode c.code pc = .ok (.i2b, 1)) (hp : pc + 1 = pc') 
    (k : Goes p e below G (T.setTop (mkF m pc' Ls ((.int x.toInt8.toInt32) :: st)))) : Goes p e below G (T.setTop (mkF m pc Ls (.int x :: st))) := by
  subst hp
  exact own_go (fun _ k => XT.i2b X.here hx rfl hd rfl k) k
theorem s_l2i (X : Stand p l e R s m args below meth c T locs cells slots) (hx : p.tables.exec = Jvm.exec) {pc pc' : Nat} {Ls : Array Slot} {st : List Value} {x : Int64} (hd : decode c.code pc = .ok (.l2i, 1)) (hp : pc + 1 = pc') 
    (k : Goes p e below G (T.setTop (mkF m pc' Ls (.int x.toInt32 :: st)))) : Goes p e below G (T.setTop (mkF m pc Ls (.long x :: st))) := by
  subst hp
  exact own_go (fun _ k => XT.l2i X.here hx rfl hd rfl k) k
theorem s_i2d (X : Stand p l e R s m args below meth c T locs cells slots) (hx : p.tables.exec = Jvm.exec) {pc pc' : Nat} {Ls : Array Slot} {st : List Value} {x : Int32} (hd : decode c.code pc = .ok (.i2d, 1)) (hp : pc + 1 = pc') 
    (k : Goes p e below G (T.setTop (mkF m pc' Ls (.double (FP.i2d x) :: st)))) : Goes p e below G (T.setTop (mkF m pc Ls (.int x :: st))) := by
  subst hp
  exact own_go (fun _ k => XS.i2dS X.here hx rfl hd rfl rfl k) k
theorem s_l2d (X : Stand p l e R s m args below meth c T locs cells slots) (hx : p.tables.exec = Jvm.exec) {pc pc' : Nat} {Ls : Array Slot} {st : List Value} {x : Int64} (hd : decode c.code pc = .ok (.l2d, 1)) (hp : pc + 1 = pc') 
    (k : Goes p e below G (T.setTop (mkF m pc' Ls (.double (FP.l2d x) :: st)))) : Goes p e below G (T.setTop (mkF m pc Ls (.long x :: st))) := by
  subst hp
  exact own_go (fun _ k => XS.l2dS X.here hx rfl hd rfl rfl k) k
theorem s_dneg (X : Stand p l e R s m args below meth c T locs cells slots) (hx : p.tables.exec = Jvm.exec) {pc pc' : Nat} {Ls : Array Slot} {st : List Value} {x : UInt64} (hd : decode c.code pc = .ok (.dneg, 1)) (hp : pc + 1 = pc') 
    (k : Goes p e below G (T.setTop (mkF m pc' Ls (.double (FP.dneg x) :: st)))) : Goes p e below G (T.setTop (mkF m pc Ls (.double x :: st))) := by
  subst hp
  exact own_go (fun _ k => XS.dnegS X.here hx rfl hd rfl rfl k) k
theorem s_dadd (X : Stand p l e R s m args below meth c T locs cells slots) (hx : p.tables.exec = Jvm.exec) {pc pc' : Nat} {Ls : Array Slot} {st : List Value} {x y : UInt64} (v : UInt64) (hd : decode c.code pc = .ok (.dadd, 1)) (hp : pc + 1 = pc') (hn : NoNaN64 (FP.dadd x y)) (hv : FP.dadd x y = v)
    (k : Goes p e below G (T.setTop (mkF m pc' Ls (.double v :: st)))) : Goes p e below G (T.setTop (mkF m pc Ls (.double y :: .double x :: st))) := by
  subst hp
  exact own_go (fun _ k => XS.daddS X.here hx rfl hd rfl hn hv k) k
theorem s_dsub (X : Stand p l e R s m args below meth c T locs cells slots) (hx : p.tables.exec = Jvm.exec) {pc pc' : Nat} {Ls : Array Slot} {st : List Value} {x y : UInt64} (v : UInt64) (hd : decode c.code pc = .ok (.dsub, 1)) (hp : pc + 1 = pc') (hn : NoNaN64 (FP.dsub x y)) (hv : FP.dsub x y = v)
    (k : Goes p e below G (T.setTop (mkF m pc' Ls (.double v :: st)))) : Goes p e below G (T.setTop (mkF m pc Ls (.double y :: .double x :: st))) := by
  subst hp
  exact own_go (fun _ k => XS.dsubS X.here hx rfl hd rfl hn hv k) k
theorem s_dmul (X : Stand p l e R s m args below meth c T locs cells slots) (hx : p.tables.exec = Jvm.exec) {pc pc' : Nat} {Ls : Array Slot} {st : List Value} {x y : UInt64} (v : UInt64) (hd : decode c.code pc = .ok (.dmul, 1)) (hp : pc + 1 = pc') (hn : NoNaN64 (FP.dmul x y)) (hv : FP.dmul x y = v)
    (k : Goes p e below G (T.setTop (mkF m pc' Ls (.double v :: st)))) : Goes p e below G (T.setTop (mkF m pc Ls (.double y :: .double x :: st))) := by
  subst hp
  exact own_go (fun _ k => XS.dmulS X.here hx rfl hd rfl hn hv k) k
theorem s_ddiv (X : Stand p l e R s m args below meth c T locs cells slots) (hx : p.tables.exec = Jvm.exec) {pc pc' : Nat} {Ls : Array Slot} {st : List Value} {x y : UInt64} (v : UInt64) (hd : decode c.code pc = .ok (.ddiv, 1)) (hp : pc + 1 = pc') (hn : NoNaN64 (FP.ddiv x y)) (hv : FP.ddiv x y = v)
    (k : Goes p e below G (T.setTop (mkF m pc' Ls (.double v :: st)))) : Goes p e below G (T.setTop (mkF m pc Ls (.double y :: .double x :: st))) := by
  subst hp
  exact own_go (fun _ k => XS.ddivS X.here hx rfl hd rfl hn hv k) k
theorem s_lcmp (X : Stand p l e R s m args below meth c T locs cells slots) (hx : p.tables.exec = Jvm.exec) {pc pc' : Nat} {Ls : Array Slot} {st : List Value} {x y : Int64} (hd : decode c.code pc = .ok (.lcmp, 1)) (hp : pc + 1 = pc') 
    (k : Goes p e below G (T.setTop (mkF m pc' Ls (.int (XT.cmpL x y) :: st)))) : Goes p e below G (T.setTop (mkF m pc Ls (.long y :: .long x :: st))) := by
  subst hp
  exact own_go (fun _ k => XT.lcmp X.here hx rfl hd rfl k) k
theorem s_dcmp (X : Stand p l e R s m args below meth c T locs cells slots) (hx : p.tables.exec = Jvm.exec) {pc pc' : Nat} {Ls : Array Slot} {st : List Value} {x y : UInt64} {o : CmpOp} (v : Int32) (hd : decode c.code pc = .ok (.dcmp o, 1)) (hp : pc + 1 = pc') (hv : cmpValue (FP.dcmp x y) o = v)
    (k : Goes p e below G (T.setTop (mkF m pc' Ls (.int v :: st)))) : Goes p e below G (T.setTop (mkF m pc Ls (.double y :: .double x :: st))) := by
  subst hp
  exact own_go (fun _ k => XS.dcmpS X.here hx rfl hd rfl hv k) k
theorem s_dup (X : Stand p l e R s m args below meth c T locs cells slots) (hx : p.tables.exec = Jvm.exec) {pc pc' : Nat} {Ls : Array Slot} {st : List Value} {x : Value} (hd : decode c.code pc = .ok (.dup, 1)) (hp : pc + 1 = pc') (hc : x.category = 1)
    (k : Goes p e below G (T.setTop (mkF m pc' Ls (x :: x :: st)))) : Goes p e below G (T.setTop (mkF m pc Ls (x :: st))) := by
  subst hp
  exact own_go (fun _ k => XS.dup X.here hx rfl hd rfl hc k) k
theorem s_pop (X : Stand p l e R s m args below meth c T locs cells slots) (hx : p.tables.exec = Jvm.exec) {pc pc' : Nat} {Ls : Array Slot} {st : List Value} {x : Value} (hd : decode c.code pc = .ok (.pop, 1)) (hp : pc + 1 = pc') (hc : x.category = 1)
    (k : Goes p e below G (T.setTop (mkF m pc' Ls (st)))) : Goes p e below G (T.setTop (mkF m pc Ls (x :: st))) := by
  subst hp
  exact own_go (fun _ k => XT.pop X.here hx rfl hd rfl hc k) k
theorem s_pop2D (X : Stand p l e R s m args below meth c T locs cells slots) (hx : p.tables.exec = Jvm.exec) {pc pc' : Nat} {Ls : Array Slot} {st : List Value} {x : UInt64} (hd : decode c.code pc = .ok (.pop2, 1)) (hp : pc + 1 = pc')
    (k : Goes p e below G (T.setTop (mkF m pc' Ls st))) : Goes p e below G (T.setTop (mkF m pc Ls (.double x :: st))) := by
  subst hp
  refine own_go (fun _ k => ?_) k
  jvm_step X.here [X.here.top, hx, hd, Value.category]
  exact k
theorem s_dup2 (X : Stand p l e R s m args below meth c T locs cells slots) (hx : p.tables.exec = Jvm.exec) {pc pc' : Nat} {Ls : Array Slot} {st : List Value} {x y : Value} (hd : decode c.code pc = .ok (.dup2, 1)) (hp : pc + 1 = pc') (hc : x.category = 1) (hc' : y.category = 1)
    (k : Goes p e below G (T.setTop (mkF m pc' Ls (x :: y :: x :: y :: st)))) : Goes p e below G (T.setTop (mkF m pc Ls (x :: y :: st))) := by
  subst hp
  exact own_go (fun _ k => XT.dup2 X.here hx rfl hd rfl hc hc' k) k
theorem s_iinc (X : Stand p l e R s m args below meth c T locs cells slots) (hx : p.tables.exec = Jvm.exec) {pc pc' : Nat} {Ls : Array Slot} {st : List Value} {j : Nat} {i : Int} {x : Int32} (v : Int32) (l' : Array Slot) (hd : decode c.code pc = .ok (.iinc j i, 3)) (hp : pc + 3 = pc') (hl : Ls[j]? = some (.val (.int x))) (hv : x + Int32.ofInt i = v) (hl' : storeLocals Ls j (.int v) = some l')
    (k : Goes p e below G (T.setTop (mkF m pc' l' (st)))) : Goes p e below G (T.setTop (mkF m pc Ls (st))) := by
  subst hp
  exact own_go (fun _ k => XS.iinc X.here hx rfl hd hl (by rw [hv]; exact hl') k) k
theorem s_goto (X : Stand p l e R s m args below meth c T locs cells slots) (hx : p.tables.exec = Jvm.exec) {pc pc' : Nat} {Ls : Array Slot} {st : List Value}  {o : Int} (hd : decode c.code pc = .ok (.goto o, 3))  (ho : 0 ≤ (pc : Int) + o) (hp : ((pc : Int) + o).toNat = pc')
    (k : Goes p e below G (T.setTop (mkF m pc' Ls (st)))) : Goes p e below G (T.setTop (mkF m pc Ls (st))) := own_go (fun _ k => XS.goto X.here hx rfl rfl hd ho hp k) k
theorem s_ifY (X : Stand p l e R s m args below meth c T locs cells slots) (hx : p.tables.exec = Jvm.exec) {pc pc' : Nat} {Ls : Array Slot} {st : List Value} {cd : ClassFile.Cond} {x : Int32} {o : Int} (hd : decode c.code pc = .ok (.ifCond cd o, 3)) (hc : ifCond.holds cd x = true) (ho : 0 ≤ (pc : Int) + o) (hp : ((pc : Int) + o).toNat = pc')
    (k : Goes p e below G (T.setTop (mkF m pc' Ls (st)))) : Goes p e below G (T.setTop (mkF m pc Ls (.int x :: st))) := own_go (fun _ k => XS.ifYes X.here hx rfl rfl hd rfl hc ho hp k) k
theorem s_icmpY (X : Stand p l e R s m args below meth c T locs cells slots) (hx : p.tables.exec = Jvm.exec) {pc pc' : Nat} {Ls : Array Slot} {st : List Value} {cd : ClassFile.Cond} {x y : Int32} {o : Int} (hd : decode c.code pc = .ok (.if_icmp cd o, 3)) (hc : if_icmp.holds cd x y = true) (ho : 0 ≤ (pc : Int) + o) (hp : ((pc : Int) + o).toNat = pc')
    (k : Goes p e below G (T.setTop (mkF m pc' Ls (st)))) : Goes p e below G (T.setTop (mkF m pc Ls (.int y :: .int x :: st))) := own_go (fun _ k => XS.icmpYes X.here hx rfl rfl hd rfl hc ho hp k) k
theorem s_acmpY (X : Stand p l e R s m args below meth c T locs cells slots) (hx : p.tables.exec = Jvm.exec) {pc pc' : Nat} {Ls : Array Slot} {st : List Value} {cd : ClassFile.ACond} {x y : Value} {o : Int} (hd : decode c.code pc = .ok (.if_acmp cd o, 3)) (h1 : x.isRef = true) (h2 : y.isRef = true) (hc : XT.acmp cd x y = true) (ho : 0 ≤ (pc : Int) + o) (hp : ((pc : Int) + o).toNat = pc')
    (k : Goes p e below G (T.setTop (mkF m pc' Ls (st)))) : Goes p e below G (T.setTop (mkF m pc Ls (y :: x :: st))) := own_go (fun _ k => XT.acmpYes X.here hx rfl rfl hd rfl h1 h2 hc ho hp k) k
theorem s_nonnullY (X : Stand p l e R s m args below meth c T locs cells slots) (hx : p.tables.exec = Jvm.exec) {pc pc' : Nat} {Ls : Array Slot} {st : List Value} {b : Addr} {o : Int} (hd : decode c.code pc = .ok (.ifnonnull o, 3))  (ho : 0 ≤ (pc : Int) + o) (hp : ((pc : Int) + o).toNat = pc')
    (k : Goes p e below G (T.setTop (mkF m pc' Ls (st)))) : Goes p e below G (T.setTop (mkF m pc Ls (.ref b :: st))) := own_go (fun _ k => XT.ifnonnullYes X.here hx rfl rfl hd rfl ho hp k) k
theorem s_ifN (X : Stand p l e R s m args below meth c T locs cells slots) (hx : p.tables.exec = Jvm.exec) {pc pc' : Nat} {Ls : Array Slot} {st : List Value} {cd : ClassFile.Cond} {x : Int32} {o : Int} (hd : decode c.code pc = .ok (.ifCond cd o, 3)) (hp : pc + 3 = pc') (hc : ifCond.holds cd x = false)
    (k : Goes p e below G (T.setTop (mkF m pc' Ls (st)))) : Goes p e below G (T.setTop (mkF m pc Ls (.int x :: st))) := by
  subst hp
  exact own_go (fun _ k => XS.ifNo X.here hx rfl hd rfl hc k) k
theorem s_icmpN (X : Stand p l e R s m args below meth c T locs cells slots) (hx : p.tables.exec = Jvm.exec) {pc pc' : Nat} {Ls : Array Slot} {st : List Value} {cd : ClassFile.Cond} {x y : Int32} {o : Int} (hd : decode c.code pc = .ok (.if_icmp cd o, 3)) (hp : pc + 3 = pc') (hc : if_icmp.holds cd x y = false)
    (k : Goes p e below G (T.setTop (mkF m pc' Ls (st)))) : Goes p e below G (T.setTop (mkF m pc Ls (.int y :: .int x :: st))) := by
  subst hp
  exact own_go (fun _ k => XS.icmpNo X.here hx rfl hd rfl hc k) k
theorem s_acmpN (X : Stand p l e R s m args below meth c T locs cells slots) (hx : p.tables.exec = Jvm.exec) {pc pc' : Nat} {Ls : Array Slot} {st : List Value} {cd : ClassFile.ACond} {x y : Value} {o : Int} (hd : decode c.code pc = .ok (.if_acmp cd o, 3)) (hp : pc + 3 = pc') (h1 : x.isRef = true) (h2 : y.isRef = true) (hc : XT.acmp cd x y = false)
    (k : Goes p e below G (T.setTop (mkF m pc' Ls (st)))) : Goes p e below G (T.setTop (mkF m pc Ls (y :: x :: st))) := by
  subst hp
  exact own_go (fun _ k => XT.acmpNo X.here hx rfl hd rfl h1 h2 hc k) k
theorem s_nullN (X : Stand p l e R s m args below meth c T locs cells slots) (hx : p.tables.exec = Jvm.exec) {pc pc' : Nat} {Ls : Array Slot} {st : List Value} {b : Addr} {o : Int} (hd : decode c.code pc = .ok (.ifnull o, 3)) (hp : pc + 3 = pc') 
    (k : Goes p e below G (T.setTop (mkF m pc' Ls (st)))) : Goes p e below G (T.setTop (mkF m pc Ls (.ref b :: st))) := by
  subst hp
  exact own_go (fun _ k => XS.ifnullNo X.here hx rfl hd rfl k) k
end Own
theorem iy_lt {x : Int32} (h : x < 0) : ifCond.holds .lt x = true := by rw [if0]; exact (tlt h).1
theorem in_lt {x : Int32} (h : ¬ x < 0) : ifCond.holds .lt x = false := by rw [if0]; exact (flt h).1
theorem iy_ge {x : Int32} (h : ¬ x < 0) : ifCond.holds .ge x = true := by rw [if0]; exact (flt h).2.1
theorem in_ge {x : Int32} (h : x < 0) : ifCond.holds .ge x = false := by rw [if0]; exact (tlt h).2.1
theorem iy_gt {x : Int32} (h : 0 < x) : ifCond.holds .gt x = true := by rw [if0]; exact (tlt h).2.2.1
theorem in_gt {x : Int32} (h : ¬ 0 < x) : ifCond.holds .gt x = false := by rw [if0]; exact (flt h).2.2.1
theorem iy_le {x : Int32} (h : ¬ 0 < x) : ifCond.holds .le x = true := by rw [if0]; exact (flt h).2.2.2
theorem in_le {x : Int32} (h : 0 < x) : ifCond.holds .le x = false := by rw [if0]; exact (tlt h).2.2.2
theorem iy_eq {x : Int32} (h : x = 0) : ifCond.holds .eq x = true := by rw [if0]; exact (teq h).1
theorem in_eq {x : Int32} (h : ¬ x = 0) : ifCond.holds .eq x = false := by rw [if0]; exact (feq h).1
theorem iy_ne {x : Int32} (h : ¬ x = 0) : ifCond.holds .ne x = true := by rw [if0]; exact (feq h).2
theorem in_ne {x : Int32} (h : x = 0) : ifCond.holds .ne x = false := by rw [if0]; exact (teq h).2
theorem cy_lt {x y : Int32} (h : x < y) : if_icmp.holds .lt x y = true := (tlt h).1
theorem cn_lt {x y : Int32} (h : ¬ x < y) : if_icmp.holds .lt x y = false := (flt h).1
theorem cy_ge {x y : Int32} (h : ¬ x < y) : if_icmp.holds .ge x y = true := (flt h).2.1
theorem cn_ge {x y : Int32} (h : x < y) : if_icmp.holds .ge x y = false := (tlt h).2.1
theorem cy_gt {x y : Int32} (h : y < x) : if_icmp.holds .gt x y = true := (tlt h).2.2.1
theorem cn_gt {x y : Int32} (h : ¬ y < x) : if_icmp.holds .gt x y = false := (flt h).2.2.1
theorem cy_le {x y : Int32} (h : ¬ y < x) : if_icmp.holds .le x y = true := (flt h).2.2.2
theorem cn_le {x y : Int32} (h : y < x) : if_icmp.holds .le x y = false := (tlt h).2.2.2
theorem cy_eq {x y : Int32} (h : x = y) : if_icmp.holds .eq x y = true := (teq h).1
theorem cn_eq {x y : Int32} (h : ¬ x = y) : if_icmp.holds .eq x y = false := (feq h).1
theorem cy_ne {x y : Int32} (h : ¬ x = y) : if_icmp.holds .ne x y = true := (feq h).2
theorem cn_ne {x y : Int32} (h : x = y) : if_icmp.holds .ne x y = false := (teq h).2
section OwnFl
open Jvm.FP
theorem own_ratio {i j : Int} {a b : UInt64} (ha : Core.DInt i a) (hb : Core.DInt j b) (hj : j ≠ 0) :
    ∃ sg : Bool, (i ≠ 0 → sg = (decide (i < 0) != decide (j < 0))) ∧ Core.val64 (FP.ddiv a b) = Core.roundRatio Core.b64 sg i.natAbs j.natAbs 0 := by
  unfold Core.DInt at ha hb
  have e := Core.val64_ddiv a b
  cases va : Core.val64 a with
  | nan => rw [va] at ha; exact ha.elim
  | inf s => rw [va] at ha; exact ha.elim
  | fin s c q =>
    cases vb : Core.val64 b with
    | nan => rw [vb] at hb; exact hb.elim
    | inf t => rw [vb] at hb; exact hb.elim
    | fin t d r =>
      rw [va] at ha; rw [vb] at hb
      have hd : d ≠ 0 := fun q => hj ((Core.whole_zero hb).mp q)
      have e1 := Core.whole_natAbs ha
      have e2 := Core.whole_natAbs hb
      refine ⟨(s != t), fun hi => by rw [Core.whole_sign ha hi, Core.whole_sign hb hj], ?_⟩
      show Core.val64 (Core.ddiv a b) = _
      rw [e, va, vb]
      show (if d = 0 then _ else Core.roundRatio Core.b64 (s != t) c d (q - r)) = _
      rw [if_neg hd]
      refine Core.roundRatio_congr (by omega) (by omega) ?_
      obtain ⟨m, hu, hv⟩ : ∃ m, q.toNat + (-r).toNat = (q - r).toNat + m ∧ (-q).toNat + r.toNat = (r - q).toNat + m := ⟨(q.toNat + (-r).toNat) - (q - r).toNat, by omega, by omega⟩
      have key : c * j.natAbs * 2 ^ (q.toNat + (-r).toNat) = i.natAbs * d * 2 ^ ((-q).toNat + r.toNat) := by
        rw [Nat.pow_add, Nat.pow_add]
        calc c * j.natAbs * (2 ^ q.toNat * 2 ^ (-r).toNat) = (c * 2 ^ q.toNat) * (j.natAbs * 2 ^ (-r).toNat) := by ac_rfl
          _ = (i.natAbs * 2 ^ (-q).toNat) * (d * 2 ^ r.toNat) := by rw [e1, ← e2]
          _ = _ := by ac_rfl
      rw [hu, hv, Nat.pow_add, Nat.pow_add, ← Nat.mul_assoc, ← Nat.mul_assoc] at key
      have k2 := Nat.eq_of_mul_eq_mul_right (Nat.two_pow_pos m) key
      rw [show (q - r - 0) = q - r by omega, show (0 - (q - r)) = r - q by omega]
      exact k2
theorem own_ddiv_int {q j : Int} {a b : UInt64} (ha : Core.DInt (q * j) a) (hb : Core.DInt j b) (hj : j ≠ 0) (hq : q.natAbs ≤ 2 ^ 53) : Core.DInt q (FP.ddiv a b) := by
  obtain ⟨sg, h1, h2⟩ := own_ratio ha hb hj
  unfold Core.DInt
  rw [h2, Core.roundRatio_congr (A' := q.natAbs) (B' := 1) (e' := 0) (by omega) (by omega) (by rw [Int.natAbs_mul]; simp)]
  refine Core.whole_round Core.good_b64 Core.wide_b64 (d := .fin sg q.natAbs 0) hq ?_
  show Core.signed sg (q.natAbs * 1) = q * ((1 : Nat) : Int)
  rw [Nat.mul_one]
  by_cases hz : q = 0
  · subst hz; cases sg <;> rfl
  · have hs := h1 (fun z => (Int.mul_eq_zero.mp z).elim hz hj)
    have : sg = decide (q < 0) := by
      rw [hs]
      rcases Int.lt_or_gt_of_ne hz with h3 | h3 <;> rcases Int.lt_or_gt_of_ne hj with h4 | h4
      · have := Int.mul_pos_of_neg_of_neg h3 h4
        simp [h3, h4, show ¬ q * j < 0 by omega]
      · have := Int.mul_neg_of_neg_of_pos h3 h4
        simp [h3, this, show ¬ j < 0 by omega]
      · have := Int.mul_neg_of_pos_of_neg h3 h4
        simp [h4, this, show ¬ q < 0 by omega]
      · have := Int.mul_pos h3 h4
        simp [show ¬ q * j < 0 by omega, show ¬ j < 0 by omega, show ¬ q < 0 by omega]
    rw [this]
    unfold Core.signed
    by_cases h : q < 0 <;> simp [h] <;> omega
theorem own_ratio_pos {sg : Bool} {A B : Nat} (hB : 0 < B) (h : B ≤ A * 2 ^ 1074) : 1 ≤ Core.zmag Core.b64 (Core.roundRatio Core.b64 sg A B 0) := by
  have q := Core.zmag_roundRatio_ge (f := Core.b64) Core.good_b64 (s := sg) (A := A) (B := B) (e := 0) (e0 := -1074) (V := .fin false 1 (-1074)) hB (by unfold Core.fits; decide +kernel) (by decide +kernel) (by decide) (by
    rw [show Core.zmag Core.b64 (.fin false 1 (-1074)) = 1 by decide +kernel, show (Core.b64.qmin - -1074).toNat = 0 by decide +kernel]
    show 1 * 2 ^ 0 * B ≤ A * 2 ^ ((0 : Int) - -1074).toNat
    rw [show ((0 : Int) - -1074).toNat = 1074 by decide]
    omega)
  rw [show Core.zmag Core.b64 (.fin false 1 (-1074)) = 1 by decide +kernel] at q
  exact q
theorem own_dcmp_z {x y : UInt64} (hx : Core.val64 x ≠ .nan) (hy : Core.val64 y ≠ .nan) : FP.dcmp x y = some (compare (Core.zval Core.b64 (Core.val64 x)) (Core.zval Core.b64 (Core.val64 y))) :=
  Core.order_zval Core.good_b64 (Core.val64_fits x) (Core.val64_fits y) hx hy
theorem own_zval0 : Core.zval Core.b64 (Core.val64 0) = 0 := by decide +kernel
theorem own_nan0 : Core.val64 0 ≠ .nan := by decide +kernel
theorem own_cmp_lt {a b : Int} (h : a < b) : compare a b = .lt := by rw [Core.compare_ite, if_pos h]
theorem own_cmp_gt {a b : Int} (h : b < a) : compare a b = .gt := by rw [Core.compare_ite, if_neg (by omega), if_neg (by omega)]
theorem own_cmp_eq {a b : Int} (h : a = b) : compare a b = .eq := by rw [Core.compare_ite, if_neg (by omega), if_pos h]
theorem own_sg_n {P : Prop} [Decidable P] (h : P) (z : Nat) : Core.signed (decide P) z = -(z : Int) := by rw [decide_eq_true h]; rfl
theorem own_sg_p {P : Prop} [Decidable P] (h : ¬ P) (z : Nat) : Core.signed (decide P) z = (z : Int) := by rw [decide_eq_false h]; rfl
theorem own_l2d_z {a : Int64} (h : a ≠ 0) : ∃ z : Nat, 0 < z ∧ Core.zval Core.b64 (Core.val64 (FP.l2d a)) = Core.signed (decide (a.toInt < 0)) z := by
  obtain ⟨c, q, hc⟩ := Core.l2d_shape a
  have hn : Core.val64 (FP.l2d a) ≠ .nan := by show Core.val64 (Core.l2d a) ≠ _; rw [hc]; intro z; cases z
  refine ⟨Core.zmag Core.b64 (Core.val64 (FP.l2d a)), ?_, ?_⟩
  · rw [Core.zmag_bits hn]
    refine Nat.pos_of_ne_zero fun z => ?_
    exact Core.l2d_ne_zero h (Core.unitsOf_eq_zero.mp z)
  · show Core.signed (Core.sgn (Core.val64 (Core.l2d a))) _ = _
    rw [hc]; rfl
theorem own_l2d_nan (a : Int64) : Core.val64 (FP.l2d a) ≠ .nan := val64_no.mp (l2d_fin a).noNaN
end OwnFl
theorem own_nn {i : Int} {a : UInt64} (h : FP.Core.DInt i a) : NoNaN64 a := val64_no.mpr (FP.Core.Whole.ne_nan h)
theorem own_same {i : Int} {a b : UInt64} (ha : FP.Core.DInt i a) (hb : FP.Core.DInt i b) (o : CmpOp) : cmpValue (FP.dcmp a b) o = 0 := by
  rw [show FP.dcmp a b = some (compare i i) from FP.Core.dcmp_int ha hb, FP.Core.compare_self_int]; cases o <;> rfl
theorem own_d (a : Int32) : 1 ≤ ((a &&& (1048575 : Int32)).toInt64 + (1 : Int64)).toInt ∧ ((a &&& (1048575 : Int32)).toInt64 + (1 : Int64)).toInt ≤ 1048576 := by
  have h1 := c_mask a 1048575 20 (by decide) (by decide)
  have h2 := c_ladd (a &&& (1048575 : Int32)).toInt64 1
  have h3 := rng64 ((a &&& (1048575 : Int32)).toInt64 + (1 : Int64))
  rw [c_i2l, h1, show (1 : Int64).toInt = 1 from rfl] at h2
  omega
theorem own_w (a : Int32) : 0 ≤ (a &&& (1073741823 : Int32)).toInt64.toInt ∧ (a &&& (1073741823 : Int32)).toInt64.toInt < 1073741824 := by
  have h1 := c_mask a 1073741823 30 (by decide) (by decide)
  rw [c_i2l, h1]; omega
theorem own_mean {q : Int32} {d w : Int64} (d1 : 1 ≤ d.toInt) (d2 : d.toInt ≤ 1048576) (w1 : 0 ≤ w.toInt) (w2 : w.toInt < 1073741824) :
    NoNaN64 (FP.dsub (FP.l2d (w + d)) (FP.l2d w)) ∧ FP.Core.DInt q.toInt (FP.ddiv (FP.l2d (q.toInt64 * d)) (FP.dsub (FP.l2d (w + d)) (FP.l2d w))) := by
  have r := rng32 q
  have hm : (q.toInt * d.toInt).natAbs ≤ 2 ^ 51 := by
    rw [Int.natAbs_mul]
    exact Nat.le_trans (Nat.mul_le_mul (show q.toInt.natAbs ≤ 2 ^ 31 by omega) (show d.toInt.natAbs ≤ 2 ^ 20 by omega)) (by decide)
  have e1 : (q.toInt64 * d).toInt = q.toInt * d.toInt := by rw [FP.Core.int64_mul (by rw [c_i2l]; omega) (by rw [c_i2l]; omega), c_i2l]
  have e2 : (w + d).toInt = w.toInt + d.toInt := FP.Core.int64_add (by omega) (by omega)
  have a1 := FP.Core.l2d_int (a := q.toInt64 * d) (by rw [e1]; omega)
  have a2 := FP.Core.l2d_int (a := w + d) (by rw [e2]; omega)
  have a3 := FP.Core.l2d_int (a := w) (by omega)
  rw [e1] at a1; rw [e2] at a2
  have a4 := FP.Core.dsub_int a2 a3 (by omega)
  rw [show w.toInt + d.toInt - w.toInt = d.toInt by omega] at a4
  exact ⟨own_nn a4, own_ddiv_int a1 a4 (by omega) (by omega)⟩
theorem d1_0 : decode jdk_72_method_26_code 0 = .ok (.getstatic 81, 3) := by decide +kernel
theorem d1_3 : decode jdk_72_method_26_code 3 = .ok (.areturn, 1) := by decide +kernel
theorem pn_1 : plainName "java/util/Map" = true := by first | (simp [plainName, overriddenIn]; done) | decide +kernel
theorem ef_1  (m : MethodId) : entryFrame m #[] 0 = mkF m 0 #[] [] := by first | (simp [entryFrame, mkF, argsToLocals, Value.category, maxLocals]; done) | rfl
set_option maxRecDepth 65536 in
set_option maxHeartbeats 40000000 in
theorem rm_1 (l : Launch) (Z : State) (a0 : Array Value) (hw : ∀ d ∈ tables_1, d.before a0 Z = true) (ws : List Jvm.Cond) (em : Addr) (h0 : Heap) (n0 : Nat) (Z0 : n0 ≤ h0.size) (SM : Sta Z h0 "java/util/ImmutableCollections" "EMPTY_MAP" "Ljava/util/ImmutableCollections$MapN;" (.ref em)) :
    OwnMet l Z (⟨"java/util/Map", "of", "()Ljava/util/Map;"⟩ : MethodName) jdk_72_method_26_code 0 (some (.object "java/util/Map")) ws ({ frames := 0, cells := 0, slots := 0, locals := 0 } : Room) #[] h0 (fun v h L => v = some (.ref em) ∧ Fr n0 L ∧ h = h0) := by
  refine own_met (plainFor_of_name pn_1) (ef_1 ) ?_
  intro p e s m below meth c s₁ hx hby hml hZ hown hnm hret hlk X0 e0
  have N0 := Fr.nil n0
  obtain ⟨T1, X1, e1, st1⟩ := getS X0 hx hZ hown (host := "") (hw _ (List.mem_of_getElem? (i := 9) rfl)) Via.refl e0 SM (g := (mkF m 0 #[] [])) rfl (hb hby d1_0)
  refine own_go st1 ?_
  show Goes p e below _ (T1.setTop (mkF m 3 #[] [.ref em]))
  exact s_retI X1 hx hlk hret (hb hby d1_3) rfl (Or.inr (Or.inr (Or.inr (Or.inr ⟨rfl, rfl, rfl⟩)))) (by decide) (by decide) ⟨rfl, N0, e1⟩
theorem d5_0 : decode jdk_72_method_39_code 0 = .ok (.aload_n 0, 1) := by decide +kernel
theorem d5_1 : decode jdk_72_method_39_code 1 = .ok (.instanceof 101, 3) := by decide +kernel
theorem d5_4 : decode jdk_72_method_39_code 4 = .ok (.ifCond .eq 5, 3) := by decide +kernel
theorem d5_7 : decode jdk_72_method_39_code 7 = .ok (.aload_n 0, 1) := by decide +kernel
theorem d5_8 : decode jdk_72_method_39_code 8 = .ok (.areturn, 1) := by decide +kernel
theorem d5_9 : decode jdk_72_method_39_code 9 = .ok (.aload_n 0, 1) := by decide +kernel
theorem d5_10 : decode jdk_72_method_39_code 10 = .ok (.invokeinterface 103 1, 5) := by decide +kernel
theorem d5_15 : decode jdk_72_method_39_code 15 = .ok (.ifCond .eq 7, 3) := by decide +kernel
theorem d5_18 : decode jdk_72_method_39_code 18 = .ok (.invokestatic 106, 3) := by decide +kernel
theorem d5_21 : decode jdk_72_method_39_code 21 = .ok (.areturn, 1) := by decide +kernel
theorem d5_22 : decode jdk_72_method_39_code 22 = .ok (.aload_n 0, 1) := by decide +kernel
theorem d5_23 : decode jdk_72_method_39_code 23 = .ok (.invokeinterface 16 1, 5) := by decide +kernel
theorem d5_28 : decode jdk_72_method_39_code 28 = .ok (.iconst 0, 1) := by decide +kernel
theorem d5_29 : decode jdk_72_method_39_code 29 = .ok (.anewarray 36, 3) := by decide +kernel
theorem d5_32 : decode jdk_72_method_39_code 32 = .ok (.invokeinterface 110 2, 5) := by decide +kernel
theorem d5_37 : decode jdk_72_method_39_code 37 = .ok (.checkcast 114, 3) := by decide +kernel
theorem d5_40 : decode jdk_72_method_39_code 40 = .ok (.invokestatic 116, 3) := by decide +kernel
theorem d5_43 : decode jdk_72_method_39_code 43 = .ok (.areturn, 1) := by decide +kernel
theorem pn_5 : plainName "java/util/Map" = true := by first | (simp [plainName, overriddenIn]; done) | decide +kernel
theorem ef_5 (z0 : Addr) (m : MethodId) : entryFrame m #[.ref z0] 1 = mkF m 0 #[.val (.ref z0)] [] := by first | (simp [entryFrame, mkF, argsToLocals, Value.category, maxLocals]; done) | rfl
set_option maxRecDepth 65536 in
set_option maxHeartbeats 40000000 in
theorem rm_5 (l : Launch) (Z : State) (a0 : Array Value) (hw : ∀ d ∈ tables_1, d.before a0 Z = true) (ws : List Jvm.Cond) (em : Addr) (h0 : Heap) (n0 : Nat) (Z0 : n0 ≤ h0.size) (EM : Exa Z h0 em "java/util/ImmutableCollections$MapN") :
    OwnMet l Z (⟨"java/util/Map", "copyOf", "(Ljava/util/Map;)Ljava/util/Map;"⟩ : MethodName) jdk_72_method_39_code 1 (some (.object "java/util/Map")) ws ({ frames := 0, cells := 0, slots := 0, locals := 0 } : Room) #[.ref em] h0 (fun v h L => v = some (.ref em) ∧ Fr n0 L ∧ h = h0) := by
  refine own_met (plainFor_of_name pn_5) (ef_5 em) ?_
  intro p e s m below meth c s₁ hx hby hml hZ hown hnm hret hlk X0 e0
  have N0 := Fr.nil n0
  refine s_aloadN X0 hx (hb hby d5_0) (pc' := 1) rfl rfl rfl ?_
  refine s_instY X0 hx hZ hown (hw _ (List.mem_of_getElem? (i := 25) rfl)) e0 (Ins.of_exa EM (hw _ (List.mem_of_getElem? (i := 26) rfl))) (hb hby d5_1) (pc' := 4) rfl ?_
  intro T1 X1 e1
  refine s_ifN X1 hx (hb hby d5_4) (pc' := 7) rfl (by decide) ?_
  refine s_aloadN X1 hx (hb hby d5_7) (pc' := 8) rfl rfl rfl ?_
  exact s_retI X1 hx hlk hret (hb hby d5_8) rfl (Or.inr (Or.inr (Or.inr (Or.inr ⟨rfl, rfl, rfl⟩)))) (by decide) (by decide) ⟨rfl, N0, e1⟩
theorem d3_0 : decode jdk_30_method_1_code 0 = .ok (.aload_n 0, 1) := by decide +kernel
theorem d3_1 : decode jdk_30_method_1_code 1 = .ok (.invokespecial 1, 3) := by decide +kernel
theorem d3_4 : decode jdk_30_method_1_code 4 = .ok (.return_, 1) := by decide +kernel
theorem pn_3 : plainName "java/lang/Record" = true := by first | (simp [plainName, overriddenIn]; done) | decide +kernel
theorem ef_3 (z0 : Addr) (m : MethodId) : entryFrame m #[.ref z0] 1 = mkF m 0 #[.val (.ref z0)] [] := by first | (simp [entryFrame, mkF, argsToLocals, Value.category, maxLocals]; done) | rfl
set_option maxRecDepth 65536 in
set_option maxHeartbeats 40000000 in
theorem rm_3 (l : Launch) (Z : State) (a0 : Array Value) (hw : ∀ d ∈ tables_1, d.before a0 Z = true) (ws : List Jvm.Cond) (a : Addr) (h0 : Heap) (n0 : Nat) (Z0 : n0 ≤ h0.size)  :
    OwnMet l Z (⟨"java/lang/Record", "<init>", "()V"⟩ : MethodName) jdk_30_method_1_code 1 none ws ({ frames := 1, cells := 0, slots := 0, locals := 12 } : Room) #[.ref a] h0 (fun v h L => v = none ∧ Fr n0 L ∧ h = h0) := by
  refine own_met (plainFor_of_name pn_3) (ef_3 a) ?_
  intro p e s m below meth c s₁ hx hby hml hZ hown hnm hret hlk X0 e0
  have N0 := Fr.nil n0
  refine s_aloadN X0 hx (hb hby d3_0) (pc' := 1) rfl rfl rfl ?_
  refine s_initO X0 hx hZ hown (hw _ (List.mem_of_getElem? (i := 19) rfl)) (hw _ (List.mem_of_getElem? (i := 20) rfl)) (hw _ (List.mem_of_getElem? (i := 21) rfl)) e0 (hb hby d3_1) (pc' := 4) rfl (by rw [hml]; rfl) (by decide) (W := 0) (Nat.le_of_eq rfl) (by decide) ?_
  intro T1 X1 e1
  exact s_ret X1 hx hlk hret (hb hby d3_4) (by decide) (by decide) ⟨rfl, N0, e1⟩
theorem d2_0 : decode prog_40_method_1_code 0 = .ok (.aload_n 0, 1) := by decide +kernel
theorem d2_1 : decode prog_40_method_1_code 1 = .ok (.invokespecial 1, 3) := by decide +kernel
theorem d2_4 : decode prog_40_method_1_code 4 = .ok (.aload 11, 2) := by decide +kernel
theorem d2_6 : decode prog_40_method_1_code 6 = .ok (.invokestatic 7, 3) := by decide +kernel
theorem d2_9 : decode prog_40_method_1_code 9 = .ok (.astore 11, 2) := by decide +kernel
theorem d2_11 : decode prog_40_method_1_code 11 = .ok (.aload 12, 2) := by decide +kernel
theorem d2_13 : decode prog_40_method_1_code 13 = .ok (.invokestatic 7, 3) := by decide +kernel
theorem d2_16 : decode prog_40_method_1_code 16 = .ok (.astore 12, 2) := by decide +kernel
theorem d2_18 : decode prog_40_method_1_code 18 = .ok (.aload_n 0, 1) := by decide +kernel
theorem d2_19 : decode prog_40_method_1_code 19 = .ok (.dload_n 1, 1) := by decide +kernel
theorem d2_20 : decode prog_40_method_1_code 20 = .ok (.putfield 13, 3) := by decide +kernel
theorem d2_23 : decode prog_40_method_1_code 23 = .ok (.aload_n 0, 1) := by decide +kernel
theorem d2_24 : decode prog_40_method_1_code 24 = .ok (.dload_n 3, 1) := by decide +kernel
theorem d2_25 : decode prog_40_method_1_code 25 = .ok (.putfield 19, 3) := by decide +kernel
theorem d2_28 : decode prog_40_method_1_code 28 = .ok (.aload_n 0, 1) := by decide +kernel
theorem d2_29 : decode prog_40_method_1_code 29 = .ok (.dload 5, 2) := by decide +kernel
theorem d2_31 : decode prog_40_method_1_code 31 = .ok (.putfield 22, 3) := by decide +kernel
theorem d2_34 : decode prog_40_method_1_code 34 = .ok (.aload_n 0, 1) := by decide +kernel
theorem d2_35 : decode prog_40_method_1_code 35 = .ok (.dload 7, 2) := by decide +kernel
theorem d2_37 : decode prog_40_method_1_code 37 = .ok (.putfield 25, 3) := by decide +kernel
theorem d2_40 : decode prog_40_method_1_code 40 = .ok (.aload_n 0, 1) := by decide +kernel
theorem d2_41 : decode prog_40_method_1_code 41 = .ok (.iload 9, 2) := by decide +kernel
theorem d2_43 : decode prog_40_method_1_code 43 = .ok (.putfield 28, 3) := by decide +kernel
theorem d2_46 : decode prog_40_method_1_code 46 = .ok (.aload_n 0, 1) := by decide +kernel
theorem d2_47 : decode prog_40_method_1_code 47 = .ok (.iload 10, 2) := by decide +kernel
theorem d2_49 : decode prog_40_method_1_code 49 = .ok (.putfield 32, 3) := by decide +kernel
theorem d2_52 : decode prog_40_method_1_code 52 = .ok (.aload_n 0, 1) := by decide +kernel
theorem d2_53 : decode prog_40_method_1_code 53 = .ok (.aload 11, 2) := by decide +kernel
theorem d2_55 : decode prog_40_method_1_code 55 = .ok (.putfield 35, 3) := by decide +kernel
theorem d2_58 : decode prog_40_method_1_code 58 = .ok (.aload_n 0, 1) := by decide +kernel
theorem d2_59 : decode prog_40_method_1_code 59 = .ok (.aload 12, 2) := by decide +kernel
theorem d2_61 : decode prog_40_method_1_code 61 = .ok (.putfield 39, 3) := by decide +kernel
theorem d2_64 : decode prog_40_method_1_code 64 = .ok (.return_, 1) := by decide +kernel
theorem pn_2 : plainName "com/example/skewbridge/skewbridge/Simulation$Result" = true := by first | (simp [plainName, overriddenIn]; done) | decide +kernel
theorem pd_0 : parseMethodDescriptor "()V" = some ⟨[], none⟩ := by decide +kernel
theorem pd_1 : parseMethodDescriptor "(Ljava/util/Map;)Ljava/util/Map;" = some ⟨[(.object "java/util/Map")], some (.object "java/util/Map")⟩ := by decide +kernel
theorem ef_2 (z0 : Addr) (z1 : UInt64) (z2 : UInt64) (z3 : UInt64) (z4 : UInt64) (z5 : Int32) (z6 : Int32) (z7 : Addr) (z8 : Addr) (m : MethodId) : entryFrame m #[.ref z0, .double z1, .double z2, .double z3, .double z4, .int z5, .int z6, .ref z7, .ref z8] 13 = mkF m 0 #[.val (.ref z0), .val (.double z1), .second, .val (.double z2), .second, .val (.double z3), .second, .val (.double z4), .second, .val (.int z5), .val (.int z6), .val (.ref z7), .val (.ref z8)] [] := by first | (simp [entryFrame, mkF, argsToLocals, Value.category, maxLocals]; done) | rfl
set_option maxRecDepth 65536 in
set_option maxHeartbeats 40000000 in
theorem rm_2 (l : Launch) (Z : State) (a0 : Array Value) (hw : ∀ d ∈ tables_1, d.before a0 Z = true) (ws : List Jvm.Cond) (a : Addr) (x0 : UInt64) (x1 : UInt64) (x2 : UInt64) (x3 : UInt64) (k1 : Int32) (k2 : Int32) (em : Addr) (vo0 : Value) (vo1 : Value) (vo2 : Value) (vo3 : Value) (vo4 : Value) (vo5 : Value) (vo6 : Value) (vo7 : Value) (h0 : Heap) (n0 : Nat) (Z0 : n0 ≤ h0.size) (Ea : Exa Z h0 a "com/example/skewbridge/skewbridge/Simulation$Result") (G0 : (Fld Z h0 a "com/example/skewbridge/skewbridge/Simulation$Result" "horizon" "D" vo0)) (G1 : (Fld Z h0 a "com/example/skewbridge/skewbridge/Simulation$Result" "warmUp" "D" vo1)) (G2 : (Fld Z h0 a "com/example/skewbridge/skewbridge/Simulation$Result" "viewerSeconds" "D" vo2)) (G3 : (Fld Z h0 a "com/example/skewbridge/skewbridge/Simulation$Result" "streamSeconds" "D" vo3)) (G4 : (Fld Z h0 a "com/example/skewbridge/skewbridge/Simulation$Result" "merges" "I" vo4)) (G5 : (Fld Z h0 a "com/example/skewbridge/skewbridge/Simulation$Result" "peakStreams" "I" vo5)) (G6 : (Fld Z h0 a "com/example/skewbridge/skewbridge/Simulation$Result" "actions" "Ljava/util/Map;" vo6)) (G7 : (Fld Z h0 a "com/example/skewbridge/skewbridge/Simulation$Result" "arrivals" "Ljava/util/Map;" vo7)) (EM : Exa Z h0 em "java/util/ImmutableCollections$MapN") (ga : n0 ≤ a) :
    OwnMet l Z (⟨"com/example/skewbridge/skewbridge/Simulation$Result", "<init>", "(DDDDIILjava/util/Map;Ljava/util/Map;)V"⟩ : MethodName) prog_40_method_1_code 13 none ws ({ frames := 2, cells := 0, slots := 0, locals := 24 } : Room) #[.ref a, .double x0, .double x1, .double x2, .double x3, .int k1, .int k2, .ref em, .ref em] h0 (fun v h L => v = none ∧ Fr n0 L ∧ Keep h0 h [a] ∧ Exa Z h a "com/example/skewbridge/skewbridge/Simulation$Result" ∧ (Fld Z h a "com/example/skewbridge/skewbridge/Simulation$Result" "horizon" "D" (.double x0)) ∧ (Fld Z h a "com/example/skewbridge/skewbridge/Simulation$Result" "warmUp" "D" (.double x1)) ∧ (Fld Z h a "com/example/skewbridge/skewbridge/Simulation$Result" "viewerSeconds" "D" (.double x2))) := by
  refine own_met (plainFor_of_name pn_2) (ef_2 a x0 x1 x2 x3 k1 k2 em em) ?_
  intro p e s m below meth c s₁ hx hby hml hZ hown hnm hret hlk X0 e0
  have N0 := Fr.nil n0
  refine s_aloadN X0 hx (hb hby d2_0) (pc' := 1) rfl rfl rfl ?_
  refine c_special X0 hx hZ rfl hown (hw _ (List.mem_of_getElem? (i := 14) rfl)) (hw _ (List.mem_of_getElem? (i := 15) rfl)) (hw _ (List.mem_of_getElem? (i := 17) rfl)) (hw _ (List.mem_of_getElem? (i := 18) rfl)) (by decide) e0 (rm_3 l Z a0 hw [] a h0 n0 Z0) (W := 0) (by decide) (by decide) (by decide) (by decide) (by rw [hml]; rfl) (argsL := []) (rest := []) (a := a) (lenOf pd_0 rfl) rfl rfl (Nat.le_of_eq rfl) (hb hby d2_1) (pc' := 4) rfl ?_
  intro T1 v1 L1 X1 hQ1
  obtain ⟨rfl, Nq1, eh1⟩ := hQ1
  have N1 := Fr.app N0 Nq1
  show Goes p e below _ (T1.setTop (mkF m 4 #[.val (.ref a), .val (.double x0), .second, .val (.double x1), .second, .val (.double x2), .second, .val (.double x3), .second, .val (.int k1), .val (.int k2), .val (.ref em), .val (.ref em)] []))
  refine s_aload X1 hx (hb hby d2_4) (pc' := 6) rfl rfl rfl ?_
  refine c_static X1 hx hZ hown (hw _ (List.mem_of_getElem? (i := 22) rfl)) (hw _ (List.mem_of_getElem? (i := 23) rfl)) (hw _ (List.mem_of_getElem? (i := 7) rfl)) (hw _ (List.mem_of_getElem? (i := 24) rfl)) (by decide) eh1 (rm_5 l Z a0 hw [] em h0 n0 Z0 EM) (W := 0) (by decide) (by decide) (by decide) (by decide) (by rw [hml]; rfl) (argsL := [.ref em]) (rest := []) (lenOf pd_1 rfl) rfl rfl (Nat.le_of_eq rfl) (hb hby d2_6) (pc' := 9) rfl ?_
  intro T2 v2 L2 X2 hQ2
  obtain ⟨rfl, Nq2, eh2⟩ := hQ2
  have N2 := Fr.app N1 Nq2
  show Goes p e below _ (T2.setTop (mkF m 9 #[.val (.ref a), .val (.double x0), .second, .val (.double x1), .second, .val (.double x2), .second, .val (.double x3), .second, .val (.int k1), .val (.int k2), .val (.ref em), .val (.ref em)] [.ref em]))
  refine s_astore X2 hx #[.val (.ref a), .val (.double x0), .second, .val (.double x1), .second, .val (.double x2), .second, .val (.double x3), .second, .val (.int k1), .val (.int k2), .val (.ref em), .val (.ref em)] (hb hby d2_9) (pc' := 11) rfl rfl rfl ?_
  refine s_aload X2 hx (hb hby d2_11) (pc' := 13) rfl rfl rfl ?_
  refine c_static X2 hx hZ hown (hw _ (List.mem_of_getElem? (i := 22) rfl)) (hw _ (List.mem_of_getElem? (i := 23) rfl)) (hw _ (List.mem_of_getElem? (i := 7) rfl)) (hw _ (List.mem_of_getElem? (i := 24) rfl)) (by decide) eh2 (rm_5 l Z a0 hw [] em h0 n0 Z0 EM) (W := 0) (by decide) (by decide) (by decide) (by decide) (by rw [hml]; rfl) (argsL := [.ref em]) (rest := []) (lenOf pd_1 rfl) rfl rfl (Nat.le_of_eq rfl) (hb hby d2_13) (pc' := 16) rfl ?_
  intro T3 v3 L3 X3 hQ3
  obtain ⟨rfl, Nq3, eh3⟩ := hQ3
  have N3 := Fr.app N2 Nq3
  show Goes p e below _ (T3.setTop (mkF m 16 #[.val (.ref a), .val (.double x0), .second, .val (.double x1), .second, .val (.double x2), .second, .val (.double x3), .second, .val (.int k1), .val (.int k2), .val (.ref em), .val (.ref em)] [.ref em]))
  refine s_astore X3 hx #[.val (.ref a), .val (.double x0), .second, .val (.double x1), .second, .val (.double x2), .second, .val (.double x3), .second, .val (.int k1), .val (.int k2), .val (.ref em), .val (.ref em)] (hb hby d2_16) (pc' := 18) rfl rfl rfl ?_
  refine s_aloadN X3 hx (hb hby d2_18) (pc' := 19) rfl rfl rfl ?_
  refine s_dloadN X3 hx (hb hby d2_19) (pc' := 20) rfl rfl ?_
  refine s_putF X3 hx hZ hown (hw _ (List.mem_of_getElem? (i := 27) rfl)) eh3 G0 Ea (Or.inr ⟨(hw _ (List.mem_of_getElem? (i := 28) rfl)), rfl, hnm⟩) (hw _ (List.mem_of_getElem? (i := 3) rfl)) (ty := .double) (by decide) rfl rfl (hb hby d2_20) (pc' := 23) rfl ?_
  intro T4 h4 X4 e4 W4
  have N4 := Fr.snoc X4 N3 ga
  have F4 := G0.same W4
  have H4 : h0.size ≤ h4.size := by rw [W4.size]; exact (Nat.le_refl _)
  refine s_aloadN X4 hx (hb hby d2_23) (pc' := 24) rfl rfl rfl ?_
  refine s_dloadN X4 hx (hb hby d2_24) (pc' := 25) rfl rfl ?_
  have fF5 := (G1.other W4 (Or.inr (slot_ne (C := "com/example/skewbridge/skewbridge/Simulation$Result") (t := .double) (t' := .double) (Or.inr (hw _ (List.mem_of_getElem? (i := 30) rfl))) (Or.inr (hw _ (List.mem_of_getElem? (i := 28) rfl))) (by decide) (by decide) (by decide))))
  have fE6 := (Ea.wr W4)
  refine s_putF X4 hx hZ hown (hw _ (List.mem_of_getElem? (i := 29) rfl)) e4 fF5 fE6 (Or.inr ⟨(hw _ (List.mem_of_getElem? (i := 30) rfl)), rfl, hnm⟩) (hw _ (List.mem_of_getElem? (i := 3) rfl)) (ty := .double) (by decide) rfl rfl (hb hby d2_25) (pc' := 28) rfl ?_
  intro T7 h7 X7 e7 W7
  have N7 := Fr.snoc X7 N4 ga
  have F7 := fF5.same W7
  have H7 : h0.size ≤ h7.size := by rw [W7.size]; exact H4
  refine s_aloadN X7 hx (hb hby d2_28) (pc' := 29) rfl rfl rfl ?_
  refine s_dload X7 hx (hb hby d2_29) (pc' := 31) rfl rfl ?_
  have fF8 := ((G2.other W4 (Or.inr (slot_ne (C := "com/example/skewbridge/skewbridge/Simulation$Result") (t := .double) (t' := .double) (Or.inr (hw _ (List.mem_of_getElem? (i := 32) rfl))) (Or.inr (hw _ (List.mem_of_getElem? (i := 28) rfl))) (by decide) (by decide) (by decide)))).other W7 (Or.inr (slot_ne (C := "com/example/skewbridge/skewbridge/Simulation$Result") (t := .double) (t' := .double) (Or.inr (hw _ (List.mem_of_getElem? (i := 32) rfl))) (Or.inr (hw _ (List.mem_of_getElem? (i := 30) rfl))) (by decide) (by decide) (by decide))))
  have fE9 := (fE6.wr W7)
  refine s_putF X7 hx hZ hown (hw _ (List.mem_of_getElem? (i := 31) rfl)) e7 fF8 fE9 (Or.inr ⟨(hw _ (List.mem_of_getElem? (i := 32) rfl)), rfl, hnm⟩) (hw _ (List.mem_of_getElem? (i := 3) rfl)) (ty := .double) (by decide) rfl rfl (hb hby d2_31) (pc' := 34) rfl ?_
  intro T10 h10 X10 e10 W10
  have N10 := Fr.snoc X10 N7 ga
  have F10 := fF8.same W10
  have H10 : h0.size ≤ h10.size := by rw [W10.size]; exact H7
  refine s_aloadN X10 hx (hb hby d2_34) (pc' := 35) rfl rfl rfl ?_
  refine s_dload X10 hx (hb hby d2_35) (pc' := 37) rfl rfl ?_
  have fF11 := (((G3.other W4 (Or.inr (slot_ne (C := "com/example/skewbridge/skewbridge/Simulation$Result") (t := .double) (t' := .double) (Or.inr (hw _ (List.mem_of_getElem? (i := 34) rfl))) (Or.inr (hw _ (List.mem_of_getElem? (i := 28) rfl))) (by decide) (by decide) (by decide)))).other W7 (Or.inr (slot_ne (C := "com/example/skewbridge/skewbridge/Simulation$Result") (t := .double) (t' := .double) (Or.inr (hw _ (List.mem_of_getElem? (i := 34) rfl))) (Or.inr (hw _ (List.mem_of_getElem? (i := 30) rfl))) (by decide) (by decide) (by decide)))).other W10 (Or.inr (slot_ne (C := "com/example/skewbridge/skewbridge/Simulation$Result") (t := .double) (t' := .double) (Or.inr (hw _ (List.mem_of_getElem? (i := 34) rfl))) (Or.inr (hw _ (List.mem_of_getElem? (i := 32) rfl))) (by decide) (by decide) (by decide))))
  have fE12 := (fE9.wr W10)
  refine s_putF X10 hx hZ hown (hw _ (List.mem_of_getElem? (i := 33) rfl)) e10 fF11 fE12 (Or.inr ⟨(hw _ (List.mem_of_getElem? (i := 34) rfl)), rfl, hnm⟩) (hw _ (List.mem_of_getElem? (i := 3) rfl)) (ty := .double) (by decide) rfl rfl (hb hby d2_37) (pc' := 40) rfl ?_
  intro T13 h13 X13 e13 W13
  have N13 := Fr.snoc X13 N10 ga
  have F13 := fF11.same W13
  have H13 : h0.size ≤ h13.size := by rw [W13.size]; exact H10
  refine s_aloadN X13 hx (hb hby d2_40) (pc' := 41) rfl rfl rfl ?_
  refine s_iload X13 hx (hb hby d2_41) (pc' := 43) rfl rfl ?_
  have fF14 := ((((G4.other W4 (Or.inr (slot_ne (C := "com/example/skewbridge/skewbridge/Simulation$Result") (t := .int) (t' := .double) (Or.inr (hw _ (List.mem_of_getElem? (i := 36) rfl))) (Or.inr (hw _ (List.mem_of_getElem? (i := 28) rfl))) (by decide) (by decide) (by decide)))).other W7 (Or.inr (slot_ne (C := "com/example/skewbridge/skewbridge/Simulation$Result") (t := .int) (t' := .double) (Or.inr (hw _ (List.mem_of_getElem? (i := 36) rfl))) (Or.inr (hw _ (List.mem_of_getElem? (i := 30) rfl))) (by decide) (by decide) (by decide)))).other W10 (Or.inr (slot_ne (C := "com/example/skewbridge/skewbridge/Simulation$Result") (t := .int) (t' := .double) (Or.inr (hw _ (List.mem_of_getElem? (i := 36) rfl))) (Or.inr (hw _ (List.mem_of_getElem? (i := 32) rfl))) (by decide) (by decide) (by decide)))).other W13 (Or.inr (slot_ne (C := "com/example/skewbridge/skewbridge/Simulation$Result") (t := .int) (t' := .double) (Or.inr (hw _ (List.mem_of_getElem? (i := 36) rfl))) (Or.inr (hw _ (List.mem_of_getElem? (i := 34) rfl))) (by decide) (by decide) (by decide))))
  have fE15 := (fE12.wr W13)
  refine s_putF X13 hx hZ hown (hw _ (List.mem_of_getElem? (i := 35) rfl)) e13 fF14 fE15 (Or.inr ⟨(hw _ (List.mem_of_getElem? (i := 36) rfl)), rfl, hnm⟩) (hw _ (List.mem_of_getElem? (i := 3) rfl)) (ty := .int) (by decide) rfl rfl (hb hby d2_43) (pc' := 46) rfl ?_
  intro T16 h16 X16 e16 W16
  have N16 := Fr.snoc X16 N13 ga
  have F16 := fF14.same W16
  have H16 : h0.size ≤ h16.size := by rw [W16.size]; exact H13
  refine s_aloadN X16 hx (hb hby d2_46) (pc' := 47) rfl rfl rfl ?_
  refine s_iload X16 hx (hb hby d2_47) (pc' := 49) rfl rfl ?_
  have fF17 := (((((G5.other W4 (Or.inr (slot_ne (C := "com/example/skewbridge/skewbridge/Simulation$Result") (t := .int) (t' := .double) (Or.inr (hw _ (List.mem_of_getElem? (i := 38) rfl))) (Or.inr (hw _ (List.mem_of_getElem? (i := 28) rfl))) (by decide) (by decide) (by decide)))).other W7 (Or.inr (slot_ne (C := "com/example/skewbridge/skewbridge/Simulation$Result") (t := .int) (t' := .double) (Or.inr (hw _ (List.mem_of_getElem? (i := 38) rfl))) (Or.inr (hw _ (List.mem_of_getElem? (i := 30) rfl))) (by decide) (by decide) (by decide)))).other W10 (Or.inr (slot_ne (C := "com/example/skewbridge/skewbridge/Simulation$Result") (t := .int) (t' := .double) (Or.inr (hw _ (List.mem_of_getElem? (i := 38) rfl))) (Or.inr (hw _ (List.mem_of_getElem? (i := 32) rfl))) (by decide) (by decide) (by decide)))).other W13 (Or.inr (slot_ne (C := "com/example/skewbridge/skewbridge/Simulation$Result") (t := .int) (t' := .double) (Or.inr (hw _ (List.mem_of_getElem? (i := 38) rfl))) (Or.inr (hw _ (List.mem_of_getElem? (i := 34) rfl))) (by decide) (by decide) (by decide)))).other W16 (Or.inr (slot_ne (C := "com/example/skewbridge/skewbridge/Simulation$Result") (t := .int) (t' := .int) (Or.inr (hw _ (List.mem_of_getElem? (i := 38) rfl))) (Or.inr (hw _ (List.mem_of_getElem? (i := 36) rfl))) (by decide) (by decide) (by decide))))
  have fE18 := (fE15.wr W16)
  refine s_putF X16 hx hZ hown (hw _ (List.mem_of_getElem? (i := 37) rfl)) e16 fF17 fE18 (Or.inr ⟨(hw _ (List.mem_of_getElem? (i := 38) rfl)), rfl, hnm⟩) (hw _ (List.mem_of_getElem? (i := 3) rfl)) (ty := .int) (by decide) rfl rfl (hb hby d2_49) (pc' := 52) rfl ?_
  intro T19 h19 X19 e19 W19
  have N19 := Fr.snoc X19 N16 ga
  have F19 := fF17.same W19
  have H19 : h0.size ≤ h19.size := by rw [W19.size]; exact H16
  refine s_aloadN X19 hx (hb hby d2_52) (pc' := 53) rfl rfl rfl ?_
  refine s_aload X19 hx (hb hby d2_53) (pc' := 55) rfl rfl rfl ?_
  have fF20 := ((((((G6.other W4 (Or.inr (slot_ne (C := "com/example/skewbridge/skewbridge/Simulation$Result") (t := (.object "java/util/Map")) (t' := .double) (Or.inr (hw _ (List.mem_of_getElem? (i := 40) rfl))) (Or.inr (hw _ (List.mem_of_getElem? (i := 28) rfl))) (by decide) (by decide) (by decide)))).other W7 (Or.inr (slot_ne (C := "com/example/skewbridge/skewbridge/Simulation$Result") (t := (.object "java/util/Map")) (t' := .double) (Or.inr (hw _ (List.mem_of_getElem? (i := 40) rfl))) (Or.inr (hw _ (List.mem_of_getElem? (i := 30) rfl))) (by decide) (by decide) (by decide)))).other W10 (Or.inr (slot_ne (C := "com/example/skewbridge/skewbridge/Simulation$Result") (t := (.object "java/util/Map")) (t' := .double) (Or.inr (hw _ (List.mem_of_getElem? (i := 40) rfl))) (Or.inr (hw _ (List.mem_of_getElem? (i := 32) rfl))) (by decide) (by decide) (by decide)))).other W13 (Or.inr (slot_ne (C := "com/example/skewbridge/skewbridge/Simulation$Result") (t := (.object "java/util/Map")) (t' := .double) (Or.inr (hw _ (List.mem_of_getElem? (i := 40) rfl))) (Or.inr (hw _ (List.mem_of_getElem? (i := 34) rfl))) (by decide) (by decide) (by decide)))).other W16 (Or.inr (slot_ne (C := "com/example/skewbridge/skewbridge/Simulation$Result") (t := (.object "java/util/Map")) (t' := .int) (Or.inr (hw _ (List.mem_of_getElem? (i := 40) rfl))) (Or.inr (hw _ (List.mem_of_getElem? (i := 36) rfl))) (by decide) (by decide) (by decide)))).other W19 (Or.inr (slot_ne (C := "com/example/skewbridge/skewbridge/Simulation$Result") (t := (.object "java/util/Map")) (t' := .int) (Or.inr (hw _ (List.mem_of_getElem? (i := 40) rfl))) (Or.inr (hw _ (List.mem_of_getElem? (i := 38) rfl))) (by decide) (by decide) (by decide))))
  have fE21 := (fE18.wr W19)
  refine s_putF X19 hx hZ hown (hw _ (List.mem_of_getElem? (i := 39) rfl)) e19 fF20 fE21 (Or.inr ⟨(hw _ (List.mem_of_getElem? (i := 40) rfl)), rfl, hnm⟩) (hw _ (List.mem_of_getElem? (i := 3) rfl)) (ty := (.object "java/util/Map")) (by decide) rfl rfl (hb hby d2_55) (pc' := 58) rfl ?_
  intro T22 h22 X22 e22 W22
  have N22 := Fr.snoc X22 N19 ga
  have F22 := fF20.same W22
  have H22 : h0.size ≤ h22.size := by rw [W22.size]; exact H19
  refine s_aloadN X22 hx (hb hby d2_58) (pc' := 59) rfl rfl rfl ?_
  refine s_aload X22 hx (hb hby d2_59) (pc' := 61) rfl rfl rfl ?_
  have fF23 := (((((((G7.other W4 (Or.inr (slot_ne (C := "com/example/skewbridge/skewbridge/Simulation$Result") (t := (.object "java/util/Map")) (t' := .double) (Or.inr (hw _ (List.mem_of_getElem? (i := 42) rfl))) (Or.inr (hw _ (List.mem_of_getElem? (i := 28) rfl))) (by decide) (by decide) (by decide)))).other W7 (Or.inr (slot_ne (C := "com/example/skewbridge/skewbridge/Simulation$Result") (t := (.object "java/util/Map")) (t' := .double) (Or.inr (hw _ (List.mem_of_getElem? (i := 42) rfl))) (Or.inr (hw _ (List.mem_of_getElem? (i := 30) rfl))) (by decide) (by decide) (by decide)))).other W10 (Or.inr (slot_ne (C := "com/example/skewbridge/skewbridge/Simulation$Result") (t := (.object "java/util/Map")) (t' := .double) (Or.inr (hw _ (List.mem_of_getElem? (i := 42) rfl))) (Or.inr (hw _ (List.mem_of_getElem? (i := 32) rfl))) (by decide) (by decide) (by decide)))).other W13 (Or.inr (slot_ne (C := "com/example/skewbridge/skewbridge/Simulation$Result") (t := (.object "java/util/Map")) (t' := .double) (Or.inr (hw _ (List.mem_of_getElem? (i := 42) rfl))) (Or.inr (hw _ (List.mem_of_getElem? (i := 34) rfl))) (by decide) (by decide) (by decide)))).other W16 (Or.inr (slot_ne (C := "com/example/skewbridge/skewbridge/Simulation$Result") (t := (.object "java/util/Map")) (t' := .int) (Or.inr (hw _ (List.mem_of_getElem? (i := 42) rfl))) (Or.inr (hw _ (List.mem_of_getElem? (i := 36) rfl))) (by decide) (by decide) (by decide)))).other W19 (Or.inr (slot_ne (C := "com/example/skewbridge/skewbridge/Simulation$Result") (t := (.object "java/util/Map")) (t' := .int) (Or.inr (hw _ (List.mem_of_getElem? (i := 42) rfl))) (Or.inr (hw _ (List.mem_of_getElem? (i := 38) rfl))) (by decide) (by decide) (by decide)))).other W22 (Or.inr (slot_ne (C := "com/example/skewbridge/skewbridge/Simulation$Result") (t := (.object "java/util/Map")) (t' := (.object "java/util/Map")) (Or.inr (hw _ (List.mem_of_getElem? (i := 42) rfl))) (Or.inr (hw _ (List.mem_of_getElem? (i := 40) rfl))) (by decide) (by decide) (by decide))))
  have fE24 := (fE21.wr W22)
  refine s_putF X22 hx hZ hown (hw _ (List.mem_of_getElem? (i := 41) rfl)) e22 fF23 fE24 (Or.inr ⟨(hw _ (List.mem_of_getElem? (i := 42) rfl)), rfl, hnm⟩) (hw _ (List.mem_of_getElem? (i := 3) rfl)) (ty := (.object "java/util/Map")) (by decide) rfl rfl (hb hby d2_61) (pc' := 64) rfl ?_
  intro T25 h25 X25 e25 W25
  have N25 := Fr.snoc X25 N22 ga
  have F25 := fF23.same W25
  have H25 : h0.size ≤ h25.size := by rw [W25.size]; exact H22
  have KK26 : Keep h0 h25 [a] := (((((((((Keep.refl _ _).wr W4 (Or.inl (List.mem_of_getElem? (i := 0) rfl))).wr W7 (Or.inl (List.mem_of_getElem? (i := 0) rfl))).wr W10 (Or.inl (List.mem_of_getElem? (i := 0) rfl))).wr W13 (Or.inl (List.mem_of_getElem? (i := 0) rfl))).wr W16 (Or.inl (List.mem_of_getElem? (i := 0) rfl))).wr W19 (Or.inl (List.mem_of_getElem? (i := 0) rfl))).wr W22 (Or.inl (List.mem_of_getElem? (i := 0) rfl))).wr W25 (Or.inl (List.mem_of_getElem? (i := 0) rfl)))
  have fE27 := (fE24.wr W25)
  have fF28 := (((((((F4.other W7 (Or.inr (slot_ne (C := "com/example/skewbridge/skewbridge/Simulation$Result") (t := .double) (t' := .double) (Or.inr (hw _ (List.mem_of_getElem? (i := 28) rfl))) (Or.inr (hw _ (List.mem_of_getElem? (i := 30) rfl))) (by decide) (by decide) (by decide)))).other W10 (Or.inr (slot_ne (C := "com/example/skewbridge/skewbridge/Simulation$Result") (t := .double) (t' := .double) (Or.inr (hw _ (List.mem_of_getElem? (i := 28) rfl))) (Or.inr (hw _ (List.mem_of_getElem? (i := 32) rfl))) (by decide) (by decide) (by decide)))).other W13 (Or.inr (slot_ne (C := "com/example/skewbridge/skewbridge/Simulation$Result") (t := .double) (t' := .double) (Or.inr (hw _ (List.mem_of_getElem? (i := 28) rfl))) (Or.inr (hw _ (List.mem_of_getElem? (i := 34) rfl))) (by decide) (by decide) (by decide)))).other W16 (Or.inr (slot_ne (C := "com/example/skewbridge/skewbridge/Simulation$Result") (t := .double) (t' := .int) (Or.inr (hw _ (List.mem_of_getElem? (i := 28) rfl))) (Or.inr (hw _ (List.mem_of_getElem? (i := 36) rfl))) (by decide) (by decide) (by decide)))).other W19 (Or.inr (slot_ne (C := "com/example/skewbridge/skewbridge/Simulation$Result") (t := .double) (t' := .int) (Or.inr (hw _ (List.mem_of_getElem? (i := 28) rfl))) (Or.inr (hw _ (List.mem_of_getElem? (i := 38) rfl))) (by decide) (by decide) (by decide)))).other W22 (Or.inr (slot_ne (C := "com/example/skewbridge/skewbridge/Simulation$Result") (t := .double) (t' := (.object "java/util/Map")) (Or.inr (hw _ (List.mem_of_getElem? (i := 28) rfl))) (Or.inr (hw _ (List.mem_of_getElem? (i := 40) rfl))) (by decide) (by decide) (by decide)))).other W25 (Or.inr (slot_ne (C := "com/example/skewbridge/skewbridge/Simulation$Result") (t := .double) (t' := (.object "java/util/Map")) (Or.inr (hw _ (List.mem_of_getElem? (i := 28) rfl))) (Or.inr (hw _ (List.mem_of_getElem? (i := 42) rfl))) (by decide) (by decide) (by decide))))
  have fF29 := ((((((F7.other W10 (Or.inr (slot_ne (C := "com/example/skewbridge/skewbridge/Simulation$Result") (t := .double) (t' := .double) (Or.inr (hw _ (List.mem_of_getElem? (i := 30) rfl))) (Or.inr (hw _ (List.mem_of_getElem? (i := 32) rfl))) (by decide) (by decide) (by decide)))).other W13 (Or.inr (slot_ne (C := "com/example/skewbridge/skewbridge/Simulation$Result") (t := .double) (t' := .double) (Or.inr (hw _ (List.mem_of_getElem? (i := 30) rfl))) (Or.inr (hw _ (List.mem_of_getElem? (i := 34) rfl))) (by decide) (by decide) (by decide)))).other W16 (Or.inr (slot_ne (C := "com/example/skewbridge/skewbridge/Simulation$Result") (t := .double) (t' := .int) (Or.inr (hw _ (List.mem_of_getElem? (i := 30) rfl))) (Or.inr (hw _ (List.mem_of_getElem? (i := 36) rfl))) (by decide) (by decide) (by decide)))).other W19 (Or.inr (slot_ne (C := "com/example/skewbridge/skewbridge/Simulation$Result") (t := .double) (t' := .int) (Or.inr (hw _ (List.mem_of_getElem? (i := 30) rfl))) (Or.inr (hw _ (List.mem_of_getElem? (i := 38) rfl))) (by decide) (by decide) (by decide)))).other W22 (Or.inr (slot_ne (C := "com/example/skewbridge/skewbridge/Simulation$Result") (t := .double) (t' := (.object "java/util/Map")) (Or.inr (hw _ (List.mem_of_getElem? (i := 30) rfl))) (Or.inr (hw _ (List.mem_of_getElem? (i := 40) rfl))) (by decide) (by decide) (by decide)))).other W25 (Or.inr (slot_ne (C := "com/example/skewbridge/skewbridge/Simulation$Result") (t := .double) (t' := (.object "java/util/Map")) (Or.inr (hw _ (List.mem_of_getElem? (i := 30) rfl))) (Or.inr (hw _ (List.mem_of_getElem? (i := 42) rfl))) (by decide) (by decide) (by decide))))
  have fF30 := (((((F10.other W13 (Or.inr (slot_ne (C := "com/example/skewbridge/skewbridge/Simulation$Result") (t := .double) (t' := .double) (Or.inr (hw _ (List.mem_of_getElem? (i := 32) rfl))) (Or.inr (hw _ (List.mem_of_getElem? (i := 34) rfl))) (by decide) (by decide) (by decide)))).other W16 (Or.inr (slot_ne (C := "com/example/skewbridge/skewbridge/Simulation$Result") (t := .double) (t' := .int) (Or.inr (hw _ (List.mem_of_getElem? (i := 32) rfl))) (Or.inr (hw _ (List.mem_of_getElem? (i := 36) rfl))) (by decide) (by decide) (by decide)))).other W19 (Or.inr (slot_ne (C := "com/example/skewbridge/skewbridge/Simulation$Result") (t := .double) (t' := .int) (Or.inr (hw _ (List.mem_of_getElem? (i := 32) rfl))) (Or.inr (hw _ (List.mem_of_getElem? (i := 38) rfl))) (by decide) (by decide) (by decide)))).other W22 (Or.inr (slot_ne (C := "com/example/skewbridge/skewbridge/Simulation$Result") (t := .double) (t' := (.object "java/util/Map")) (Or.inr (hw _ (List.mem_of_getElem? (i := 32) rfl))) (Or.inr (hw _ (List.mem_of_getElem? (i := 40) rfl))) (by decide) (by decide) (by decide)))).other W25 (Or.inr (slot_ne (C := "com/example/skewbridge/skewbridge/Simulation$Result") (t := .double) (t' := (.object "java/util/Map")) (Or.inr (hw _ (List.mem_of_getElem? (i := 32) rfl))) (Or.inr (hw _ (List.mem_of_getElem? (i := 42) rfl))) (by decide) (by decide) (by decide))))
  exact s_ret X25 hx hlk hret (hb hby d2_64) (by decide) (by decide) (by rw [e25]; exact ⟨rfl, N25, KK26, fE27, fF28, fF29, fF30⟩)
theorem d6_0 : decode prog_40_method_2_code 0 = .ok (.aload_n 0, 1) := by decide +kernel
theorem d6_1 : decode prog_40_method_2_code 1 = .ok (.getfield 22, 3) := by decide +kernel
theorem d6_4 : decode prog_40_method_2_code 4 = .ok (.aload_n 0, 1) := by decide +kernel
theorem d6_5 : decode prog_40_method_2_code 5 = .ok (.getfield 13, 3) := by decide +kernel
theorem d6_8 : decode prog_40_method_2_code 8 = .ok (.aload_n 0, 1) := by decide +kernel
theorem d6_9 : decode prog_40_method_2_code 9 = .ok (.getfield 19, 3) := by decide +kernel
theorem d6_12 : decode prog_40_method_2_code 12 = .ok (.dsub, 1) := by decide +kernel
theorem d6_13 : decode prog_40_method_2_code 13 = .ok (.ddiv, 1) := by decide +kernel
theorem d6_14 : decode prog_40_method_2_code 14 = .ok (.dreturn, 1) := by decide +kernel
theorem pn_6 : plainName "com/example/skewbridge/skewbridge/Simulation$Result" = true := by first | (simp [plainName, overriddenIn]; done) | decide +kernel
theorem ef_6 (z0 : Addr) (m : MethodId) : entryFrame m #[.ref z0] 1 = mkF m 0 #[.val (.ref z0)] [] := by first | (simp [entryFrame, mkF, argsToLocals, Value.category, maxLocals]; done) | rfl
set_option maxRecDepth 65536 in
set_option maxHeartbeats 40000000 in
theorem rm_6 (l : Launch) (Z : State) (a0 : Array Value) (hw : ∀ d ∈ tables_1, d.before a0 Z = true) (ws : List Jvm.Cond) (a : Addr) (x0 : UInt64) (x1 : UInt64) (x2 : UInt64) (h0 : Heap) (n0 : Nat) (Z0 : n0 ≤ h0.size) (G0 : (Fld Z h0 a "com/example/skewbridge/skewbridge/Simulation$Result" "horizon" "D" (.double x0))) (G1 : (Fld Z h0 a "com/example/skewbridge/skewbridge/Simulation$Result" "warmUp" "D" (.double x1))) (G2 : (Fld Z h0 a "com/example/skewbridge/skewbridge/Simulation$Result" "viewerSeconds" "D" (.double x2))) (h1 : NoNaN64 (FP.dsub x0 x1)) (h2 : NoNaN64 (FP.ddiv x2 (FP.dsub x0 x1))) :
    OwnMet l Z (⟨"com/example/skewbridge/skewbridge/Simulation$Result", "meanViewers", "()D"⟩ : MethodName) prog_40_method_2_code 1 (some .double) ws ({ frames := 0, cells := 0, slots := 0, locals := 0 } : Room) #[.ref a] h0 (fun v h L => v = some (.double (FP.ddiv x2 (FP.dsub x0 x1))) ∧ Fr n0 L ∧ h = h0) := by
  refine own_met (plainFor_of_name pn_6) (ef_6 a) ?_
  intro p e s m below meth c s₁ hx hby hml hZ hown hnm hret hlk X0 e0
  have N0 := Fr.nil n0
  refine s_aloadN X0 hx (hb hby d6_0) (pc' := 1) rfl rfl rfl ?_
  refine s_getF X0 hx hZ hown (hw _ (List.mem_of_getElem? (i := 31) rfl)) e0 G2 (hb hby d6_1) (pc' := 4) rfl ?_
  intro T1 X1 e1
  refine s_aloadN X1 hx (hb hby d6_4) (pc' := 5) rfl rfl rfl ?_
  refine s_getF X1 hx hZ hown (hw _ (List.mem_of_getElem? (i := 27) rfl)) e1 G0 (hb hby d6_5) (pc' := 8) rfl ?_
  intro T2 X2 e2
  refine s_aloadN X2 hx (hb hby d6_8) (pc' := 9) rfl rfl rfl ?_
  refine s_getF X2 hx hZ hown (hw _ (List.mem_of_getElem? (i := 29) rfl)) e2 G1 (hb hby d6_9) (pc' := 12) rfl ?_
  intro T3 X3 e3
  refine s_dsub X3 hx (FP.dsub x0 x1) (hb hby d6_12) (pc' := 13) rfl h1 rfl ?_
  refine s_ddiv X3 hx (FP.ddiv x2 (FP.dsub x0 x1)) (hb hby d6_13) (pc' := 14) rfl h2 rfl ?_
  exact s_retI X3 hx hlk hret (hb hby d6_14) rfl (Or.inr (Or.inr (Or.inl ⟨rfl, rfl, _, rfl⟩))) (by decide) (by decide) ⟨rfl, N0, e3⟩
theorem pn_0 : plainName "com/example/skewbridge/skewbridge/ResultMeanViewersPinLaw" = true := by first | (simp [plainName, overriddenIn]; done) | decide +kernel
def Q0 (n0 : Nat) (v : Option Value) (h : Heap) (L : List Loc) : Prop := v = some (.int 1) ∧ Fr n0 L
theorem pd_2 : parseMethodDescriptor "()Ljava/util/Map;" = some ⟨[], some (.object "java/util/Map")⟩ := by decide +kernel
theorem pd_3 : parseMethodDescriptor "(DDDDIILjava/util/Map;Ljava/util/Map;)V" = some ⟨[.double, .double, .double, .double, .int, .int, (.object "java/util/Map"), (.object "java/util/Map")], none⟩ := by decide +kernel
theorem pd_4 : parseMethodDescriptor "()D" = some ⟨[], some .double⟩ := by decide +kernel
theorem ef_0 (z0 : Int32) (z1 : Int32) (z2 : Int32) (z3 : Int32) (z4 : Int32) (z5 : Int32) (m : MethodId) : entryFrame m #[.int z0, .int z1, .int z2, .int z3, .int z4, .int z5] maxLocals = mkF m 0 #[.val (.int z0), .val (.int z1), .val (.int z2), .val (.int z3), .val (.int z4), .val (.int z5), .unset, .unset, .unset, .unset, .unset, .unset, .unset] [] := by first | (simp [entryFrame, mkF, argsToLocals, Value.category, maxLocals]; done) | rfl
set_option maxRecDepth 65536 in
set_option maxHeartbeats 40000000 in
theorem rm_0 (l : Launch) (Z : State) (a0 : Array Value) (hw : ∀ d ∈ tables_1, d.before a0 Z = true) (ws : List Jvm.Cond) (p0 : Int32) (p1 : Int32) (p2 : Int32) (p3 : Int32) (p4 : Int32) (p5 : Int32) (h0 : Heap) (n0 : Nat) (Z0 : n0 ≤ h0.size) (em : Addr) (SM : Sta Z h0 "java/util/ImmutableCollections" "EMPTY_MAP" "Ljava/util/ImmutableCollections$MapN;" (.ref em)) (EM : Exa Z h0 em "java/util/ImmutableCollections$MapN") :
    OwnMet l Z x code maxLocals ret ws room_1 #[.int p0, .int p1, .int p2, .int p3, .int p4, .int p5] h0 (Q0 n0) := by
  refine own_met (plainFor_of_name pn_0) (ef_0 p0 p1 p2 p3 p4 p5) ?_
  intro p e s m below meth c s₁ hx hby hml hZ hown hnm hret hlk X0 e0
  have N0 := Fr.nil n0
  refine s_iloadN X0 hx (hb hby at_0) (pc' := 1) rfl rfl ?_
  refine s_ldcI X0 hx hZ hown (hw _ (List.mem_of_getElem? (i := 0) rfl)) (hb hby at_1) (pc' := 3) rfl ?_
  refine s_iand X0 hx (hb hby at_3) (pc' := 4) rfl ?_
  refine s_i2l X0 hx (hb hby at_4) (pc' := 5) rfl ?_
  refine s_lconst X0 hx (1 : Int64) (hb hby at_5) (pc' := 6) rfl rfl ?_
  refine s_ladd X0 hx (hb hby at_6) (pc' := 7) rfl ?_
  refine s_lstore X0 hx #[.val (.int p0), .val (.int p1), .val (.int p2), .val (.int p3), .val (.int p4), .val (.int p5), .val (.long ((p1 &&& (1048575 : Int32)).toInt64 + (1 : Int64))), .second, .unset, .unset, .unset, .unset, .unset] (hb hby at_7) (pc' := 9) rfl rfl ?_
  have hd := own_d p1
  generalize ed : ((p1 &&& (1048575 : Int32)).toInt64 + (1 : Int64)) = d1
  rw [ed] at hd
  refine s_iloadN X0 hx (hb hby at_9) (pc' := 10) rfl rfl ?_
  refine s_ldcI X0 hx hZ hown (hw _ (List.mem_of_getElem? (i := 1) rfl)) (hb hby at_10) (pc' := 12) rfl ?_
  refine s_iand X0 hx (hb hby at_12) (pc' := 13) rfl ?_
  refine s_i2l X0 hx (hb hby at_13) (pc' := 14) rfl ?_
  refine s_lstore X0 hx #[.val (.int p0), .val (.int p1), .val (.int p2), .val (.int p3), .val (.int p4), .val (.int p5), .val (.long d1), .second, .val (.long ((p2 &&& (1073741823 : Int32)).toInt64)), .second, .unset, .unset, .unset] (hb hby at_14) (pc' := 16) rfl rfl ?_
  have hw1 := own_w p2
  generalize ew : (p2 &&& (1073741823 : Int32)).toInt64 = w1
  rw [ew] at hw1
  have hm := own_mean (q := p0) hd.1 hd.2 hw1.1 hw1.2
  refine s_iloadN X0 hx (hb hby at_16) (pc' := 17) rfl rfl ?_
  refine s_i2l X0 hx (hb hby at_17) (pc' := 18) rfl ?_
  refine s_lload X0 hx (hb hby at_18) (pc' := 20) rfl rfl ?_
  refine s_lmul X0 hx (hb hby at_20) (pc' := 21) rfl ?_
  refine s_l2d X0 hx (hb hby at_21) (pc' := 22) rfl ?_
  refine s_dstore X0 hx #[.val (.int p0), .val (.int p1), .val (.int p2), .val (.int p3), .val (.int p4), .val (.int p5), .val (.long d1), .second, .val (.long w1), .second, .val (.double (FP.l2d (p0.toInt64 * d1))), .second, .unset] (hb hby at_22) (pc' := 24) rfl rfl ?_
  refine s_new X0 hx hZ hown (hw _ (List.mem_of_getElem? (i := 2) rfl)) (hw _ (List.mem_of_getElem? (i := 3) rfl)) (hw _ (List.mem_of_getElem? (i := 4) rfl)) e0 (hb hby at_24) (pc' := 27) rfl (by decide) (by decide) ?_
  intro T1 h1 o1 X1 e1 E1 g1 A1 D1
  have ne1_em : em ≠ o1 := Nat.ne_of_lt (by rw [g1]; exact EM.lt)
  have hg1 : h0.size ≤ o1 := by rw [g1]; exact (Nat.le_refl _)
  have H1 : h0.size ≤ h1.size := Nat.le_trans (Nat.le_refl _) E1.1
  have F1_horizon := D1 (O := "com/example/skewbridge/skewbridge/Simulation$Result") (nm := "horizon") (d := "D") (Or.inr (hw _ (List.mem_of_getElem? (i := 28) rfl))) (ty := .double) (by decide)
  have F1_warmUp := D1 (O := "com/example/skewbridge/skewbridge/Simulation$Result") (nm := "warmUp") (d := "D") (Or.inr (hw _ (List.mem_of_getElem? (i := 30) rfl))) (ty := .double) (by decide)
  have F1_viewerSeconds := D1 (O := "com/example/skewbridge/skewbridge/Simulation$Result") (nm := "viewerSeconds") (d := "D") (Or.inr (hw _ (List.mem_of_getElem? (i := 32) rfl))) (ty := .double) (by decide)
  have F1_streamSeconds := D1 (O := "com/example/skewbridge/skewbridge/Simulation$Result") (nm := "streamSeconds") (d := "D") (Or.inr (hw _ (List.mem_of_getElem? (i := 34) rfl))) (ty := .double) (by decide)
  have F1_merges := D1 (O := "com/example/skewbridge/skewbridge/Simulation$Result") (nm := "merges") (d := "I") (Or.inr (hw _ (List.mem_of_getElem? (i := 36) rfl))) (ty := .int) (by decide)
  have F1_peakStreams := D1 (O := "com/example/skewbridge/skewbridge/Simulation$Result") (nm := "peakStreams") (d := "I") (Or.inr (hw _ (List.mem_of_getElem? (i := 38) rfl))) (ty := .int) (by decide)
  have F1_actions := D1 (O := "com/example/skewbridge/skewbridge/Simulation$Result") (nm := "actions") (d := "Ljava/util/Map;") (Or.inr (hw _ (List.mem_of_getElem? (i := 40) rfl))) (ty := (.object "java/util/Map")) (by decide)
  have F1_arrivals := D1 (O := "com/example/skewbridge/skewbridge/Simulation$Result") (nm := "arrivals") (d := "Ljava/util/Map;") (Or.inr (hw _ (List.mem_of_getElem? (i := 42) rfl))) (ty := (.object "java/util/Map")) (by decide)
  refine s_dup X1 hx (hb hby at_27) (pc' := 28) rfl rfl ?_
  refine s_lload X1 hx (hb hby at_28) (pc' := 30) rfl rfl ?_
  refine s_lload X1 hx (hb hby at_30) (pc' := 32) rfl rfl ?_
  refine s_ladd X1 hx (hb hby at_32) (pc' := 33) rfl ?_
  refine s_l2d X1 hx (hb hby at_33) (pc' := 34) rfl ?_
  refine s_lload X1 hx (hb hby at_34) (pc' := 36) rfl rfl ?_
  refine s_l2d X1 hx (hb hby at_36) (pc' := 37) rfl ?_
  refine s_dload X1 hx (hb hby at_37) (pc' := 39) rfl rfl ?_
  refine s_iloadN X1 hx (hb hby at_39) (pc' := 40) rfl rfl ?_
  refine s_i2d X1 hx (hb hby at_40) (pc' := 41) rfl ?_
  refine s_iload X1 hx (hb hby at_41) (pc' := 43) rfl rfl ?_
  refine s_iload X1 hx (hb hby at_43) (pc' := 45) rfl rfl ?_
  have fS2 := (SM.ext E1)
  refine c_static X1 hx hZ hown (hw _ (List.mem_of_getElem? (i := 5) rfl)) (hw _ (List.mem_of_getElem? (i := 6) rfl)) (hw _ (List.mem_of_getElem? (i := 7) rfl)) (hw _ (List.mem_of_getElem? (i := 8) rfl)) (by decide) e1 (rm_1 l Z a0 hw [] em h1 n0 (Nat.le_trans Z0 H1) fS2) (W := 12) (by decide) (by decide) (by decide) (by decide) (by rw [hml]; rfl) (argsL := []) (rest := [.int p5, .int p4, .double (FP.i2d p3), .double (FP.l2d (p0.toInt64 * d1)), .double (FP.l2d w1), .double (FP.l2d (w1 + d1)), .ref o1, .ref o1]) (lenOf pd_2 rfl) rfl rfl (Nat.le_of_eq rfl) (hb hby at_45) (pc' := 48) rfl ?_
  intro T3 v3 L3 X3 hQ3
  obtain ⟨rfl, Nq3, eh3⟩ := hQ3
  have N3 := Fr.app N0 Nq3
  show Goes p e below _ (T3.setTop (mkF m 48 #[.val (.int p0), .val (.int p1), .val (.int p2), .val (.int p3), .val (.int p4), .val (.int p5), .val (.long d1), .second, .val (.long w1), .second, .val (.double (FP.l2d (p0.toInt64 * d1))), .second, .unset] [.ref em, .int p5, .int p4, .double (FP.i2d p3), .double (FP.l2d (p0.toInt64 * d1)), .double (FP.l2d w1), .double (FP.l2d (w1 + d1)), .ref o1, .ref o1]))
  refine c_static X3 hx hZ hown (hw _ (List.mem_of_getElem? (i := 5) rfl)) (hw _ (List.mem_of_getElem? (i := 6) rfl)) (hw _ (List.mem_of_getElem? (i := 7) rfl)) (hw _ (List.mem_of_getElem? (i := 8) rfl)) (by decide) eh3 (rm_1 l Z a0 hw [] em h1 n0 (Nat.le_trans Z0 H1) fS2) (W := 13) (by decide) (by decide) (by decide) (by decide) (by rw [hml]; rfl) (argsL := []) (rest := [.ref em, .int p5, .int p4, .double (FP.i2d p3), .double (FP.l2d (p0.toInt64 * d1)), .double (FP.l2d w1), .double (FP.l2d (w1 + d1)), .ref o1, .ref o1]) (lenOf pd_2 rfl) rfl rfl (Nat.le_of_eq rfl) (hb hby at_48) (pc' := 51) rfl ?_
  intro T4 v4 L4 X4 hQ4
  obtain ⟨rfl, Nq4, eh4⟩ := hQ4
  have N4 := Fr.app N3 Nq4
  show Goes p e below _ (T4.setTop (mkF m 51 #[.val (.int p0), .val (.int p1), .val (.int p2), .val (.int p3), .val (.int p4), .val (.int p5), .val (.long d1), .second, .val (.long w1), .second, .val (.double (FP.l2d (p0.toInt64 * d1))), .second, .unset] [.ref em, .ref em, .int p5, .int p4, .double (FP.i2d p3), .double (FP.l2d (p0.toInt64 * d1)), .double (FP.l2d w1), .double (FP.l2d (w1 + d1)), .ref o1, .ref o1]))
  have fE5 := (EM.ext E1)
  refine c_special X4 hx hZ rfl hown (hw _ (List.mem_of_getElem? (i := 11) rfl)) (hw _ (List.mem_of_getElem? (i := 12) rfl)) (hw _ (List.mem_of_getElem? (i := 4) rfl)) (hw _ (List.mem_of_getElem? (i := 13) rfl)) (by decide) eh4 (rm_2 l Z a0 hw [] o1 (FP.l2d (w1 + d1)) (FP.l2d w1) (FP.l2d (p0.toInt64 * d1)) (FP.i2d p3) p4 p5 em _ _ _ _ _ _ _ _ h1 n0 (Nat.le_trans Z0 H1) A1 F1_horizon F1_warmUp F1_viewerSeconds F1_streamSeconds F1_merges F1_peakStreams F1_actions F1_arrivals fE5 (Nat.le_trans Z0 hg1)) (W := 1) (by decide) (by decide) (by decide) (by decide) (by rw [hml]; rfl) (argsL := [.double (FP.l2d (w1 + d1)), .double (FP.l2d w1), .double (FP.l2d (p0.toInt64 * d1)), .double (FP.i2d p3), .int p4, .int p5, .ref em, .ref em]) (rest := [.ref o1]) (a := o1) (lenOf pd_3 rfl) rfl rfl (Nat.le_of_eq rfl) (hb hby at_51) (pc' := 54) rfl ?_
  intro T6 v6 L6 X6 hQ6
  obtain ⟨rfl, Nq6, K6, E6, Fa6, Fb6, Fc6⟩ := hQ6
  have N6 := Fr.app N4 Nq6
  have H6 : h0.size ≤ T6.heap.size := Nat.le_trans H1 K6.1
  show Goes p e below _ (T6.setTop (mkF m 54 #[.val (.int p0), .val (.int p1), .val (.int p2), .val (.int p3), .val (.int p4), .val (.int p5), .val (.long d1), .second, .val (.long w1), .second, .val (.double (FP.l2d (p0.toInt64 * d1))), .second, .unset] [.ref o1]))
  refine s_astore X6 hx #[.val (.int p0), .val (.int p1), .val (.int p2), .val (.int p3), .val (.int p4), .val (.int p5), .val (.long d1), .second, .val (.long w1), .second, .val (.double (FP.l2d (p0.toInt64 * d1))), .second, .val (.ref o1)] (hb hby at_54) (pc' := 56) rfl rfl rfl ?_
  refine s_aload X6 hx (hb hby at_56) (pc' := 58) rfl rfl rfl ?_
  refine c_virtual X6 hx hZ hown (hw _ (List.mem_of_getElem? (i := 43) rfl)) (hw _ (List.mem_of_getElem? (i := 44) rfl)) (hw _ (List.mem_of_getElem? (i := 46) rfl)) (hw _ (List.mem_of_getElem? (i := 45) rfl)) (hw _ (List.mem_of_getElem? (i := 4) rfl)) (hw _ (List.mem_of_getElem? (i := 47) rfl)) (by decide) rfl E6 (rm_6 l Z a0 hw [] o1 (FP.l2d (w1 + d1)) (FP.l2d w1) (FP.l2d (p0.toInt64 * d1)) T6.heap n0 (Nat.le_trans Z0 H6) Fa6 Fb6 Fc6 hm.1 (own_nn hm.2)) (W := 0) (by decide) (by decide) (by decide) (by decide) (by rw [hml]; rfl) (argsL := []) (rest := []) (lenOf pd_4 rfl) rfl rfl (Nat.le_of_eq rfl) (hb hby at_58) (pc' := 61) rfl ?_
  intro T7 v7 L7 X7 hQ7
  obtain ⟨rfl, Nq7, eh7⟩ := hQ7
  have N7 := Fr.app N6 Nq7
  show Goes p e below _ (T7.setTop (mkF m 61 #[.val (.int p0), .val (.int p1), .val (.int p2), .val (.int p3), .val (.int p4), .val (.int p5), .val (.long d1), .second, .val (.long w1), .second, .val (.double (FP.l2d (p0.toInt64 * d1))), .second, .val (.ref o1)] [.double (FP.ddiv (FP.l2d (p0.toInt64 * d1)) (FP.dsub (FP.l2d (w1 + d1)) (FP.l2d w1)))]))
  refine s_iloadN X7 hx (hb hby at_61) (pc' := 62) rfl rfl ?_
  refine s_i2d X7 hx (hb hby at_62) (pc' := 63) rfl ?_
  refine s_dcmp X7 hx (0 : Int32) (hb hby at_63) (pc' := 64) rfl (own_same hm.2 (FP.Core.i2d_int p0) _) ?_
  refine s_ifN X7 hx (hb hby at_64) (pc' := 67) rfl (by decide) ?_
  refine s_iconst X7 hx (1 : Int32) (hb hby at_67) (pc' := 68) rfl rfl ?_
  refine s_goto X7 hx (hb hby at_68) (by decide) (pc' := 72) (by decide) ?_
  exact s_retI X7 hx hlk hret (hb hby at_72) rfl (Or.inl ⟨rfl, by simp, _, rfl⟩) (by decide) (by decide) ⟨rfl, N7⟩
set_option maxRecDepth 65536 in
set_option maxHeartbeats 40000000 in
theorem comes_1 {Post : Tables → Env → Array Value → State → Outcome → State → Prop} (hpost : ∀ tb e args s v u, (limb_1_1.after args s (.returned v) u = true ∧ limb_1_2.after args s (.returned v) u = true ∧ True) → FrameEnd s (.returned v) u (Jvm.fieldLocs frame_1_writes args s ++ Jvm.arrayLocs frame_1_arrays args s ++ Jvm.staticLocs frame_1_statics s) 16 128 → Post tb e args s (.returned v) u) :
    ArmFor flags0 classFile x code maxLocals ret World_1 tables_1 room_1 Calls_1 rest_1 Pre_1 Post := by
  intro l hfl _ _ p e ha hc hk s m args below hf hA hF happ hP
  obtain ⟨hcalls, hrest, hpre⟩ := hP
  obtain ⟨-, -, -, hnamed, -, -, -, hat⟩ := (Spec.applies_iff hf).mp happ
  obtain ⟨hg, hn⟩ := and_e (Cond.before_iff.mp (show (Jvm.Cond.and given_1 narrow_1).before args s = true from hpre))
  obtain ⟨g0, gr0⟩ := and_e hg
  obtain ⟨g1, gr1⟩ := and_e gr0
  obtain ⟨g2, gr2⟩ := and_e gr1
  obtain ⟨g3, gr3⟩ := and_e gr2
  obtain ⟨g4, gr4⟩ := and_e gr3
  obtain ⟨g5, gr5⟩ := and_e gr4
  obtain ⟨w0, w1, w2, w3, w4, w5, rfl⟩ : ∃ w0 w1 w2 w3 w4 w5 : Value, args = #[w0, w1, w2, w3, w4, w5] := by
    have hs : args.size = 6 := by simpa [Cond.value, given_1] using g0
    obtain ⟨L⟩ := args
    match L, hs with
    | [w0, w1, w2, w3, w4, w5], _ => exact ⟨w0, w1, w2, w3, w4, w5, rfl⟩
  have hw := fun d (hd : d ∈ tables_1) => atoms_spec (ws := Jvm.Cond.code x code maxLocals ret :: tables_1) hat d (List.mem_cons_of_mem _ hd)
  have hfit : Fit s := fun {y c} hc i hi => by
    obtain ⟨ha, rfl⟩ := Array.getElem?_eq_some_iff.mp hc
    have q := List.all_eq_true.mp ((Array.all_eq_true_iff_forall_mem.mp hF) _ (Array.getElem_mem ha)) i (List.mem_range.mpr hi)
    simpa [Array.getElem?_eq_getElem hi] using q
  obtain ⟨i0, q0⟩ := is_v g1
  obtain rfl : w0 = (.int i0) := Option.some.inj q0
  obtain ⟨i1, q1⟩ := is_v g2
  obtain rfl : w1 = (.int i1) := Option.some.inj q1
  obtain ⟨i2, q2⟩ := is_v g3
  obtain rfl : w2 = (.int i2) := Option.some.inj q2
  obtain ⟨i3, q3⟩ := is_v g4
  obtain rfl : w3 = (.int i3) := Option.some.inj q3
  obtain ⟨i4, q4⟩ := is_v g5
  obtain rfl : w4 = (.int i4) := Option.some.inj q4
  obtain ⟨i5, q5⟩ := is_v gr5
  obtain rfl : w5 = (.int i5) := Option.some.inj q5
  obtain ⟨hsets, hown0⟩ := atoms_of _ (rest_1_c_eq ▸ (show rest_1_c.before _ s = true from hrest))
  have x1 := Cond.before_iff.mp (hsets _ (List.mem_of_getElem? (i := 2) rfl))
  obtain ⟨em, vm1⟩ := exa_v x1
  have SM := Sta.start vm1 (Or.inl (hsets _ (List.mem_of_getElem? (i := 1) rfl)))
  have EM := Exa.start vm1 x1
  obtain ⟨n, o, h1, h2, h3, _, L, rfl, ⟨rfl, N⟩, hq⟩ := rm_0 l s _ hw tables_1 i0 i1 i2 i3 i4 i5 s.heap s.heap.size (Nat.le_refl _) em SM EM p e ha hc hk s m _ below hf ((Spec.applies_iff_loose hf).mp happ).1 ⟨rfl, State.Warmed39.refl s, rfl⟩ trivial
  refine ⟨n, _, h1, h2, h3, hpost _ _ _ _ _ _ ⟨Cond.after_iff.mpr rfl, Cond.after_iff.mpr (eq_i res_at (Term.int_eval (1)) rfl), trivial⟩ ⟨hq.1, hq.2.1, (hq.2.2.sift fun y hy => Or.inr (N y hy)).mono (by decide) (by decide)⟩⟩
theorem main_1_1 : Claimed_1_1 := comes_1 fun _ _ _ _ _ _ h hF => ⟨h.1, hF⟩
theorem main_1_2 : Claimed_1_2 := comes_1 fun _ _ _ _ _ _ h hF => ⟨h.2.1, hF⟩
end Jvm.Pilot.@@N@@
namespace Jvm.Pilot.@@N@@
open Jvm Jvm.ClassFile Sem Op Lib Jvm.Free Jvm.Stand Jvm.Pilot.@@N@@.Jvm.D
/-! MADE BY PROGRAM (witnessworld.py) out of the Statement's table words and the real class files: 16 classes; the members and pool entries that the words name. The judged class is class 1, her method 1. -/
namespace start1
open Jvm.ClassFile
def u (s : String) : CpInfo := .utf8 (stringToUtf16 s)
/-- a pool by its gaps: so many unusable entries, then the entry; so many at the end -/
def gap : Nat → List CpInfo → List CpInfo
  | 0, r => r
  | n + 1, r => .unusable :: gap n r
def poolList (es : List (Nat × CpInfo)) (last : Nat) : List CpInfo := es.foldr (fun e r => gap e.1 (e.2 :: r)) (gap last [])
def pool (es : List (Nat × CpInfo)) (last : Nat) : Array CpInfo := ⟨poolList es last⟩
def fileOf (pool : Array CpInfo) (this : Nat) (attrs : Array Attribute := #[]) (ms : Array MethodInfo := #[]) (fl : Nat := 33) (sup : Nat := 0) (ifs : Array Nat := #[]) (fds : Array FieldInfo := #[]) : ClassFile where
  minorVersion := 0
  majorVersion := 65
  constantPool := pool
  accessFlags := fl
  thisClass := this
  superClass := sup
  interfaces := ifs
  fields := fds
  methods := ms
  attributes := attrs
def plain (name : String) (sup : Option ClassId) : Class where
  name := name
  kind := .ordinary
  loader := none
  accessFlags := 33
  super := sup
  interfaces := #[]
  cf := none
  fields := #[]
  methods := #[]
  instanceTypes := #[]
  staticTypes := #[]
  resolved := #[]
  callSites := []
  init := .initialized
  statics := none
  mirror := none

def pool0 : Array CpInfo := pool [(5, u "<init>"), (0, u "()V"), (1, .class_ 10), (1, u "java/lang/Object")] 113

def k0c0 : Code := { maxStack := 0, maxLocals := 1, code := object_method_1_code, exceptionTable := #[], attributes := #[] }
def k0m0 : Method := { name := "<init>", desc := "()V", sig := { parameters := [], returnType := none }, accessFlags := 1, code := some k0c0 }
/-- java/lang/Object -/
def k0 : Class := { plain "java/lang/Object" none with
  accessFlags := 33
  interfaces := #[]
  cf := some (fileOf pool0 8 #[] #[{ accessFlags := 1, nameIndex := 5, descriptorIndex := 6, attributes := #[] }] 33 0 #[] #[])
  fields := #[]
  methods := #[k0m0]
  instanceTypes := #[]
  staticTypes := #[]
  resolved := Array.replicate 124 none
  statics := none }

def pool1 : Array CpInfo := pool [(2, .class_ 4), (1, u "java/lang/Object"), (0, u "<init>"), (0, u "()V"), (0, .integer 1048575), (0, .integer 1073741823), (0, .class_ 10), (0, u "com/example/skewbridge/skewbridge/Simulation$Result"), (0, .interfaceMethodref 12 13), (0, .class_ 14), (0, .nameAndType 15 16), (0, u "java/util/Map"), (0, u "of"), (0, u "()Ljava/util/Map;"), (0, .methodref 9 18), (0, .nameAndType 5 19), (0, u "(DDDDIILjava/util/Map;Ljava/util/Map;)V"), (0, .methodref 9 21), (0, .nameAndType 22 23), (0, u "meanViewers"), (0, u "()D"), (0, .class_ 25), (0, u "com/example/skewbridge/skewbridge/ResultMeanViewersPinLaw"), (2, u "law"), (0, u "(IIIIII)Z")] 7

def k1m0 : Method := { name := "<init>", desc := "()V", sig := { parameters := [], returnType := none }, accessFlags := 2, code := none }
def k1c1 : Code := { maxStack := 14, maxLocals := 13, code := code, exceptionTable := #[], attributes := #[] }
def k1m1 : Method := { name := "law", desc := "(IIIIII)Z", sig := { parameters := [.int, .int, .int, .int, .int, .int], returnType := some .boolean }, accessFlags := 9, code := some k1c1 }
/-- com/example/skewbridge/skewbridge/ResultMeanViewersPinLaw -/
def k1 : Class := { plain "com/example/skewbridge/skewbridge/ResultMeanViewersPinLaw" (some 0) with
  accessFlags := 49
  interfaces := #[]
  cf := some (fileOf pool1 24 #[] #[{ accessFlags := 2, nameIndex := 5, descriptorIndex := 6, attributes := #[] }, { accessFlags := 9, nameIndex := 28, descriptorIndex := 29, attributes := #[] }] 49 2 #[] #[])
  fields := #[]
  methods := #[k1m0, k1m1]
  instanceTypes := #[]
  staticTypes := #[]
  resolved := Array.replicate 37 none
  statics := none }

def pool2 : Array CpInfo := pool [(1, .methodref 2 3), (0, .class_ 4), (0, .nameAndType 5 6), (0, u "java/lang/Object"), (0, u "<init>"), (0, u "()V"), (0, .class_ 8), (0, u "java/lang/Record")] 13

def k2c0 : Code := { maxStack := 1, maxLocals := 1, code := jdk_30_method_1_code, exceptionTable := #[], attributes := #[] }
def k2m0 : Method := { name := "<init>", desc := "()V", sig := { parameters := [], returnType := none }, accessFlags := 4, code := some k2c0 }
/-- java/lang/Record -/
def k2 : Class := { plain "java/lang/Record" (some 0) with
  accessFlags := 1057
  interfaces := #[]
  cf := some (fileOf pool2 7 #[] #[{ accessFlags := 4, nameIndex := 5, descriptorIndex := 6, attributes := #[] }] 1057 2 #[] #[])
  fields := #[]
  methods := #[k2m0]
  instanceTypes := #[]
  staticTypes := #[]
  resolved := Array.replicate 22 none
  statics := none }

def pool3 : Array CpInfo := pool [(1, .methodref 2 3), (0, .class_ 4), (0, .nameAndType 5 6), (0, u "java/lang/Record"), (0, u "<init>"), (0, u "()V"), (0, .interfaceMethodref 8 9), (0, .class_ 10), (0, .nameAndType 11 12), (0, u "java/util/Map"), (0, u "copyOf"), (0, u "(Ljava/util/Map;)Ljava/util/Map;"), (0, .fieldref 14 15), (0, .class_ 16), (0, .nameAndType 17 18), (0, u "com/example/skewbridge/skewbridge/Simulation$Result"), (0, u "horizon"), (0, u "D"), (0, .fieldref 14 20), (0, .nameAndType 21 18), (0, u "warmUp"), (0, .fieldref 14 23), (0, .nameAndType 24 18), (0, u "viewerSeconds"), (0, .fieldref 14 26), (0, .nameAndType 27 18), (0, u "streamSeconds"), (0, .fieldref 14 29), (0, .nameAndType 30 31), (0, u "merges"), (0, u "I"), (0, .fieldref 14 33), (0, .nameAndType 34 31), (0, u "peakStreams"), (0, .fieldref 14 36), (0, .nameAndType 37 38), (0, u "actions"), (0, u "Ljava/util/Map;"), (0, .fieldref 14 40), (0, .nameAndType 41 38), (0, u "arrivals"), (49, u "(DDDDIILjava/util/Map;Ljava/util/Map;)V"), (4, u "meanViewers"), (0, u "()D"), (15, .class_ 114), (0, u "com/example/skewbridge/skewbridge/Simulation")] 31

def k3c0 : Code := { maxStack := 3, maxLocals := 13, code := prog_40_method_1_code, exceptionTable := #[], attributes := #[] }
def k3m0 : Method := { name := "<init>", desc := "(DDDDIILjava/util/Map;Ljava/util/Map;)V", sig := { parameters := [.double, .double, .double, .double, .int, .int, (.object "java/util/Map"), (.object "java/util/Map")], returnType := none }, accessFlags := 0, code := some k3c0 }
def k3c1 : Code := { maxStack := 6, maxLocals := 1, code := prog_40_method_2_code, exceptionTable := #[], attributes := #[] }
def k3m1 : Method := { name := "meanViewers", desc := "()D", sig := { parameters := [], returnType := some .double }, accessFlags := 0, code := some k3c1 }
/-- com/example/skewbridge/skewbridge/Simulation$Result -/
def k3 : Class := { plain "com/example/skewbridge/skewbridge/Simulation$Result" (some 2) with
  accessFlags := 48
  interfaces := #[]
  cf := some (fileOf pool3 14 #[.nestHost 113] #[{ accessFlags := 0, nameIndex := 5, descriptorIndex := 91, attributes := #[] }, { accessFlags := 0, nameIndex := 96, descriptorIndex := 97, attributes := #[] }] 48 2 #[] #[{ accessFlags := 18, nameIndex := 17, descriptorIndex := 18, attributes := #[] }, { accessFlags := 18, nameIndex := 21, descriptorIndex := 18, attributes := #[] }, { accessFlags := 18, nameIndex := 24, descriptorIndex := 18, attributes := #[] }, { accessFlags := 18, nameIndex := 27, descriptorIndex := 18, attributes := #[] }, { accessFlags := 18, nameIndex := 30, descriptorIndex := 31, attributes := #[] }, { accessFlags := 18, nameIndex := 34, descriptorIndex := 31, attributes := #[] }, { accessFlags := 18, nameIndex := 37, descriptorIndex := 38, attributes := #[] }, { accessFlags := 18, nameIndex := 41, descriptorIndex := 38, attributes := #[] }])
  fields := #[{ name := "horizon", type := .double, accessFlags := 18, slot := 0, constantValue := 0 }, { name := "warmUp", type := .double, accessFlags := 18, slot := 1, constantValue := 0 }, { name := "viewerSeconds", type := .double, accessFlags := 18, slot := 2, constantValue := 0 }, { name := "streamSeconds", type := .double, accessFlags := 18, slot := 3, constantValue := 0 }, { name := "merges", type := .int, accessFlags := 18, slot := 4, constantValue := 0 }, { name := "peakStreams", type := .int, accessFlags := 18, slot := 5, constantValue := 0 }, { name := "actions", type := (.object "java/util/Map"), accessFlags := 18, slot := 6, constantValue := 0 }, { name := "arrivals", type := (.object "java/util/Map"), accessFlags := 18, slot := 7, constantValue := 0 }]
  methods := #[k3m0, k3m1]
  instanceTypes := #[.double, .double, .double, .double, .int, .int, (.object "java/util/Map"), (.object "java/util/Map")]
  staticTypes := #[]
  resolved := Array.replicate 146 none
  statics := none }

def pool4 : Array CpInfo := pool [(2, .class_ 4), (1, u "java/util/Map"), (31, .class_ 37), (0, u "java/util/Map$Entry"), (43, .fieldref 82 83), (0, .class_ 84), (0, .nameAndType 85 86), (0, u "java/util/ImmutableCollections"), (0, u "EMPTY_MAP"), (0, u "Ljava/util/ImmutableCollections$MapN;"), (6, .class_ 94), (0, u "java/lang/Object"), (6, .class_ 102), (0, u "java/util/ImmutableCollections$AbstractImmutableMap"), (5, u "of"), (0, u "()Ljava/util/Map;"), (140, u "copyOf"), (0, u "(Ljava/util/Map;)Ljava/util/Map;")] 11

def k4c0 : Code := { maxStack := 1, maxLocals := 0, code := jdk_72_method_26_code, exceptionTable := #[], attributes := #[] }
def k4m0 : Method := { name := "of", desc := "()Ljava/util/Map;", sig := { parameters := [], returnType := some (.object "java/util/Map") }, accessFlags := 9, code := some k4c0 }
def k4c1 : Code := { maxStack := 2, maxLocals := 1, code := jdk_72_method_39_code, exceptionTable := #[], attributes := #[] }
def k4m1 : Method := { name := "copyOf", desc := "(Ljava/util/Map;)Ljava/util/Map;", sig := { parameters := [(.object "java/util/Map")], returnType := some (.object "java/util/Map") }, accessFlags := 9, code := some k4c1 }
/-- java/util/Map -/
def k4 : Class := { plain "java/util/Map" (some 0) with
  accessFlags := 1537
  interfaces := #[]
  cf := some (fileOf pool4 2 #[.nestMembers #[36]] #[{ accessFlags := 9, nameIndex := 108, descriptorIndex := 109, attributes := #[] }, { accessFlags := 9, nameIndex := 250, descriptorIndex := 251, attributes := #[] }] 1537 93 #[] #[])
  fields := #[]
  methods := #[k4m0, k4m1]
  instanceTypes := #[]
  staticTypes := #[]
  resolved := Array.replicate 263 none
  statics := none }

def pool5 : Array CpInfo := pool [(2, .class_ 4), (1, u "java/lang/Object"), (0, u "<init>"), (0, u "()V"), (3, .class_ 11), (0, u "java/util/ImmutableCollections$List12"), (0, .class_ 13), (0, u "java/util/ImmutableCollections$ListN"), (3, u "Z"), (29, .class_ 49), (1, u "java/util/ImmutableCollections"), (0, u "$assertionsDisabled"), (5, u "[Ljava/lang/Object;"), (5, u "EMPTY_LIST"), (0, u "Ljava/util/ImmutableCollections$ListN;"), (8, u "EMPTY_LIST_NULLS"), (22, u "SALT32L"), (0, u "J"), (2, u "REVERSE"), (6, u "archivedObjects"), (2, u "EMPTY"), (0, u "Ljava/lang/Object;"), (0, .class_ 112), (0, u "java/util/ImmutableCollections$SetN"), (5, u "EMPTY_SET"), (0, u "Ljava/util/ImmutableCollections$SetN;"), (0, .class_ 121), (0, u "java/util/ImmutableCollections$MapN"), (3, u "EMPTY_MAP"), (0, u "Ljava/util/ImmutableCollections$MapN;"), (4, u "EXPAND_FACTOR"), (0, u "I"), (36, .class_ 170), (0, u "java/util/ImmutableCollections$MapN$MapNIterator"), (0, .class_ 172), (0, u "java/util/ImmutableCollections$MapN$1"), (0, .class_ 174), (0, u "java/util/ImmutableCollections$Map1"), (0, .class_ 176), (0, u "java/util/ImmutableCollections$AbstractImmutableMap"), (0, .class_ 178), (0, u "java/util/ImmutableCollections$SetN$SetNIterator"), (0, .class_ 180), (0, u "java/util/ImmutableCollections$Set12"), (0, .class_ 182), (0, u "java/util/ImmutableCollections$Set12$1"), (0, .class_ 184), (0, u "java/util/ImmutableCollections$AbstractImmutableSet"), (0, .class_ 186), (0, u "java/util/ImmutableCollections$SubList"), (0, .class_ 188), (0, u "java/util/ImmutableCollections$ListItr"), (0, .class_ 190), (0, u "java/util/ImmutableCollections$AbstractImmutableList"), (0, .class_ 192), (0, u "java/util/ImmutableCollections$AbstractImmutableCollection"), (0, .class_ 194), (0, u "java/util/ImmutableCollections$Access"), (0, .class_ 196), (0, u "java/util/ImmutableCollections$Access$1")] 16

def k5m0 : Method := { name := "<init>", desc := "()V", sig := { parameters := [], returnType := none }, accessFlags := 2, code := none }
/-- java/util/ImmutableCollections -/
def k5 : Class := { plain "java/util/ImmutableCollections" (some 0) with
  accessFlags := 32
  interfaces := #[]
  cf := some (fileOf pool5 47 #[.nestMembers #[120, 169, 171, 173, 175, 111, 177, 179, 181, 183, 12, 10, 185, 187, 189, 191, 193, 195]] #[{ accessFlags := 2, nameIndex := 5, descriptorIndex := 6, attributes := #[] }] 32 2 #[] #[{ accessFlags := 26, nameIndex := 95, descriptorIndex := 96, attributes := #[] }, { accessFlags := 26, nameIndex := 99, descriptorIndex := 17, attributes := #[] }, { accessFlags := 10, nameIndex := 106, descriptorIndex := 56, attributes := #[] }, { accessFlags := 26, nameIndex := 109, descriptorIndex := 110, attributes := #[] }, { accessFlags := 24, nameIndex := 62, descriptorIndex := 63, attributes := #[] }, { accessFlags := 24, nameIndex := 72, descriptorIndex := 63, attributes := #[] }, { accessFlags := 24, nameIndex := 118, descriptorIndex := 119, attributes := #[] }, { accessFlags := 24, nameIndex := 125, descriptorIndex := 126, attributes := #[] }, { accessFlags := 24, nameIndex := 131, descriptorIndex := 132, attributes := #[] }, { accessFlags := 4120, nameIndex := 50, descriptorIndex := 17, attributes := #[] }])
  fields := #[{ name := "SALT32L", type := .long, accessFlags := 26, slot := 0, constantValue := 0 }, { name := "REVERSE", type := .boolean, accessFlags := 26, slot := 1, constantValue := 0 }, { name := "archivedObjects", type := (.array (.object "java/lang/Object")), accessFlags := 10, slot := 2, constantValue := 0 }, { name := "EMPTY", type := (.object "java/lang/Object"), accessFlags := 26, slot := 3, constantValue := 0 }, { name := "EMPTY_LIST", type := (.object "java/util/ImmutableCollections$ListN"), accessFlags := 24, slot := 4, constantValue := 0 }, { name := "EMPTY_LIST_NULLS", type := (.object "java/util/ImmutableCollections$ListN"), accessFlags := 24, slot := 5, constantValue := 0 }, { name := "EMPTY_SET", type := (.object "java/util/ImmutableCollections$SetN"), accessFlags := 24, slot := 6, constantValue := 0 }, { name := "EMPTY_MAP", type := (.object "java/util/ImmutableCollections$MapN"), accessFlags := 24, slot := 7, constantValue := 0 }, { name := "EXPAND_FACTOR", type := .int, accessFlags := 24, slot := 8, constantValue := 0 }, { name := "$assertionsDisabled", type := .boolean, accessFlags := 4120, slot := 9, constantValue := 0 }]
  methods := #[k5m0]
  instanceTypes := #[]
  staticTypes := #[.long, .boolean, (.array (.object "java/lang/Object")), (.object "java/lang/Object"), (.object "java/util/ImmutableCollections$ListN"), (.object "java/util/ImmutableCollections$ListN"), (.object "java/util/ImmutableCollections$SetN"), (.object "java/util/ImmutableCollections$MapN"), .int, .boolean]
  resolved := Array.replicate 213 none
  statics := some 0 }

def pool6 : Array CpInfo := pool [(2, .class_ 4), (1, u "java/lang/Object"), (0, u "<init>"), (0, u "()V"), (1, .class_ 10), (1, u "java/util/AbstractMap"), (42, .class_ 54), (0, u "java/util/Map"), (9, u "keySet"), (0, u "Ljava/util/Set;"), (0, .class_ 67), (0, u "java/util/AbstractMap$1"), (5, u "values"), (0, u "Ljava/util/Collection;"), (0, .class_ 76), (0, u "java/util/AbstractMap$2"), (104, .class_ 182), (0, u "java/util/AbstractMap$ViewCollection"), (0, .class_ 184), (0, u "java/util/AbstractMap$SimpleImmutableEntry"), (0, .class_ 186), (0, u "java/util/AbstractMap$SimpleEntry"), (0, .class_ 188), (0, u "java/util/AbstractMap$2$1"), (0, .class_ 190), (0, u "java/util/AbstractMap$1$1")] 5

def k6m0 : Method := { name := "<init>", desc := "()V", sig := { parameters := [], returnType := none }, accessFlags := 4, code := none }
/-- java/util/AbstractMap -/
def k6 : Class := { plain "java/util/AbstractMap" (some 0) with
  accessFlags := 1057
  interfaces := #[4]
  cf := some (fileOf pool6 8 #[.nestMembers #[181, 183, 185, 75, 187, 66, 189]] #[{ accessFlags := 4, nameIndex := 5, descriptorIndex := 6, attributes := #[] }] 1057 2 #[53] #[{ accessFlags := 128, nameIndex := 64, descriptorIndex := 65, attributes := #[] }, { accessFlags := 128, nameIndex := 73, descriptorIndex := 74, attributes := #[] }])
  fields := #[{ name := "keySet", type := (.object "java/util/Set"), accessFlags := 128, slot := 0, constantValue := 0 }, { name := "values", type := (.object "java/util/Collection"), accessFlags := 128, slot := 1, constantValue := 0 }]
  methods := #[k6m0]
  instanceTypes := #[(.object "java/util/Set"), (.object "java/util/Collection")]
  staticTypes := #[]
  resolved := Array.replicate 196 none
  statics := none }

def pool7 : Array CpInfo := pool [(1, .class_ 2), (0, u "java/io/Serializable"), (0, .class_ 4), (0, u "java/lang/Object")] 2

/-- java/io/Serializable -/
def k7 : Class := { plain "java/io/Serializable" (some 0) with
  accessFlags := 1537
  interfaces := #[]
  cf := some (fileOf pool7 1 #[] #[] 1537 3 #[] #[])
  fields := #[]
  methods := #[]
  instanceTypes := #[]
  staticTypes := #[]
  resolved := Array.replicate 7 none
  statics := none }

def pool8 : Array CpInfo := pool [(2, .class_ 4), (1, u "java/util/AbstractMap"), (0, u "<init>"), (0, u "()V"), (1, .class_ 10), (1, u "java/util/ImmutableCollections"), (3, .class_ 16), (1, u "java/util/ImmutableCollections$AbstractImmutableMap"), (2, .class_ 20), (0, u "java/io/Serializable")] 66

def k8m0 : Method := { name := "<init>", desc := "()V", sig := { parameters := [], returnType := none }, accessFlags := 0, code := none }
/-- java/util/ImmutableCollections$AbstractImmutableMap -/
def k8 : Class := { plain "java/util/ImmutableCollections$AbstractImmutableMap" (some 6) with
  accessFlags := 1056
  interfaces := #[7]
  cf := some (fileOf pool8 14 #[.nestHost 8] #[{ accessFlags := 0, nameIndex := 5, descriptorIndex := 6, attributes := #[] }] 1056 2 #[19] #[])
  fields := #[]
  methods := #[k8m0]
  instanceTypes := #[(.object "java/util/Set"), (.object "java/util/Collection")]
  staticTypes := #[]
  resolved := Array.replicate 87 none
  statics := none }

def pool9 : Array CpInfo := pool [(1, .class_ 2), (0, u "java/util/ImmutableCollections"), (1, .class_ 6), (1, u "java/util/ImmutableCollections$AbstractImmutableMap"), (10, .class_ 19), (1, u "java/util/ImmutableCollections$MapN"), (0, u "size"), (0, u "I"), (4, u "table"), (0, u "[Ljava/lang/Object;")] 121

/-- java/util/ImmutableCollections$MapN -/
def k9 : Class := { plain "java/util/ImmutableCollections$MapN" (some 8) with
  accessFlags := 48
  interfaces := #[]
  cf := some (fileOf pool9 17 #[.nestHost 1] #[] 48 4 #[] #[{ accessFlags := 16, nameIndex := 26, descriptorIndex := 27, attributes := #[] }, { accessFlags := 16, nameIndex := 20, descriptorIndex := 21, attributes := #[] }])
  fields := #[{ name := "table", type := (.array (.object "java/lang/Object")), accessFlags := 16, slot := 2, constantValue := 0 }, { name := "size", type := .int, accessFlags := 16, slot := 3, constantValue := 0 }]
  methods := #[]
  instanceTypes := #[(.object "java/util/Set"), (.object "java/util/Collection"), (.array (.object "java/lang/Object")), .int]
  staticTypes := #[]
  resolved := Array.replicate 149 none
  statics := none }

def pool10 : Array CpInfo := pool [(1, u "java/lang/Cloneable"), (0, .class_ 1), (0, u "java/lang/Object"), (0, .class_ 3)] 3

/-- java/lang/Cloneable -/
def k10 : Class := { plain "java/lang/Cloneable" (some 0) with
  accessFlags := 1537
  interfaces := #[]
  cf := some (fileOf pool10 2 #[] #[] 1537 4 #[] #[])
  fields := #[]
  methods := #[]
  instanceTypes := #[]
  staticTypes := #[]
  resolved := Array.replicate 8 none
  statics := none }

/-- the primitive byte -/
def k11 : Class := { plain "byte" none with kind := .primitive 'B', accessFlags := 0x411 }
/-- [B -/
def k12 : Class := { plain "[B" (some 0) with kind := .array 11 .byte, interfaces := #[10, 7], accessFlags := 1041 }

/-- the primitive int -/
def k13 : Class := { plain "int" none with kind := .primitive 'I', accessFlags := 0x411 }
/-- [I -/
def k14 : Class := { plain "[I" (some 0) with kind := .array 13 .int, interfaces := #[10, 7], accessFlags := 1041 }

/-- [Ljava/lang/Object; -/
def k15 : Class := { plain "[Ljava/lang/Object;" (some 0) with kind := .array 0 (.object "java/lang/Object"), interfaces := #[10, 7], accessFlags := 1041 }

def heap : Heap := #[{ cls := 5, slots := #[.long 0, .int 0, .null, .null, .null, .null, .null, .ref 2, .int 0, .int 0], vm := .statics 5 },
  { cls := 15, slots := #[], vm := .none },
  { cls := 9, slots := #[.null, .null, .ref 1, .int 0], vm := .none }]
def classes : Array Class := #[k0, k1, k2, k3, k4, k5, k6, k7, k8, k9, k10, k11, k12, k13, k14, k15]
def interned : List (Array UInt16 × Addr) := []
def slotsUsed : Nat := 14
def theMethod : MethodId := ⟨1, 1⟩
def args0 : Array Value := #[.int 5, .int 6, .int 7, .int 8, .int 9, .int 10]
def aboutOver (below : List Frame) : State where
  vm := { classes := classes, interned := interned.toArray }
  heap := heap
  slotsUsed := slotsUsed
  threads := #[{ frames := .invoking theMethod args0 :: below }]
def below0 : List Frame := [.native { method := ⟨0, 0⟩, args := #[] }]
def about1 : State := aboutOver below0
def p0 : Program := .bare "" "" ""
def e0 : Env := launch0.env 0 0 0
theorem w_frames : about1.frames = Frame.invoking theMethod args0 :: below0 := rfl
set_option maxRecDepth 65536 in
theorem w_args : argsFit about1.vm theMethod args0 = true := by decide +kernel
set_option maxRecDepth 65536 in
theorem w_heap : heapFits about1 = true := by decide +kernel
set_option maxRecDepth 65536 in
theorem w_runnable : about1.curStatus? = some .runnable := by decide +kernel
set_option maxRecDepth 65536 in
theorem w_alone : about1.alone = true := by decide +kernel
set_option maxRecDepth 65536 in
theorem w_named : about1.methodNamed? x = some theMethod := by decide +kernel
set_option maxRecDepth 65536 in
theorem w_hears : about1.hears theMethod below0 = true := by decide +kernel
set_option maxRecDepth 65536 in
theorem w_ripe : about1.ripe theMethod args0 below0 = true := by decide +kernel
theorem w_running : about1.status = .running := rfl
set_option maxRecDepth 65536 in
theorem w_room : about1.hasRoom e0.platform room_1 = true :=
  launch0.hasRoom_least _ room_1 (by decide +kernel) (by decide +kernel) (by decide +kernel) (by decide +kernel) (by decide +kernel) (by decide +kernel)
theorem allAtoms_all (ts : List Jvm.Cond) (a : Array Jvm.Value) (st : Jvm.State) : (allAtoms ts).before a st = ts.all (fun c => c.before a st) := by
  induction ts with
  | nil => rfl
  | cons c t ih =>
    show (Jvm.Cond.and c (allAtoms t)).before a st = _
    rw [Jvm.Cond.before_and, ih, List.all_cons]
def words1 : List Jvm.Cond := Jvm.Cond.code x code maxLocals ret :: tables_1
/-- a 'code' word, met by the world's own term for the bytes: nothing is compared byte by byte -/
theorem code_word {y : MethodName} {bytes : ByteArray} {mx : Nat} {rt : Option FieldType} {a : Array Value} {s : State} {m : MethodId} {meth : Method} {c : Code} (h1 : s.methodNamed? y = some m) (h2 : s.vm.method? m = some meth) (h3 : meth.code = some c) (h4 : c.code = bytes)
    (h5 : (c.maxLocals == mx && c.exceptionTable.isEmpty && decide (c.maxStack ≤ mostOperands) && decide (meth.sig.returnType = rt) && !meth.locks && decide (parseMethodDescriptor y.desc = some meth.sig)) = true) : (Jvm.Cond.code y bytes mx rt).before a s = true := by
  simp only [Bool.and_eq_true, beq_iff_eq, Bool.not_eq_true', decide_eq_true_eq] at h5
  obtain ⟨⟨⟨⟨⟨g1, g2⟩, g3⟩, g4⟩, g5⟩, g6⟩ := h5
  simp [Cond.before, Cond.holds, Cond.value, h1, h2, h3, h4, g1, g2, g3, g4, g5, g6]
def isCode : Jvm.Cond → Bool
  | .code _ _ _ _ => true
  | _ => false
theorem all_split {L : List Jvm.Cond} {P : Jvm.Cond → Bool} (h1 : L.all (fun c => isCode c || P c) = true) (h2 : ∀ c ∈ L.filter isCode, P c = true) : L.all P = true := by
  refine List.all_eq_true.mpr fun c hc => ?_
  have h := List.all_eq_true.mp h1 c hc
  rcases Bool.eq_false_or_eq_true (isCode c) with hi | hi
  · exact h2 c (List.mem_filter.mpr ⟨hc, hi⟩)
  · simpa [hi] using h
set_option maxRecDepth 65536 in
theorem w_c0 : (Jvm.Cond.code x code maxLocals ret).before args0 about1 = true := code_word (m := ⟨1, 1⟩) (meth := k1m1) (c := k1c1) (by decide +kernel) rfl rfl rfl (by decide +kernel)
set_option maxRecDepth 65536 in
theorem w_c1 : (Jvm.Cond.code ({ cls := "java/util/Map", name := "of", desc := "()Ljava/util/Map;" } : Jvm.MethodName) jdk_72_method_26_code (0 : Nat) (Option.some (Jvm.ClassFile.FieldType.object "java/util/Map"))).before args0 about1 = true := code_word (m := ⟨4, 0⟩) (meth := k4m0) (c := k4c0) (by decide +kernel) rfl rfl rfl (by decide +kernel)
set_option maxRecDepth 65536 in
theorem w_c2 : (Jvm.Cond.code ({ cls := "com/example/skewbridge/skewbridge/Simulation$Result", name := "<init>", desc := "(DDDDIILjava/util/Map;Ljava/util/Map;)V" } : Jvm.MethodName) prog_40_method_1_code (13 : Nat) (Option.none : Option Jvm.ClassFile.FieldType)).before args0 about1 = true := code_word (m := ⟨3, 0⟩) (meth := k3m0) (c := k3c0) (by decide +kernel) rfl rfl rfl (by decide +kernel)
set_option maxRecDepth 65536 in
theorem w_c3 : (Jvm.Cond.code ({ cls := "java/lang/Record", name := "<init>", desc := "()V" } : Jvm.MethodName) jdk_30_method_1_code (1 : Nat) (Option.none : Option Jvm.ClassFile.FieldType)).before args0 about1 = true := code_word (m := ⟨2, 0⟩) (meth := k2m0) (c := k2c0) (by decide +kernel) rfl rfl rfl (by decide +kernel)
set_option maxRecDepth 65536 in
theorem w_c4 : (Jvm.Cond.code ({ cls := "java/lang/Object", name := "<init>", desc := "()V" } : Jvm.MethodName) object_method_1_code (1 : Nat) (Option.none : Option Jvm.ClassFile.FieldType)).before args0 about1 = true := code_word (m := ⟨0, 0⟩) (meth := k0m0) (c := k0c0) (by decide +kernel) rfl rfl rfl (by decide +kernel)
set_option maxRecDepth 65536 in
theorem w_c5 : (Jvm.Cond.code ({ cls := "java/util/Map", name := "copyOf", desc := "(Ljava/util/Map;)Ljava/util/Map;" } : Jvm.MethodName) jdk_72_method_39_code (1 : Nat) (Option.some (Jvm.ClassFile.FieldType.object "java/util/Map"))).before args0 about1 = true := code_word (m := ⟨4, 1⟩) (meth := k4m1) (c := k4c1) (by decide +kernel) rfl rfl rfl (by decide +kernel)
set_option maxRecDepth 65536 in
theorem w_c6 : (Jvm.Cond.code ({ cls := "com/example/skewbridge/skewbridge/Simulation$Result", name := "meanViewers", desc := "()D" } : Jvm.MethodName) prog_40_method_2_code (1 : Nat) (Option.some Jvm.ClassFile.FieldType.double)).before args0 about1 = true := code_word (m := ⟨3, 1⟩) (meth := k3m1) (c := k3c1) (by decide +kernel) rfl rfl rfl (by decide +kernel)
def codes1 : List Jvm.Cond := [Jvm.Cond.code x code maxLocals ret, Jvm.Cond.code ({ cls := "java/util/Map", name := "of", desc := "()Ljava/util/Map;" } : Jvm.MethodName) jdk_72_method_26_code (0 : Nat) (Option.some (Jvm.ClassFile.FieldType.object "java/util/Map")), Jvm.Cond.code ({ cls := "com/example/skewbridge/skewbridge/Simulation$Result", name := "<init>", desc := "(DDDDIILjava/util/Map;Ljava/util/Map;)V" } : Jvm.MethodName) prog_40_method_1_code (13 : Nat) (Option.none : Option Jvm.ClassFile.FieldType), Jvm.Cond.code ({ cls := "java/lang/Record", name := "<init>", desc := "()V" } : Jvm.MethodName) jdk_30_method_1_code (1 : Nat) (Option.none : Option Jvm.ClassFile.FieldType), Jvm.Cond.code ({ cls := "java/lang/Object", name := "<init>", desc := "()V" } : Jvm.MethodName) object_method_1_code (1 : Nat) (Option.none : Option Jvm.ClassFile.FieldType), Jvm.Cond.code ({ cls := "java/util/Map", name := "copyOf", desc := "(Ljava/util/Map;)Ljava/util/Map;" } : Jvm.MethodName) jdk_72_method_39_code (1 : Nat) (Option.some (Jvm.ClassFile.FieldType.object "java/util/Map")), Jvm.Cond.code ({ cls := "com/example/skewbridge/skewbridge/Simulation$Result", name := "meanViewers", desc := "()D" } : Jvm.MethodName) prog_40_method_2_code (1 : Nat) (Option.some Jvm.ClassFile.FieldType.double)]
set_option maxRecDepth 65536 in
theorem codes_eq : words1.filter isCode = codes1 := rfl
theorem w_codes : ∀ c ∈ words1.filter isCode, c.before args0 about1 = true := by
  rw [codes_eq]
  intro c hc
  simp only [codes1, List.mem_cons, List.not_mem_nil, or_false] at hc
  rcases hc with rfl | rfl | rfl | rfl | rfl | rfl | rfl
  · exact w_c0
  · exact w_c1
  · exact w_c2
  · exact w_c3
  · exact w_c4
  · exact w_c5
  · exact w_c6
set_option maxRecDepth 65536 in
theorem w_t1 : (words1.take 24).all (fun c => isCode c || c.before args0 about1) = true := by decide +kernel
set_option maxRecDepth 65536 in
theorem w_t2 : ((words1.drop 24).take 24).all (fun c => isCode c || c.before args0 about1) = true := by decide +kernel
set_option maxRecDepth 65536 in
theorem w_t3 : ((words1.drop 24).drop 24).all (fun c => isCode c || c.before args0 about1) = true := by decide +kernel
theorem w_tables : (allAtoms (Jvm.Cond.code x code maxLocals ret :: tables_1)).before args0 about1 = true := by
  rw [allAtoms_all]
  show words1.all (fun c => c.before args0 about1) = true
  refine all_split ?_ w_codes
  rw [← List.take_append_drop 24 words1, List.all_append, w_t1, ← List.take_append_drop 24 (words1.drop 24), List.all_append, w_t2, w_t3]
  rfl
set_option maxRecDepth 65536 in
theorem w_rest : rest_1_c.before args0 about1 = true := by decide +kernel
set_option maxRecDepth 65536 in
theorem w_case : (Jvm.Cond.and given_1 narrow_1).before args0 about1 = true := by decide +kernel
theorem w_applies : (headSpec (Jvm.Cond.code x code maxLocals ret :: tables_1) room_1).applies x e0.platform about1 = true :=
  (Spec.applies_iff w_frames).mpr ⟨w_running, w_runnable, w_alone, w_named, w_hears, w_ripe, w_room, w_tables⟩
theorem atStart : AtStart classFile x code maxLocals ret World_1 tables_1 room_1 Calls_1 rest_1 Pre_1 launch0 p0 e0 about1 theMethod args0 below0 :=
  ⟨lists_1, trivial, launch0.admits_env _ _ _, launch0.least_env, fairChoices_fair.cas, fairChoices_fair.clock, w_frames, w_args, w_heap, w_applies, trivial, w_rest, w_case⟩
end start1
theorem witness_1 : WitnessClaimed_1 := ⟨start1.p0, start1.e0, start1.about1, start1.theMethod, start1.args0, start1.below0, start1.atStart⟩
end Jvm.Pilot.@@N@@
