import JvmDerived
import JvmDerived.Pilot.@@N@@Statement
import JvmDerived.Pilot.@@N@@Code
set_option linter.unusedVariables false
set_option linter.unusedSimpArgs false
namespace Jvm.Pilot.@@N@@
open Jvm Jvm.ClassFile Sem Op Lib Jvm.Free Jvm.Stand Jvm.LawKit Jvm.RoadKit Bundle Jvm.Pilot.@@N@@.Jvm.D Jvm.Free.Fl
section Own
variable {p : Program} {l : Launch} {e : Env} {R : Room} {s : State} {m : MethodId} {args : Array Value} {below : List Frame} {meth : Method} {c : Code} {T : State} {locs : List Loc} {cells slots : Nat} {Z : State} {a0 : Array Value} {h : Heap} {G : Outcome → State → Prop}
/-- from S the body comes to its end, and the end is as asked -/
def Goes (p : Program) (e : Env) (below : List Frame) (G : Outcome → State → Prop) (S : State) : Prop :=
  ∃ s₂ o, Steps p.tables e below S s₂ ∧ s₂.status = .running ∧ Ended s₂ below o ∧ G o s₂
theorem own_go {S S' : State} (st : ∀ t, Steps p.tables e below S' t → Steps p.tables e below S t) (k : Goes p e below G S') : Goes p e below G S := by
  obtain ⟨s₂, o, h1, h2⟩ := k
  exact ⟨s₂, o, st _ h1, h2⟩
/-- what a contract says of the end -/
def EndsAs (Q : Option Value → Heap → List Loc → Prop) (s : State) (rc rs : Nat) (o : Outcome) (U : State) : Prop :=
  ∃ v L, o = .returned v ∧ Q v U.heap L ∧ FrameEnd s o U L rc rs
abbrev OwnMet (l : Launch) (Z : State) (y : MethodName) (bytes : ByteArray) (maxL : Nat) (ret : Option FieldType) (ws : List Jvm.Cond) (rm : Room) (as' : Array Value) (h : Heap) (Q : Option Value → Heap → List Loc → Prop) : Prop :=
  MetFree l y (head1 (Jvm.Cond.code y bytes maxL ret :: ws) rm) (fun a U => a = as' ∧ Z.Warmed39 U.vm ∧ U.heap = h) (fun _ _ _ _ _ => True) (fun _ U o U' => ∃ v L, o = .returned v ∧ Q v U'.heap L ∧ FrameEnd U o U' L rm.cells rm.slots)
theorem own_met {y : MethodName} {bytes : ByteArray} {maxL : Nat} {ret : Option FieldType} {ws : List Jvm.Cond} {rm : Room} {as' : Array Value} {h : Heap} {Q : Option Value → Heap → List Loc → Prop} {Ls : Array Slot}
    (hpn : plainFor y = true) (hef : ∀ m, entryFrame m as' maxL = mkF m 0 Ls [])
    (body : ∀ (p : Program) (e : Env) (s : State) (m : MethodId) (below : List Frame) (meth : Method) (c : Code) (s₁ : State), p.tables.exec = Jvm.exec → c.code = bytes → c.maxLocals = maxL → Z.Warmed39 s.vm → s.vm.findClass y.cls = some m.cls → meth.name = y.name → meth.sig.returnType = ret → meth.locks = false →
      Stand p l e rm s m as' below meth c s₁ [] 0 0 → s₁.heap = h → Goes p e below (EndsAs Q s rm.cells rm.slots) (s₁.setTop (mkF m 0 Ls []))) :
    OwnMet l Z y bytes maxL ret ws rm as' h Q := by
  refine MetFree.of_bodySF hpn hisR ?_
  intro p e s m args below meth c s₁ Bd hml0 hP hK
  obtain ⟨rfl, hZ, hh⟩ := hP
  obtain ⟨s₂, o, h1, h2, h3, h4⟩ := body p e s m below meth c s₁ Bd.exec Bd.bytes hml0 hZ (findClass_of_methodNamed Bd.named) (name_of_methodNamed Bd.named Bd.method).1 Bd.returns Bd.notSynchronized (Stand.of_body Bd) (by rw [← hh, Bd.state]; rfl)
  exact ⟨s₂, o, castTop (hef m) h1, h2, h3, h4⟩
theorem s_retI (X : Stand p l e R s m args below meth c T locs cells slots) (hx : p.tables.exec = Jvm.exec) (hlk : meth.locks = false) {Q : Option Value → Heap → List Loc → Prop} {pc rc rs : Nat} {Ls : Array Slot} {st : List Value} {t : FieldType} {w : Value} {i : Instr} (hret : meth.sig.returnType = some t)
    (hd : decode c.code pc = .ok (i, 1)) (hn : narrow t w = w) (hi : (i = .ireturn ∧ (t = .int ∨ t = .boolean ∨ t = .byte ∨ t = .char ∨ t = .short) ∧ ∃ z, w = .int z) ∨ (i = .lreturn ∧ t = .long ∧ ∃ z, w = .long z) ∨ (i = .dreturn ∧ t = .double ∧ ∃ z, w = .double z) ∨ (i = .freturn ∧ t = .float ∧ ∃ z, w = .float z) ∨ (i = .areturn ∧ t.isReference = true ∧ w.isRef = true))
    (hc : cells ≤ rc) (hs : slots ≤ rs) (hq : Q (some w) T.heap locs) : Goes p e below (EndsAs Q s rc rs) (T.setTop (mkF m pc Ls (w :: st))) := by
  obtain ⟨fs, hr, hrun, hended, hW, hsame⟩ := X.leave (v := some w) (fun h => by rw [hret] at h; cases h) hlk
  exact ⟨_, _, retOut X hx hret hn hi hd hr, hrun, hended, _, _, rfl, hq, ⟨_, rfl⟩, hW, hsame.mono hc hs⟩
theorem s_ret (X : Stand p l e R s m args below meth c T locs cells slots) (hx : p.tables.exec = Jvm.exec) (hlk : meth.locks = false) {Q : Option Value → Heap → List Loc → Prop} {pc rc rs : Nat} {Ls : Array Slot} (hret : meth.sig.returnType = none)
    (hd : decode c.code pc = .ok (.return_, 1)) (hc : cells ≤ rc) (hs : slots ≤ rs) (hq : Q none T.heap locs) : Goes p e below (EndsAs Q s rc rs) (T.setTop (mkF m pc Ls [])) := by
  obtain ⟨fs, hr, hrun, hended, hW, hsame⟩ := X.leave (v := none) (fun _ => rfl) hlk
  exact ⟨_, _, X.returnOut hx hret hd hr, hrun, hended, _, _, rfl, hq, ⟨_, rfl⟩, hW, hsame.mono hc hs⟩
theorem c_static (X : Stand p l e R s m args below meth c T locs cells slots) (hx : p.tables.exec = Jvm.exec) (hZ : Z.Warmed39 s.vm) {own : String} {index : Nat} {y : MethodName} (hown : s.vm.findClass own = some m.cls)
    {bytes : ByteArray} {maxL : Nat} {ret : Option FieldType} (w1 : (Jvm.Cond.methodLink own index y).before a0 Z = true) (w2 : (Jvm.Cond.static y).before a0 Z = true) (w3 : (Jvm.Cond.initialized y.cls).before a0 Z = true) (w4 : (Jvm.Cond.code y bytes maxL ret).before a0 Z = true) (hy : y.cls ≠ "java/lang/invoke/MethodHandle" ∧ y.cls ≠ "java/lang/invoke/VarHandle")
    {rm : Room} {as' : Array Value} {Q : Option Value → Heap → List Loc → Prop} (eT : T.heap = h) (hM : OwnMet l Z y bytes maxL ret [] rm as' h Q) {W : Nat} (hf : rm.frames + 1 ≤ R.frames) (hl : W + (maxL + 11) + rm.locals ≤ R.locals) (hc : cells + rm.cells ≤ R.cells) (hs : slots + rm.slots ≤ R.slots)
    {pc pc' : Nat} {Ls : Array Slot} {st : List Value} (hsize : Ls.size = c.maxLocals) {argsL rest : List Value} (hlen : ∀ sig, parseMethodDescriptor y.desc = some sig → argsL.length = sig.parameters.length) (has : argsL.toArray = as') (hst : st = argsL.reverse ++ rest) (hW : (rest.map fun v => v.category).sum ≤ W)
    (hd : decode c.code pc = .ok (.invokestatic index, 3)) (hp : pc + 3 = pc')
    (k : ∀ (T' : State) (v : Option Value) (L : List Loc), Stand p l e R s m args below meth c T' (locs ++ L) (cells + rm.cells) (slots + rm.slots) → Q v T'.heap L → Goes p e below G (T'.setTop (mkF m pc' Ls (v.toList ++ rest)))) :
    Goes p e below G (T.setTop (mkF m pc Ls st)) := by
  subst hp
  obtain ⟨v, _, ⟨T', L', k', n'⟩, -, X', ⟨Lc, hQ, l1, y1, z1⟩, stp⟩ := Jvm.LawKit.callS X hx (y := y) hown (mvT hZ w1) (mvT hZ w2) (mvT hZ w3) (mvT hZ w4) hy (backOf (W := W) hM hZ w4 w3 hf hl) (g := mkF m pc Ls st) rfl hsize (argsL := argsL) (rest := rest) hlen hst (by show 2 * 0 + _ ≤ _; omega) hd (fun _ _ => ⟨has, eT, hc, hs⟩)
  dsimp only [Pt.U, Pt.locs, Pt.cells, Pt.slots] at X' l1 y1 z1 stp hQ
  subst l1 y1 z1
  exact own_go stp (k T' v Lc X' hQ)
theorem c_special (X : Stand p l e R s m args below meth c T locs cells slots) (hx : p.tables.exec = Jvm.exec) (hZ : Z.Warmed39 s.vm) {own : String} {index : Nat} {y : MethodName} (hy1 : y.name = "<init>") (hown : s.vm.findClass own = some m.cls)
    {bytes : ByteArray} {maxL : Nat} (w1 : (Jvm.Cond.methodLink own index y).before a0 Z = true) (w2 : (Jvm.Cond.instanceMethod y).before a0 Z = true) (w3 : (Jvm.Cond.initialized y.cls).before a0 Z = true) (w4 : (Jvm.Cond.code y bytes maxL none).before a0 Z = true) (hy : y.cls ≠ "java/lang/invoke/MethodHandle" ∧ y.cls ≠ "java/lang/invoke/VarHandle")
    {rm : Room} {as' : Array Value} {Q : Option Value → Heap → List Loc → Prop} (eT : T.heap = h) (hM : OwnMet l Z y bytes maxL none [] rm as' h Q) {W : Nat} (hf : rm.frames + 1 ≤ R.frames) (hl : W + (maxL + 11) + rm.locals ≤ R.locals) (hc : cells + rm.cells ≤ R.cells) (hs : slots + rm.slots ≤ R.slots)
    {pc pc' : Nat} {Ls : Array Slot} {st : List Value} (hsize : Ls.size = c.maxLocals) {a : Addr} {argsL rest : List Value} (hlen : ∀ sig, parseMethodDescriptor y.desc = some sig → argsL.length = sig.parameters.length) (has : (.ref a :: argsL).toArray = as') (hst : st = argsL.reverse ++ .ref a :: rest) (hW : (rest.map fun v => v.category).sum ≤ W)
    (hd : decode c.code pc = .ok (.invokespecial index, 3)) (hp : pc + 3 = pc')
    (k : ∀ (T' : State) (v : Option Value) (L : List Loc), Stand p l e R s m args below meth c T' (locs ++ L) (cells + rm.cells) (slots + rm.slots) → Q v T'.heap L → Goes p e below G (T'.setTop (mkF m pc' Ls (v.toList ++ rest)))) :
    Goes p e below G (T.setTop (mkF m pc Ls st)) := by
  subst hp
  obtain ⟨v, _, ⟨T', L', k', n'⟩, -, X', ⟨Lc, hQ, l1, y1, z1⟩, stp⟩ := X.specialBack hx (y := y) hy1 hown (mvT hZ w1) (mvT hZ w2) (mvT hZ w4) hy (backOf (W := W) hM hZ w4 w3 hf hl) (g := mkF m pc Ls st) rfl hsize (Steps.refl _) (a := a) (argsL := argsL) (rest := rest) hlen hst (by show 2 * 0 + _ ≤ _; omega) hd (fun _ _ => ⟨has, eT, hc, hs⟩)
  dsimp only [Pt.U, Pt.locs, Pt.cells, Pt.slots] at X' l1 y1 z1 stp hQ
  subst l1 y1 z1
  exact own_go (fun _ q => stp.trans q) (k T' v Lc X' hQ)
theorem c_virtual (X : Stand p l e R s m args below meth c T locs cells slots) (hx : p.tables.exec = Jvm.exec) (hZ : Z.Warmed39 s.vm) {own C : String} {index : Nat} {y : MethodName} (hown : s.vm.findClass own = some m.cls)
    {bytes : ByteArray} {maxL : Nat} {ret : Option FieldType} (w1 : (Jvm.Cond.methodLink own index y).before a0 Z = true) (w2 : (Jvm.Cond.declares y).before a0 Z = true) (w5 : (Jvm.Cond.selects C y y).before a0 Z = true) (w6 : (Jvm.Cond.instanceMethod y).before a0 Z = true) (w3 : (Jvm.Cond.initialized y.cls).before a0 Z = true) (w4 : (Jvm.Cond.code y bytes maxL ret).before a0 Z = true) (hy : y.cls ≠ "java/lang/invoke/MethodHandle" ∧ y.cls ≠ "java/lang/invoke/VarHandle")
    {rm : Room} {as' : Array Value} {Q : Option Value → Heap → List Loc → Prop} (eT : T.heap = h) {a : Addr} (E : Exa Z h a C) (hM : OwnMet l Z y bytes maxL ret [] rm as' h Q) {W : Nat} (hf : rm.frames + 1 ≤ R.frames) (hl : W + (maxL + 11) + rm.locals ≤ R.locals) (hc : cells + rm.cells ≤ R.cells) (hs : slots + rm.slots ≤ R.slots)
    {pc pc' : Nat} {Ls : Array Slot} {st : List Value} (hsize : Ls.size = c.maxLocals) {argsL rest : List Value} (hlen : ∀ sig, parseMethodDescriptor y.desc = some sig → argsL.length = sig.parameters.length) (has : (.ref a :: argsL).toArray = as') (hst : st = argsL.reverse ++ .ref a :: rest) (hW : (rest.map fun v => v.category).sum ≤ W)
    (hd : decode c.code pc = .ok (.invokevirtual index, 3)) (hp : pc + 3 = pc')
    (k : ∀ (T' : State) (v : Option Value) (L : List Loc), Stand p l e R s m args below meth c T' (locs ++ L) (cells + rm.cells) (slots + rm.slots) → Q v T'.heap L → Goes p e below G (T'.setTop (mkF m pc' Ls (v.toList ++ rest)))) :
    Goes p e below G (T.setTop (mkF m pc Ls st)) := by
  subst hp
  obtain ⟨cq, kq, qa, qb, qc⟩ := isOf hZ eT E
  obtain ⟨v, _, ⟨T', L', k', n'⟩, -, X', ⟨Lc, hQ, l1, y1, z1⟩, stp⟩ := X.virtualBack hx (y := y) (z := y) hown (mvT hZ w1) (mvT hZ w2) (notFace_of_selects (args := #[]) (mvT hZ w5)) (mvT hZ w5) (mvT hZ w6) hy (backOf (W := W) hM hZ w4 w3 hf hl) qa qc (g := mkF m pc Ls st) rfl hsize (Steps.refl _) (argsL := argsL) (rest := rest) hlen hst (by show 2 * 0 + _ ≤ _; omega) hd (fun _ _ => ⟨has, eT, hc, hs⟩)
  dsimp only [Pt.U, Pt.locs, Pt.cells, Pt.slots] at X' l1 y1 z1 stp hQ
  subst l1 y1 z1
  exact own_go (fun _ q => stp.trans q) (k T' v Lc X' hQ)
theorem s_iload (X : Stand p l e R s m args below meth c T locs cells slots) (hx : p.tables.exec = Jvm.exec) {pc pc' : Nat} {Ls : Array Slot} {st : List Value} {j : Nat} {v : Int32} (hd : decode c.code pc = .ok (.iload j, 2)) (hp : pc + 2 = pc') (hl : Ls[j]? = some (.val (.int v)))
    (k : Goes p e below G (T.setTop (mkF m pc' Ls (.int v :: st)))) : Goes p e below G (T.setTop (mkF m pc Ls (st))) := by
  subst hp
  exact own_go (fun _ k => XS.iload X.here hx rfl hd hl k) k
theorem s_iloadN (X : Stand p l e R s m args below meth c T locs cells slots) (hx : p.tables.exec = Jvm.exec) {pc pc' : Nat} {Ls : Array Slot} {st : List Value} {j : Fin 4} {v : Int32} (hd : decode c.code pc = .ok (.iload_n j, 1)) (hp : pc + 1 = pc') (hl : Ls[j.val]? = some (.val (.int v)))
    (k : Goes p e below G (T.setTop (mkF m pc' Ls (.int v :: st)))) : Goes p e below G (T.setTop (mkF m pc Ls (st))) := by
  subst hp
  exact own_go (fun _ k => XS.iloadN X.here hx rfl hd hl k) k
theorem s_istore (X : Stand p l e R s m args below meth c T locs cells slots) (hx : p.tables.exec = Jvm.exec) {pc pc' : Nat} {Ls : Array Slot} {st : List Value} {j : Nat} {v : Int32} (l' : Array Slot) (hd : decode c.code pc = .ok (.istore j, 2)) (hp : pc + 2 = pc') (hl : storeLocals Ls j (.int v) = some l')
    (k : Goes p e below G (T.setTop (mkF m pc' l' (st)))) : Goes p e below G (T.setTop (mkF m pc Ls (.int v :: st))) := by
  subst hp
  exact own_go (fun _ k => XS.istore X.here hx rfl hd rfl hl k) k
theorem s_istoreN (X : Stand p l e R s m args below meth c T locs cells slots) (hx : p.tables.exec = Jvm.exec) {pc pc' : Nat} {Ls : Array Slot} {st : List Value} {j : Fin 4} {v : Int32} (l' : Array Slot) (hd : decode c.code pc = .ok (.istore_n j, 1)) (hp : pc + 1 = pc') (hl : storeLocals Ls j.val (.int v) = some l')
    (k : Goes p e below G (T.setTop (mkF m pc' l' (st)))) : Goes p e below G (T.setTop (mkF m pc Ls (.int v :: st))) := by
  subst hp
  exact own_go (fun _ k => XS.istoreN X.here hx rfl hd rfl hl k) k
theorem s_lload (X : Stand p l e R s m args below meth c T locs cells slots) (hx : p.tables.exec = Jvm.exec) {pc pc' : Nat} {Ls : Array Slot} {st : List Value} {j : Nat} {v : Int64} (hd : decode c.code pc = .ok (.lload j, 2)) (hp : pc + 2 = pc') (hl : Ls[j]? = some (.val (.long v)))
    (k : Goes p e below G (T.setTop (mkF m pc' Ls (.long v :: st)))) : Goes p e below G (T.setTop (mkF m pc Ls (st))) := by
  subst hp
  exact own_go (fun _ k => XT.lload X.here hx rfl hd hl k) k
theorem s_lloadN (X : Stand p l e R s m args below meth c T locs cells slots) (hx : p.tables.exec = Jvm.exec) {pc pc' : Nat} {Ls : Array Slot} {st : List Value} {j : Fin 4} {v : Int64} (hd : decode c.code pc = .ok (.lload_n j, 1)) (hp : pc + 1 = pc') (hl : Ls[j.val]? = some (.val (.long v)))
    (k : Goes p e below G (T.setTop (mkF m pc' Ls (.long v :: st)))) : Goes p e below G (T.setTop (mkF m pc Ls (st))) := by
  subst hp
  exact own_go (fun _ k => XT.lloadN X.here hx rfl hd hl k) k
theorem s_lstore (X : Stand p l e R s m args below meth c T locs cells slots) (hx : p.tables.exec = Jvm.exec) {pc pc' : Nat} {Ls : Array Slot} {st : List Value} {j : Nat} {v : Int64} (l' : Array Slot) (hd : decode c.code pc = .ok (.lstore j, 2)) (hp : pc + 2 = pc') (hl : storeLocals Ls j (.long v) = some l')
    (k : Goes p e below G (T.setTop (mkF m pc' l' (st)))) : Goes p e below G (T.setTop (mkF m pc Ls (.long v :: st))) := by
  subst hp
  exact own_go (fun _ k => XT.lstore X.here hx rfl hd rfl hl k) k
theorem s_lstoreN (X : Stand p l e R s m args below meth c T locs cells slots) (hx : p.tables.exec = Jvm.exec) {pc pc' : Nat} {Ls : Array Slot} {st : List Value} {j : Fin 4} {v : Int64} (l' : Array Slot) (hd : decode c.code pc = .ok (.lstore_n j, 1)) (hp : pc + 1 = pc') (hl : storeLocals Ls j.val (.long v) = some l')
    (k : Goes p e below G (T.setTop (mkF m pc' l' (st)))) : Goes p e below G (T.setTop (mkF m pc Ls (.long v :: st))) := by
  subst hp
  exact own_go (fun _ k => XT.lstoreN X.here hx rfl hd rfl hl k) k
theorem s_dload (X : Stand p l e R s m args below meth c T locs cells slots) (hx : p.tables.exec = Jvm.exec) {pc pc' : Nat} {Ls : Array Slot} {st : List Value} {j : Nat} {v : UInt64} (hd : decode c.code pc = .ok (.dload j, 2)) (hp : pc + 2 = pc') (hl : Ls[j]? = some (.val (.double v)))
    (k : Goes p e below G (T.setTop (mkF m pc' Ls (.double v :: st)))) : Goes p e below G (T.setTop (mkF m pc Ls (st))) := by
  subst hp
  exact own_go (fun _ k => XS.dload X.here hx rfl hd hl k) k
theorem s_dloadN (X : Stand p l e R s m args below meth c T locs cells slots) (hx : p.tables.exec = Jvm.exec) {pc pc' : Nat} {Ls : Array Slot} {st : List Value} {j : Fin 4} {v : UInt64} (hd : decode c.code pc = .ok (.dload_n j, 1)) (hp : pc + 1 = pc') (hl : Ls[j.val]? = some (.val (.double v)))
    (k : Goes p e below G (T.setTop (mkF m pc' Ls (.double v :: st)))) : Goes p e below G (T.setTop (mkF m pc Ls (st))) := by
  subst hp
  exact own_go (fun _ k => XS.dloadN X.here hx rfl hd hl k) k
theorem s_dstore (X : Stand p l e R s m args below meth c T locs cells slots) (hx : p.tables.exec = Jvm.exec) {pc pc' : Nat} {Ls : Array Slot} {st : List Value} {j : Nat} {v : UInt64} (l' : Array Slot) (hd : decode c.code pc = .ok (.dstore j, 2)) (hp : pc + 2 = pc') (hl : storeLocals Ls j (.double v) = some l')
    (k : Goes p e below G (T.setTop (mkF m pc' l' (st)))) : Goes p e below G (T.setTop (mkF m pc Ls (.double v :: st))) := by
  subst hp
  exact own_go (fun _ k => XS.dstore X.here hx rfl hd rfl hl k) k
theorem s_dstoreN (X : Stand p l e R s m args below meth c T locs cells slots) (hx : p.tables.exec = Jvm.exec) {pc pc' : Nat} {Ls : Array Slot} {st : List Value} {j : Fin 4} {v : UInt64} (l' : Array Slot) (hd : decode c.code pc = .ok (.dstore_n j, 1)) (hp : pc + 1 = pc') (hl : storeLocals Ls j.val (.double v) = some l')
    (k : Goes p e below G (T.setTop (mkF m pc' l' (st)))) : Goes p e below G (T.setTop (mkF m pc Ls (.double v :: st))) := by
  subst hp
  exact own_go (fun _ k => XS.dstoreN X.here hx rfl hd rfl hl k) k
theorem s_aload (X : Stand p l e R s m args below meth c T locs cells slots) (hx : p.tables.exec = Jvm.exec) {pc pc' : Nat} {Ls : Array Slot} {st : List Value} {j : Nat} {v : Value} (hd : decode c.code pc = .ok (.aload j, 2)) (hp : pc + 2 = pc') (hl : Ls[j]? = some (.val v)) (hv : v.isRef = true)
    (k : Goes p e below G (T.setTop (mkF m pc' Ls (v :: st)))) : Goes p e below G (T.setTop (mkF m pc Ls (st))) := by
  subst hp
  exact own_go (fun _ k => XS.aload X.here hx rfl hd hl hv k) k
theorem s_aloadN (X : Stand p l e R s m args below meth c T locs cells slots) (hx : p.tables.exec = Jvm.exec) {pc pc' : Nat} {Ls : Array Slot} {st : List Value} {j : Fin 4} {v : Value} (hd : decode c.code pc = .ok (.aload_n j, 1)) (hp : pc + 1 = pc') (hl : Ls[j.val]? = some (.val v)) (hv : v.isRef = true)
    (k : Goes p e below G (T.setTop (mkF m pc' Ls (v :: st)))) : Goes p e below G (T.setTop (mkF m pc Ls (st))) := by
  subst hp
  exact own_go (fun _ k => XS.aloadN X.here hx rfl hd hl hv k) k
theorem s_astore (X : Stand p l e R s m args below meth c T locs cells slots) (hx : p.tables.exec = Jvm.exec) {pc pc' : Nat} {Ls : Array Slot} {st : List Value} {j : Nat} {v : Value} (l' : Array Slot) (hd : decode c.code pc = .ok (.astore j, 2)) (hp : pc + 2 = pc') (hv : v.isRef = true) (hl : storeLocals Ls j v = some l')
    (k : Goes p e below G (T.setTop (mkF m pc' l' (st)))) : Goes p e below G (T.setTop (mkF m pc Ls (v :: st))) := by
  subst hp
  exact own_go (fun _ k => XS.astore X.here hx rfl hd rfl hv hl k) k
theorem s_astoreN (X : Stand p l e R s m args below meth c T locs cells slots) (hx : p.tables.exec = Jvm.exec) {pc pc' : Nat} {Ls : Array Slot} {st : List Value} {j : Fin 4} {v : Value} (l' : Array Slot) (hd : decode c.code pc = .ok (.astore_n j, 1)) (hp : pc + 1 = pc') (hv : v.isRef = true) (hl : storeLocals Ls j.val v = some l')
    (k : Goes p e below G (T.setTop (mkF m pc' l' (st)))) : Goes p e below G (T.setTop (mkF m pc Ls (v :: st))) := by
  subst hp
  exact own_go (fun _ k => XS.astoreN X.here hx rfl hd rfl hv hl k) k
theorem s_iconst (X : Stand p l e R s m args below meth c T locs cells slots) (hx : p.tables.exec = Jvm.exec) {pc pc' : Nat} {Ls : Array Slot} {st : List Value} {i : Int} (v : Int32) (hd : decode c.code pc = .ok (.iconst i, 1)) (hp : pc + 1 = pc') (hv : Int32.ofInt i = v)
    (k : Goes p e below G (T.setTop (mkF m pc' Ls (.int v :: st)))) : Goes p e below G (T.setTop (mkF m pc Ls (st))) := by
  subst hp
  exact own_go (fun _ k => XS.iconst X.here hx rfl hd (by rw [hv]; exact k)) k
theorem s_bipush (X : Stand p l e R s m args below meth c T locs cells slots) (hx : p.tables.exec = Jvm.exec) {pc pc' : Nat} {Ls : Array Slot} {st : List Value} {i : Int} (v : Int32) (hd : decode c.code pc = .ok (.bipush i, 2)) (hp : pc + 2 = pc') (hv : (Int8.ofInt i).toInt32 = v)
    (k : Goes p e below G (T.setTop (mkF m pc' Ls (.int v :: st)))) : Goes p e below G (T.setTop (mkF m pc Ls (st))) := by
  subst hp
  exact own_go (fun _ k => XS.bipush X.here hx rfl hd (by rw [hv]; exact k)) k
theorem s_sipush (X : Stand p l e R s m args below meth c T locs cells slots) (hx : p.tables.exec = Jvm.exec) {pc pc' : Nat} {Ls : Array Slot} {st : List Value} {i : Int} (v : Int32) (hd : decode c.code pc = .ok (.sipush i, 3)) (hp : pc + 3 = pc') (hv : (Int16.ofInt i).toInt32 = v)
    (k : Goes p e below G (T.setTop (mkF m pc' Ls (.int v :: st)))) : Goes p e below G (T.setTop (mkF m pc Ls (st))) := by
  subst hp
  exact own_go (fun _ k => XS.sipush X.here hx rfl hd (by rw [hv]; exact k)) k
theorem s_lconst (X : Stand p l e R s m args below meth c T locs cells slots) (hx : p.tables.exec = Jvm.exec) {pc pc' : Nat} {Ls : Array Slot} {st : List Value} {i : Fin 2} (v : Int64) (hd : decode c.code pc = .ok (.lconst i, 1)) (hp : pc + 1 = pc') (hv : Int64.ofNat i = v)
    (k : Goes p e below G (T.setTop (mkF m pc' Ls (.long v :: st)))) : Goes p e below G (T.setTop (mkF m pc Ls (st))) := by
  subst hp
  exact own_go (fun _ k => XT.lconst X.here hx rfl hd (by rw [hv]; exact k)) k
theorem s_dconst0 (X : Stand p l e R s m args below meth c T locs cells slots) (hx : p.tables.exec = Jvm.exec) {pc pc' : Nat} {Ls : Array Slot} {st : List Value}  (hd : decode c.code pc = .ok (.dconst 0, 1)) (hp : pc + 1 = pc') 
    (k : Goes p e below G (T.setTop (mkF m pc' Ls (.double 0 :: st)))) : Goes p e below G (T.setTop (mkF m pc Ls (st))) := by
  subst hp
  exact own_go (fun _ k => XS.dconst0 X.here hx rfl hd rfl k) k
theorem s_dconst1 (X : Stand p l e R s m args below meth c T locs cells slots) (hx : p.tables.exec = Jvm.exec) {pc pc' : Nat} {Ls : Array Slot} {st : List Value}  (hd : decode c.code pc = .ok (.dconst 1, 1)) (hp : pc + 1 = pc') 
    (k : Goes p e below G (T.setTop (mkF m pc' Ls (.double 4607182418800017408 :: st)))) : Goes p e below G (T.setTop (mkF m pc Ls (st))) := by
  subst hp
  exact own_go (fun _ k => XS.dconst1 X.here hx rfl hd rfl k) k
theorem s_aconstNull (X : Stand p l e R s m args below meth c T locs cells slots) (hx : p.tables.exec = Jvm.exec) {pc pc' : Nat} {Ls : Array Slot} {st : List Value}  (hd : decode c.code pc = .ok (.aconst_null, 1)) (hp : pc + 1 = pc') 
    (k : Goes p e below G (T.setTop (mkF m pc' Ls (.null :: st)))) : Goes p e below G (T.setTop (mkF m pc Ls (st))) := by
  subst hp
  exact own_go (fun _ k => XS.aconstNull X.here hx rfl hd k) k
theorem s_ldcI (X : Stand p l e R s m args below meth c T locs cells slots) (hx : p.tables.exec = Jvm.exec) {pc pc' : Nat} {Ls : Array Slot} {st : List Value} (hZ : Z.Warmed39 s.vm) {own : String} {j : Nat} {v : Int32} (hown : s.vm.findClass own = some m.cls) (w : (Jvm.Cond.constant own j v).before a0 Z = true) (hd : decode c.code pc = .ok (.ldc j, 2)) (hp : pc + 2 = pc') 
    (k : Goes p e below G (T.setTop (mkF m pc' Ls (.int v :: st)))) : Goes p e below G (T.setTop (mkF m pc Ls (st))) := by
  subst hp
  exact own_go (fun _ k => X.ldcInt hx hown (mvT hZ w) (g := mkF m pc Ls st) rfl hd _ k) k
theorem s_ldcJ (X : Stand p l e R s m args below meth c T locs cells slots) (hx : p.tables.exec = Jvm.exec) {pc pc' : Nat} {Ls : Array Slot} {st : List Value} (hZ : Z.Warmed39 s.vm) {own : String} {j : Nat} {v : Int64} (hown : s.vm.findClass own = some m.cls) (w : (Jvm.Cond.constantLong own j v).before a0 Z = true) (hd : decode c.code pc = .ok (.ldc2_w j, 3)) (hp : pc + 3 = pc') 
    (k : Goes p e below G (T.setTop (mkF m pc' Ls (.long v :: st)))) : Goes p e below G (T.setTop (mkF m pc Ls (st))) := by
  subst hp
  exact own_go (fun _ k => X.ldc2Long hx hown (mvT hZ w) (g := mkF m pc Ls st) rfl hd _ k) k
theorem s_ldcD (X : Stand p l e R s m args below meth c T locs cells slots) (hx : p.tables.exec = Jvm.exec) {pc pc' : Nat} {Ls : Array Slot} {st : List Value} (hZ : Z.Warmed39 s.vm) {own : String} {j : Nat} {v : UInt64} (hown : s.vm.findClass own = some m.cls) (w : (Jvm.Cond.constantDouble own j v).before a0 Z = true) (hd : decode c.code pc = .ok (.ldc2_w j, 3)) (hp : pc + 3 = pc') 
    (k : Goes p e below G (T.setTop (mkF m pc' Ls (.double v :: st)))) : Goes p e below G (T.setTop (mkF m pc Ls (st))) := by
  subst hp
  exact own_go (fun _ k => X.ldc2DoubleC hx hown (mvT hZ w) (g := mkF m pc Ls st) rfl hd _ k) k
theorem s_iadd (X : Stand p l e R s m args below meth c T locs cells slots) (hx : p.tables.exec = Jvm.exec) {pc pc' : Nat} {Ls : Array Slot} {st : List Value} {x y : Int32} (hd : decode c.code pc = .ok (.iadd, 1)) (hp : pc + 1 = pc') 
    (k : Goes p e below G (T.setTop (mkF m pc' Ls (.int (x + y) :: st)))) : Goes p e below G (T.setTop (mkF m pc Ls (.int y :: .int x :: st))) := by
  subst hp
  exact own_go (fun _ k => XS.iadd X.here hx rfl hd rfl k) k
theorem s_isub (X : Stand p l e R s m args below meth c T locs cells slots) (hx : p.tables.exec = Jvm.exec) {pc pc' : Nat} {Ls : Array Slot} {st : List Value} {x y : Int32} (hd : decode c.code pc = .ok (.isub, 1)) (hp : pc + 1 = pc') 
    (k : Goes p e below G (T.setTop (mkF m pc' Ls (.int (x - y) :: st)))) : Goes p e below G (T.setTop (mkF m pc Ls (.int y :: .int x :: st))) := by
  subst hp
  exact own_go (fun _ k => XS.isub X.here hx rfl hd rfl k) k
theorem s_imul (X : Stand p l e R s m args below meth c T locs cells slots) (hx : p.tables.exec = Jvm.exec) {pc pc' : Nat} {Ls : Array Slot} {st : List Value} {x y : Int32} (hd : decode c.code pc = .ok (.imul, 1)) (hp : pc + 1 = pc') 
    (k : Goes p e below G (T.setTop (mkF m pc' Ls (.int (x * y) :: st)))) : Goes p e below G (T.setTop (mkF m pc Ls (.int y :: .int x :: st))) := by
  subst hp
  exact own_go (fun _ k => XS.imul X.here hx rfl hd rfl k) k
theorem s_iand (X : Stand p l e R s m args below meth c T locs cells slots) (hx : p.tables.exec = Jvm.exec) {pc pc' : Nat} {Ls : Array Slot} {st : List Value} {x y : Int32} (hd : decode c.code pc = .ok (.iand, 1)) (hp : pc + 1 = pc') 
    (k : Goes p e below G (T.setTop (mkF m pc' Ls (.int (x &&& y) :: st)))) : Goes p e below G (T.setTop (mkF m pc Ls (.int y :: .int x :: st))) := by
  subst hp
  exact own_go (fun _ k => XS.iand X.here hx rfl hd rfl k) k
theorem s_ixor (X : Stand p l e R s m args below meth c T locs cells slots) (hx : p.tables.exec = Jvm.exec) {pc pc' : Nat} {Ls : Array Slot} {st : List Value} {x y : Int32} (hd : decode c.code pc = .ok (.ixor, 1)) (hp : pc + 1 = pc') 
    (k : Goes p e below G (T.setTop (mkF m pc' Ls (.int (x ^^^ y) :: st)))) : Goes p e below G (T.setTop (mkF m pc Ls (.int y :: .int x :: st))) := by
  subst hp
  exact own_go (fun _ k => XT.ixor X.here hx rfl hd rfl k) k
theorem s_ior (X : Stand p l e R s m args below meth c T locs cells slots) (hx : p.tables.exec = Jvm.exec) {pc pc' : Nat} {Ls : Array Slot} {st : List Value} {x y : Int32} (hd : decode c.code pc = .ok (.ior, 1)) (hp : pc + 1 = pc') 
    (k : Goes p e below G (T.setTop (mkF m pc' Ls (.int (x ||| y) :: st)))) : Goes p e below G (T.setTop (mkF m pc Ls (.int y :: .int x :: st))) := by
  subst hp
  exact own_go (fun _ k => XT.ior X.here hx rfl hd rfl k) k
theorem s_ishl (X : Stand p l e R s m args below meth c T locs cells slots) (hx : p.tables.exec = Jvm.exec) {pc pc' : Nat} {Ls : Array Slot} {st : List Value} {x y : Int32} (hd : decode c.code pc = .ok (.ishl, 1)) (hp : pc + 1 = pc') 
    (k : Goes p e below G (T.setTop (mkF m pc' Ls (.int (x <<< (y &&& 31)) :: st)))) : Goes p e below G (T.setTop (mkF m pc Ls (.int y :: .int x :: st))) := by
  subst hp
  exact own_go (fun _ k => XT.ishl X.here hx rfl hd rfl k) k
theorem s_ishr (X : Stand p l e R s m args below meth c T locs cells slots) (hx : p.tables.exec = Jvm.exec) {pc pc' : Nat} {Ls : Array Slot} {st : List Value} {x y : Int32} (hd : decode c.code pc = .ok (.ishr, 1)) (hp : pc + 1 = pc') 
    (k : Goes p e below G (T.setTop (mkF m pc' Ls (.int (x >>> (y &&& 31)) :: st)))) : Goes p e below G (T.setTop (mkF m pc Ls (.int y :: .int x :: st))) := by
  subst hp
  exact own_go (fun _ k => XT.ishr X.here hx rfl hd rfl k) k
theorem s_iushr (X : Stand p l e R s m args below meth c T locs cells slots) (hx : p.tables.exec = Jvm.exec) {pc pc' : Nat} {Ls : Array Slot} {st : List Value} {x y : Int32} (hd : decode c.code pc = .ok (.iushr, 1)) (hp : pc + 1 = pc') 
    (k : Goes p e below G (T.setTop (mkF m pc' Ls (.int (XT.ushr x y) :: st)))) : Goes p e below G (T.setTop (mkF m pc Ls (.int y :: .int x :: st))) := by
  subst hp
  exact own_go (fun _ k => XT.iushr X.here hx rfl hd rfl k) k
theorem s_irem (X : Stand p l e R s m args below meth c T locs cells slots) (hx : p.tables.exec = Jvm.exec) {pc pc' : Nat} {Ls : Array Slot} {st : List Value} {x y : Int32} (hd : decode c.code pc = .ok (.irem, 1)) (hp : pc + 1 = pc') (hy : y ≠ 0)
    (k : Goes p e below G (T.setTop (mkF m pc' Ls (.int (x % y) :: st)))) : Goes p e below G (T.setTop (mkF m pc Ls (.int y :: .int x :: st))) := by
  subst hp
  exact own_go (fun _ k => iremM X hx rfl hd rfl hy k) k
theorem s_ineg (X : Stand p l e R s m args below meth c T locs cells slots) (hx : p.tables.exec = Jvm.exec) {pc pc' : Nat} {Ls : Array Slot} {st : List Value} {x : Int32} (hd : decode c.code pc = .ok (.ineg, 1)) (hp : pc + 1 = pc') 
    (k : Goes p e below G (T.setTop (mkF m pc' Ls (.int (-x) :: st)))) : Goes p e below G (T.setTop (mkF m pc Ls (.int x :: st))) := by
  subst hp
  exact own_go (fun _ k => XS.ineg X.here hx rfl hd rfl k) k
theorem s_ladd (X : Stand p l e R s m args below meth c T locs cells slots) (hx : p.tables.exec = Jvm.exec) {pc pc' : Nat} {Ls : Array Slot} {st : List Value} {x y : Int64} (hd : decode c.code pc = .ok (.ladd, 1)) (hp : pc + 1 = pc') 
    (k : Goes p e below G (T.setTop (mkF m pc' Ls (.long (x + y) :: st)))) : Goes p e below G (T.setTop (mkF m pc Ls (.long y :: .long x :: st))) := by
  subst hp
  exact own_go (fun _ k => XT.ladd X.here hx rfl hd rfl k) k
theorem s_lsub (X : Stand p l e R s m args below meth c T locs cells slots) (hx : p.tables.exec = Jvm.exec) {pc pc' : Nat} {Ls : Array Slot} {st : List Value} {x y : Int64} (hd : decode c.code pc = .ok (.lsub, 1)) (hp : pc + 1 = pc') 
    (k : Goes p e below G (T.setTop (mkF m pc' Ls (.long (x - y) :: st)))) : Goes p e below G (T.setTop (mkF m pc Ls (.long y :: .long x :: st))) := by
  subst hp
  exact own_go (fun _ k => XT.lsub X.here hx rfl hd rfl k) k
theorem s_lmul (X : Stand p l e R s m args below meth c T locs cells slots) (hx : p.tables.exec = Jvm.exec) {pc pc' : Nat} {Ls : Array Slot} {st : List Value} {x y : Int64} (hd : decode c.code pc = .ok (.lmul, 1)) (hp : pc + 1 = pc') 
    (k : Goes p e below G (T.setTop (mkF m pc' Ls (.long (x * y) :: st)))) : Goes p e below G (T.setTop (mkF m pc Ls (.long y :: .long x :: st))) := by
  subst hp
  exact own_go (fun _ k => XT.lmul X.here hx rfl hd rfl k) k
theorem s_land (X : Stand p l e R s m args below meth c T locs cells slots) (hx : p.tables.exec = Jvm.exec) {pc pc' : Nat} {Ls : Array Slot} {st : List Value} {x y : Int64} (hd : decode c.code pc = .ok (.land, 1)) (hp : pc + 1 = pc') 
    (k : Goes p e below G (T.setTop (mkF m pc' Ls (.long (x &&& y) :: st)))) : Goes p e below G (T.setTop (mkF m pc Ls (.long y :: .long x :: st))) := by
  subst hp
  exact own_go (fun _ k => XT.land X.here hx rfl hd rfl k) k
theorem s_lor (X : Stand p l e R s m args below meth c T locs cells slots) (hx : p.tables.exec = Jvm.exec) {pc pc' : Nat} {Ls : Array Slot} {st : List Value} {x y : Int64} (hd : decode c.code pc = .ok (.lor, 1)) (hp : pc + 1 = pc') 
    (k : Goes p e below G (T.setTop (mkF m pc' Ls (.long (x ||| y) :: st)))) : Goes p e below G (T.setTop (mkF m pc Ls (.long y :: .long x :: st))) := by
  subst hp
  exact own_go (fun _ k => XT.lor X.here hx rfl hd rfl k) k
theorem s_lxor (X : Stand p l e R s m args below meth c T locs cells slots) (hx : p.tables.exec = Jvm.exec) {pc pc' : Nat} {Ls : Array Slot} {st : List Value} {x y : Int64} (hd : decode c.code pc = .ok (.lxor, 1)) (hp : pc + 1 = pc') 
    (k : Goes p e below G (T.setTop (mkF m pc' Ls (.long (x ^^^ y) :: st)))) : Goes p e below G (T.setTop (mkF m pc Ls (.long y :: .long x :: st))) := by
  subst hp
  exact own_go (fun _ k => XT.lxor X.here hx rfl hd rfl k) k
theorem s_lshl (X : Stand p l e R s m args below meth c T locs cells slots) (hx : p.tables.exec = Jvm.exec) {pc pc' : Nat} {Ls : Array Slot} {st : List Value} {x : Int64} {y : Int32} (hd : decode c.code pc = .ok (.lshl, 1)) (hp : pc + 1 = pc') 
    (k : Goes p e below G (T.setTop (mkF m pc' Ls (.long (x <<< (y.toInt64 &&& 63)) :: st)))) : Goes p e below G (T.setTop (mkF m pc Ls (.int y :: .long x :: st))) := by
  subst hp
  exact own_go (fun _ k => XT.lshl X.here hx rfl hd rfl k) k
theorem s_lshr (X : Stand p l e R s m args below meth c T locs cells slots) (hx : p.tables.exec = Jvm.exec) {pc pc' : Nat} {Ls : Array Slot} {st : List Value} {x : Int64} {y : Int32} (hd : decode c.code pc = .ok (.lshr, 1)) (hp : pc + 1 = pc') 
    (k : Goes p e below G (T.setTop (mkF m pc' Ls (.long (x >>> (y.toInt64 &&& 63)) :: st)))) : Goes p e below G (T.setTop (mkF m pc Ls (.int y :: .long x :: st))) := by
  subst hp
  exact own_go (fun _ k => XT.lshr X.here hx rfl hd rfl k) k
theorem s_lushr (X : Stand p l e R s m args below meth c T locs cells slots) (hx : p.tables.exec = Jvm.exec) {pc pc' : Nat} {Ls : Array Slot} {st : List Value} {x : Int64} {y : Int32} (hd : decode c.code pc = .ok (.lushr, 1)) (hp : pc + 1 = pc') 
    (k : Goes p e below G (T.setTop (mkF m pc' Ls (.long (XT.ushrL x y) :: st)))) : Goes p e below G (T.setTop (mkF m pc Ls (.int y :: .long x :: st))) := by
  subst hp
  exact own_go (fun _ k => XT.lushr X.here hx rfl hd rfl k) k
theorem s_i2l (X : Stand p l e R s m args below meth c T locs cells slots) (hx : p.tables.exec = Jvm.exec) {pc pc' : Nat} {Ls : Array Slot} {st : List Value} {x : Int32} (hd : decode c.code pc = .ok (.i2l, 1)) (hp : pc + 1 = pc') 
    (k : Goes p e below G (T.setTop (mkF m pc' Ls ((.long x.toInt64) :: st)))) : Goes p e below G (T.setTop (mkF m pc Ls (.int x :: st))) := by
  subst hp
  exact own_go (fun _ k => XT.i2l X.here hx rfl hd rfl k) k
theorem s_i2b (X : Stand p l e R s m args below meth c T locs cells slots) (hx : p.tables.exec = Jvm.exec) {pc pc' : Nat} {Ls : Array Slot} {st : List Value} {x : Int32} (hd : decode c.code pc = .ok (.i2b, 1)) (hp : pc + 1 = pc') 
    (k : Goes p e below G (T.setTop (mkF m pc' Ls ((.int x.toInt8.toInt32) :: st)))) : Goes p e below G (T.setTop (mkF m pc Ls (.int x :: st))) := by
  subst hp
  exact own_go (fun _ k => XT.i2b X.here hx rfl hd rfl k) k
theorem s_l2i (X : Stand p l e R s m args below meth c T locs cells slots) (hx : p.tables.exec = Jvm.exec) {pc pc' : Nat} {Ls : Array Slot} {st : List Value} {x : Int64} (hd : decode c.code pc = .ok (.l2i, 1)) (hp : pc + 1 = pc') 
    (k : Goes p e below G (T.setTop (mkF m pc' Ls (.int x.toInt32 :: st)))) : Goes p e below G (T.setTop (mkF m pc Ls (.long x :: st))) := by
  subst hp
  exact own_go (fun _ k => XT.l2i X.here hx rfl hd rfl k) k
theorem s_i2d (X : Stand p l e R s m args below meth c T locs cells slots) (hx : p.tables.exec = Jvm.exec) {pc pc' : Nat} {Ls : Array Slot} {st : List Value} {x : Int32} (hd : decode c.code pc = .ok (.i2d, 1)) (hp : pc + 1 = pc') 
    (k : Goes p e below G (T.setTop (mkF m pc' Ls (.double (FP.i2d x) :: st)))) : Goes p e below G (T.setTop (mkF m pc Ls (.int x :: st))) := by
  subst hp
  exact own_go (fun _ k => XS.i2dS X.here hx rfl hd rfl rfl k) k
theorem s_l2d (X : Stand p l e R s m args below meth c T locs cells slots) (hx : p.tables.exec = Jvm.exec) {pc pc' : Nat} {Ls : Array Slot} {st : List Value} {x : Int64} (hd : decode c.code pc = .ok (.l2d, 1)) (hp : pc + 1 = pc') 
    (k : Goes p e below G (T.setTop (mkF m pc' Ls (.double (FP.l2d x) :: st)))) : Goes p e below G (T.setTop (mkF m pc Ls (.long x :: st))) := by
  subst hp
  exact own_go (fun _ k => XS.l2dS X.here hx rfl hd rfl rfl k) k
theorem s_dneg (X : Stand p l e R s m args below meth c T locs cells slots) (hx : p.tables.exec = Jvm.exec) {pc pc' : Nat} {Ls : Array Slot} {st : List Value} {x : UInt64} (hd : decode c.code pc = .ok (.dneg, 1)) (hp : pc + 1 = pc') 
    (k : Goes p e below G (T.setTop (mkF m pc' Ls (.double (FP.dneg x) :: st)))) : Goes p e below G (T.setTop (mkF m pc Ls (.double x :: st))) := by
  subst hp
  exact own_go (fun _ k => XS.dnegS X.here hx rfl hd rfl rfl k) k
theorem s_dadd (X : Stand p l e R s m args below meth c T locs cells slots) (hx : p.tables.exec = Jvm.exec) {pc pc' : Nat} {Ls : Array Slot} {st : List Value} {x y : UInt64} (v : UInt64) (hd : decode c.code pc = .ok (.dadd, 1)) (hp : pc + 1 = pc') (hn : NoNaN64 (FP.dadd x y)) (hv : FP.dadd x y = v)
    (k : Goes p e below G (T.setTop (mkF m pc' Ls (.double v :: st)))) : Goes p e below G (T.setTop (mkF m pc Ls (.double y :: .double x :: st))) := by
  subst hp
  exact own_go (fun _ k => XS.daddS X.here hx rfl hd rfl hn hv k) k
theorem s_dsub (X : Stand p l e R s m args below meth c T locs cells slots) (hx : p.tables.exec = Jvm.exec) {pc pc' : Nat} {Ls : Array Slot} {st : List Value} {x y : UInt64} (v : UInt64) (hd : decode c.code pc = .ok (.dsub, 1)) (hp : pc + 1 = pc') (hn : NoNaN64 (FP.dsub x y)) (hv : FP.dsub x y = v)
    (k : Goes p e below G (T.setTop (mkF m pc' Ls (.double v :: st)))) : Goes p e below G (T.setTop (mkF m pc Ls (.double y :: .double x :: st))) := by
  subst hp
  exact own_go (fun _ k => XS.dsubS X.here hx rfl hd rfl hn hv k) k
theorem s_dmul (X : Stand p l e R s m args below meth c T locs cells slots) (hx : p.tables.exec = Jvm.exec) {pc pc' : Nat} {Ls : Array Slot} {st : List Value} {x y : UInt64} (v : UInt64) (hd : decode c.code pc = .ok (.dmul, 1)) (hp : pc + 1 = pc') (hn : NoNaN64 (FP.dmul x y)) (hv : FP.dmul x y = v)
    (k : Goes p e below G (T.setTop (mkF m pc' Ls (.double v :: st)))) : Goes p e below G (T.setTop (mkF m pc Ls (.double y :: .double x :: st))) := by
  subst hp
  exact own_go (fun _ k => XS.dmulS X.here hx rfl hd rfl hn hv k) k
theorem s_ddiv (X : Stand p l e R s m args below meth c T locs cells slots) (hx : p.tables.exec = Jvm.exec) {pc pc' : Nat} {Ls : Array Slot} {st : List Value} {x y : UInt64} (v : UInt64) (hd : decode c.code pc = .ok (.ddiv, 1)) (hp : pc + 1 = pc') (hn : NoNaN64 (FP.ddiv x y)) (hv : FP.ddiv x y = v)
    (k : Goes p e below G (T.setTop (mkF m pc' Ls (.double v :: st)))) : Goes p e below G (T.setTop (mkF m pc Ls (.double y :: .double x :: st))) := by
  subst hp
  exact own_go (fun _ k => XS.ddivS X.here hx rfl hd rfl hn hv k) k
theorem s_lcmp (X : Stand p l e R s m args below meth c T locs cells slots) (hx : p.tables.exec = Jvm.exec) {pc pc' : Nat} {Ls : Array Slot} {st : List Value} {x y : Int64} (hd : decode c.code pc = .ok (.lcmp, 1)) (hp : pc + 1 = pc') 
    (k : Goes p e below G (T.setTop (mkF m pc' Ls (.int (XT.cmpL x y) :: st)))) : Goes p e below G (T.setTop (mkF m pc Ls (.long y :: .long x :: st))) := by
  subst hp
  exact own_go (fun _ k => XT.lcmp X.here hx rfl hd rfl k) k
theorem s_dcmp (X : Stand p l e R s m args below meth c T locs cells slots) (hx : p.tables.exec = Jvm.exec) {pc pc' : Nat} {Ls : Array Slot} {st : List Value} {x y : UInt64} {o : CmpOp} (v : Int32) (hd : decode c.code pc = .ok (.dcmp o, 1)) (hp : pc + 1 = pc') (hv : cmpValue (FP.dcmp x y) o = v)
    (k : Goes p e below G (T.setTop (mkF m pc' Ls (.int v :: st)))) : Goes p e below G (T.setTop (mkF m pc Ls (.double y :: .double x :: st))) := by
  subst hp
  exact own_go (fun _ k => XS.dcmpS X.here hx rfl hd rfl hv k) k
theorem s_dup (X : Stand p l e R s m args below meth c T locs cells slots) (hx : p.tables.exec = Jvm.exec) {pc pc' : Nat} {Ls : Array Slot} {st : List Value} {x : Value} (hd : decode c.code pc = .ok (.dup, 1)) (hp : pc + 1 = pc') (hc : x.category = 1)
    (k : Goes p e below G (T.setTop (mkF m pc' Ls (x :: x :: st)))) : Goes p e below G (T.setTop (mkF m pc Ls (x :: st))) := by
  subst hp
  exact own_go (fun _ k => XS.dup X.here hx rfl hd rfl hc k) k
theorem s_pop (X : Stand p l e R s m args below meth c T locs cells slots) (hx : p.tables.exec = Jvm.exec) {pc pc' : Nat} {Ls : Array Slot} {st : List Value} {x : Value} (hd : decode c.code pc = .ok (.pop, 1)) (hp : pc + 1 = pc') (hc : x.category = 1)
    (k : Goes p e below G (T.setTop (mkF m pc' Ls (st)))) : Goes p e below G (T.setTop (mkF m pc Ls (x :: st))) := by
  subst hp
  exact own_go (fun _ k => XT.pop X.here hx rfl hd rfl hc k) k
theorem s_pop2D (X : Stand p l e R s m args below meth c T locs cells slots) (hx : p.tables.exec = Jvm.exec) {pc pc' : Nat} {Ls : Array Slot} {st : List Value} {x : UInt64} (hd : decode c.code pc = .ok (.pop2, 1)) (hp : pc + 1 = pc')
    (k : Goes p e below G (T.setTop (mkF m pc' Ls st))) : Goes p e below G (T.setTop (mkF m pc Ls (.double x :: st))) := by
  subst hp
  refine own_go (fun _ k => ?_) k
  jvm_step X.here [X.here.top, hx, hd, Value.category]
  exact k
theorem s_dup2 (X : Stand p l e R s m args below meth c T locs cells slots) (hx : p.tables.exec = Jvm.exec) {pc pc' : Nat} {Ls : Array Slot} {st : List Value} {x y : Value} (hd : decode c.code pc = .ok (.dup2, 1)) (hp : pc + 1 = pc') (hc : x.category = 1) (hc' : y.category = 1)
    (k : Goes p e below G (T.setTop (mkF m pc' Ls (x :: y :: x :: y :: st)))) : Goes p e below G (T.setTop (mkF m pc Ls (x :: y :: st))) := by
  subst hp
  exact own_go (fun _ k => XT.dup2 X.here hx rfl hd rfl hc hc' k) k
theorem s_iinc (X : Stand p l e R s m args below meth c T locs cells slots) (hx : p.tables.exec = Jvm.exec) {pc pc' : Nat} {Ls : Array Slot} {st : List Value} {j : Nat} {i : Int} {x : Int32} (v : Int32) (l' : Array Slot) (hd : decode c.code pc = .ok (.iinc j i, 3)) (hp : pc + 3 = pc') (hl : Ls[j]? = some (.val (.int x))) (hv : x + Int32.ofInt i = v) (hl' : storeLocals Ls j (.int v) = some l')
    (k : Goes p e below G (T.setTop (mkF m pc' l' (st)))) : Goes p e below G (T.setTop (mkF m pc Ls (st))) := by
  subst hp
  exact own_go (fun _ k => XS.iinc X.here hx rfl hd hl (by rw [hv]; exact hl') k) k
theorem s_goto (X : Stand p l e R s m args below meth c T locs cells slots) (hx : p.tables.exec = Jvm.exec) {pc pc' : Nat} {Ls : Array Slot} {st : List Value}  {o : Int} (hd : decode c.code pc = .ok (.goto o, 3))  (ho : 0 ≤ (pc : Int) + o) (hp : ((pc : Int) + o).toNat = pc')
    (k : Goes p e below G (T.setTop (mkF m pc' Ls (st)))) : Goes p e below G (T.setTop (mkF m pc Ls (st))) := own_go (fun _ k => XS.goto X.here hx rfl rfl hd ho hp k) k
theorem s_ifY (X : Stand p l e R s m args below meth c T locs cells slots) (hx : p.tables.exec = Jvm.exec) {pc pc' : Nat} {Ls : Array Slot} {st : List Value} {cd : ClassFile.Cond} {x : Int32} {o : Int} (hd : decode c.code pc = .ok (.ifCond cd o, 3)) (hc : ifCond.holds cd x = true) (ho : 0 ≤ (pc : Int) + o) (hp : ((pc : Int) + o).toNat = pc')
    (k : Goes p e below G (T.setTop (mkF m pc' Ls (st)))) : Goes p e below G (T.setTop (mkF m pc Ls (.int x :: st))) := own_go (fun _ k => XS.ifYes X.here hx rfl rfl hd rfl hc ho hp k) k
theorem s_icmpY (X : Stand p l e R s m args below meth c T locs cells slots) (hx : p.tables.exec = Jvm.exec) {pc pc' : Nat} {Ls : Array Slot} {st : List Value} {cd : ClassFile.Cond} {x y : Int32} {o : Int} (hd : decode c.code pc = .ok (.if_icmp cd o, 3)) (hc : if_icmp.holds cd x y = true) (ho : 0 ≤ (pc : Int) + o) (hp : ((pc : Int) + o).toNat = pc')
    (k : Goes p e below G (T.setTop (mkF m pc' Ls (st)))) : Goes p e below G (T.setTop (mkF m pc Ls (.int y :: .int x :: st))) := own_go (fun _ k => XS.icmpYes X.here hx rfl rfl hd rfl hc ho hp k) k
theorem s_acmpY (X : Stand p l e R s m args below meth c T locs cells slots) (hx : p.tables.exec = Jvm.exec) {pc pc' : Nat} {Ls : Array Slot} {st : List Value} {cd : ClassFile.ACond} {x y : Value} {o : Int} (hd : decode c.code pc = .ok (.if_acmp cd o, 3)) (h1 : x.isRef = true) (h2 : y.isRef = true) (hc : XT.acmp cd x y = true) (ho : 0 ≤ (pc : Int) + o) (hp : ((pc : Int) + o).toNat = pc')
    (k : Goes p e below G (T.setTop (mkF m pc' Ls (st)))) : Goes p e below G (T.setTop (mkF m pc Ls (y :: x :: st))) := own_go (fun _ k => XT.acmpYes X.here hx rfl rfl hd rfl h1 h2 hc ho hp k) k
theorem s_nonnullY (X : Stand p l e R s m args below meth c T locs cells slots) (hx : p.tables.exec = Jvm.exec) {pc pc' : Nat} {Ls : Array Slot} {st : List Value} {b : Addr} {o : Int} (hd : decode c.code pc = .ok (.ifnonnull o, 3))  (ho : 0 ≤ (pc : Int) + o) (hp : ((pc : Int) + o).toNat = pc')
    (k : Goes p e below G (T.setTop (mkF m pc' Ls (st)))) : Goes p e below G (T.setTop (mkF m pc Ls (.ref b :: st))) := own_go (fun _ k => XT.ifnonnullYes X.here hx rfl rfl hd rfl ho hp k) k
theorem s_ifN (X : Stand p l e R s m args below meth c T locs cells slots) (hx : p.tables.exec = Jvm.exec) {pc pc' : Nat} {Ls : Array Slot} {st : List Value} {cd : ClassFile.Cond} {x : Int32} {o : Int} (hd : decode c.code pc = .ok (.ifCond cd o, 3)) (hp : pc + 3 = pc') (hc : ifCond.holds cd x = false)
    (k : Goes p e below G (T.setTop (mkF m pc' Ls (st)))) : Goes p e below G (T.setTop (mkF m pc Ls (.int x :: st))) := by
  subst hp
  exact own_go (fun _ k => XS.ifNo X.here hx rfl hd rfl hc k) k
theorem s_icmpN (X : Stand p l e R s m args below meth c T locs cells slots) (hx : p.tables.exec = Jvm.exec) {pc pc' : Nat} {Ls : Array Slot} {st : List Value} {cd : ClassFile.Cond} {x y : Int32} {o : Int} (hd : decode c.code pc = .ok (.if_icmp cd o, 3)) (hp : pc + 3 = pc') (hc : if_icmp.holds cd x y = false)
    (k : Goes p e below G (T.setTop (mkF m pc' Ls (st)))) : Goes p e below G (T.setTop (mkF m pc Ls (.int y :: .int x :: st))) := by
  subst hp
  exact own_go (fun _ k => XS.icmpNo X.here hx rfl hd rfl hc k) k
theorem s_acmpN (X : Stand p l e R s m args below meth c T locs cells slots) (hx : p.tables.exec = Jvm.exec) {pc pc' : Nat} {Ls : Array Slot} {st : List Value} {cd : ClassFile.ACond} {x y : Value} {o : Int} (hd : decode c.code pc = .ok (.if_acmp cd o, 3)) (hp : pc + 3 = pc') (h1 : x.isRef = true) (h2 : y.isRef = true) (hc : XT.acmp cd x y = false)
    (k : Goes p e below G (T.setTop (mkF m pc' Ls (st)))) : Goes p e below G (T.setTop (mkF m pc Ls (y :: x :: st))) := by
  subst hp
  exact own_go (fun _ k => XT.acmpNo X.here hx rfl hd rfl h1 h2 hc k) k
theorem s_nullN (X : Stand p l e R s m args below meth c T locs cells slots) (hx : p.tables.exec = Jvm.exec) {pc pc' : Nat} {Ls : Array Slot} {st : List Value} {b : Addr} {o : Int} (hd : decode c.code pc = .ok (.ifnull o, 3)) (hp : pc + 3 = pc') 
    (k : Goes p e below G (T.setTop (mkF m pc' Ls (st)))) : Goes p e below G (T.setTop (mkF m pc Ls (.ref b :: st))) := by
  subst hp
  exact own_go (fun _ k => XS.ifnullNo X.here hx rfl hd rfl k) k
end Own
theorem iy_lt {x : Int32} (h : x < 0) : ifCond.holds .lt x = true := by rw [if0]; exact (tlt h).1
theorem in_lt {x : Int32} (h : ¬ x < 0) : ifCond.holds .lt x = false := by rw [if0]; exact (flt h).1
theorem iy_ge {x : Int32} (h : ¬ x < 0) : ifCond.holds .ge x = true := by rw [if0]; exact (flt h).2.1
theorem in_ge {x : Int32} (h : x < 0) : ifCond.holds .ge x = false := by rw [if0]; exact (tlt h).2.1
theorem iy_gt {x : Int32} (h : 0 < x) : ifCond.holds .gt x = true := by rw [if0]; exact (tlt h).2.2.1
theorem in_gt {x : Int32} (h : ¬ 0 < x) : ifCond.holds .gt x = false := by rw [if0]; exact (flt h).2.2.1
theorem iy_le {x : Int32} (h : ¬ 0 < x) : ifCond.holds .le x = true := by rw [if0]; exact (flt h).2.2.2
theorem in_le {x : Int32} (h : 0 < x) : ifCond.holds .le x = false := by rw [if0]; exact (tlt h).2.2.2
theorem iy_eq {x : Int32} (h : x = 0) : ifCond.holds .eq x = true := by rw [if0]; exact (teq h).1
theorem in_eq {x : Int32} (h : ¬ x = 0) : ifCond.holds .eq x = false := by rw [if0]; exact (feq h).1
theorem iy_ne {x : Int32} (h : ¬ x = 0) : ifCond.holds .ne x = true := by rw [if0]; exact (feq h).2
theorem in_ne {x : Int32} (h : x = 0) : ifCond.holds .ne x = false := by rw [if0]; exact (teq h).2
theorem cy_lt {x y : Int32} (h : x < y) : if_icmp.holds .lt x y = true := (tlt h).1
theorem cn_lt {x y : Int32} (h : ¬ x < y) : if_icmp.holds .lt x y = false := (flt h).1
theorem cy_ge {x y : Int32} (h : ¬ x < y) : if_icmp.holds .ge x y = true := (flt h).2.1
theorem cn_ge {x y : Int32} (h : x < y) : if_icmp.holds .ge x y = false := (tlt h).2.1
theorem cy_gt {x y : Int32} (h : y < x) : if_icmp.holds .gt x y = true := (tlt h).2.2.1
theorem cn_gt {x y : Int32} (h : ¬ y < x) : if_icmp.holds .gt x y = false := (flt h).2.2.1
theorem cy_le {x y : Int32} (h : ¬ y < x) : if_icmp.holds .le x y = true := (flt h).2.2.2
theorem cn_le {x y : Int32} (h : y < x) : if_icmp.holds .le x y = false := (tlt h).2.2.2
theorem cy_eq {x y : Int32} (h : x = y) : if_icmp.holds .eq x y = true := (teq h).1
theorem cn_eq {x y : Int32} (h : ¬ x = y) : if_icmp.holds .eq x y = false := (feq h).1
theorem cy_ne {x y : Int32} (h : ¬ x = y) : if_icmp.holds .ne x y = true := (feq h).2
theorem cn_ne {x y : Int32} (h : x = y) : if_icmp.holds .ne x y = false := (teq h).2
section OwnFl
open Jvm.FP
theorem own_ratio {i j : Int} {a b : UInt64} (ha : Core.DInt i a) (hb : Core.DInt j b) (hj : j ≠ 0) :
    ∃ sg : Bool, (i ≠ 0 → sg = (decide (i < 0) != decide (j < 0))) ∧ Core.val64 (FP.ddiv a b) = Core.roundRatio Core.b64 sg i.natAbs j.natAbs 0 := by
  unfold Core.DInt at ha hb
  have e := Core.val64_ddiv a b
  cases va : Core.val64 a with
  | nan => rw [va] at ha; exact ha.elim
  | inf s => rw [va] at ha; exact ha.elim
  | fin s c q =>
    cases vb : Core.val64 b with
    | nan => rw [vb] at hb; exact hb.elim
    | inf t => rw [vb] at hb; exact hb.elim
    | fin t d r =>
      rw [va] at ha; rw [vb] at hb
      have hd : d ≠ 0 := fun q => hj ((Core.whole_zero hb).mp q)
      have e1 := Core.whole_natAbs ha
      have e2 := Core.whole_natAbs hb
      refine ⟨(s != t), fun hi => by rw [Core.whole_sign ha hi, Core.whole_sign hb hj], ?_⟩
      show Core.val64 (Core.ddiv a b) = _
      rw [e, va, vb]
      show (if d = 0 then _ else Core.roundRatio Core.b64 (s != t) c d (q - r)) = _
      rw [if_neg hd]
      refine Core.roundRatio_congr (by omega) (by omega) ?_
      obtain ⟨m, hu, hv⟩ : ∃ m, q.toNat + (-r).toNat = (q - r).toNat + m ∧ (-q).toNat + r.toNat = (r - q).toNat + m := ⟨(q.toNat + (-r).toNat) - (q - r).toNat, by omega, by omega⟩
      have key : c * j.natAbs * 2 ^ (q.toNat + (-r).toNat) = i.natAbs * d * 2 ^ ((-q).toNat + r.toNat) := by
        rw [Nat.pow_add, Nat.pow_add]
        calc c * j.natAbs * (2 ^ q.toNat * 2 ^ (-r).toNat) = (c * 2 ^ q.toNat) * (j.natAbs * 2 ^ (-r).toNat) := by ac_rfl
          _ = (i.natAbs * 2 ^ (-q).toNat) * (d * 2 ^ r.toNat) := by rw [e1, ← e2]
          _ = _ := by ac_rfl
      rw [hu, hv, Nat.pow_add, Nat.pow_add, ← Nat.mul_assoc, ← Nat.mul_assoc] at key
      have k2 := Nat.eq_of_mul_eq_mul_right (Nat.two_pow_pos m) key
      rw [show (q - r - 0) = q - r by omega, show (0 - (q - r)) = r - q by omega]
      exact k2
theorem own_ddiv_int {q j : Int} {a b : UInt64} (ha : Core.DInt (q * j) a) (hb : Core.DInt j b) (hj : j ≠ 0) (hq : q.natAbs ≤ 2 ^ 53) : Core.DInt q (FP.ddiv a b) := by
  obtain ⟨sg, h1, h2⟩ := own_ratio ha hb hj
  unfold Core.DInt
  rw [h2, Core.roundRatio_congr (A' := q.natAbs) (B' := 1) (e' := 0) (by omega) (by omega) (by rw [Int.natAbs_mul]; simp)]
  refine Core.whole_round Core.good_b64 Core.wide_b64 (d := .fin sg q.natAbs 0) hq ?_
  show Core.signed sg (q.natAbs * 1) = q * ((1 : Nat) : Int)
  rw [Nat.mul_one]
  by_cases hz : q = 0
  · subst hz; cases sg <;> rfl
  · have hs := h1 (fun z => (Int.mul_eq_zero.mp z).elim hz hj)
    have : sg = decide (q < 0) := by
      rw [hs]
      rcases Int.lt_or_gt_of_ne hz with h3 | h3 <;> rcases Int.lt_or_gt_of_ne hj with h4 | h4
      · have := Int.mul_pos_of_neg_of_neg h3 h4
        simp [h3, h4, show ¬ q * j < 0 by omega]
      · have := Int.mul_neg_of_neg_of_pos h3 h4
        simp [h3, this, show ¬ j < 0 by omega]
      · have := Int.mul_neg_of_pos_of_neg h3 h4
        simp [h4, this, show ¬ q < 0 by omega]
      · have := Int.mul_pos h3 h4
        simp [show ¬ q * j < 0 by omega, show ¬ j < 0 by omega, show ¬ q < 0 by omega]
    rw [this]
    unfold Core.signed
    by_cases h : q < 0 <;> simp [h] <;> omega
theorem own_ratio_pos {sg : Bool} {A B : Nat} (hB : 0 < B) (h : B ≤ A * 2 ^ 1074) : 1 ≤ Core.zmag Core.b64 (Core.roundRatio Core.b64 sg A B 0) := by
  have q := Core.zmag_roundRatio_ge (f := Core.b64) Core.good_b64 (s := sg) (A := A) (B := B) (e := 0) (e0 := -1074) (V := .fin false 1 (-1074)) hB (by unfold Core.fits; decide +kernel) (by decide +kernel) (by decide) (by
    rw [show Core.zmag Core.b64 (.fin false 1 (-1074)) = 1 by decide +kernel, show (Core.b64.qmin - -1074).toNat = 0 by decide +kernel]
    show 1 * 2 ^ 0 * B ≤ A * 2 ^ ((0 : Int) - -1074).toNat
    rw [show ((0 : Int) - -1074).toNat = 1074 by decide]
    omega)
  rw [show Core.zmag Core.b64 (.fin false 1 (-1074)) = 1 by decide +kernel] at q
  exact q
theorem own_dcmp_z {x y : UInt64} (hx : Core.val64 x ≠ .nan) (hy : Core.val64 y ≠ .nan) : FP.dcmp x y = some (compare (Core.zval Core.b64 (Core.val64 x)) (Core.zval Core.b64 (Core.val64 y))) :=
  Core.order_zval Core.good_b64 (Core.val64_fits x) (Core.val64_fits y) hx hy
theorem own_zval0 : Core.zval Core.b64 (Core.val64 0) = 0 := by decide +kernel
theorem own_nan0 : Core.val64 0 ≠ .nan := by decide +kernel
theorem own_cmp_lt {a b : Int} (h : a < b) : compare a b = .lt := by rw [Core.compare_ite, if_pos h]
theorem own_cmp_gt {a b : Int} (h : b < a) : compare a b = .gt := by rw [Core.compare_ite, if_neg (by omega), if_neg (by omega)]
theorem own_cmp_eq {a b : Int} (h : a = b) : compare a b = .eq := by rw [Core.compare_ite, if_neg (by omega), if_pos h]
theorem own_sg_n {P : Prop} [Decidable P] (h : P) (z : Nat) : Core.signed (decide P) z = -(z : Int) := by rw [decide_eq_true h]; rfl
theorem own_sg_p {P : Prop} [Decidable P] (h : ¬ P) (z : Nat) : Core.signed (decide P) z = (z : Int) := by rw [decide_eq_false h]; rfl
theorem own_l2d_z {a : Int64} (h : a ≠ 0) : ∃ z : Nat, 0 < z ∧ Core.zval Core.b64 (Core.val64 (FP.l2d a)) = Core.signed (decide (a.toInt < 0)) z := by
  obtain ⟨c, q, hc⟩ := Core.l2d_shape a
  have hn : Core.val64 (FP.l2d a) ≠ .nan := by show Core.val64 (Core.l2d a) ≠ _; rw [hc]; intro z; cases z
  refine ⟨Core.zmag Core.b64 (Core.val64 (FP.l2d a)), ?_, ?_⟩
  · rw [Core.zmag_bits hn]
    refine Nat.pos_of_ne_zero fun z => ?_
    exact Core.l2d_ne_zero h (Core.unitsOf_eq_zero.mp z)
  · show Core.signed (Core.sgn (Core.val64 (Core.l2d a))) _ = _
    rw [hc]; rfl
theorem own_l2d_nan (a : Int64) : Core.val64 (FP.l2d a) ≠ .nan := val64_no.mp (l2d_fin a).noNaN
end OwnFl
/-- what isNegative computes -/
def own_neg (x : UInt64) : Int32 := if cmpValue (FP.dcmp x 0) .g < 0 then 1 else if cmpValue (FP.dcmp 0 x) .l = 0 then (if cmpValue (FP.dcmp (FP.ddiv 4607182418800017408 x) 0) .g < 0 then 1 else 0) else 0
def own_div (x : UInt64) : Prop := cmpValue (FP.dcmp 0 x) .l = 0 → NoNaN64 (FP.ddiv 4607182418800017408 x)
theorem own_neg_n {x : UInt64} (hx : FP.Core.val64 x ≠ .nan) (h : FP.Core.zval FP.Core.b64 (FP.Core.val64 x) < 0) : own_neg x = 1 ∧ own_div x := by
  have e1 : FP.dcmp x 0 = some .lt := by rw [own_dcmp_z hx own_nan0, own_zval0, own_cmp_lt h]
  have e2 : FP.dcmp 0 x = some .gt := by rw [own_dcmp_z own_nan0 hx, own_zval0, own_cmp_gt h]
  refine ⟨?_, fun q => ?_⟩
  · unfold own_neg; rw [e1]; rfl
  · rw [e2] at q; exact absurd q (by decide)
theorem own_neg_p {x : UInt64} (hx : FP.Core.val64 x ≠ .nan) (h : 0 < FP.Core.zval FP.Core.b64 (FP.Core.val64 x)) : own_neg x = 0 ∧ own_div x := by
  have e1 : FP.dcmp x 0 = some .gt := by rw [own_dcmp_z hx own_nan0, own_zval0, own_cmp_gt h]
  have e2 : FP.dcmp 0 x = some .lt := by rw [own_dcmp_z own_nan0 hx, own_zval0, own_cmp_lt h]
  refine ⟨?_, fun q => ?_⟩
  · unfold own_neg; rw [e1, e2]; rfl
  · rw [e2] at q; exact absurd q (by decide)
theorem own_neg_0 : own_neg 0 = 0 ∧ own_div 0 := by
  refine ⟨by decide +kernel, fun _ => ?_⟩
  unfold NoNaN64; decide +kernel
theorem own_neg_m0 : own_neg 9223372036854775808 = 1 ∧ own_div 9223372036854775808 := by
  refine ⟨by decide +kernel, fun _ => ?_⟩
  unfold NoNaN64; decide +kernel
theorem own_neg_c {x : UInt64} {r : Int32} (h : own_neg x = r) (h2 : ¬ cmpValue (FP.dcmp 0 x) .l = 0) : own_neg x = r ∧ own_div x := ⟨h, fun q => absurd q h2⟩
theorem own_neg_l (a : Int64) : (a < 0 → own_neg (FP.l2d a) = 1 ∧ own_div (FP.l2d a)) ∧ (¬ a < 0 → own_neg (FP.l2d a) = 0 ∧ own_div (FP.l2d a)) := by
  have hl : (a < 0) ↔ a.toInt < 0 := by rw [Int64.lt_iff_toInt_lt]; rfl
  by_cases hz : a = 0
  · subst hz
    rw [show FP.l2d 0 = 0 from l2d_zero]
    exact ⟨fun h => absurd h (by decide), fun _ => own_neg_0⟩
  · obtain ⟨z, z1, z2⟩ := own_l2d_z hz
    have hne : a.toInt ≠ 0 := fun q => hz (Int64.toInt_inj.mp (by rw [q]; rfl))
    refine ⟨fun h => own_neg_n (own_l2d_nan a) ?_, fun h => own_neg_p (own_l2d_nan a) ?_⟩
    · rw [z2, own_sg_n (hl.mp h)]; omega
    · rw [z2, own_sg_p (fun q => h (hl.mpr q))]; omega
theorem own_neg_i (a : Int32) : (a < 0 → own_neg (FP.i2d a) = 1 ∧ own_div (FP.i2d a)) ∧ (¬ a < 0 → own_neg (FP.i2d a) = 0 ∧ own_div (FP.i2d a)) := by
  have h := own_neg_l a.toInt64
  rw [← i2d_w] at h
  have e : (a.toInt64 < 0) ↔ a < 0 := by rw [Int64.lt_iff_toInt_lt, Int32.lt_iff_toInt_lt, Int32.toInt_toInt64]; rfl
  exact ⟨fun q => h.1 (e.mpr q), fun q => h.2 fun r => q (e.mp r)⟩
theorem own_k1024 : FP.Core.DInt 1024 4652218415073722368 := by
  have h := FP.Core.i2d_int 1024
  rw [show FP.Core.i2d 1024 = 4652218415073722368 by decide +kernel] at h
  exact h
theorem own_neg_q (a : Int32) : (a < 0 → own_neg (FP.ddiv (FP.i2d a) 4652218415073722368) = 1 ∧ own_div (FP.ddiv (FP.i2d a) 4652218415073722368)) ∧ (¬ a < 0 → own_neg (FP.ddiv (FP.i2d a) 4652218415073722368) = 0 ∧ own_div (FP.ddiv (FP.i2d a) 4652218415073722368)) := by
  have hl : (a < 0) ↔ a.toInt < 0 := by rw [Int32.lt_iff_toInt_lt]; rfl
  by_cases hz : a = 0
  · subst hz
    rw [show FP.ddiv (FP.i2d 0) 4652218415073722368 = 0 by decide +kernel]
    exact ⟨fun h => absurd h (by decide), fun _ => own_neg_0⟩
  · have hne : a.toInt ≠ 0 := fun q => hz (Int32.toInt_inj.mp (by rw [q]; rfl))
    obtain ⟨sg, s1, s2⟩ := own_ratio (FP.Core.i2d_int a) own_k1024 (by decide)
    have hs : sg = decide (a.toInt < 0) := by rw [s1 hne]; simp
    have hn : FP.Core.val64 (FP.ddiv (FP.i2d a) 4652218415073722368) ≠ .nan := by rw [s2]; exact FP.Core.roundRatio_ne_nan _ _ _ _ _
    have hp : 1 ≤ FP.Core.zmag FP.Core.b64 (FP.Core.roundRatio FP.Core.b64 sg a.toInt.natAbs (1024 : Int).natAbs 0) := own_ratio_pos (by decide) (by
      have : 1 ≤ a.toInt.natAbs := by omega
      calc (1024 : Int).natAbs ≤ 1 * 2 ^ 1074 := by decide +kernel
        _ ≤ _ := Nat.mul_le_mul_right _ this)
    have zv : FP.Core.zval FP.Core.b64 (FP.Core.val64 (FP.ddiv (FP.i2d a) 4652218415073722368)) = FP.Core.signed (decide (a.toInt < 0)) (FP.Core.zmag FP.Core.b64 (FP.Core.roundRatio FP.Core.b64 sg a.toInt.natAbs (1024 : Int).natAbs 0)) := by
      unfold FP.Core.zval; rw [s2, FP.Core.sgn_roundRatio, hs]
    refine ⟨fun h => own_neg_n hn ?_, fun h => own_neg_p hn ?_⟩
    · rw [zv, own_sg_n (hl.mp h)]; omega
    · rw [zv, own_sg_p (fun q => h (hl.mpr q))]; omega
theorem d1_0 : decode prog_64_method_6_code 0 = .ok (.dload_n 0, 1) := by decide +kernel
theorem d1_1 : decode prog_64_method_6_code 1 = .ok (.dconst 0, 1) := by decide +kernel
theorem d1_2 : decode prog_64_method_6_code 2 = .ok (.dcmp .g, 1) := by decide +kernel
theorem d1_3 : decode prog_64_method_6_code 3 = .ok (.ifCond .lt 17, 3) := by decide +kernel
theorem d1_6 : decode prog_64_method_6_code 6 = .ok (.dconst 0, 1) := by decide +kernel
theorem d1_7 : decode prog_64_method_6_code 7 = .ok (.dload_n 0, 1) := by decide +kernel
theorem d1_8 : decode prog_64_method_6_code 8 = .ok (.dcmp .l, 1) := by decide +kernel
theorem d1_9 : decode prog_64_method_6_code 9 = .ok (.ifCond .ne 15, 3) := by decide +kernel
theorem d1_12 : decode prog_64_method_6_code 12 = .ok (.dconst 1, 1) := by decide +kernel
theorem d1_13 : decode prog_64_method_6_code 13 = .ok (.dload_n 0, 1) := by decide +kernel
theorem d1_14 : decode prog_64_method_6_code 14 = .ok (.ddiv, 1) := by decide +kernel
theorem d1_15 : decode prog_64_method_6_code 15 = .ok (.dconst 0, 1) := by decide +kernel
theorem d1_16 : decode prog_64_method_6_code 16 = .ok (.dcmp .g, 1) := by decide +kernel
theorem d1_17 : decode prog_64_method_6_code 17 = .ok (.ifCond .ge 7, 3) := by decide +kernel
theorem d1_20 : decode prog_64_method_6_code 20 = .ok (.iconst 1, 1) := by decide +kernel
theorem d1_21 : decode prog_64_method_6_code 21 = .ok (.goto 4, 3) := by decide +kernel
theorem d1_24 : decode prog_64_method_6_code 24 = .ok (.iconst 0, 1) := by decide +kernel
theorem d1_25 : decode prog_64_method_6_code 25 = .ok (.ireturn, 1) := by decide +kernel
theorem pn_1 : plainName "com/example/latchkey/latchkey/core/FloatFormat" = true := by first | (simp [plainName, overriddenIn]; done) | decide +kernel
theorem ef_1 (z0 : UInt64) (m : MethodId) : entryFrame m #[.double z0] 2 = mkF m 0 #[.val (.double z0), .second] [] := by first | (simp [entryFrame, mkF, argsToLocals, Value.category, maxLocals]; done) | rfl
set_option maxRecDepth 65536 in
set_option maxHeartbeats 40000000 in
theorem rm_1 (l : Launch) (Z : State) (a0 : Array Value) (hw : ∀ d ∈ tables_1, d.before a0 Z = true) (ws : List Jvm.Cond) (x : UInt64) (h0 : Heap) (n0 : Nat) (Z0 : n0 ≤ h0.size) (hdiv : own_div x) :
    OwnMet l Z (⟨"com/example/latchkey/latchkey/core/FloatFormat", "isNegative", "(D)Z"⟩ : MethodName) prog_64_method_6_code 2 (some .boolean) ws ({ frames := 0, cells := 0, slots := 0, locals := 0 } : Room) #[.double x] h0 (fun v h L => v = some (.int (own_neg x)) ∧ Fr n0 L ∧ h = h0) := by
  refine own_met (plainFor_of_name pn_1) (ef_1 x) ?_
  intro p e s m below meth c s₁ hx hby hml hZ hown hnm hret hlk X0 e0
  have N0 := Fr.nil n0
  refine s_dloadN X0 hx (hb hby d1_0) (pc' := 1) rfl rfl ?_
  refine s_dconst0 X0 hx (hb hby d1_1) (pc' := 2) rfl ?_
  refine s_dcmp X0 hx (cmpValue (FP.dcmp x 0) .g) (hb hby d1_2) (pc' := 3) rfl rfl ?_
  by_cases h1 : (cmpValue (FP.dcmp x 0) .g) < 0
  ·
    refine s_ifY X0 hx (hb hby d1_3) (iy_lt h1) (by decide) (pc' := 20) (by decide) ?_
    refine s_iconst X0 hx (1 : Int32) (hb hby d1_20) (pc' := 21) rfl rfl ?_
    refine s_goto X0 hx (hb hby d1_21) (by decide) (pc' := 25) (by decide) ?_
    exact s_retI X0 hx hlk hret (hb hby d1_25) rfl (Or.inl ⟨rfl, by simp, _, rfl⟩) (by decide) (by decide) ⟨by unfold own_neg; rw [if_pos h1], N0, e0⟩
  ·
    refine s_ifN X0 hx (hb hby d1_3) (pc' := 6) rfl (in_lt h1) ?_
    refine s_dconst0 X0 hx (hb hby d1_6) (pc' := 7) rfl ?_
    refine s_dloadN X0 hx (hb hby d1_7) (pc' := 8) rfl rfl ?_
    refine s_dcmp X0 hx (cmpValue (FP.dcmp 0 x) .l) (hb hby d1_8) (pc' := 9) rfl rfl ?_
    by_cases h2 : (cmpValue (FP.dcmp 0 x) .l) = 0
    ·
      refine s_ifN X0 hx (hb hby d1_9) (pc' := 12) rfl (in_ne h2) ?_
      refine s_dconst1 X0 hx (hb hby d1_12) (pc' := 13) rfl ?_
      refine s_dloadN X0 hx (hb hby d1_13) (pc' := 14) rfl rfl ?_
      refine s_ddiv X0 hx (FP.ddiv 4607182418800017408 x) (hb hby d1_14) (pc' := 15) rfl (hdiv h2) rfl ?_
      refine s_dconst0 X0 hx (hb hby d1_15) (pc' := 16) rfl ?_
      refine s_dcmp X0 hx (cmpValue (FP.dcmp (FP.ddiv 4607182418800017408 x) 0) .g) (hb hby d1_16) (pc' := 17) rfl rfl ?_
      by_cases h3 : (cmpValue (FP.dcmp (FP.ddiv 4607182418800017408 x) 0) .g) < 0
      ·
        refine s_ifN X0 hx (hb hby d1_17) (pc' := 20) rfl (in_ge h3) ?_
        refine s_iconst X0 hx (1 : Int32) (hb hby d1_20) (pc' := 21) rfl rfl ?_
        refine s_goto X0 hx (hb hby d1_21) (by decide) (pc' := 25) (by decide) ?_
        exact s_retI X0 hx hlk hret (hb hby d1_25) rfl (Or.inl ⟨rfl, by simp, _, rfl⟩) (by decide) (by decide) ⟨by unfold own_neg; rw [if_neg h1, if_pos h2, if_pos h3], N0, e0⟩
      ·
        refine s_ifY X0 hx (hb hby d1_17) (iy_ge h3) (by decide) (pc' := 24) (by decide) ?_
        refine s_iconst X0 hx (0 : Int32) (hb hby d1_24) (pc' := 25) rfl rfl ?_
        exact s_retI X0 hx hlk hret (hb hby d1_25) rfl (Or.inl ⟨rfl, by simp, _, rfl⟩) (by decide) (by decide) ⟨by unfold own_neg; rw [if_neg h1, if_pos h2, if_neg h3], N0, e0⟩
    ·
      refine s_ifY X0 hx (hb hby d1_9) (iy_ne h2) (by decide) (pc' := 24) (by decide) ?_
      refine s_iconst X0 hx (0 : Int32) (hb hby d1_24) (pc' := 25) rfl rfl ?_
      exact s_retI X0 hx hlk hret (hb hby d1_25) rfl (Or.inl ⟨rfl, by simp, _, rfl⟩) (by decide) (by decide) ⟨by unfold own_neg; rw [if_neg h1, if_neg h2], N0, e0⟩
theorem pn_0 : plainName "com/example/latchkey/latchkey/core/FloatFormatIsNegativePinLaw" = true := by first | (simp [plainName, overriddenIn]; done) | decide +kernel
def Q0 (n0 : Nat) (v : Option Value) (h : Heap) (L : List Loc) : Prop := v = some (.int 1) ∧ Fr n0 L
theorem pd_0 : parseMethodDescriptor "(D)Z" = some ⟨[.double], some .boolean⟩ := by decide +kernel
theorem own_cmpL_lt {x y : Int64} : XT.cmpL x y < 0 ↔ x < y := by
  have : XT.cmpL x y = lcmpW x y := rfl
  rw [this]; exact lw_lt x y
theorem ef_0 (z0 : Int32) (z1 : Int32) (z2 : Int64) (z3 : Int32) (m : MethodId) : entryFrame m #[.int z0, .int z1, .long z2, .int z3] maxLocals = mkF m 0 #[.val (.int z0), .val (.int z1), .val (.long z2), .second, .val (.int z3), .unset, .unset, .unset, .unset, .unset] [] := by first | (simp [entryFrame, mkF, argsToLocals, Value.category, maxLocals]; done) | rfl
set_option maxRecDepth 65536 in
set_option maxHeartbeats 40000000 in
theorem rm_0 (l : Launch) (Z : State) (a0 : Array Value) (hw : ∀ d ∈ tables_1, d.before a0 Z = true) (ws : List Jvm.Cond) (p0 : Int32) (p1 : Int32) (p2 : Int64) (p3 : Int32) (h0 : Heap) (n0 : Nat) (Z0 : n0 ≤ h0.size)  :
    OwnMet l Z x code maxLocals ret ws room_1 #[.int p0, .int p1, .long p2, .int p3] h0 (Q0 n0) := by
  refine own_met (plainFor_of_name pn_0) (ef_0 p0 p1 p2 p3) ?_
  intro p e s m below meth c s₁ hx hby hml hZ hown hnm hret hlk X0 e0
  have N0 := Fr.nil n0
  have tail : ∀ (d : UInt64) (ex kk : Int32) (s9 : Slot), own_neg d = ex ∧ own_div d → Goes p e below (EndsAs (Q0 n0) s room_1.cells room_1.slots) (s₁.setTop (mkF m 184 #[.val (.int p0), .val (.int p1), .val (.long p2), .second, .val (.int p3), .val (.int kk), .val (.double d), .second, .val (.int ex), s9] [])) := by
    intro d ex kk s9 hd
    refine s_dload X0 hx (hb hby at_184) (pc' := 186) rfl rfl ?_
    refine c_static X0 hx hZ hown (hw _ (List.mem_of_getElem? (i := 0) rfl)) (hw _ (List.mem_of_getElem? (i := 1) rfl)) (hw _ (List.mem_of_getElem? (i := 2) rfl)) (hw _ (List.mem_of_getElem? (i := 3) rfl)) (by decide) e0 (rm_1 l Z a0 hw [] d h0 n0 Z0 hd.2) (W := 0) (by decide) (by decide) (by decide) (by decide) (by rw [hml]; rfl) (argsL := [.double d]) (rest := []) (lenOf pd_0 rfl) rfl rfl (Nat.le_of_eq rfl) (hb hby at_186) (pc' := 189) rfl ?_
    intro T1 v1 L1 X1 hQ1
    obtain ⟨rfl, Nq1, eh1⟩ := hQ1
    have N1 := Fr.app N0 Nq1
    show Goes p e below _ (T1.setTop (mkF m 189 #[.val (.int p0), .val (.int p1), .val (.long p2), .second, .val (.int p3), .val (.int kk), .val (.double d), .second, .val (.int ex), s9] [.int (own_neg d)]))
    refine s_iload X1 hx (hb hby at_189) (pc' := 191) rfl rfl ?_
    refine s_icmpN X1 hx (hb hby at_191) (pc' := 194) rfl (cn_ne hd.1) ?_
    refine s_iconst X1 hx (1 : Int32) (hb hby at_194) (pc' := 195) rfl rfl ?_
    refine s_goto X1 hx (hb hby at_195) (by decide) (pc' := 199) (by decide) ?_
    exact s_retI X1 hx hlk hret (hb hby at_199) rfl (Or.inl ⟨rfl, by simp, _, rfl⟩) (by decide) (by decide) ⟨rfl, N1⟩
  refine s_iloadN X0 hx (hb hby at_0) (pc' := 1) rfl rfl ?_
  refine s_bipush X0 hx (7 : Int32) (hb hby at_1) (pc' := 3) rfl rfl ?_
  refine s_iand X0 hx (hb hby at_3) (pc' := 4) rfl ?_
  refine s_istore X0 hx #[.val (.int p0), .val (.int p1), .val (.long p2), .second, .val (.int p3), .val (.int (p0 &&& (7 : Int32))), .unset, .unset, .unset, .unset] (hb hby at_4) (pc' := 6) rfl rfl ?_
  generalize hk : (p0 &&& (7 : Int32)) = k
  refine s_iload X0 hx (hb hby at_6) (pc' := 8) rfl rfl ?_
  by_cases h0' : k = 0
  ·
    refine s_ifN X0 hx (hb hby at_8) (pc' := 11) rfl (in_ne h0') ?_
    refine s_iloadN X0 hx (hb hby at_11) (pc' := 12) rfl rfl ?_
    refine s_i2d X0 hx (hb hby at_12) (pc' := 13) rfl ?_
    refine s_dstore X0 hx #[.val (.int p0), .val (.int p1), .val (.long p2), .second, .val (.int p3), .val (.int k), .val (.double (FP.i2d p1)), .second, .unset, .unset] (hb hby at_13) (pc' := 15) rfl rfl ?_
    refine s_iloadN X0 hx (hb hby at_15) (pc' := 16) rfl rfl ?_
    by_cases hn : p1 < 0
    ·
      refine s_ifN X0 hx (hb hby at_16) (pc' := 19) rfl (in_ge hn) ?_
      refine s_iconst X0 hx (1 : Int32) (hb hby at_19) (pc' := 20) rfl rfl ?_
      refine s_goto X0 hx (hb hby at_20) (by decide) (pc' := 24) (by decide) ?_
      refine s_istore X0 hx #[.val (.int p0), .val (.int p1), .val (.long p2), .second, .val (.int p3), .val (.int k), .val (.double (FP.i2d p1)), .second, .val (.int (1 : Int32)), .unset] (hb hby at_24) (pc' := 26) rfl rfl ?_
      refine s_goto X0 hx (hb hby at_26) (by decide) (pc' := 184) (by decide) ?_
      exact tail (FP.i2d p1) (1 : Int32) k .unset ((own_neg_i p1).1 hn)
    ·
      refine s_ifY X0 hx (hb hby at_16) (iy_ge hn) (by decide) (pc' := 23) (by decide) ?_
      refine s_iconst X0 hx (0 : Int32) (hb hby at_23) (pc' := 24) rfl rfl ?_
      refine s_istore X0 hx #[.val (.int p0), .val (.int p1), .val (.long p2), .second, .val (.int p3), .val (.int k), .val (.double (FP.i2d p1)), .second, .val (.int (0 : Int32)), .unset] (hb hby at_24) (pc' := 26) rfl rfl ?_
      refine s_goto X0 hx (hb hby at_26) (by decide) (pc' := 184) (by decide) ?_
      exact tail (FP.i2d p1) (0 : Int32) k .unset ((own_neg_i p1).2 hn)
  refine s_ifY X0 hx (hb hby at_8) (iy_ne h0') (by decide) (pc' := 29) (by decide) ?_
  refine s_iload X0 hx (hb hby at_29) (pc' := 31) rfl rfl ?_
  refine s_iconst X0 hx (1 : Int32) (hb hby at_31) (pc' := 32) rfl rfl ?_
  by_cases h1' : k = 1
  ·
    refine s_icmpN X0 hx (hb hby at_32) (pc' := 35) rfl (cn_ne h1') ?_
    refine s_ldcD X0 hx hZ hown (hw _ (List.mem_of_getElem? (i := 5) rfl)) (hb hby at_35) (pc' := 38) rfl ?_
    refine s_dstore X0 hx #[.val (.int p0), .val (.int p1), .val (.long p2), .second, .val (.int p3), .val (.int k), .val (.double 9223372036854775808), .second, .unset, .unset] (hb hby at_38) (pc' := 40) rfl rfl ?_
    refine s_iconst X0 hx (1 : Int32) (hb hby at_40) (pc' := 41) rfl rfl ?_
    refine s_istore X0 hx #[.val (.int p0), .val (.int p1), .val (.long p2), .second, .val (.int p3), .val (.int k), .val (.double 9223372036854775808), .second, .val (.int (1 : Int32)), .unset] (hb hby at_41) (pc' := 43) rfl rfl ?_
    refine s_goto X0 hx (hb hby at_43) (by decide) (pc' := 184) (by decide) ?_
    exact tail 9223372036854775808 (1 : Int32) k .unset own_neg_m0
  refine s_icmpY X0 hx (hb hby at_32) (cy_ne h1') (by decide) (pc' := 46) (by decide) ?_
  refine s_iload X0 hx (hb hby at_46) (pc' := 48) rfl rfl ?_
  refine s_iconst X0 hx (2 : Int32) (hb hby at_48) (pc' := 49) rfl rfl ?_
  by_cases h2' : k = 2
  ·
    refine s_icmpN X0 hx (hb hby at_49) (pc' := 52) rfl (cn_ne h2') ?_
    refine s_dconst0 X0 hx (hb hby at_52) (pc' := 53) rfl ?_
    refine s_dstore X0 hx #[.val (.int p0), .val (.int p1), .val (.long p2), .second, .val (.int p3), .val (.int k), .val (.double 0), .second, .unset, .unset] (hb hby at_53) (pc' := 55) rfl rfl ?_
    refine s_iconst X0 hx (0 : Int32) (hb hby at_55) (pc' := 56) rfl rfl ?_
    refine s_istore X0 hx #[.val (.int p0), .val (.int p1), .val (.long p2), .second, .val (.int p3), .val (.int k), .val (.double 0), .second, .val (.int (0 : Int32)), .unset] (hb hby at_56) (pc' := 58) rfl rfl ?_
    refine s_goto X0 hx (hb hby at_58) (by decide) (pc' := 184) (by decide) ?_
    exact tail 0 (0 : Int32) k .unset own_neg_0
  refine s_icmpY X0 hx (hb hby at_49) (cy_ne h2') (by decide) (pc' := 61) (by decide) ?_
  refine s_iload X0 hx (hb hby at_61) (pc' := 63) rfl rfl ?_
  refine s_iconst X0 hx (3 : Int32) (hb hby at_63) (pc' := 64) rfl rfl ?_
  by_cases h3' : k = 3
  ·
    refine s_icmpN X0 hx (hb hby at_64) (pc' := 67) rfl (cn_ne h3') ?_
    refine s_ldcD X0 hx hZ hown (hw _ (List.mem_of_getElem? (i := 4) rfl)) (hb hby at_67) (pc' := 70) rfl ?_
    refine s_dstore X0 hx #[.val (.int p0), .val (.int p1), .val (.long p2), .second, .val (.int p3), .val (.int k), .val (.double 9218868437227405312), .second, .unset, .unset] (hb hby at_70) (pc' := 72) rfl rfl ?_
    refine s_iconst X0 hx (0 : Int32) (hb hby at_72) (pc' := 73) rfl rfl ?_
    refine s_istore X0 hx #[.val (.int p0), .val (.int p1), .val (.long p2), .second, .val (.int p3), .val (.int k), .val (.double 9218868437227405312), .second, .val (.int (0 : Int32)), .unset] (hb hby at_73) (pc' := 75) rfl rfl ?_
    refine s_goto X0 hx (hb hby at_75) (by decide) (pc' := 184) (by decide) ?_
    exact tail 9218868437227405312 (0 : Int32) k .unset (own_neg_c (by decide +kernel) (by decide +kernel))
  refine s_icmpY X0 hx (hb hby at_64) (cy_ne h3') (by decide) (pc' := 78) (by decide) ?_
  refine s_iload X0 hx (hb hby at_78) (pc' := 80) rfl rfl ?_
  refine s_iconst X0 hx (4 : Int32) (hb hby at_80) (pc' := 81) rfl rfl ?_
  by_cases h4' : k = 4
  ·
    refine s_icmpN X0 hx (hb hby at_81) (pc' := 84) rfl (cn_ne h4') ?_
    refine s_ldcD X0 hx hZ hown (hw _ (List.mem_of_getElem? (i := 6) rfl)) (hb hby at_84) (pc' := 87) rfl ?_
    refine s_dstore X0 hx #[.val (.int p0), .val (.int p1), .val (.long p2), .second, .val (.int p3), .val (.int k), .val (.double 18442240474082181120), .second, .unset, .unset] (hb hby at_87) (pc' := 89) rfl rfl ?_
    refine s_iconst X0 hx (1 : Int32) (hb hby at_89) (pc' := 90) rfl rfl ?_
    refine s_istore X0 hx #[.val (.int p0), .val (.int p1), .val (.long p2), .second, .val (.int p3), .val (.int k), .val (.double 18442240474082181120), .second, .val (.int (1 : Int32)), .unset] (hb hby at_90) (pc' := 92) rfl rfl ?_
    refine s_goto X0 hx (hb hby at_92) (by decide) (pc' := 184) (by decide) ?_
    exact tail 18442240474082181120 (1 : Int32) k .unset (own_neg_c (by decide +kernel) (by decide +kernel))
  refine s_icmpY X0 hx (hb hby at_81) (cy_ne h4') (by decide) (pc' := 95) (by decide) ?_
  refine s_iload X0 hx (hb hby at_95) (pc' := 97) rfl rfl ?_
  refine s_iconst X0 hx (5 : Int32) (hb hby at_97) (pc' := 98) rfl rfl ?_
  by_cases h5' : k = 5
  ·
    refine s_icmpN X0 hx (hb hby at_98) (pc' := 101) rfl (cn_ne h5') ?_
    refine s_iloadN X0 hx (hb hby at_101) (pc' := 102) rfl rfl ?_
    refine s_i2d X0 hx (hb hby at_102) (pc' := 103) rfl ?_
    refine s_ldcD X0 hx hZ hown (hw _ (List.mem_of_getElem? (i := 7) rfl)) (hb hby at_103) (pc' := 106) rfl ?_
    refine s_ddiv X0 hx (FP.ddiv (FP.i2d p1) 4652218415073722368) (hb hby at_106) (pc' := 107) rfl (ddiv_out (i2d_fin p1).noNaN (by unfold Fin64; decide) (by unfold Nz64; decide)) rfl ?_
    refine s_dstore X0 hx #[.val (.int p0), .val (.int p1), .val (.long p2), .second, .val (.int p3), .val (.int k), .val (.double (FP.ddiv (FP.i2d p1) 4652218415073722368)), .second, .unset, .unset] (hb hby at_107) (pc' := 109) rfl rfl ?_
    refine s_iloadN X0 hx (hb hby at_109) (pc' := 110) rfl rfl ?_
    by_cases hn : p1 < 0
    ·
      refine s_ifN X0 hx (hb hby at_110) (pc' := 113) rfl (in_ge hn) ?_
      refine s_iconst X0 hx (1 : Int32) (hb hby at_113) (pc' := 114) rfl rfl ?_
      refine s_goto X0 hx (hb hby at_114) (by decide) (pc' := 118) (by decide) ?_
      refine s_istore X0 hx #[.val (.int p0), .val (.int p1), .val (.long p2), .second, .val (.int p3), .val (.int k), .val (.double (FP.ddiv (FP.i2d p1) 4652218415073722368)), .second, .val (.int (1 : Int32)), .unset] (hb hby at_118) (pc' := 120) rfl rfl ?_
      refine s_goto X0 hx (hb hby at_120) (by decide) (pc' := 184) (by decide) ?_
      exact tail (FP.ddiv (FP.i2d p1) 4652218415073722368) (1 : Int32) k .unset ((own_neg_q p1).1 hn)
    ·
      refine s_ifY X0 hx (hb hby at_110) (iy_ge hn) (by decide) (pc' := 117) (by decide) ?_
      refine s_iconst X0 hx (0 : Int32) (hb hby at_117) (pc' := 118) rfl rfl ?_
      refine s_istore X0 hx #[.val (.int p0), .val (.int p1), .val (.long p2), .second, .val (.int p3), .val (.int k), .val (.double (FP.ddiv (FP.i2d p1) 4652218415073722368)), .second, .val (.int (0 : Int32)), .unset] (hb hby at_118) (pc' := 120) rfl rfl ?_
      refine s_goto X0 hx (hb hby at_120) (by decide) (pc' := 184) (by decide) ?_
      exact tail (FP.ddiv (FP.i2d p1) 4652218415073722368) (0 : Int32) k .unset ((own_neg_q p1).2 hn)
  refine s_icmpY X0 hx (hb hby at_98) (cy_ne h5') (by decide) (pc' := 123) (by decide) ?_
  refine s_iload X0 hx (hb hby at_123) (pc' := 125) rfl rfl ?_
  refine s_bipush X0 hx (6 : Int32) (hb hby at_125) (pc' := 127) rfl rfl ?_
  by_cases h6' : k = 6
  ·
    refine s_icmpN X0 hx (hb hby at_127) (pc' := 130) rfl (cn_ne h6') ?_
    refine s_iload X0 hx (hb hby at_130) (pc' := 132) rfl rfl ?_
    refine s_iconst X0 hx (1 : Int32) (hb hby at_132) (pc' := 133) rfl rfl ?_
    refine s_iand X0 hx (hb hby at_133) (pc' := 134) rfl ?_
    by_cases hf : (p3 &&& (1 : Int32)) = 0
    ·
      refine s_ifY X0 hx (hb hby at_134) (iy_eq hf) (by decide) (pc' := 141) (by decide) ?_
      refine s_iconst X0 hx (0 : Int32) (hb hby at_141) (pc' := 142) rfl rfl ?_
      refine s_istore X0 hx #[.val (.int p0), .val (.int p1), .val (.long p2), .second, .val (.int p3), .val (.int k), .unset, .unset, .unset, .val (.int (0 : Int32))] (hb hby at_142) (pc' := 144) rfl rfl ?_
      refine s_iload X0 hx (hb hby at_144) (pc' := 146) rfl rfl ?_
      refine s_ifY X0 hx (hb hby at_146) (iy_eq (rfl : (0 : Int32) = 0)) (by decide) (pc' := 155) (by decide) ?_
      refine s_ldcD X0 hx hZ hown (hw _ (List.mem_of_getElem? (i := 8) rfl)) (hb hby at_155) (pc' := 158) rfl ?_
      refine s_dstore X0 hx #[.val (.int p0), .val (.int p1), .val (.long p2), .second, .val (.int p3), .val (.int k), .val (.double 1), .second, .unset, .val (.int (0 : Int32))] (hb hby at_158) (pc' := 160) rfl rfl ?_
      refine s_iload X0 hx (hb hby at_160) (pc' := 162) rfl rfl ?_
      refine s_istore X0 hx #[.val (.int p0), .val (.int p1), .val (.long p2), .second, .val (.int p3), .val (.int k), .val (.double 1), .second, .val (.int (0 : Int32)), .val (.int (0 : Int32))] (hb hby at_162) (pc' := 164) rfl rfl ?_
      refine s_goto X0 hx (hb hby at_164) (by decide) (pc' := 184) (by decide) ?_
      exact tail 1 (0 : Int32) k (.val (.int (0 : Int32))) (own_neg_c (by decide +kernel) (by decide +kernel))
    ·
      refine s_ifN X0 hx (hb hby at_134) (pc' := 137) rfl (in_eq hf) ?_
      refine s_iconst X0 hx (1 : Int32) (hb hby at_137) (pc' := 138) rfl rfl ?_
      refine s_goto X0 hx (hb hby at_138) (by decide) (pc' := 142) (by decide) ?_
      refine s_istore X0 hx #[.val (.int p0), .val (.int p1), .val (.long p2), .second, .val (.int p3), .val (.int k), .unset, .unset, .unset, .val (.int (1 : Int32))] (hb hby at_142) (pc' := 144) rfl rfl ?_
      refine s_iload X0 hx (hb hby at_144) (pc' := 146) rfl rfl ?_
      refine s_ifN X0 hx (hb hby at_146) (pc' := 149) rfl (in_eq (by decide : ¬ (1 : Int32) = 0)) ?_
      refine s_ldcD X0 hx hZ hown (hw _ (List.mem_of_getElem? (i := 9) rfl)) (hb hby at_149) (pc' := 152) rfl ?_
      refine s_goto X0 hx (hb hby at_152) (by decide) (pc' := 158) (by decide) ?_
      refine s_dstore X0 hx #[.val (.int p0), .val (.int p1), .val (.long p2), .second, .val (.int p3), .val (.int k), .val (.double 9223372036854775809), .second, .unset, .val (.int (1 : Int32))] (hb hby at_158) (pc' := 160) rfl rfl ?_
      refine s_iload X0 hx (hb hby at_160) (pc' := 162) rfl rfl ?_
      refine s_istore X0 hx #[.val (.int p0), .val (.int p1), .val (.long p2), .second, .val (.int p3), .val (.int k), .val (.double 9223372036854775809), .second, .val (.int (1 : Int32)), .val (.int (1 : Int32))] (hb hby at_162) (pc' := 164) rfl rfl ?_
      refine s_goto X0 hx (hb hby at_164) (by decide) (pc' := 184) (by decide) ?_
      exact tail 9223372036854775809 (1 : Int32) k (.val (.int (1 : Int32))) (own_neg_c (by decide +kernel) (by decide +kernel))
  refine s_icmpY X0 hx (hb hby at_127) (cy_ne h6') (by decide) (pc' := 167) (by decide) ?_
  refine s_lloadN X0 hx (hb hby at_167) (pc' := 168) rfl rfl ?_
  refine s_l2d X0 hx (hb hby at_168) (pc' := 169) rfl ?_
  refine s_dstore X0 hx #[.val (.int p0), .val (.int p1), .val (.long p2), .second, .val (.int p3), .val (.int k), .val (.double (FP.l2d p2)), .second, .unset, .unset] (hb hby at_169) (pc' := 171) rfl rfl ?_
  refine s_lloadN X0 hx (hb hby at_171) (pc' := 172) rfl rfl ?_
  refine s_lconst X0 hx (0 : Int64) (hb hby at_172) (pc' := 173) rfl rfl ?_
  refine s_lcmp X0 hx (hb hby at_173) (pc' := 174) rfl ?_
  by_cases hm : p2 < 0
  ·
    refine s_ifN X0 hx (hb hby at_174) (pc' := 177) rfl (in_ge (own_cmpL_lt.mpr hm)) ?_
    refine s_iconst X0 hx (1 : Int32) (hb hby at_177) (pc' := 178) rfl rfl ?_
    refine s_goto X0 hx (hb hby at_178) (by decide) (pc' := 182) (by decide) ?_
    refine s_istore X0 hx #[.val (.int p0), .val (.int p1), .val (.long p2), .second, .val (.int p3), .val (.int k), .val (.double (FP.l2d p2)), .second, .val (.int (1 : Int32)), .unset] (hb hby at_182) (pc' := 184) rfl rfl ?_
    exact tail (FP.l2d p2) (1 : Int32) k .unset ((own_neg_l p2).1 hm)
  ·
    refine s_ifY X0 hx (hb hby at_174) (iy_ge (fun q => hm (own_cmpL_lt.mp q))) (by decide) (pc' := 181) (by decide) ?_
    refine s_iconst X0 hx (0 : Int32) (hb hby at_181) (pc' := 182) rfl rfl ?_
    refine s_istore X0 hx #[.val (.int p0), .val (.int p1), .val (.long p2), .second, .val (.int p3), .val (.int k), .val (.double (FP.l2d p2)), .second, .val (.int (0 : Int32)), .unset] (hb hby at_182) (pc' := 184) rfl rfl ?_
    exact tail (FP.l2d p2) (0 : Int32) k .unset ((own_neg_l p2).2 hm)
set_option maxRecDepth 65536 in
set_option maxHeartbeats 40000000 in
theorem comes_1 {Post : Tables → Env → Array Value → State → Outcome → State → Prop} (hpost : ∀ tb e args s v u, (limb_1_1.after args s (.returned v) u = true ∧ limb_1_2.after args s (.returned v) u = true ∧ True) → FrameEnd s (.returned v) u (Jvm.fieldLocs frame_1_writes args s ++ Jvm.arrayLocs frame_1_arrays args s ++ Jvm.staticLocs frame_1_statics s) 0 0 → Post tb e args s (.returned v) u) :
    ArmFor flags0 classFile x code maxLocals ret World_1 tables_1 room_1 Calls_1 rest_1 Pre_1 Post := by
  intro l hfl _ _ p e ha hc hk s m args below hf hA hF happ hP
  obtain ⟨hcalls, hrest, hpre⟩ := hP
  obtain ⟨-, -, -, hnamed, -, -, -, hat⟩ := (Spec.applies_iff hf).mp happ
  obtain ⟨hg, hn⟩ := and_e (Cond.before_iff.mp (show (Jvm.Cond.and given_1 narrow_1).before args s = true from hpre))
  obtain ⟨g0, gr0⟩ := and_e hg
  obtain ⟨g1, gr1⟩ := and_e gr0
  obtain ⟨g2, gr2⟩ := and_e gr1
  obtain ⟨g3, gr3⟩ := and_e gr2
  obtain ⟨w0, w1, w2, w3, rfl⟩ : ∃ w0 w1 w2 w3 : Value, args = #[w0, w1, w2, w3] := by
    have hs : args.size = 4 := by simpa [Cond.value, given_1] using g0
    obtain ⟨L⟩ := args
    match L, hs with
    | [w0, w1, w2, w3], _ => exact ⟨w0, w1, w2, w3, rfl⟩
  have hw := fun d (hd : d ∈ tables_1) => atoms_spec (ws := Jvm.Cond.code x code maxLocals ret :: tables_1) hat d (List.mem_cons_of_mem _ hd)
  have hfit : Fit s := fun {y c} hc i hi => by
    obtain ⟨ha, rfl⟩ := Array.getElem?_eq_some_iff.mp hc
    have q := List.all_eq_true.mp ((Array.all_eq_true_iff_forall_mem.mp hF) _ (Array.getElem_mem ha)) i (List.mem_range.mpr hi)
    simpa [Array.getElem?_eq_getElem hi] using q
  obtain ⟨i0, q0⟩ := is_v g1
  obtain rfl : w0 = (.int i0) := Option.some.inj q0
  obtain ⟨i1, q1⟩ := is_v g2
  obtain rfl : w1 = (.int i1) := Option.some.inj q1
  obtain ⟨i2, q2⟩ := isL_v g3
  obtain rfl : w2 = (.long i2) := Option.some.inj q2
  obtain ⟨i3, q3⟩ := is_v gr3
  obtain rfl : w3 = (.int i3) := Option.some.inj q3
  obtain ⟨n, o, h1, h2, h3, _, L, rfl, ⟨rfl, N⟩, hq⟩ := rm_0 l s _ hw tables_1 i0 i1 i2 i3 s.heap s.heap.size (Nat.le_refl _)  p e ha hc hk s m _ below hf ((Spec.applies_iff_loose hf).mp happ).1 ⟨rfl, State.Warmed39.refl s, rfl⟩ trivial
  refine ⟨n, _, h1, h2, h3, hpost _ _ _ _ _ _ ⟨Cond.after_iff.mpr rfl, Cond.after_iff.mpr (eq_i res_at (Term.int_eval (1)) rfl), trivial⟩ ⟨hq.1, hq.2.1, (hq.2.2.sift fun y hy => Or.inr (N y hy)).mono (by decide) (by decide)⟩⟩
theorem main_1_1 : Claimed_1_1 := comes_1 fun _ _ _ _ _ _ h hF => ⟨h.1, hF⟩
theorem main_1_2 : Claimed_1_2 := comes_1 fun _ _ _ _ _ _ h hF => ⟨h.2.1, hF⟩
end Jvm.Pilot.@@N@@
namespace Jvm.Pilot.@@N@@
open Jvm Jvm.ClassFile Sem Op Lib Jvm.Free Jvm.Stand Jvm.Pilot.@@N@@.Jvm.D
/-! MADE BY PROGRAM (witnessworld.py) out of the Statement's table words and the real class files: 9 classes; the members and pool entries that the words name. The judged class is class 1, her method 1. -/
namespace start1
open Jvm.ClassFile
def u (s : String) : CpInfo := .utf8 (stringToUtf16 s)
/-- a pool by its gaps: so many unusable entries, then the entry; so many at the end -/
def gap : Nat → List CpInfo → List CpInfo
  | 0, r => r
  | n + 1, r => .unusable :: gap n r
def poolList (es : List (Nat × CpInfo)) (last : Nat) : List CpInfo := es.foldr (fun e r => gap e.1 (e.2 :: r)) (gap last [])
def pool (es : List (Nat × CpInfo)) (last : Nat) : Array CpInfo := ⟨poolList es last⟩
def fileOf (pool : Array CpInfo) (this : Nat) (attrs : Array Attribute := #[]) (ms : Array MethodInfo := #[]) (fl : Nat := 33) (sup : Nat := 0) (ifs : Array Nat := #[]) (fds : Array FieldInfo := #[]) : ClassFile where
  minorVersion := 0
  majorVersion := 65
  constantPool := pool
  accessFlags := fl
  thisClass := this
  superClass := sup
  interfaces := ifs
  fields := fds
  methods := ms
  attributes := attrs
def plain (name : String) (sup : Option ClassId) : Class where
  name := name
  kind := .ordinary
  loader := none
  accessFlags := 33
  super := sup
  interfaces := #[]
  cf := none
  fields := #[]
  methods := #[]
  instanceTypes := #[]
  staticTypes := #[]
  resolved := #[]
  callSites := []
  init := .initialized
  statics := none
  mirror := none

def pool0 : Array CpInfo := pool [(5, u "<init>"), (0, u "()V"), (1, .class_ 10), (1, u "java/lang/Object")] 113

def k0m0 : Method := { name := "<init>", desc := "()V", sig := { parameters := [], returnType := none }, accessFlags := 1, code := none }
/-- java/lang/Object -/
def k0 : Class := { plain "java/lang/Object" none with
  accessFlags := 33
  interfaces := #[]
  cf := some (fileOf pool0 8 #[] #[{ accessFlags := 1, nameIndex := 5, descriptorIndex := 6, attributes := #[] }] 33 0 #[] #[])
  fields := #[]
  methods := #[k0m0]
  instanceTypes := #[]
  staticTypes := #[]
  resolved := Array.replicate 124 none
  statics := none }

def pool1 : Array CpInfo := pool [(2, .class_ 4), (1, u "java/lang/Object"), (0, u "<init>"), (0, u "()V"), (0, .double 9223372036854775808), (3, .double 9218868437227405312), (1, .double 18442240474082181120), (1, .double 4652218415073722368), (1, .double 9223372036854775809), (1, .double 1), (1, .methodref 22 23), (0, .class_ 24), (0, .nameAndType 25 26), (0, u "com/example/latchkey/latchkey/core/FloatFormat"), (0, u "isNegative"), (0, u "(D)Z"), (0, .class_ 28), (0, u "com/example/latchkey/latchkey/core/FloatFormatIsNegativePinLaw"), (2, u "law"), (0, u "(IIJI)Z")] 3

def k1m0 : Method := { name := "<init>", desc := "()V", sig := { parameters := [], returnType := none }, accessFlags := 1, code := none }
def k1c1 : Code := { maxStack := 4, maxLocals := 10, code := code, exceptionTable := #[], attributes := #[] }
def k1m1 : Method := { name := "law", desc := "(IIJI)Z", sig := { parameters := [.int, .int, .long, .int], returnType := some .boolean }, accessFlags := 9, code := some k1c1 }
/-- com/example/latchkey/latchkey/core/FloatFormatIsNegativePinLaw -/
def k1 : Class := { plain "com/example/latchkey/latchkey/core/FloatFormatIsNegativePinLaw" (some 0) with
  accessFlags := 49
  interfaces := #[]
  cf := some (fileOf pool1 27 #[] #[{ accessFlags := 1, nameIndex := 5, descriptorIndex := 6, attributes := #[] }, { accessFlags := 9, nameIndex := 31, descriptorIndex := 32, attributes := #[] }] 49 2 #[] #[])
  fields := #[]
  methods := #[k1m0, k1m1]
  instanceTypes := #[]
  staticTypes := #[]
  resolved := Array.replicate 36 none
  statics := none }

def pool2 : Array CpInfo := pool [(2, .class_ 4), (1, u "java/lang/Object"), (0, u "<init>"), (0, u "()V"), (7, .class_ 16), (1, u "com/example/latchkey/latchkey/core/FloatFormat"), (7, u "(D)Z"), (141, u "isNegative")] 19

def k2m0 : Method := { name := "<init>", desc := "()V", sig := { parameters := [], returnType := none }, accessFlags := 2, code := none }
def k2c1 : Code := { maxStack := 4, maxLocals := 2, code := prog_64_method_6_code, exceptionTable := #[], attributes := #[] }
def k2m1 : Method := { name := "isNegative", desc := "(D)Z", sig := { parameters := [.double], returnType := some .boolean }, accessFlags := 9, code := some k2c1 }
/-- com/example/latchkey/latchkey/core/FloatFormat -/
def k2 : Class := { plain "com/example/latchkey/latchkey/core/FloatFormat" (some 0) with
  accessFlags := 49
  interfaces := #[]
  cf := some (fileOf pool2 14 #[] #[{ accessFlags := 2, nameIndex := 5, descriptorIndex := 6, attributes := #[] }, { accessFlags := 9, nameIndex := 166, descriptorIndex := 24, attributes := #[] }] 49 2 #[] #[])
  fields := #[]
  methods := #[k2m0, k2m1]
  instanceTypes := #[]
  staticTypes := #[]
  resolved := Array.replicate 186 none
  statics := none }

def pool3 : Array CpInfo := pool [(1, u "java/lang/Cloneable"), (0, .class_ 1), (0, u "java/lang/Object"), (0, .class_ 3)] 3

/-- java/lang/Cloneable -/
def k3 : Class := { plain "java/lang/Cloneable" (some 0) with
  accessFlags := 1537
  interfaces := #[]
  cf := some (fileOf pool3 2 #[] #[] 1537 4 #[] #[])
  fields := #[]
  methods := #[]
  instanceTypes := #[]
  staticTypes := #[]
  resolved := Array.replicate 8 none
  statics := none }

def pool4 : Array CpInfo := pool [(1, u "java/io/Serializable"), (0, .class_ 1), (0, u "java/lang/Object"), (0, .class_ 3)] 3

/-- java/io/Serializable -/
def k4 : Class := { plain "java/io/Serializable" (some 0) with
  accessFlags := 1537
  interfaces := #[]
  cf := some (fileOf pool4 2 #[] #[] 1537 4 #[] #[])
  fields := #[]
  methods := #[]
  instanceTypes := #[]
  staticTypes := #[]
  resolved := Array.replicate 8 none
  statics := none }

/-- the primitive byte -/
def k5 : Class := { plain "byte" none with kind := .primitive 'B', accessFlags := 0x411 }
/-- [B -/
def k6 : Class := { plain "[B" (some 0) with kind := .array 5 .byte, interfaces := #[3, 4], accessFlags := 1041 }

/-- the primitive int -/
def k7 : Class := { plain "int" none with kind := .primitive 'I', accessFlags := 0x411 }
/-- [I -/
def k8 : Class := { plain "[I" (some 0) with kind := .array 7 .int, interfaces := #[3, 4], accessFlags := 1041 }

def heap : Heap := #[]
def classes : Array Class := #[k0, k1, k2, k3, k4, k5, k6, k7, k8]
def interned : List (Array UInt16 × Addr) := []
def slotsUsed : Nat := 0
def theMethod : MethodId := ⟨1, 1⟩
def args0 : Array Value := #[.int 0, .int 5, .long 7, .int 1]
def aboutOver (below : List Frame) : State where
  vm := { classes := classes, interned := interned.toArray }
  heap := heap
  slotsUsed := slotsUsed
  threads := #[{ frames := .invoking theMethod args0 :: below }]
def below0 : List Frame := [.native { method := ⟨0, 0⟩, args := #[] }]
def about1 : State := aboutOver below0
def p0 : Program := .bare "" "" ""
def e0 : Env := launch0.env 0 0 0
theorem w_frames : about1.frames = Frame.invoking theMethod args0 :: below0 := rfl
set_option maxRecDepth 65536 in
theorem w_args : argsFit about1.vm theMethod args0 = true := by decide +kernel
set_option maxRecDepth 65536 in
theorem w_heap : heapFits about1 = true := by decide +kernel
set_option maxRecDepth 65536 in
theorem w_runnable : about1.curStatus? = some .runnable := by decide +kernel
set_option maxRecDepth 65536 in
theorem w_alone : about1.alone = true := by decide +kernel
set_option maxRecDepth 65536 in
theorem w_named : about1.methodNamed? x = some theMethod := by decide +kernel
set_option maxRecDepth 65536 in
theorem w_hears : about1.hears theMethod below0 = true := by decide +kernel
set_option maxRecDepth 65536 in
theorem w_ripe : about1.ripe theMethod args0 below0 = true := by decide +kernel
theorem w_running : about1.status = .running := rfl
set_option maxRecDepth 65536 in
theorem w_room : about1.hasRoom e0.platform room_1 = true :=
  launch0.hasRoom_least _ room_1 (by decide +kernel) (by decide +kernel) (by decide +kernel) (by decide +kernel) (by decide +kernel) (by decide +kernel)
theorem allAtoms_all (ts : List Jvm.Cond) (a : Array Jvm.Value) (st : Jvm.State) : (allAtoms ts).before a st = ts.all (fun c => c.before a st) := by
  induction ts with
  | nil => rfl
  | cons c t ih =>
    show (Jvm.Cond.and c (allAtoms t)).before a st = _
    rw [Jvm.Cond.before_and, ih, List.all_cons]
def words1 : List Jvm.Cond := Jvm.Cond.code x code maxLocals ret :: tables_1
/-- a 'code' word, met by the world's own term for the bytes: nothing is compared byte by byte -/
theorem code_word {y : MethodName} {bytes : ByteArray} {mx : Nat} {rt : Option FieldType} {a : Array Value} {s : State} {m : MethodId} {meth : Method} {c : Code} (h1 : s.methodNamed? y = some m) (h2 : s.vm.method? m = some meth) (h3 : meth.code = some c) (h4 : c.code = bytes)
    (h5 : (c.maxLocals == mx && c.exceptionTable.isEmpty && decide (c.maxStack ≤ mostOperands) && decide (meth.sig.returnType = rt) && !meth.locks && decide (parseMethodDescriptor y.desc = some meth.sig)) = true) : (Jvm.Cond.code y bytes mx rt).before a s = true := by
  simp only [Bool.and_eq_true, beq_iff_eq, Bool.not_eq_true', decide_eq_true_eq] at h5
  obtain ⟨⟨⟨⟨⟨g1, g2⟩, g3⟩, g4⟩, g5⟩, g6⟩ := h5
  simp [Cond.before, Cond.holds, Cond.value, h1, h2, h3, h4, g1, g2, g3, g4, g5, g6]
def isCode : Jvm.Cond → Bool
  | .code _ _ _ _ => true
  | _ => false
theorem all_split {L : List Jvm.Cond} {P : Jvm.Cond → Bool} (h1 : L.all (fun c => isCode c || P c) = true) (h2 : ∀ c ∈ L.filter isCode, P c = true) : L.all P = true := by
  refine List.all_eq_true.mpr fun c hc => ?_
  have h := List.all_eq_true.mp h1 c hc
  rcases Bool.eq_false_or_eq_true (isCode c) with hi | hi
  · exact h2 c (List.mem_filter.mpr ⟨hc, hi⟩)
  · simpa [hi] using h
set_option maxRecDepth 65536 in
theorem w_c0 : (Jvm.Cond.code x code maxLocals ret).before args0 about1 = true := code_word (m := ⟨1, 1⟩) (meth := k1m1) (c := k1c1) (by decide +kernel) rfl rfl rfl (by decide +kernel)
set_option maxRecDepth 65536 in
theorem w_c1 : (Jvm.Cond.code ({ cls := "com/example/latchkey/latchkey/core/FloatFormat", name := "isNegative", desc := "(D)Z" } : Jvm.MethodName) prog_64_method_6_code (2 : Nat) (Option.some Jvm.ClassFile.FieldType.boolean)).before args0 about1 = true := code_word (m := ⟨2, 1⟩) (meth := k2m1) (c := k2c1) (by decide +kernel) rfl rfl rfl (by decide +kernel)
def codes1 : List Jvm.Cond := [Jvm.Cond.code x code maxLocals ret, Jvm.Cond.code ({ cls := "com/example/latchkey/latchkey/core/FloatFormat", name := "isNegative", desc := "(D)Z" } : Jvm.MethodName) prog_64_method_6_code (2 : Nat) (Option.some Jvm.ClassFile.FieldType.boolean)]
set_option maxRecDepth 65536 in
theorem codes_eq : words1.filter isCode = codes1 := rfl
theorem w_codes : ∀ c ∈ words1.filter isCode, c.before args0 about1 = true := by
  rw [codes_eq]
  intro c hc
  simp only [codes1, List.mem_cons, List.not_mem_nil, or_false] at hc
  rcases hc with rfl | rfl
  · exact w_c0
  · exact w_c1
set_option maxRecDepth 65536 in
theorem w_t1 : words1.all (fun c => isCode c || c.before args0 about1) = true := by decide +kernel
theorem w_tables : (allAtoms (Jvm.Cond.code x code maxLocals ret :: tables_1)).before args0 about1 = true := by
  rw [allAtoms_all]
  show words1.all (fun c => c.before args0 about1) = true
  refine all_split ?_ w_codes
  rw [w_t1]
set_option maxRecDepth 65536 in
theorem w_case : (Jvm.Cond.and given_1 narrow_1).before args0 about1 = true := by decide +kernel
theorem w_applies : (headSpec (Jvm.Cond.code x code maxLocals ret :: tables_1) room_1).applies x e0.platform about1 = true :=
  (Spec.applies_iff w_frames).mpr ⟨w_running, w_runnable, w_alone, w_named, w_hears, w_ripe, w_room, w_tables⟩
theorem atStart : AtStart classFile x code maxLocals ret World_1 tables_1 room_1 Calls_1 rest_1 Pre_1 launch0 p0 e0 about1 theMethod args0 below0 :=
  ⟨lists_1, trivial, launch0.admits_env _ _ _, launch0.least_env, fairChoices_fair.cas, fairChoices_fair.clock, w_frames, w_args, w_heap, w_applies, trivial, trivial, w_case⟩
end start1
theorem witness_1 : WitnessClaimed_1 := ⟨start1.p0, start1.e0, start1.about1, start1.theMethod, start1.args0, start1.below0, start1.atStart⟩
end Jvm.Pilot.@@N@@
