import JvmDerived
import JvmDerived.Pilot.@@N@@Statement
import JvmDerived.Pilot.@@N@@Code
set_option linter.unusedVariables false
set_option linter.unusedSimpArgs false
namespace Jvm.Pilot.@@N@@
open Jvm Jvm.ClassFile Sem Op Lib Jvm.Free Jvm.Stand Jvm.LawKit Jvm.RoadKit Bundle Jvm.Pilot.@@N@@.Jvm.D Jvm.Free.Fl
section Own
variable {p : Program} {l : Launch} {e : Env} {R : Room} {s : State} {m : MethodId} {args : Array Value} {below : List Frame} {meth : Method} {c : Code} {T : State} {locs : List Loc} {cells slots : Nat} {Z : State} {a0 : Array Value} {h : Heap} {G : Outcome → State → Prop}
/-- from S the body comes to its end, and the end is as asked -/
def Goes (p : Program) (e : Env) (below : List Frame) (G : Outcome → State → Prop) (S : State) : Prop :=
  ∃ s₂ o, Steps p.tables e below S s₂ ∧ s₂.status = .running ∧ Ended s₂ below o ∧ G o s₂
theorem own_go {S S' : State} (st : ∀ t, Steps p.tables e below S' t → Steps p.tables e below S t) (k : Goes p e below G S') : Goes p e below G S := by
  obtain ⟨s₂, o, h1, h2⟩ := k
  exact ⟨s₂, o, st _ h1, h2⟩
/-- what a contract says of the end -/
def EndsAs (Q : Option Value → Heap → List Loc → Prop) (s : State) (rc rs : Nat) (o : Outcome) (U : State) : Prop :=
  ∃ v L, o = .returned v ∧ Q v U.heap L ∧ FrameEnd s o U L rc rs
abbrev OwnMet (l : Launch) (Z : State) (y : MethodName) (bytes : ByteArray) (maxL : Nat) (ret : Option FieldType) (ws : List Jvm.Cond) (rm : Room) (as' : Array Value) (h : Heap) (Q : Option Value → Heap → List Loc → Prop) : Prop :=
  MetFree l y (head1 (Jvm.Cond.code y bytes maxL ret :: ws) rm) (fun a U => a = as' ∧ Z.Warmed39 U.vm ∧ U.heap = h) (fun _ _ _ _ _ => True) (fun _ U o U' => ∃ v L, o = .returned v ∧ Q v U'.heap L ∧ FrameEnd U o U' L rm.cells rm.slots)
theorem own_met {y : MethodName} {bytes : ByteArray} {maxL : Nat} {ret : Option FieldType} {ws : List Jvm.Cond} {rm : Room} {as' : Array Value} {h : Heap} {Q : Option Value → Heap → List Loc → Prop} {Ls : Array Slot}
    (hpn : plainFor y = true) (hef : ∀ m, entryFrame m as' maxL = mkF m 0 Ls [])
    (body : ∀ (p : Program) (e : Env) (s : State) (m : MethodId) (below : List Frame) (meth : Method) (c : Code) (s₁ : State), p.tables.exec = Jvm.exec → c.code = bytes → c.maxLocals = maxL → Z.Warmed39 s.vm → s.vm.findClass y.cls = some m.cls → meth.name = y.name → meth.sig.returnType = ret → meth.locks = false →
      Stand p l e rm s m as' below meth c s₁ [] 0 0 → s₁.heap = h → Goes p e below (EndsAs Q s rm.cells rm.slots) (s₁.setTop (mkF m 0 Ls []))) :
    OwnMet l Z y bytes maxL ret ws rm as' h Q := by
  refine MetFree.of_bodySF hpn hisR ?_
  intro p e s m args below meth c s₁ Bd hml0 hP hK
  obtain ⟨rfl, hZ, hh⟩ := hP
  obtain ⟨s₂, o, h1, h2, h3, h4⟩ := body p e s m below meth c s₁ Bd.exec Bd.bytes hml0 hZ (findClass_of_methodNamed Bd.named) (name_of_methodNamed Bd.named Bd.method).1 Bd.returns Bd.notSynchronized (Stand.of_body Bd) (by rw [← hh, Bd.state]; rfl)
  exact ⟨s₂, o, castTop (hef m) h1, h2, h3, h4⟩
theorem s_retI (X : Stand p l e R s m args below meth c T locs cells slots) (hx : p.tables.exec = Jvm.exec) (hlk : meth.locks = false) {Q : Option Value → Heap → List Loc → Prop} {pc rc rs : Nat} {Ls : Array Slot} {st : List Value} {t : FieldType} {w : Value} {i : Instr} (hret : meth.sig.returnType = some t)
    (hd : decode c.code pc = .ok (i, 1)) (hn : narrow t w = w) (hi : (i = .ireturn ∧ (t = .int ∨ t = .boolean ∨ t = .byte ∨ t = .char ∨ t = .short) ∧ ∃ z, w = .int z) ∨ (i = .lreturn ∧ t = .long ∧ ∃ z, w = .long z) ∨ (i = .dreturn ∧ t = .double ∧ ∃ z, w = .double z) ∨ (i = .freturn ∧ t = .float ∧ ∃ z, w = .float z) ∨ (i = .areturn ∧ t.isReference = true ∧ w.isRef = true))
    (hc : cells ≤ rc) (hs : slots ≤ rs) (hq : Q (some w) T.heap locs) : Goes p e below (EndsAs Q s rc rs) (T.setTop (mkF m pc Ls (w :: st))) := by
  obtain ⟨fs, hr, hrun, hended, hW, hsame⟩ := X.leave (v := some w) (fun h => by rw [hret] at h; cases h) hlk
  exact ⟨_, _, retOut X hx hret hn hi hd hr, hrun, hended, _, _, rfl, hq, ⟨_, rfl⟩, hW, hsame.mono hc hs⟩
theorem s_ret (X : Stand p l e R s m args below meth c T locs cells slots) (hx : p.tables.exec = Jvm.exec) (hlk : meth.locks = false) {Q : Option Value → Heap → List Loc → Prop} {pc rc rs : Nat} {Ls : Array Slot} (hret : meth.sig.returnType = none)
    (hd : decode c.code pc = .ok (.return_, 1)) (hc : cells ≤ rc) (hs : slots ≤ rs) (hq : Q none T.heap locs) : Goes p e below (EndsAs Q s rc rs) (T.setTop (mkF m pc Ls [])) := by
  obtain ⟨fs, hr, hrun, hended, hW, hsame⟩ := X.leave (v := none) (fun _ => rfl) hlk
  exact ⟨_, _, X.returnOut hx hret hd hr, hrun, hended, _, _, rfl, hq, ⟨_, rfl⟩, hW, hsame.mono hc hs⟩
theorem c_static (X : Stand p l e R s m args below meth c T locs cells slots) (hx : p.tables.exec = Jvm.exec) (hZ : Z.Warmed39 s.vm) {own : String} {index : Nat} {y : MethodName} (hown : s.vm.findClass own = some m.cls)
    {bytes : ByteArray} {maxL : Nat} {ret : Option FieldType} (w1 : (Jvm.Cond.methodLink own index y).before a0 Z = true) (w2 : (Jvm.Cond.static y).before a0 Z = true) (w3 : (Jvm.Cond.initialized y.cls).before a0 Z = true) (w4 : (Jvm.Cond.code y bytes maxL ret).before a0 Z = true) (hy : y.cls ≠ "java/lang/invoke/MethodHandle" ∧ y.cls ≠ "java/lang/invoke/VarHandle")
    {rm : Room} {as' : Array Value} {Q : Option Value → Heap → List Loc → Prop} (eT : T.heap = h) (hM : OwnMet l Z y bytes maxL ret [] rm as' h Q) {W : Nat} (hf : rm.frames + 1 ≤ R.frames) (hl : W + (maxL + 11) + rm.locals ≤ R.locals) (hc : cells + rm.cells ≤ R.cells) (hs : slots + rm.slots ≤ R.slots)
    {pc pc' : Nat} {Ls : Array Slot} {st : List Value} (hsize : Ls.size = c.maxLocals) {argsL rest : List Value} (hlen : ∀ sig, parseMethodDescriptor y.desc = some sig → argsL.length = sig.parameters.length) (has : argsL.toArray = as') (hst : st = argsL.reverse ++ rest) (hW : (rest.map fun v => v.category).sum ≤ W)
    (hd : decode c.code pc = .ok (.invokestatic index, 3)) (hp : pc + 3 = pc')
    (k : ∀ (T' : State) (v : Option Value) (L : List Loc), Stand p l e R s m args below meth c T' (locs ++ L) (cells + rm.cells) (slots + rm.slots) → Q v T'.heap L → Goes p e below G (T'.setTop (mkF m pc' Ls (v.toList ++ rest)))) :
    Goes p e below G (T.setTop (mkF m pc Ls st)) := by
  subst hp
  obtain ⟨v, _, ⟨T', L', k', n'⟩, -, X', ⟨Lc, hQ, l1, y1, z1⟩, stp⟩ := Jvm.LawKit.callS X hx (y := y) hown (mvT hZ w1) (mvT hZ w2) (mvT hZ w3) (mvT hZ w4) hy (backOf (W := W) hM hZ w4 w3 hf hl) (g := mkF m pc Ls st) rfl hsize (argsL := argsL) (rest := rest) hlen hst (by show 2 * 0 + _ ≤ _; omega) hd (fun _ _ => ⟨has, eT, hc, hs⟩)
  dsimp only [Pt.U, Pt.locs, Pt.cells, Pt.slots] at X' l1 y1 z1 stp hQ
  subst l1 y1 z1
  exact own_go stp (k T' v Lc X' hQ)
theorem c_special (X : Stand p l e R s m args below meth c T locs cells slots) (hx : p.tables.exec = Jvm.exec) (hZ : Z.Warmed39 s.vm) {own : String} {index : Nat} {y : MethodName} (hy1 : y.name = "<init>") (hown : s.vm.findClass own = some m.cls)
    {bytes : ByteArray} {maxL : Nat} (w1 : (Jvm.Cond.methodLink own index y).before a0 Z = true) (w2 : (Jvm.Cond.instanceMethod y).before a0 Z = true) (w3 : (Jvm.Cond.initialized y.cls).before a0 Z = true) (w4 : (Jvm.Cond.code y bytes maxL none).before a0 Z = true) (hy : y.cls ≠ "java/lang/invoke/MethodHandle" ∧ y.cls ≠ "java/lang/invoke/VarHandle")
    {rm : Room} {as' : Array Value} {Q : Option Value → Heap → List Loc → Prop} (eT : T.heap = h) (hM : OwnMet l Z y bytes maxL none [] rm as' h Q) {W : Nat} (hf : rm.frames + 1 ≤ R.frames) (hl : W + (maxL + 11) + rm.locals ≤ R.locals) (hc : cells + rm.cells ≤ R.cells) (hs : slots + rm.slots ≤ R.slots)
    {pc pc' : Nat} {Ls : Array Slot} {st : List Value} (hsize : Ls.size = c.maxLocals) {a : Addr} {argsL rest : List Value} (hlen : ∀ sig, parseMethodDescriptor y.desc = some sig → argsL.length = sig.parameters.length) (has : (.ref a :: argsL).toArray = as') (hst : st = argsL.reverse ++ .ref a :: rest) (hW : (rest.map fun v => v.category).sum ≤ W)
    (hd : decode c.code pc = .ok (.invokespecial index, 3)) (hp : pc + 3 = pc')
    (k : ∀ (T' : State) (v : Option Value) (L : List Loc), Stand p l e R s m args below meth c T' (locs ++ L) (cells + rm.cells) (slots + rm.slots) → Q v T'.heap L → Goes p e below G (T'.setTop (mkF m pc' Ls (v.toList ++ rest)))) :
    Goes p e below G (T.setTop (mkF m pc Ls st)) := by
  subst hp
  obtain ⟨v, _, ⟨T', L', k', n'⟩, -, X', ⟨Lc, hQ, l1, y1, z1⟩, stp⟩ := X.specialBack hx (y := y) hy1 hown (mvT hZ w1) (mvT hZ w2) (mvT hZ w4) hy (backOf (W := W) hM hZ w4 w3 hf hl) (g := mkF m pc Ls st) rfl hsize (Steps.refl _) (a := a) (argsL := argsL) (rest := rest) hlen hst (by show 2 * 0 + _ ≤ _; omega) hd (fun _ _ => ⟨has, eT, hc, hs⟩)
  dsimp only [Pt.U, Pt.locs, Pt.cells, Pt.slots] at X' l1 y1 z1 stp hQ
  subst l1 y1 z1
  exact own_go (fun _ q => stp.trans q) (k T' v Lc X' hQ)
theorem c_virtual (X : Stand p l e R s m args below meth c T locs cells slots) (hx : p.tables.exec = Jvm.exec) (hZ : Z.Warmed39 s.vm) {own C : String} {index : Nat} {y : MethodName} (hown : s.vm.findClass own = some m.cls)
    {bytes : ByteArray} {maxL : Nat} {ret : Option FieldType} (w1 : (Jvm.Cond.methodLink own index y).before a0 Z = true) (w2 : (Jvm.Cond.declares y).before a0 Z = true) (w5 : (Jvm.Cond.selects C y y).before a0 Z = true) (w6 : (Jvm.Cond.instanceMethod y).before a0 Z = true) (w3 : (Jvm.Cond.initialized y.cls).before a0 Z = true) (w4 : (Jvm.Cond.code y bytes maxL ret).before a0 Z = true) (hy : y.cls ≠ "java/lang/invoke/MethodHandle" ∧ y.cls ≠ "java/lang/invoke/VarHandle")
    {rm : Room} {as' : Array Value} {Q : Option Value → Heap → List Loc → Prop} (eT : T.heap = h) {a : Addr} (E : Exa Z h a C) (hM : OwnMet l Z y bytes maxL ret [] rm as' h Q) {W : Nat} (hf : rm.frames + 1 ≤ R.frames) (hl : W + (maxL + 11) + rm.locals ≤ R.locals) (hc : cells + rm.cells ≤ R.cells) (hs : slots + rm.slots ≤ R.slots)
    {pc pc' : Nat} {Ls : Array Slot} {st : List Value} (hsize : Ls.size = c.maxLocals) {argsL rest : List Value} (hlen : ∀ sig, parseMethodDescriptor y.desc = some sig → argsL.length = sig.parameters.length) (has : (.ref a :: argsL).toArray = as') (hst : st = argsL.reverse ++ .ref a :: rest) (hW : (rest.map fun v => v.category).sum ≤ W)
    (hd : decode c.code pc = .ok (.invokevirtual index, 3)) (hp : pc + 3 = pc')
    (k : ∀ (T' : State) (v : Option Value) (L : List Loc), Stand p l e R s m args below meth c T' (locs ++ L) (cells + rm.cells) (slots + rm.slots) → Q v T'.heap L → Goes p e below G (T'.setTop (mkF m pc' Ls (v.toList ++ rest)))) :
    Goes p e below G (T.setTop (mkF m pc Ls st)) := by
  subst hp
  obtain ⟨cq, kq, qa, qb, qc⟩ := isOf hZ eT E
  obtain ⟨v, _, ⟨T', L', k', n'⟩, -, X', ⟨Lc, hQ, l1, y1, z1⟩, stp⟩ := X.virtualBack hx (y := y) (z := y) hown (mvT hZ w1) (mvT hZ w2) (notFace_of_selects (args := #[]) (mvT hZ w5)) (mvT hZ w5) (mvT hZ w6) hy (backOf (W := W) hM hZ w4 w3 hf hl) qa qc (g := mkF m pc Ls st) rfl hsize (Steps.refl _) (argsL := argsL) (rest := rest) hlen hst (by show 2 * 0 + _ ≤ _; omega) hd (fun _ _ => ⟨has, eT, hc, hs⟩)
  dsimp only [Pt.U, Pt.locs, Pt.cells, Pt.slots] at X' l1 y1 z1 stp hQ
  subst l1 y1 z1
  exact own_go (fun _ q => stp.trans q) (k T' v Lc X' hQ)
theorem s_iload (X : Stand p l e R s m args below meth c T locs cells slots) (hx : p.tables.exec = Jvm.exec) {pc pc' : Nat} {Ls : Array Slot} {st : List Value} {j : Nat} {v : Int32} (hd : decode c.code pc = .ok (.iload j, 2)) (hp : pc + 2 = pc') (hl : Ls[j]? = some (.val (.int v)))
    (k : Goes p e below G (T.setTop (mkF m pc' Ls (.int v :: st)))) : Goes p e below G (T.setTop (mkF m pc Ls (st))) := by
  subst hp
  exact own_go (fun _ k => XS.iload X.here hx rfl hd hl k) k
theorem s_iloadN (X : Stand p l e R s m args below meth c T locs cells slots) (hx : p.tables.exec = Jvm.exec) {pc pc' : Nat} {Ls : Array Slot} {st : List Value} {j : Fin 4} {v : Int32} (hd : decode c.code pc = .ok (.iload_n j, 1)) (hp : pc + 1 = pc') (hl : Ls[j.val]? = some (.val (.int v)))
    (k : Goes p e below G (T.setTop (mkF m pc' Ls (.int v :: st)))) : Goes p e below G (T.setTop (mkF m pc Ls (st))) := by
  subst hp
  exact own_go (fun _ k => XS.iloadN X.here hx rfl hd hl k) k
theorem s_istore (X : Stand p l e R s m args below meth c T locs cells slots) (hx : p.tables.exec = Jvm.exec) {pc pc' : Nat} {Ls : Array Slot} {st : List Value} {j : Nat} {v : Int32} (l' : Array Slot) (hd : decode c.code pc = .ok (.istore j, 2)) (hp : pc + 2 = pc') (hl : storeLocals Ls j (.int v) = some l')
    (k : Goes p e below G (T.setTop (mkF m pc' l' (st)))) : Goes p e below G (T.setTop (mkF m pc Ls (.int v :: st))) := by
  subst hp
  exact own_go (fun _ k => XS.istore X.here hx rfl hd rfl hl k) k
theorem s_istoreN (X : Stand p l e R s m args below meth c T locs cells slots) (hx : p.tables.exec = Jvm.exec) {pc pc' : Nat} {Ls : Array Slot} {st : List Value} {j : Fin 4} {v : Int32} (l' : Array Slot) (hd : decode c.code pc = .ok (.istore_n j, 1)) (hp : pc + 1 = pc') (hl : storeLocals Ls j.val (.int v) = some l')
    (k : Goes p e below G (T.setTop (mkF m pc' l' (st)))) : Goes p e below G (T.setTop (mkF m pc Ls (.int v :: st))) := by
  subst hp
  exact own_go (fun _ k => XS.istoreN X.here hx rfl hd rfl hl k) k
theorem s_lload (X : Stand p l e R s m args below meth c T locs cells slots) (hx : p.tables.exec = Jvm.exec) {pc pc' : Nat} {Ls : Array Slot} {st : List Value} {j : Nat} {v : Int64} (hd : decode c.code pc = .ok (.lload j, 2)) (hp : pc + 2 = pc') (hl : Ls[j]? = some (.val (.long v)))
    (k : Goes p e below G (T.setTop (mkF m pc' Ls (.long v :: st)))) : Goes p e below G (T.setTop (mkF m pc Ls (st))) := by
  subst hp
  exact own_go (fun _ k => XT.lload X.here hx rfl hd hl k) k
theorem s_lloadN (X : Stand p l e R s m args below meth c T locs cells slots) (hx : p.tables.exec = Jvm.exec) {pc pc' : Nat} {Ls : Array Slot} {st : List Value} {j : Fin 4} {v : Int64} (hd : decode c.code pc = .ok (.lload_n j, 1)) (hp : pc + 1 = pc') (hl : Ls[j.val]? = some (.val (.long v)))
    (k : Goes p e below G (T.setTop (mkF m pc' Ls (.long v :: st)))) : Goes p e below G (T.setTop (mkF m pc Ls (st))) := by
  subst hp
  exact own_go (fun _ k => XT.lloadN X.here hx rfl hd hl k) k
theorem s_lstore (X : Stand p l e R s m args below meth c T locs cells slots) (hx : p.tables.exec = Jvm.exec) {pc pc' : Nat} {Ls : Array Slot} {st : List Value} {j : Nat} {v : Int64} (l' : Array Slot) (hd : decode c.code pc = .ok (.lstore j, 2)) (hp : pc + 2 = pc') (hl : storeLocals Ls j (.long v) = some l')
    (k : Goes p e below G (T.setTop (mkF m pc' l' (st)))) : Goes p e below G (T.setTop (mkF m pc Ls (.long v :: st))) := by
  subst hp
  exact own_go (fun _ k => XT.lstore X.here hx rfl hd rfl hl k) k
theorem s_lstoreN (X : Stand p l e R s m args below meth c T locs cells slots) (hx : p.tables.exec = Jvm.exec) {pc pc' : Nat} {Ls : Array Slot} {st : List Value} {j : Fin 4} {v : Int64} (l' : Array Slot) (hd : decode c.code pc = .ok (.lstore_n j, 1)) (hp : pc + 1 = pc') (hl : storeLocals Ls j.val (.long v) = some l')
    (k : Goes p e below G (T.setTop (mkF m pc' l' (st)))) : Goes p e below G (T.setTop (mkF m pc Ls (.long v :: st))) := by
  subst hp
  exact own_go (fun _ k => XT.lstoreN X.here hx rfl hd rfl hl k) k
theorem s_dload (X : Stand p l e R s m args below meth c T locs cells slots) (hx : p.tables.exec = Jvm.exec) {pc pc' : Nat} {Ls : Array Slot} {st : List Value} {j : Nat} {v : UInt64} (hd : decode c.code pc = .ok (.dload j, 2)) (hp : pc + 2 = pc') (hl : Ls[j]? = some (.val (.double v)))
    (k : Goes p e below G (T.setTop (mkF m pc' Ls (.double v :: st)))) : Goes p e below G (T.setTop (mkF m pc Ls (st))) := by
  subst hp
  exact own_go (fun _ k => XS.dload X.here hx rfl hd hl k) k
theorem s_dloadN (X : Stand p l e R s m args below meth c T locs cells slots) (hx : p.tables.exec = Jvm.exec) {pc pc' : Nat} {Ls : Array Slot} {st : List Value} {j : Fin 4} {v : UInt64} (hd : decode c.code pc = .ok (.dload_n j, 1)) (hp : pc + 1 = pc') (hl : Ls[j.val]? = some (.val (.double v)))
    (k : Goes p e below G (T.setTop (mkF m pc' Ls (.double v :: st)))) : Goes p e below G (T.setTop (mkF m pc Ls (st))) := by
  subst hp
  exact own_go (fun _ k => XS.dloadN X.here hx rfl hd hl k) k
theorem s_dstore (X : Stand p l e R s m args below meth c T locs cells slots) (hx : p.tables.exec = Jvm.exec) {pc pc' : Nat} {Ls : Array Slot} {st : List Value} {j : Nat} {v : UInt64} (l' : Array Slot) (hd : decode c.code pc = .ok (.dstore j, 2)) (hp : pc + 2 = pc') (hl : storeLocals Ls j (.double v) = some l')
    (k : Goes p e below G (T.setTop (mkF m pc' l' (st)))) : Goes p e below G (T.setTop (mkF m pc Ls (.double v :: st))) := by
  subst hp
  exact own_go (fun _ k => XS.dstore X.here hx rfl hd rfl hl k) k
theorem s_dstoreN (X : Stand p l e R s m args below meth c T locs cells slots) (hx : p.tables.exec = Jvm.exec) {pc pc' : Nat} {Ls : Array Slot} {st : List Value} {j : Fin 4} {v : UInt64} (l' : Array Slot) (hd : decode c.code pc = .ok (.dstore_n j, 1)) (hp : pc + 1 = pc') (hl : storeLocals Ls j.val (.double v) = some l')
    (k : Goes p e below G (T.setTop (mkF m pc' l' (st)))) : Goes p e below G (T.setTop (mkF m pc Ls (.double v :: st))) := by
  subst hp
  exact own_go (fun _ k => XS.dstoreN X.here hx rfl hd rfl hl k) k
theorem s_aload (X : Stand p l e R s m args below meth c T locs cells slots) (hx : p.tables.exec = Jvm.exec) {pc pc' : Nat} {Ls : Array Slot} {st : List Value} {j : Nat} {v : Value} (hd : decode c.code pc = .ok (.aload j, 2)) (hp : pc + 2 = pc') (hl : Ls[j]? = some (.val v)) (hv : v.isRef = true)
    (k : Goes p e below G (T.setTop (mkF m pc' Ls (v :: st)))) : Goes p e below G (T.setTop (mkF m pc Ls (st))) := by
  subst hp
  exact own_go (fun _ k => XS.aload X.here hx rfl hd hl hv k) k
theorem s_aloadN (X : Stand p l e R s m args below meth c T locs cells slots) (hx : p.tables.exec = Jvm.exec) {pc pc' : Nat} {Ls : Array Slot} {st : List Value} {j : Fin 4} {v : Value} (hd : decode c.code pc = .ok (.aload_n j, 1)) (hp : pc + 1 = pc') (hl : Ls[j.val]? = some (.val v)) (hv : v.isRef = true)
    (k : Goes p e below G (T.setTop (mkF m pc' Ls (v :: st)))) : Goes p e below G (T.setTop (mkF m pc Ls (st))) := by
  subst hp
  exact own_go (fun _ k => XS.aloadN X.here hx rfl hd hl hv k) k
theorem s_astore (X : Stand p l e R s m args below meth c T locs cells slots) (hx : p.tables.exec = Jvm.exec) {pc pc' : Nat} {Ls : Array Slot} {st : List Value} {j : Nat} {v : Value} (l' : Array Slot) (hd : decode c.code pc = .ok (.astore j, 2)) (hp : pc + 2 = pc') (hv : v.isRef = true) (hl : storeLocals Ls j v = some l')
    (k : Goes p e below G (T.setTop (mkF m pc' l' (st)))) : Goes p e below G (T.setTop (mkF m pc Ls (v :: st))) := by
  subst hp
  exact own_go (fun _ k => XS.astore X.here hx rfl hd rfl hv hl k) k
theorem s_astoreN (X : Stand p l e R s m args below meth c T locs cells slots) (hx : p.tables.exec = Jvm.exec) {pc pc' : Nat} {Ls : Array Slot} {st : List Value} {j : Fin 4} {v : Value} (l' : Array Slot) (hd : decode c.code pc = .ok (.astore_n j, 1)) (hp : pc + 1 = pc') (hv : v.isRef = true) (hl : storeLocals Ls j.val v = some l')
    (k : Goes p e below G (T.setTop (mkF m pc' l' (st)))) : Goes p e below G (T.setTop (mkF m pc Ls (v :: st))) := by
  subst hp
  exact own_go (fun _ k => XS.astoreN X.here hx rfl hd rfl hv hl k) k
theorem s_iconst (X : Stand p l e R s m args below meth c T locs cells slots) (hx : p.tables.exec = Jvm.exec) {pc pc' : Nat} {Ls : Array Slot} {st : List Value} {i : Int} (v : Int32) (hd : decode c.code pc = .ok (.iconst i, 1)) (hp : pc + 1 = pc') (hv : Int32.ofInt i = v)
    (k : Goes p e below G (T.setTop (mkF m pc' Ls (.int v :: st)))) : Goes p e below G (T.setTop (mkF m pc Ls (st))) := by
  subst hp
  exact own_go (fun _ k => XS.iconst X.here hx rfl hd (by rw [hv]; exact k)) k
theorem s_bipush (X : Stand p l e R s m args below meth c T locs cells slots) (hx : p.tables.exec = Jvm.exec) {pc pc' : Nat} {Ls : Array Slot} {st : List Value} {i : Int} (v : Int32) (hd : decode c.code pc = .ok (.bipush i, 2)) (hp : pc + 2 = pc') (hv : (Int8.ofInt i).toInt32 = v)
    (k : Goes p e below G (T.setTop (mkF m pc' Ls (.int v :: st)))) : Goes p e below G (T.setTop (mkF m pc Ls (st))) := by
  subst hp
  exact own_go (fun _ k => XS.bipush X.here hx rfl hd (by rw [hv]; exact k)) k
theorem s_sipush (X : Stand p l e R s m args below meth c T locs cells slots) (hx : p.tables.exec = Jvm.exec) {pc pc' : Nat} {Ls : Array Slot} {st : List Value} {i : Int} (v : Int32) (hd : decode c.code pc = .ok (.sipush i, 3)) (hp : pc + 3 = pc') (hv : (Int16.ofInt i).toInt32 = v)
    (k : Goes p e below G (T.setTop (mkF m pc' Ls (.int v :: st)))) : Goes p e below G (T.setTop (mkF m pc Ls (st))) := by
  subst hp
  exact own_go (fun _ k => XS.sipush X.here hx rfl hd (by rw [hv]; exact k)) k
theorem s_lconst (X : Stand p l e R s m args below meth c T locs cells slots) (hx : p.tables.exec = Jvm.exec) {pc pc' : Nat} {Ls : Array Slot} {st : List Value} {i : Fin 2} (v : Int64) (hd : decode c.code pc = .ok (.lconst i, 1)) (hp : pc + 1 = pc') (hv : Int64.ofNat i = v)
    (k : Goes p e below G (T.setTop (mkF m pc' Ls (.long v :: st)))) : Goes p e below G (T.setTop (mkF m pc Ls (st))) := by
  subst hp
  exact own_go (fun _ k => XT.lconst X.here hx rfl hd (by rw [hv]; exact k)) k
theorem s_dconst0 (X : Stand p l e R s m args below meth c T locs cells slots) (hx : p.tables.exec = Jvm.exec) {pc pc' : Nat} {Ls : Array Slot} {st : List Value}  (hd : decode c.code pc = .ok (.dconst 0, 1)) (hp : pc + 1 = pc') 
    (k : Goes p e below G (T.setTop (mkF m pc' Ls (.double 0 :: st)))) : Goes p e below G (T.setTop (mkF m pc Ls (st))) := by
  subst hp
  exact own_go (fun _ k => XS.dconst0 X.here hx rfl hd rfl k) k
theorem s_dconst1 (X : Stand p l e R s m args below meth c T locs cells slots) (hx : p.tables.exec = Jvm.exec) {pc pc' : Nat} {Ls : Array Slot} {st : List Value}  (hd : decode c.code pc = .ok (.dconst 1, 1)) (hp : pc + 1 = pc') 
    (k : Goes p e below G (T.setTop (mkF m pc' Ls (.double 4607182418800017408 :: st)))) : Goes p e below G (T.setTop (mkF m pc Ls (st))) := by
  subst hp
  exact own_go (fun _ k => XS.dconst1 X.here hx rfl hd rfl k) k
theorem s_aconstNull (X : Stand p l e R s m args below meth c T locs cells slots) (hx : p.tables.exec = Jvm.exec) {pc pc' : Nat} {Ls : Array Slot} {st : List Value}  (hd : decode c.code pc = .ok (.aconst_null, 1)) (hp : pc + 1 = pc') 
    (k : Goes p e below G (T.setTop (mkF m pc' Ls (.null :: st)))) : Goes p e below G (T.setTop (mkF m pc Ls (st))) := by
  subst hp
  exact own_go (fun _ k => XS.aconstNull X.here hx rfl hd k) k
theorem s_ldcI (X : Stand p l e R s m args below meth c T locs cells slots) (hx : p.tables.exec = Jvm.exec) {pc pc' : Nat} {Ls : Array Slot} {st : List Value} (hZ : Z.Warmed39 s.vm) {own : String} {j : Nat} {v : Int32} (hown : s.vm.findClass own = some m.cls) (w : (Jvm.Cond.constant own j v).before a0 Z = true) (hd : decode c.code pc = .ok (.ldc j, 2)) (hp : pc + 2 = pc') 
    (k : Goes p e below G (T.setTop (mkF m pc' Ls (.int v :: st)))) : Goes p e below G (T.setTop (mkF m pc Ls (st))) := by
  subst hp
  exact own_go (fun _ k => X.ldcInt hx hown (mvT hZ w) (g := mkF m pc Ls st) rfl hd _ k) k
theorem s_ldcJ (X : Stand p l e R s m args below meth c T locs cells slots) (hx : p.tables.exec = Jvm.exec) {pc pc' : Nat} {Ls : Array Slot} {st : List Value} (hZ : Z.Warmed39 s.vm) {own : String} {j : Nat} {v : Int64} (hown : s.vm.findClass own = some m.cls) (w : (Jvm.Cond.constantLong own j v).before a0 Z = true) (hd : decode c.code pc = .ok (.ldc2_w j, 3)) (hp : pc + 3 = pc') 
    (k : Goes p e below G (T.setTop (mkF m pc' Ls (.long v :: st)))) : Goes p e below G (T.setTop (mkF m pc Ls (st))) := by
  subst hp
  exact own_go (fun _ k => X.ldc2Long hx hown (mvT hZ w) (g := mkF m pc Ls st) rfl hd _ k) k
theorem s_ldcD (X : Stand p l e R s m args below meth c T locs cells slots) (hx : p.tables.exec = Jvm.exec) {pc pc' : Nat} {Ls : Array Slot} {st : List Value} (hZ : Z.Warmed39 s.vm) {own : String} {j : Nat} {v : UInt64} (hown : s.vm.findClass own = some m.cls) (w : (Jvm.Cond.constantDouble own j v).before a0 Z = true) (hd : decode c.code pc = .ok (.ldc2_w j, 3)) (hp : pc + 3 = pc') 
    (k : Goes p e below G (T.setTop (mkF m pc' Ls (.double v :: st)))) : Goes p e below G (T.setTop (mkF m pc Ls (st))) := by
  subst hp
  exact own_go (fun _ k => X.ldc2DoubleC hx hown (mvT hZ w) (g := mkF m pc Ls st) rfl hd _ k) k
theorem s_iadd (X : Stand p l e R s m args below meth c T locs cells slots) (hx : p.tables.exec = Jvm.exec) {pc pc' : Nat} {Ls : Array Slot} {st : List Value} {x y : Int32} (hd : decode c.code pc = .ok (.iadd, 1)) (hp : pc + 1 = pc') 
    (k : Goes p e below G (T.setTop (mkF m pc' Ls (.int (x + y) :: st)))) : Goes p e below G (T.setTop (mkF m pc Ls (.int y :: .int x :: st))) := by
  subst hp
  exact own_go (fun _ k => XS.iadd X.here hx rfl hd rfl k) k
theorem s_isub (X : Stand p l e R s m args below meth c T locs cells slots) (hx : p.tables.exec = Jvm.exec) {pc pc' : Nat} {Ls : Array Slot} {st : List Value} {x y : Int32} (hd : decode c.code pc = .ok (.isub, 1)) (hp : pc + 1 = pc') 
    (k : Goes p e below G (T.setTop (mkF m pc' Ls (.int (x - y) :: st)))) : Goes p e below G (T.setTop (mkF m pc Ls (.int y :: .int x :: st))) := by
  subst hp
  exact own_go (fun _ k => XS.isub X.here hx rfl hd rfl k) k
theorem s_imul (X : Stand p l e R s m args below meth c T locs cells slots) (hx : p.tables.exec = Jvm.exec) {pc pc' : Nat} {Ls : Array Slot} {st : List Value} {x y : Int32} (hd : decode c.code pc = .ok (.imul, 1)) (hp : pc + 1 = pc') 
    (k : Goes p e below G (T.setTop (mkF m pc' Ls (.int (x * y) :: st)))) : Goes p e below G (T.setTop (mkF m pc Ls (.int y :: .int x :: st))) := by
  subst hp
  exact own_go (fun _ k => XS.imul X.here hx rfl hd rfl k) k
theorem s_iand (X : Stand p l e R s m args below meth c T locs cells slots) (hx : p.tables.exec = Jvm.exec) {pc pc' : Nat} {Ls : Array Slot} {st : List Value} {x y : Int32} (hd : decode c.code pc = .ok (.iand, 1)) (hp : pc + 1 = pc') 
    (k : Goes p e below G (T.setTop (mkF m pc' Ls (.int (x &&& y) :: st)))) : Goes p e below G (T.setTop (mkF m pc Ls (.int y :: .int x :: st))) := by
  subst hp
  exact own_go (fun _ k => XS.iand X.here hx rfl hd rfl k) k
theorem s_ixor (X : Stand p l e R s m args below meth c T locs cells slots) (hx : p.tables.exec = Jvm.exec) {pc pc' : Nat} {Ls : Array Slot} {st : List Value} {x y : Int32} (hd : decode c.code pc = .ok (.ixor, 1)) (hp : pc + 1 = pc') 
    (k : Goes p e below G (T.setTop (mkF m pc' Ls (.int (x ^^^ y) :: st)))) : Goes p e below G (T.setTop (mkF m pc Ls (.int y :: .int x :: st))) := by
  subst hp
  exact own_go (fun _ k => XT.ixor X.here hx rfl hd rfl k) k
theorem s_ior (X : Stand p l e R s m args below meth c T locs cells slots) (hx : p.tables.exec = Jvm.exec) {pc pc' : Nat} {Ls : Array Slot} {st : List Value} {x y : Int32} (hd : decode c.code pc = .ok (.ior, 1)) (hp : pc + 1 = pc') 
    (k : Goes p e below G (T.setTop (mkF m pc' Ls (.int (x ||| y) :: st)))) : Goes p e below G (T.setTop (mkF m pc Ls (.int y :: .int x :: st))) := by
  subst hp
  exact own_go (fun _ k => XT.ior X.here hx rfl hd rfl k) k
theorem s_ishl (X : Stand p l e R s m args below meth c T locs cells slots) (hx : p.tables.exec = Jvm.exec) {pc pc' : Nat} {Ls : Array Slot} {st : List Value} {x y : Int32} (hd : decode c.code pc = .ok (.ishl, 1)) (hp : pc + 1 = pc') 
    (k : Goes p e below G (T.setTop (mkF m pc' Ls (.int (x <<< (y &&& 31)) :: st)))) : Goes p e below G (T.setTop (mkF m pc Ls (.int y :: .int x :: st))) := by
  subst hp
  exact own_go (fun _ k => XT.ishl X.here hx rfl hd rfl k) k
theorem s_ishr (X : Stand p l e R s m args below meth c T locs cells slots) (hx : p.tables.exec = Jvm.exec) {pc pc' : Nat} {Ls : Array Slot} {st : List Value} {x y : Int32} (hd : decode c.code pc = .ok (.ishr, 1)) (hp : pc + 1 = pc') 
    (k : Goes p e below G (T.setTop (mkF m pc' Ls (.int (x >>> (y &&& 31)) :: st)))) : Goes p e below G (T.setTop (mkF m pc Ls (.int y :: .int x :: st))) := by
  subst hp
  exact own_go (fun _ k => XT.ishr X.here hx rfl hd rfl k) k
theorem s_iushr (X : Stand p l e R s m args below meth c T locs cells slots) (hx : p.tables.exec = Jvm.exec) {pc pc' : Nat} {Ls : Array Slot} {st : List Value} {x y : Int32} (hd : decode c.code pc = .ok (.iushr, 1)) (hp : pc + 1 = pc') 
    (k : Goes p e below G (T.setTop (mkF m pc' Ls (.int (XT.ushr x y) :: st)))) : Goes p e below G (T.setTop (mkF m pc Ls (.int y :: .int x :: st))) := by
  subst hp
  exact own_go (fun _ k => XT.iushr X.here hx rfl hd rfl k) k
theorem s_irem (X : Stand p l e R s m args below meth c T locs cells slots) (hx : p.tables.exec = Jvm.exec) {pc pc' : Nat} {Ls : Array Slot} {st : List Value} {x y : Int32} (hd : decode c.code pc = .ok (.irem, 1)) (hp : pc + 1 = pc') (hy : y ≠ 0)
    (k : Goes p e below G (T.setTop (mkF m pc' Ls (.int (x % y) :: st)))) : Goes p e below G (T.setTop (mkF m pc Ls (.int y :: .int x :: st))) := by
  subst hp
  exact own_go (fun _ k => iremM X hx rfl hd rfl hy k) k
theorem s_ineg (X : Stand p l e R s m args below meth c T locs cells slots) (hx : p.tables.exec = Jvm.exec) {pc pc' : Nat} {Ls : Array Slot} {st : List Value} {x : Int32} (hd : decode c.code pc = .ok (.ineg, 1)) (hp : pc + 1 = pc') 
    (k : Goes p e below G (T.setTop (mkF m pc' Ls (.int (-x) :: st)))) : Goes p e below G (T.setTop (mkF m pc Ls (.int x :: st))) := by
  subst hp
  exact own_go (fun _ k => XS.ineg X.here hx rfl hd rfl k) k
theorem s_ladd (X : Stand p l e R s m args below meth c T locs cells slots) (hx : p.tables.exec = Jvm.exec) {pc pc' : Nat} {Ls : Array Slot} {st : List Value} {x y : Int64} (hd : decode c.code pc = .ok (.ladd, 1)) (hp : pc + 1 = pc') 
    (k : Goes p e below G (T.setTop (mkF m pc' Ls (.long (x + y) :: st)))) : Goes p e below G (T.setTop (mkF m pc Ls (.long y :: .long x :: st))) := by
  subst hp
  exact own_go (fun _ k => XT.ladd X.here hx rfl hd rfl k) k
theorem s_lsub (X : Stand p l e R s m args below meth c T locs cells slots) (hx : p.tables.exec = Jvm.exec) {pc pc' : Nat} {Ls : Array Slot} {st : List Value} {x y : Int64} (hd : decode c.code pc = .ok (.lsub, 1)) (hp : pc + 1 = pc') 
    (k : Goes p e below G (T.setTop (mkF m pc' Ls (.long (x - y) :: st)))) : Goes p e below G (T.setTop (mkF m pc Ls (.long y :: .long x :: st))) := by
  subst hp
  exact own_go (fun _ k => XT.lsub X.here hx rfl hd rfl k) k
theorem s_lmul (X : Stand p l e R s m args below meth c T locs cells slots) (hx : p.tables.exec = Jvm.exec) {pc pc' : Nat} {Ls : Array Slot} {st : List Value} {x y : Int64} (hd : decode c.code pc = .ok (.lmul, 1)) (hp : pc + 1 = pc') 
    (k : Goes p e below G (T.setTop (mkF m pc' Ls (.long (x * y) :: st)))) : Goes p e below G (T.setTop (mkF m pc Ls (.long y :: .long x :: st))) := by
  subst hp
  exact own_go (fun _ k => XT.lmul X.here hx rfl hd rfl k) k
theorem s_land (X : Stand p l e R s m args below meth c T locs cells slots) (hx : p.tables.exec = Jvm.exec) {pc pc' : Nat} {Ls : Array Slot} {st : List Value} {x y : Int64} (hd : decode c.code pc = .ok (.land, 1)) (hp : pc + 1 = pc') 
    (k : Goes p e below G (T.setTop (mkF m pc' Ls (.long (x &&& y) :: st)))) : Goes p e below G (T.setTop (mkF m pc Ls (.long y :: .long x :: st))) := by
  subst hp
  exact own_go (fun _ k => XT.land X.here hx rfl hd rfl k) k
theorem s_lor (X : Stand p l e R s m args below meth c T locs cells slots) (hx : p.tables.exec = Jvm.exec) {pc pc' : Nat} {Ls : Array Slot} {st : List Value} {x y : Int64} (hd : decode c.code pc = .ok (.lor, 1)) (hp : pc + 1 = pc') 
    (k : Goes p e below G (T.setTop (mkF m pc' Ls (.long (x ||| y) :: st)))) : Goes p e below G (T.setTop (mkF m pc Ls (.long y :: .long x :: st))) := by
  subst hp
  exact own_go (fun _ k => XT.lor X.here hx rfl hd rfl k) k
theorem s_lxor (X : Stand p l e R s m args below meth c T locs cells slots) (hx : p.tables.exec = Jvm.exec) {pc pc' : Nat} {Ls : Array Slot} {st : List Value} {x y : Int64} (hd : decode c.code pc = .ok (.lxor, 1)) (hp : pc + 1 = pc') 
    (k : Goes p e below G (T.setTop (mkF m pc' Ls (.long (x ^^^ y) :: st)))) : Goes p e below G (T.setTop (mkF m pc Ls (.long y :: .long x :: st))) := by
  subst hp
  exact own_go (fun _ k => XT.lxor X.here hx rfl hd rfl k) k
theorem s_lshl (X : Stand p l e R s m args below meth c T locs cells slots) (hx : p.tables.exec = Jvm.exec) {pc pc' : Nat} {Ls : Array Slot} {st : List Value} {x : Int64} {y : Int32} (hd : decode c.code pc = .ok (.lshl, 1)) (hp : pc + 1 = pc') 
    (k : Goes p e below G (T.setTop (mkF m pc' Ls (.long (x <<< (y.toInt64 &&& 63)) :: st)))) : Goes p e below G (T.setTop (mkF m pc Ls (.int y :: .long x :: st))) := by
  subst hp
  exact own_go (fun _ k => XT.lshl X.here hx rfl hd rfl k) k
theorem s_lshr (X : Stand p l e R s m args below meth c T locs cells slots) (hx : p.tables.exec = Jvm.exec) {pc pc' : Nat} {Ls : Array Slot} {st : List Value} {x : Int64} {y : Int32} (hd : decode c.code pc = .ok (.lshr, 1)) (hp : pc + 1 = pc') 
    (k : Goes p e below G (T.setTop (mkF m pc' Ls (.long (x >>> (y.toInt64 &&& 63)) :: st)))) : Goes p e below G (T.setTop (mkF m pc Ls (.int y :: .long x :: st))) := by
  subst hp
  exact own_go (fun _ k => XT.lshr X.here hx rfl hd rfl k) k
theorem s_lushr (X : Stand p l e R s m args below meth c T locs cells slots) (hx : p.tables.exec = Jvm.exec) {pc pc' : Nat} {Ls : Array Slot} {st : List Value} {x : Int64} {y : Int32} (hd : decode c.code pc = .ok (.lushr, 1)) (hp : pc + 1 = pc') 
    (k : Goes p e below G (T.setTop (mkF m pc' Ls (.long (XT.ushrL x y) :: st)))) : Goes p e below G (T.setTop (mkF m pc Ls (.int y :: .long x :: st))) := by
  subst hp
  exact own_go (fun _ k => XT.lushr X.here hx rfl hd rfl k) k
theorem s_i2l (X : Stand p l e R s m args below meth c T locs cells slots) (hx : p.tables.exec = Jvm.exec) {pc pc' : Nat} {Ls : Array Slot} {st : List Value} {x : Int32} (hd : decode c.code pc = .ok (.i2l, 1)) (hp : pc + 1 = pc') 
    (k : Goes p e below G (T.setTop (mkF m pc' Ls ((.long x.toInt64) :: st)))) : Goes p e below G (T.setTop (mkF m pc Ls (.int x :: st))) := by
  subst hp
  exact own_go (fun _ k => XT.i2l X.here hx rfl hd rfl k) k
theorem s_i2b (X : Stand p l e R s m args below meth c T locs cells slots) (hx : p.tables.exec = Jvm.exec) {pc pc' : Nat} {Ls : Array Slot} {st : List Value} {x : Int32} (hd : decode c.code pc = .ok (.i2b, 1)) (hp : pc + 1 = pc') 
    (k : Goes p e below G (T.setTop (mkF m pc' Ls ((.int x.toInt8.toInt32) :: st)))) : Goes p e below G (T.setTop (mkF m pc Ls (.int x :: st))) := by
  subst hp
  exact own_go (fun _ k => XT.i2b X.here hx rfl hd rfl k) k
theorem s_l2i (X : Stand p l e R s m args below meth c T locs cells slots) (hx : p.tables.exec = Jvm.exec) {pc pc' : Nat} {Ls : Array Slot} {st : List Value} {x : Int64} (hd : decode c.code pc = .ok (.l2i, 1)) (hp : pc + 1 = pc') 
    (k : Goes p e below G (T.setTop (mkF m pc' Ls (.int x.toInt32 :: st)))) : Goes p e below G (T.setTop (mkF m pc Ls (.long x :: st))) := by
  subst hp
  exact own_go (fun _ k => XT.l2i X.here hx rfl hd rfl k) k
theorem s_i2d (X : Stand p l e R s m args below meth c T locs cells slots) (hx : p.tables.exec = Jvm.exec) {pc pc' : Nat} {Ls : Array Slot} {st : List Value} {x : Int32} (hd : decode c.code pc = .ok (.i2d, 1)) (hp : pc + 1 = pc') 
    (k : Goes p e below G (T.setTop (mkF m pc' Ls (.double (FP.i2d x) :: st)))) : Goes p e below G (T.setTop (mkF m pc Ls (.int x :: st))) := by
  subst hp
  exact own_go (fun _ k => XS.i2dS X.here hx rfl hd rfl rfl k) k
theorem s_l2d (X : Stand p l e R s m args below meth c T locs cells slots) (hx : p.tables.exec = Jvm.exec) {pc pc' : Nat} {Ls : Array Slot} {st : List Value} {x : Int64} (hd : decode c.code pc = .ok (.l2d, 1)) (hp : pc + 1 = pc') 
    (k : Goes p e below G (T.setTop (mkF m pc' Ls (.double (FP.l2d x) :: st)))) : Goes p e below G (T.setTop (mkF m pc Ls (.long x :: st))) := by
  subst hp
  exact own_go (fun _ k => XS.l2dS X.here hx rfl hd rfl rfl k) k
theorem s_dneg (X : Stand p l e R s m args below meth c T locs cells slots) (hx : p.tables.exec = Jvm.exec) {pc pc' : Nat} {Ls : Array Slot} {st : List Value} {x : UInt64} (hd : decode c.code pc = .ok (.dneg, 1)) (hp : pc + 1 = pc') 
    (k : Goes p e below G (T.setTop (mkF m pc' Ls (.double (FP.dneg x) :: st)))) : Goes p e below G (T.setTop (mkF m pc Ls (.double x :: st))) := by
  subst hp
  exact own_go (fun _ k => XS.dnegS X.here hx rfl hd rfl rfl k) k
theorem s_dadd (X : Stand p l e R s m args below meth c T locs cells slots) (hx : p.tables.exec = Jvm.exec) {pc pc' : Nat} {Ls : Array Slot} {st : List Value} {x y : UInt64} (v : UInt64) (hd : decode c.code pc = .ok (.dadd, 1)) (hp : pc + 1 = pc') (hn : NoNaN64 (FP.dadd x y)) (hv : FP.dadd x y = v)
    (k : Goes p e below G (T.setTop (mkF m pc' Ls (.double v :: st)))) : Goes p e below G (T.setTop (mkF m pc Ls (.double y :: .double x :: st))) := by
  subst hp
  exact own_go (fun _ k => XS.daddS X.here hx rfl hd rfl hn hv k) k
theorem s_dsub (X : Stand p l e R s m args below meth c T locs cells slots) (hx : p.tables.exec = Jvm.exec) {pc pc' : Nat} {Ls : Array Slot} {st : List Value} {x y : UInt64} (v : UInt64) (hd : decode c.code pc = .ok (.dsub, 1)) (hp : pc + 1 = pc') (hn : NoNaN64 (FP.dsub x y)) (hv : FP.dsub x y = v)
    (k : Goes p e below G (T.setTop (mkF m pc' Ls (.double v :: st)))) : Goes p e below G (T.setTop (mkF m pc Ls (.double y :: .double x :: st))) := by
  subst hp
  exact own_go (fun _ k => XS.dsubS X.here hx rfl hd rfl hn hv k) k
theorem s_dmul (X : Stand p l e R s m args below meth c T locs cells slots) (hx : p.tables.exec = Jvm.exec) {pc pc' : Nat} {Ls : Array Slot} {st : List Value} {x y : UInt64} (v : UInt64) (hd : decode c.code pc = .ok (.dmul, 1)) (hp : pc + 1 = pc') (hn : NoNaN64 (FP.dmul x y)) (hv : FP.dmul x y = v)
    (k : Goes p e below G (T.setTop (mkF m pc' Ls (.double v :: st)))) : Goes p e below G (T.setTop (mkF m pc Ls (.double y :: .double x :: st))) := by
  subst hp
  exact own_go (fun _ k => XS.dmulS X.here hx rfl hd rfl hn hv k) k
theorem s_ddiv (X : Stand p l e R s m args below meth c T locs cells slots) (hx : p.tables.exec = Jvm.exec) {pc pc' : Nat} {Ls : Array Slot} {st : List Value} {x y : UInt64} (v : UInt64) (hd : decode c.code pc = .ok (.ddiv, 1)) (hp : pc + 1 = pc') (hn : NoNaN64 (FP.ddiv x y)) (hv : FP.ddiv x y = v)
    (k : Goes p e below G (T.setTop (mkF m pc' Ls (.double v :: st)))) : Goes p e below G (T.setTop (mkF m pc Ls (.double y :: .double x :: st))) := by
  subst hp
  exact own_go (fun _ k => XS.ddivS X.here hx rfl hd rfl hn hv k) k
theorem s_lcmp (X : Stand p l e R s m args below meth c T locs cells slots) (hx : p.tables.exec = Jvm.exec) {pc pc' : Nat} {Ls : Array Slot} {st : List Value} {x y : Int64} (hd : decode c.code pc = .ok (.lcmp, 1)) (hp : pc + 1 = pc') 
    (k : Goes p e below G (T.setTop (mkF m pc' Ls (.int (XT.cmpL x y) :: st)))) : Goes p e below G (T.setTop (mkF m pc Ls (.long y :: .long x :: st))) := by
  subst hp
  exact own_go (fun _ k => XT.lcmp X.here hx rfl hd rfl k) k
theorem s_dcmp (X : Stand p l e R s m args below meth c T locs cells slots) (hx : p.tables.exec = Jvm.exec) {pc pc' : Nat} {Ls : Array Slot} {st : List Value} {x y : UInt64} {o : CmpOp} (v : Int32) (hd : decode c.code pc = .ok (.dcmp o, 1)) (hp : pc + 1 = pc') (hv : cmpValue (FP.dcmp x y) o = v)
    (k : Goes p e below G (T.setTop (mkF m pc' Ls (.int v :: st)))) : Goes p e below G (T.setTop (mkF m pc Ls (.double y :: .double x :: st))) := by
  subst hp
  exact own_go (fun _ k => XS.dcmpS X.here hx rfl hd rfl hv k) k
theorem s_dup (X : Stand p l e R s m args below meth c T locs cells slots) (hx : p.tables.exec = Jvm.exec) {pc pc' : Nat} {Ls : Array Slot} {st : List Value} {x : Value} (hd : decode c.code pc = .ok (.dup, 1)) (hp : pc + 1 = pc') (hc : x.category = 1)
    (k : Goes p e below G (T.setTop (mkF m pc' Ls (x :: x :: st)))) : Goes p e below G (T.setTop (mkF m pc Ls (x :: st))) := by
  subst hp
  exact own_go (fun _ k => XS.dup X.here hx rfl hd rfl hc k) k
theorem s_pop (X : Stand p l e R s m args below meth c T locs cells slots) (hx : p.tables.exec = Jvm.exec) {pc pc' : Nat} {Ls : Array Slot} {st : List Value} {x : Value} (hd : decode c.code pc = .ok (.pop, 1)) (hp : pc + 1 = pc') (hc : x.category = 1)
    (k : Goes p e below G (T.setTop (mkF m pc' Ls (st)))) : Goes p e below G (T.setTop (mkF m pc Ls (x :: st))) := by
  subst hp
  exact own_go (fun _ k => XT.pop X.here hx rfl hd rfl hc k) k
theorem s_pop2D (X : Stand p l e R s m args below meth c T locs cells slots) (hx : p.tables.exec = Jvm.exec) {pc pc' : Nat} {Ls : Array Slot} {st : List Value} {x : UInt64} (hd : decode c.code pc = .ok (.pop2, 1)) (hp : pc + 1 = pc')
    (k : Goes p e below G (T.setTop (mkF m pc' Ls st))) : Goes p e below G (T.setTop (mkF m pc Ls (.double x :: st))) := by
  subst hp
  refine own_go (fun _ k => ?_) k
  jvm_step X.here [X.here.top, hx, hd, Value.category]
  exact k
theorem s_dup2 (X : Stand p l e R s m args below meth c T locs cells slots) (hx : p.tables.exec = Jvm.exec) {pc pc' : Nat} {Ls : Array Slot} {st : List Value} {x y : Value} (hd : decode c.code pc = .ok (.dup2, 1)) (hp : pc + 1 = pc') (hc : x.category = 1) (hc' : y.category = 1)
    (k : Goes p e below G (T.setTop (mkF m pc' Ls (x :: y :: x :: y :: st)))) : Goes p e below G (T.setTop (mkF m pc Ls (x :: y :: st))) := by
  subst hp
  exact own_go (fun _ k => XT.dup2 X.here hx rfl hd rfl hc hc' k) k
theorem s_iinc (X : Stand p l e R s m args below meth c T locs cells slots) (hx : p.tables.exec = Jvm.exec) {pc pc' : Nat} {Ls : Array Slot} {st : List Value} {j : Nat} {i : Int} {x : Int32} (v : Int32) (l' : Array Slot) (hd : decode c.code pc = .ok (.iinc j i, 3)) (hp : pc + 3 = pc') (hl : Ls[j]? = some (.val (.int x))) (hv : x + Int32.ofInt i = v) (hl' : storeLocals Ls j (.int v) = some l')
    (k : Goes p e below G (T.setTop (mkF m pc' l' (st)))) : Goes p e below G (T.setTop (mkF m pc Ls (st))) := by
  subst hp
  exact own_go (fun _ k => XS.iinc X.here hx rfl hd hl (by rw [hv]; exact hl') k) k
theorem s_goto (X : Stand p l e R s m args below meth c T locs cells slots) (hx : p.tables.exec = Jvm.exec) {pc pc' : Nat} {Ls : Array Slot} {st : List Value}  {o : Int} (hd : decode c.code pc = .ok (.goto o, 3))  (ho : 0 ≤ (pc : Int) + o) (hp : ((pc : Int) + o).toNat = pc')
    (k : Goes p e below G (T.setTop (mkF m pc' Ls (st)))) : Goes p e below G (T.setTop (mkF m pc Ls (st))) := own_go (fun _ k => XS.goto X.here hx rfl rfl hd ho hp k) k
theorem s_ifY (X : Stand p l e R s m args below meth c T locs cells slots) (hx : p.tables.exec = Jvm.exec) {pc pc' : Nat} {Ls : Array Slot} {st : List Value} {cd : ClassFile.Cond} {x : Int32} {o : Int} (hd : decode c.code pc = .ok (.ifCond cd o, 3)) (hc : ifCond.holds cd x = true) (ho : 0 ≤ (pc : Int) + o) (hp : ((pc : Int) + o).toNat = pc')
    (k : Goes p e below G (T.setTop (mkF m pc' Ls (st)))) : Goes p e below G (T.setTop (mkF m pc Ls (.int x :: st))) := own_go (fun _ k => XS.ifYes X.here hx rfl rfl hd rfl hc ho hp k) k
theorem s_icmpY (X : Stand p l e R s m args below meth c T locs cells slots) (hx : p.tables.exec = Jvm.exec) {pc pc' : Nat} {Ls : Array Slot} {st : List Value} {cd : ClassFile.Cond} {x y : Int32} {o : Int} (hd : decode c.code pc = .ok (.if_icmp cd o, 3)) (hc : if_icmp.holds cd x y = true) (ho : 0 ≤ (pc : Int) + o) (hp : ((pc : Int) + o).toNat = pc')
    (k : Goes p e below G (T.setTop (mkF m pc' Ls (st)))) : Goes p e below G (T.setTop (mkF m pc Ls (.int y :: .int x :: st))) := own_go (fun _ k => XS.icmpYes X.here hx rfl rfl hd rfl hc ho hp k) k
theorem s_acmpY (X : Stand p l e R s m args below meth c T locs cells slots) (hx : p.tables.exec = Jvm.exec) {pc pc' : Nat} {Ls : Array Slot} {st : List Value} {cd : ClassFile.ACond} {x y : Value} {o : Int} (hd : decode c.code pc = .ok (.if_acmp cd o, 3)) (h1 : x.isRef = true) (h2 : y.isRef = true) (hc : XT.acmp cd x y = true) (ho : 0 ≤ (pc : Int) + o) (hp : ((pc : Int) + o).toNat = pc')
    (k : Goes p e below G (T.setTop (mkF m pc' Ls (st)))) : Goes p e below G (T.setTop (mkF m pc Ls (y :: x :: st))) := own_go (fun _ k => XT.acmpYes X.here hx rfl rfl hd rfl h1 h2 hc ho hp k) k
theorem s_nonnullY (X : Stand p l e R s m args below meth c T locs cells slots) (hx : p.tables.exec = Jvm.exec) {pc pc' : Nat} {Ls : Array Slot} {st : List Value} {b : Addr} {o : Int} (hd : decode c.code pc = .ok (.ifnonnull o, 3))  (ho : 0 ≤ (pc : Int) + o) (hp : ((pc : Int) + o).toNat = pc')
    (k : Goes p e below G (T.setTop (mkF m pc' Ls (st)))) : Goes p e below G (T.setTop (mkF m pc Ls (.ref b :: st))) := own_go (fun _ k => XT.ifnonnullYes X.here hx rfl rfl hd rfl ho hp k) k
theorem s_ifN (X : Stand p l e R s m args below meth c T locs cells slots) (hx : p.tables.exec = Jvm.exec) {pc pc' : Nat} {Ls : Array Slot} {st : List Value} {cd : ClassFile.Cond} {x : Int32} {o : Int} (hd : decode c.code pc = .ok (.ifCond cd o, 3)) (hp : pc + 3 = pc') (hc : ifCond.holds cd x = false)
    (k : Goes p e below G (T.setTop (mkF m pc' Ls (st)))) : Goes p e below G (T.setTop (mkF m pc Ls (.int x :: st))) := by
  subst hp
  exact own_go (fun _ k => XS.ifNo X.here hx rfl hd rfl hc k) k
theorem s_icmpN (X : Stand p l e R s m args below meth c T locs cells slots) (hx : p.tables.exec = Jvm.exec) {pc pc' : Nat} {Ls : Array Slot} {st : List Value} {cd : ClassFile.Cond} {x y : Int32} {o : Int} (hd : decode c.code pc = .ok (.if_icmp cd o, 3)) (hp : pc + 3 = pc') (hc : if_icmp.holds cd x y = false)
    (k : Goes p e below G (T.setTop (mkF m pc' Ls (st)))) : Goes p e below G (T.setTop (mkF m pc Ls (.int y :: .int x :: st))) := by
  subst hp
  exact own_go (fun _ k => XS.icmpNo X.here hx rfl hd rfl hc k) k
theorem s_acmpN (X : Stand p l e R s m args below meth c T locs cells slots) (hx : p.tables.exec = Jvm.exec) {pc pc' : Nat} {Ls : Array Slot} {st : List Value} {cd : ClassFile.ACond} {x y : Value} {o : Int} (hd : decode c.code pc = .ok (.if_acmp cd o, 3)) (hp : pc + 3 = pc') (h1 : x.isRef = true) (h2 : y.isRef = true) (hc : XT.acmp cd x y = false)
    (k : Goes p e below G (T.setTop (mkF m pc' Ls (st)))) : Goes p e below G (T.setTop (mkF m pc Ls (y :: x :: st))) := by
  subst hp
  exact own_go (fun _ k => XT.acmpNo X.here hx rfl hd rfl h1 h2 hc k) k
theorem s_nullN (X : Stand p l e R s m args below meth c T locs cells slots) (hx : p.tables.exec = Jvm.exec) {pc pc' : Nat} {Ls : Array Slot} {st : List Value} {b : Addr} {o : Int} (hd : decode c.code pc = .ok (.ifnull o, 3)) (hp : pc + 3 = pc') 
    (k : Goes p e below G (T.setTop (mkF m pc' Ls (st)))) : Goes p e below G (T.setTop (mkF m pc Ls (.ref b :: st))) := by
  subst hp
  exact own_go (fun _ k => XS.ifnullNo X.here hx rfl hd rfl k) k
end Own
theorem iy_lt {x : Int32} (h : x < 0) : ifCond.holds .lt x = true := by rw [if0]; exact (tlt h).1
theorem in_lt {x : Int32} (h : ¬ x < 0) : ifCond.holds .lt x = false := by rw [if0]; exact (flt h).1
theorem iy_ge {x : Int32} (h : ¬ x < 0) : ifCond.holds .ge x = true := by rw [if0]; exact (flt h).2.1
theorem in_ge {x : Int32} (h : x < 0) : ifCond.holds .ge x = false := by rw [if0]; exact (tlt h).2.1
theorem iy_gt {x : Int32} (h : 0 < x) : ifCond.holds .gt x = true := by rw [if0]; exact (tlt h).2.2.1
theorem in_gt {x : Int32} (h : ¬ 0 < x) : ifCond.holds .gt x = false := by rw [if0]; exact (flt h).2.2.1
theorem iy_le {x : Int32} (h : ¬ 0 < x) : ifCond.holds .le x = true := by rw [if0]; exact (flt h).2.2.2
theorem in_le {x : Int32} (h : 0 < x) : ifCond.holds .le x = false := by rw [if0]; exact (tlt h).2.2.2
theorem iy_eq {x : Int32} (h : x = 0) : ifCond.holds .eq x = true := by rw [if0]; exact (teq h).1
theorem in_eq {x : Int32} (h : ¬ x = 0) : ifCond.holds .eq x = false := by rw [if0]; exact (feq h).1
theorem iy_ne {x : Int32} (h : ¬ x = 0) : ifCond.holds .ne x = true := by rw [if0]; exact (feq h).2
theorem in_ne {x : Int32} (h : x = 0) : ifCond.holds .ne x = false := by rw [if0]; exact (teq h).2
theorem cy_lt {x y : Int32} (h : x < y) : if_icmp.holds .lt x y = true := (tlt h).1
theorem cn_lt {x y : Int32} (h : ¬ x < y) : if_icmp.holds .lt x y = false := (flt h).1
theorem cy_ge {x y : Int32} (h : ¬ x < y) : if_icmp.holds .ge x y = true := (flt h).2.1
theorem cn_ge {x y : Int32} (h : x < y) : if_icmp.holds .ge x y = false := (tlt h).2.1
theorem cy_gt {x y : Int32} (h : y < x) : if_icmp.holds .gt x y = true := (tlt h).2.2.1
theorem cn_gt {x y : Int32} (h : ¬ y < x) : if_icmp.holds .gt x y = false := (flt h).2.2.1
theorem cy_le {x y : Int32} (h : ¬ y < x) : if_icmp.holds .le x y = true := (flt h).2.2.2
theorem cn_le {x y : Int32} (h : y < x) : if_icmp.holds .le x y = false := (tlt h).2.2.2
theorem cy_eq {x y : Int32} (h : x = y) : if_icmp.holds .eq x y = true := (teq h).1
theorem cn_eq {x y : Int32} (h : ¬ x = y) : if_icmp.holds .eq x y = false := (feq h).1
theorem cy_ne {x y : Int32} (h : ¬ x = y) : if_icmp.holds .ne x y = true := (feq h).2
theorem cn_ne {x y : Int32} (h : x = y) : if_icmp.holds .ne x y = false := (teq h).2
theorem an_ne {a b : Addr} (h : a = b) : XT.acmp .ne (.ref a) (.ref b) = false := by subst h; show decide (_ ≠ _) = false; simp
theorem ay_ne {a b : Addr} (h : ¬ a = b) : XT.acmp .ne (.ref a) (.ref b) = true := by show decide (_ ≠ _) = true; simp [h]
theorem own_eqint {t : Term} {k : Int32} {args : Array Value} {first s : State} {o : Option Outcome} {idx : List Nat} (h : (Jvm.Cond.eq t (Jvm.Term.int k)).value args first o s idx = some true) : t.eval args first o idx s = some (.int k) := by
  simp only [Cond.value, Term.eval] at h
  cases ht : t.eval args first o idx s with
  | none => simp [ht] at h
  | some x => cases x <;> simp [ht] at h ⊢; exact h
theorem own_dcmp (a b : Int32) : FP.dcmp (FP.i2d a) (FP.i2d b) = some (if a < b then .lt else if a = b then .eq else .gt) := by
  have h : FP.dcmp (FP.i2d a) (FP.i2d b) = some (compare a.toInt b.toInt) := FP.Core.dcmp_int (FP.Core.i2d_int a) (FP.Core.i2d_int b)
  rw [h, FP.Core.compare_ite]
  simp only [Int32.lt_iff_toInt_lt, ← Int32.toInt_inj]
theorem own_ne {s : State} {args : Array Value} {C n d C' n' d' : String} {a b : Addr} {i j : Int32} (va : (Jvm.Term.static C n d).eval args s none [] s = some (.ref a)) (vb : (Jvm.Term.static C' n' d').eval args s none [] s = some (.ref b))
    (o1 : (Jvm.Cond.eq (Jvm.Term.field (Jvm.Term.static C n d) "java/lang/Enum" "ordinal" "I") (Jvm.Term.int i)).value args s none s [] = some true) (o2 : (Jvm.Cond.eq (Jvm.Term.field (Jvm.Term.static C' n' d') "java/lang/Enum" "ordinal" "I") (Jvm.Term.int j)).value args s none s [] = some true) (hij : i ≠ j) : ¬ a = b := fun q => by
  have e1 := own_eqint o1
  have e2 := own_eqint o2
  rw [fld_at va] at e1
  rw [fld_at vb, ← q, e1] at e2
  exact hij (Value.int.inj (Option.some.inj e2))
theorem own_k (a : Int32) : let k := (a &&& (2147483647 : Int32)) % (6 : Int32); k = 0 ∨ k = 1 ∨ k = 2 ∨ k = 3 ∨ k = 4 ∨ k = 5 := by
  intro k
  have k1 := c_mask a 2147483647 31 (by decide) (by decide)
  have k2 := (c_irem (a &&& (2147483647 : Int32)) 6 6 rfl).1 (by rw [k1]; omega)
  simp only [← Int32.toInt_inj]
  show (k.toInt = 0 ∨ k.toInt = 1 ∨ k.toInt = 2 ∨ k.toInt = 3 ∨ k.toInt = 4 ∨ k.toInt = 5)
  have k3 : k.toInt = (a &&& (2147483647 : Int32)).toInt % 6 := k2
  omega
theorem d1_0 : decode method_3_code 0 = .ok (.iload_n 0, 1) := by decide +kernel
theorem d1_1 : decode method_3_code 1 = .ok (.ifCond .ne 7, 3) := by decide +kernel
theorem d1_4 : decode method_3_code 4 = .ok (.getstatic 20, 3) := by decide +kernel
theorem d1_7 : decode method_3_code 7 = .ok (.areturn, 1) := by decide +kernel
theorem d1_8 : decode method_3_code 8 = .ok (.iload_n 0, 1) := by decide +kernel
theorem d1_9 : decode method_3_code 9 = .ok (.iconst 1, 1) := by decide +kernel
theorem d1_10 : decode method_3_code 10 = .ok (.if_icmp .ne 7, 3) := by decide +kernel
theorem d1_13 : decode method_3_code 13 = .ok (.getstatic 24, 3) := by decide +kernel
theorem d1_16 : decode method_3_code 16 = .ok (.areturn, 1) := by decide +kernel
theorem d1_17 : decode method_3_code 17 = .ok (.iload_n 0, 1) := by decide +kernel
theorem d1_18 : decode method_3_code 18 = .ok (.iconst 2, 1) := by decide +kernel
theorem d1_19 : decode method_3_code 19 = .ok (.if_icmp .ne 7, 3) := by decide +kernel
theorem d1_22 : decode method_3_code 22 = .ok (.getstatic 27, 3) := by decide +kernel
theorem d1_25 : decode method_3_code 25 = .ok (.areturn, 1) := by decide +kernel
theorem d1_26 : decode method_3_code 26 = .ok (.iload_n 0, 1) := by decide +kernel
theorem d1_27 : decode method_3_code 27 = .ok (.iconst 3, 1) := by decide +kernel
theorem d1_28 : decode method_3_code 28 = .ok (.if_icmp .ne 7, 3) := by decide +kernel
theorem d1_31 : decode method_3_code 31 = .ok (.getstatic 30, 3) := by decide +kernel
theorem d1_34 : decode method_3_code 34 = .ok (.areturn, 1) := by decide +kernel
theorem d1_35 : decode method_3_code 35 = .ok (.iload_n 0, 1) := by decide +kernel
theorem d1_36 : decode method_3_code 36 = .ok (.iconst 4, 1) := by decide +kernel
theorem d1_37 : decode method_3_code 37 = .ok (.if_icmp .ne 7, 3) := by decide +kernel
theorem d1_40 : decode method_3_code 40 = .ok (.getstatic 33, 3) := by decide +kernel
theorem d1_43 : decode method_3_code 43 = .ok (.areturn, 1) := by decide +kernel
theorem d1_44 : decode method_3_code 44 = .ok (.getstatic 36, 3) := by decide +kernel
theorem d1_47 : decode method_3_code 47 = .ok (.areturn, 1) := by decide +kernel
theorem pn_1 : plainName "com/example/libclearance/libclearance/xpath/ComparisonHoldsPinLaw" = true := by first | (simp [plainName, overriddenIn]; done) | decide +kernel
theorem ef_1 (z0 : Int32) (m : MethodId) : entryFrame m #[.int z0] 1 = mkF m 0 #[.val (.int z0)] [] := by first | (simp [entryFrame, mkF, argsToLocals, Value.category, maxLocals]; done) | rfl
set_option maxRecDepth 65536 in
set_option maxHeartbeats 40000000 in
theorem rm_1_0 (l : Launch) (Z : State) (a0 : Array Value) (hw : ∀ d ∈ tables_1, d.before a0 Z = true) (ws : List Jvm.Cond) (aE : Addr) (h0 : Heap) (n0 : Nat) (Z0 : n0 ≤ h0.size) (S0 : Sta Z h0 "com/example/libclearance/libclearance/xpath/Comparison" "EQUAL" "Lcom/example/libclearance/libclearance/xpath/Comparison;" (.ref aE)) :
    OwnMet l Z (⟨"com/example/libclearance/libclearance/xpath/ComparisonHoldsPinLaw", "pick", "(I)Lcom/example/libclearance/libclearance/xpath/Comparison;"⟩ : MethodName) method_3_code 1 (some (.object "com/example/libclearance/libclearance/xpath/Comparison")) ws ({ frames := 0, cells := 0, slots := 0, locals := 0 } : Room) #[.int (0 : Int32)] h0 (fun v h L => v = some (.ref aE) ∧ Fr n0 L ∧ h = h0) := by
  refine own_met (plainFor_of_name pn_1) (ef_1 (0 : Int32)) ?_
  intro p e s m below meth c s₁ hx hby hml hZ hown hnm hret hlk X0 e0
  have N0 := Fr.nil n0
  refine s_iloadN X0 hx (hb hby d1_0) (pc' := 1) rfl rfl ?_
  refine s_ifN X0 hx (hb hby d1_1) (pc' := 4) rfl (by decide) ?_
  obtain ⟨T1, X1, e1, st1⟩ := getS X0 hx hZ hown (host := "") (hw _ (List.mem_of_getElem? (i := 5) rfl)) Via.refl e0 S0 (g := (mkF m 4 #[.val (.int (0 : Int32))] [])) rfl (hb hby d1_4)
  refine own_go st1 ?_
  show Goes p e below _ (T1.setTop (mkF m 7 #[.val (.int (0 : Int32))] [.ref aE]))
  exact s_retI X1 hx hlk hret (hb hby d1_7) rfl (Or.inr (Or.inr (Or.inr (Or.inr ⟨rfl, rfl, rfl⟩)))) (by decide) (by decide) ⟨rfl, N0, e1⟩
set_option maxRecDepth 65536 in
set_option maxHeartbeats 40000000 in
theorem rm_1_1 (l : Launch) (Z : State) (a0 : Array Value) (hw : ∀ d ∈ tables_1, d.before a0 Z = true) (ws : List Jvm.Cond) (aN : Addr) (h0 : Heap) (n0 : Nat) (Z0 : n0 ≤ h0.size) (S1 : Sta Z h0 "com/example/libclearance/libclearance/xpath/Comparison" "NOT_EQUAL" "Lcom/example/libclearance/libclearance/xpath/Comparison;" (.ref aN)) :
    OwnMet l Z (⟨"com/example/libclearance/libclearance/xpath/ComparisonHoldsPinLaw", "pick", "(I)Lcom/example/libclearance/libclearance/xpath/Comparison;"⟩ : MethodName) method_3_code 1 (some (.object "com/example/libclearance/libclearance/xpath/Comparison")) ws ({ frames := 0, cells := 0, slots := 0, locals := 0 } : Room) #[.int (1 : Int32)] h0 (fun v h L => v = some (.ref aN) ∧ Fr n0 L ∧ h = h0) := by
  refine own_met (plainFor_of_name pn_1) (ef_1 (1 : Int32)) ?_
  intro p e s m below meth c s₁ hx hby hml hZ hown hnm hret hlk X0 e0
  have N0 := Fr.nil n0
  refine s_iloadN X0 hx (hb hby d1_0) (pc' := 1) rfl rfl ?_
  refine s_ifY X0 hx (hb hby d1_1) (by decide) (by decide) (pc' := 8) (by decide) ?_
  refine s_iloadN X0 hx (hb hby d1_8) (pc' := 9) rfl rfl ?_
  refine s_iconst X0 hx (1 : Int32) (hb hby d1_9) (pc' := 10) rfl rfl ?_
  refine s_icmpN X0 hx (hb hby d1_10) (pc' := 13) rfl (by decide) ?_
  obtain ⟨T1, X1, e1, st1⟩ := getS X0 hx hZ hown (host := "") (hw _ (List.mem_of_getElem? (i := 14) rfl)) Via.refl e0 S1 (g := (mkF m 13 #[.val (.int (1 : Int32))] [])) rfl (hb hby d1_13)
  refine own_go st1 ?_
  show Goes p e below _ (T1.setTop (mkF m 16 #[.val (.int (1 : Int32))] [.ref aN]))
  exact s_retI X1 hx hlk hret (hb hby d1_16) rfl (Or.inr (Or.inr (Or.inr (Or.inr ⟨rfl, rfl, rfl⟩)))) (by decide) (by decide) ⟨rfl, N0, e1⟩
set_option maxRecDepth 65536 in
set_option maxHeartbeats 40000000 in
theorem rm_1_2 (l : Launch) (Z : State) (a0 : Array Value) (hw : ∀ d ∈ tables_1, d.before a0 Z = true) (ws : List Jvm.Cond) (aL : Addr) (h0 : Heap) (n0 : Nat) (Z0 : n0 ≤ h0.size) (S2 : Sta Z h0 "com/example/libclearance/libclearance/xpath/Comparison" "LESS" "Lcom/example/libclearance/libclearance/xpath/Comparison;" (.ref aL)) :
    OwnMet l Z (⟨"com/example/libclearance/libclearance/xpath/ComparisonHoldsPinLaw", "pick", "(I)Lcom/example/libclearance/libclearance/xpath/Comparison;"⟩ : MethodName) method_3_code 1 (some (.object "com/example/libclearance/libclearance/xpath/Comparison")) ws ({ frames := 0, cells := 0, slots := 0, locals := 0 } : Room) #[.int (2 : Int32)] h0 (fun v h L => v = some (.ref aL) ∧ Fr n0 L ∧ h = h0) := by
  refine own_met (plainFor_of_name pn_1) (ef_1 (2 : Int32)) ?_
  intro p e s m below meth c s₁ hx hby hml hZ hown hnm hret hlk X0 e0
  have N0 := Fr.nil n0
  refine s_iloadN X0 hx (hb hby d1_0) (pc' := 1) rfl rfl ?_
  refine s_ifY X0 hx (hb hby d1_1) (by decide) (by decide) (pc' := 8) (by decide) ?_
  refine s_iloadN X0 hx (hb hby d1_8) (pc' := 9) rfl rfl ?_
  refine s_iconst X0 hx (1 : Int32) (hb hby d1_9) (pc' := 10) rfl rfl ?_
  refine s_icmpY X0 hx (hb hby d1_10) (by decide) (by decide) (pc' := 17) (by decide) ?_
  refine s_iloadN X0 hx (hb hby d1_17) (pc' := 18) rfl rfl ?_
  refine s_iconst X0 hx (2 : Int32) (hb hby d1_18) (pc' := 19) rfl rfl ?_
  refine s_icmpN X0 hx (hb hby d1_19) (pc' := 22) rfl (by decide) ?_
  obtain ⟨T1, X1, e1, st1⟩ := getS X0 hx hZ hown (host := "") (hw _ (List.mem_of_getElem? (i := 27) rfl)) Via.refl e0 S2 (g := (mkF m 22 #[.val (.int (2 : Int32))] [])) rfl (hb hby d1_22)
  refine own_go st1 ?_
  show Goes p e below _ (T1.setTop (mkF m 25 #[.val (.int (2 : Int32))] [.ref aL]))
  exact s_retI X1 hx hlk hret (hb hby d1_25) rfl (Or.inr (Or.inr (Or.inr (Or.inr ⟨rfl, rfl, rfl⟩)))) (by decide) (by decide) ⟨rfl, N0, e1⟩
set_option maxRecDepth 65536 in
set_option maxHeartbeats 40000000 in
theorem rm_1_3 (l : Launch) (Z : State) (a0 : Array Value) (hw : ∀ d ∈ tables_1, d.before a0 Z = true) (ws : List Jvm.Cond) (aM : Addr) (h0 : Heap) (n0 : Nat) (Z0 : n0 ≤ h0.size) (S3 : Sta Z h0 "com/example/libclearance/libclearance/xpath/Comparison" "LESS_OR_EQUAL" "Lcom/example/libclearance/libclearance/xpath/Comparison;" (.ref aM)) :
    OwnMet l Z (⟨"com/example/libclearance/libclearance/xpath/ComparisonHoldsPinLaw", "pick", "(I)Lcom/example/libclearance/libclearance/xpath/Comparison;"⟩ : MethodName) method_3_code 1 (some (.object "com/example/libclearance/libclearance/xpath/Comparison")) ws ({ frames := 0, cells := 0, slots := 0, locals := 0 } : Room) #[.int (3 : Int32)] h0 (fun v h L => v = some (.ref aM) ∧ Fr n0 L ∧ h = h0) := by
  refine own_met (plainFor_of_name pn_1) (ef_1 (3 : Int32)) ?_
  intro p e s m below meth c s₁ hx hby hml hZ hown hnm hret hlk X0 e0
  have N0 := Fr.nil n0
  refine s_iloadN X0 hx (hb hby d1_0) (pc' := 1) rfl rfl ?_
  refine s_ifY X0 hx (hb hby d1_1) (by decide) (by decide) (pc' := 8) (by decide) ?_
  refine s_iloadN X0 hx (hb hby d1_8) (pc' := 9) rfl rfl ?_
  refine s_iconst X0 hx (1 : Int32) (hb hby d1_9) (pc' := 10) rfl rfl ?_
  refine s_icmpY X0 hx (hb hby d1_10) (by decide) (by decide) (pc' := 17) (by decide) ?_
  refine s_iloadN X0 hx (hb hby d1_17) (pc' := 18) rfl rfl ?_
  refine s_iconst X0 hx (2 : Int32) (hb hby d1_18) (pc' := 19) rfl rfl ?_
  refine s_icmpY X0 hx (hb hby d1_19) (by decide) (by decide) (pc' := 26) (by decide) ?_
  refine s_iloadN X0 hx (hb hby d1_26) (pc' := 27) rfl rfl ?_
  refine s_iconst X0 hx (3 : Int32) (hb hby d1_27) (pc' := 28) rfl rfl ?_
  refine s_icmpN X0 hx (hb hby d1_28) (pc' := 31) rfl (by decide) ?_
  obtain ⟨T1, X1, e1, st1⟩ := getS X0 hx hZ hown (host := "") (hw _ (List.mem_of_getElem? (i := 24) rfl)) Via.refl e0 S3 (g := (mkF m 31 #[.val (.int (3 : Int32))] [])) rfl (hb hby d1_31)
  refine own_go st1 ?_
  show Goes p e below _ (T1.setTop (mkF m 34 #[.val (.int (3 : Int32))] [.ref aM]))
  exact s_retI X1 hx hlk hret (hb hby d1_34) rfl (Or.inr (Or.inr (Or.inr (Or.inr ⟨rfl, rfl, rfl⟩)))) (by decide) (by decide) ⟨rfl, N0, e1⟩
set_option maxRecDepth 65536 in
set_option maxHeartbeats 40000000 in
theorem rm_1_4 (l : Launch) (Z : State) (a0 : Array Value) (hw : ∀ d ∈ tables_1, d.before a0 Z = true) (ws : List Jvm.Cond) (aG : Addr) (h0 : Heap) (n0 : Nat) (Z0 : n0 ≤ h0.size) (S4 : Sta Z h0 "com/example/libclearance/libclearance/xpath/Comparison" "GREATER" "Lcom/example/libclearance/libclearance/xpath/Comparison;" (.ref aG)) :
    OwnMet l Z (⟨"com/example/libclearance/libclearance/xpath/ComparisonHoldsPinLaw", "pick", "(I)Lcom/example/libclearance/libclearance/xpath/Comparison;"⟩ : MethodName) method_3_code 1 (some (.object "com/example/libclearance/libclearance/xpath/Comparison")) ws ({ frames := 0, cells := 0, slots := 0, locals := 0 } : Room) #[.int (4 : Int32)] h0 (fun v h L => v = some (.ref aG) ∧ Fr n0 L ∧ h = h0) := by
  refine own_met (plainFor_of_name pn_1) (ef_1 (4 : Int32)) ?_
  intro p e s m below meth c s₁ hx hby hml hZ hown hnm hret hlk X0 e0
  have N0 := Fr.nil n0
  refine s_iloadN X0 hx (hb hby d1_0) (pc' := 1) rfl rfl ?_
  refine s_ifY X0 hx (hb hby d1_1) (by decide) (by decide) (pc' := 8) (by decide) ?_
  refine s_iloadN X0 hx (hb hby d1_8) (pc' := 9) rfl rfl ?_
  refine s_iconst X0 hx (1 : Int32) (hb hby d1_9) (pc' := 10) rfl rfl ?_
  refine s_icmpY X0 hx (hb hby d1_10) (by decide) (by decide) (pc' := 17) (by decide) ?_
  refine s_iloadN X0 hx (hb hby d1_17) (pc' := 18) rfl rfl ?_
  refine s_iconst X0 hx (2 : Int32) (hb hby d1_18) (pc' := 19) rfl rfl ?_
  refine s_icmpY X0 hx (hb hby d1_19) (by decide) (by decide) (pc' := 26) (by decide) ?_
  refine s_iloadN X0 hx (hb hby d1_26) (pc' := 27) rfl rfl ?_
  refine s_iconst X0 hx (3 : Int32) (hb hby d1_27) (pc' := 28) rfl rfl ?_
  refine s_icmpY X0 hx (hb hby d1_28) (by decide) (by decide) (pc' := 35) (by decide) ?_
  refine s_iloadN X0 hx (hb hby d1_35) (pc' := 36) rfl rfl ?_
  refine s_iconst X0 hx (4 : Int32) (hb hby d1_36) (pc' := 37) rfl rfl ?_
  refine s_icmpN X0 hx (hb hby d1_37) (pc' := 40) rfl (by decide) ?_
  obtain ⟨T1, X1, e1, st1⟩ := getS X0 hx hZ hown (host := "") (hw _ (List.mem_of_getElem? (i := 17) rfl)) Via.refl e0 S4 (g := (mkF m 40 #[.val (.int (4 : Int32))] [])) rfl (hb hby d1_40)
  refine own_go st1 ?_
  show Goes p e below _ (T1.setTop (mkF m 43 #[.val (.int (4 : Int32))] [.ref aG]))
  exact s_retI X1 hx hlk hret (hb hby d1_43) rfl (Or.inr (Or.inr (Or.inr (Or.inr ⟨rfl, rfl, rfl⟩)))) (by decide) (by decide) ⟨rfl, N0, e1⟩
set_option maxRecDepth 65536 in
set_option maxHeartbeats 40000000 in
theorem rm_1_5 (l : Launch) (Z : State) (a0 : Array Value) (hw : ∀ d ∈ tables_1, d.before a0 Z = true) (ws : List Jvm.Cond) (aH : Addr) (h0 : Heap) (n0 : Nat) (Z0 : n0 ≤ h0.size) (S5 : Sta Z h0 "com/example/libclearance/libclearance/xpath/Comparison" "GREATER_OR_EQUAL" "Lcom/example/libclearance/libclearance/xpath/Comparison;" (.ref aH)) :
    OwnMet l Z (⟨"com/example/libclearance/libclearance/xpath/ComparisonHoldsPinLaw", "pick", "(I)Lcom/example/libclearance/libclearance/xpath/Comparison;"⟩ : MethodName) method_3_code 1 (some (.object "com/example/libclearance/libclearance/xpath/Comparison")) ws ({ frames := 0, cells := 0, slots := 0, locals := 0 } : Room) #[.int (5 : Int32)] h0 (fun v h L => v = some (.ref aH) ∧ Fr n0 L ∧ h = h0) := by
  refine own_met (plainFor_of_name pn_1) (ef_1 (5 : Int32)) ?_
  intro p e s m below meth c s₁ hx hby hml hZ hown hnm hret hlk X0 e0
  have N0 := Fr.nil n0
  refine s_iloadN X0 hx (hb hby d1_0) (pc' := 1) rfl rfl ?_
  refine s_ifY X0 hx (hb hby d1_1) (by decide) (by decide) (pc' := 8) (by decide) ?_
  refine s_iloadN X0 hx (hb hby d1_8) (pc' := 9) rfl rfl ?_
  refine s_iconst X0 hx (1 : Int32) (hb hby d1_9) (pc' := 10) rfl rfl ?_
  refine s_icmpY X0 hx (hb hby d1_10) (by decide) (by decide) (pc' := 17) (by decide) ?_
  refine s_iloadN X0 hx (hb hby d1_17) (pc' := 18) rfl rfl ?_
  refine s_iconst X0 hx (2 : Int32) (hb hby d1_18) (pc' := 19) rfl rfl ?_
  refine s_icmpY X0 hx (hb hby d1_19) (by decide) (by decide) (pc' := 26) (by decide) ?_
  refine s_iloadN X0 hx (hb hby d1_26) (pc' := 27) rfl rfl ?_
  refine s_iconst X0 hx (3 : Int32) (hb hby d1_27) (pc' := 28) rfl rfl ?_
  refine s_icmpY X0 hx (hb hby d1_28) (by decide) (by decide) (pc' := 35) (by decide) ?_
  refine s_iloadN X0 hx (hb hby d1_35) (pc' := 36) rfl rfl ?_
  refine s_iconst X0 hx (4 : Int32) (hb hby d1_36) (pc' := 37) rfl rfl ?_
  refine s_icmpY X0 hx (hb hby d1_37) (by decide) (by decide) (pc' := 44) (by decide) ?_
  obtain ⟨T1, X1, e1, st1⟩ := getS X0 hx hZ hown (host := "") (hw _ (List.mem_of_getElem? (i := 25) rfl)) Via.refl e0 S5 (g := (mkF m 44 #[.val (.int (5 : Int32))] [])) rfl (hb hby d1_44)
  refine own_go st1 ?_
  show Goes p e below _ (T1.setTop (mkF m 47 #[.val (.int (5 : Int32))] [.ref aH]))
  exact s_retI X1 hx hlk hret (hb hby d1_47) rfl (Or.inr (Or.inr (Or.inr (Or.inr ⟨rfl, rfl, rfl⟩)))) (by decide) (by decide) ⟨rfl, N0, e1⟩
theorem d2_0 : decode prog_88_method_6_code 0 = .ok (.aload_n 0, 1) := by decide +kernel
theorem d2_1 : decode prog_88_method_6_code 1 = .ok (.getstatic 3, 3) := by decide +kernel
theorem d2_4 : decode prog_88_method_6_code 4 = .ok (.if_acmp .ne 19, 3) := by decide +kernel
theorem d2_7 : decode prog_88_method_6_code 7 = .ok (.dload_n 1, 1) := by decide +kernel
theorem d2_8 : decode prog_88_method_6_code 8 = .ok (.dload_n 3, 1) := by decide +kernel
theorem d2_9 : decode prog_88_method_6_code 9 = .ok (.dcmp .l, 1) := by decide +kernel
theorem d2_10 : decode prog_88_method_6_code 10 = .ok (.ifCond .ne 7, 3) := by decide +kernel
theorem d2_13 : decode prog_88_method_6_code 13 = .ok (.iconst 1, 1) := by decide +kernel
theorem d2_14 : decode prog_88_method_6_code 14 = .ok (.goto 4, 3) := by decide +kernel
theorem d2_17 : decode prog_88_method_6_code 17 = .ok (.iconst 0, 1) := by decide +kernel
theorem d2_18 : decode prog_88_method_6_code 18 = .ok (.istore 5, 2) := by decide +kernel
theorem d2_20 : decode prog_88_method_6_code 20 = .ok (.goto 108, 3) := by decide +kernel
theorem d2_23 : decode prog_88_method_6_code 23 = .ok (.aload_n 0, 1) := by decide +kernel
theorem d2_24 : decode prog_88_method_6_code 24 = .ok (.getstatic 7, 3) := by decide +kernel
theorem d2_27 : decode prog_88_method_6_code 27 = .ok (.if_acmp .ne 19, 3) := by decide +kernel
theorem d2_30 : decode prog_88_method_6_code 30 = .ok (.dload_n 1, 1) := by decide +kernel
theorem d2_31 : decode prog_88_method_6_code 31 = .ok (.dload_n 3, 1) := by decide +kernel
theorem d2_32 : decode prog_88_method_6_code 32 = .ok (.dcmp .l, 1) := by decide +kernel
theorem d2_33 : decode prog_88_method_6_code 33 = .ok (.ifCond .eq 7, 3) := by decide +kernel
theorem d2_36 : decode prog_88_method_6_code 36 = .ok (.iconst 1, 1) := by decide +kernel
theorem d2_37 : decode prog_88_method_6_code 37 = .ok (.goto 4, 3) := by decide +kernel
theorem d2_40 : decode prog_88_method_6_code 40 = .ok (.iconst 0, 1) := by decide +kernel
theorem d2_41 : decode prog_88_method_6_code 41 = .ok (.istore 5, 2) := by decide +kernel
theorem d2_43 : decode prog_88_method_6_code 43 = .ok (.goto 85, 3) := by decide +kernel
theorem d2_46 : decode prog_88_method_6_code 46 = .ok (.aload_n 0, 1) := by decide +kernel
theorem d2_47 : decode prog_88_method_6_code 47 = .ok (.getstatic 10, 3) := by decide +kernel
theorem d2_50 : decode prog_88_method_6_code 50 = .ok (.if_acmp .ne 19, 3) := by decide +kernel
theorem d2_53 : decode prog_88_method_6_code 53 = .ok (.dload_n 1, 1) := by decide +kernel
theorem d2_54 : decode prog_88_method_6_code 54 = .ok (.dload_n 3, 1) := by decide +kernel
theorem d2_55 : decode prog_88_method_6_code 55 = .ok (.dcmp .g, 1) := by decide +kernel
theorem d2_56 : decode prog_88_method_6_code 56 = .ok (.ifCond .ge 7, 3) := by decide +kernel
theorem d2_59 : decode prog_88_method_6_code 59 = .ok (.iconst 1, 1) := by decide +kernel
theorem d2_60 : decode prog_88_method_6_code 60 = .ok (.goto 4, 3) := by decide +kernel
theorem d2_63 : decode prog_88_method_6_code 63 = .ok (.iconst 0, 1) := by decide +kernel
theorem d2_64 : decode prog_88_method_6_code 64 = .ok (.istore 5, 2) := by decide +kernel
theorem d2_66 : decode prog_88_method_6_code 66 = .ok (.goto 62, 3) := by decide +kernel
theorem d2_69 : decode prog_88_method_6_code 69 = .ok (.aload_n 0, 1) := by decide +kernel
theorem d2_70 : decode prog_88_method_6_code 70 = .ok (.getstatic 13, 3) := by decide +kernel
theorem d2_73 : decode prog_88_method_6_code 73 = .ok (.if_acmp .ne 19, 3) := by decide +kernel
theorem d2_76 : decode prog_88_method_6_code 76 = .ok (.dload_n 1, 1) := by decide +kernel
theorem d2_77 : decode prog_88_method_6_code 77 = .ok (.dload_n 3, 1) := by decide +kernel
theorem d2_78 : decode prog_88_method_6_code 78 = .ok (.dcmp .g, 1) := by decide +kernel
theorem d2_79 : decode prog_88_method_6_code 79 = .ok (.ifCond .gt 7, 3) := by decide +kernel
theorem d2_82 : decode prog_88_method_6_code 82 = .ok (.iconst 1, 1) := by decide +kernel
theorem d2_83 : decode prog_88_method_6_code 83 = .ok (.goto 4, 3) := by decide +kernel
theorem d2_86 : decode prog_88_method_6_code 86 = .ok (.iconst 0, 1) := by decide +kernel
theorem d2_87 : decode prog_88_method_6_code 87 = .ok (.istore 5, 2) := by decide +kernel
theorem d2_89 : decode prog_88_method_6_code 89 = .ok (.goto 39, 3) := by decide +kernel
theorem d2_92 : decode prog_88_method_6_code 92 = .ok (.aload_n 0, 1) := by decide +kernel
theorem d2_93 : decode prog_88_method_6_code 93 = .ok (.getstatic 16, 3) := by decide +kernel
theorem d2_96 : decode prog_88_method_6_code 96 = .ok (.if_acmp .ne 19, 3) := by decide +kernel
theorem d2_99 : decode prog_88_method_6_code 99 = .ok (.dload_n 1, 1) := by decide +kernel
theorem d2_100 : decode prog_88_method_6_code 100 = .ok (.dload_n 3, 1) := by decide +kernel
theorem d2_101 : decode prog_88_method_6_code 101 = .ok (.dcmp .l, 1) := by decide +kernel
theorem d2_102 : decode prog_88_method_6_code 102 = .ok (.ifCond .le 7, 3) := by decide +kernel
theorem d2_105 : decode prog_88_method_6_code 105 = .ok (.iconst 1, 1) := by decide +kernel
theorem d2_106 : decode prog_88_method_6_code 106 = .ok (.goto 4, 3) := by decide +kernel
theorem d2_109 : decode prog_88_method_6_code 109 = .ok (.iconst 0, 1) := by decide +kernel
theorem d2_110 : decode prog_88_method_6_code 110 = .ok (.istore 5, 2) := by decide +kernel
theorem d2_112 : decode prog_88_method_6_code 112 = .ok (.goto 16, 3) := by decide +kernel
theorem d2_115 : decode prog_88_method_6_code 115 = .ok (.dload_n 1, 1) := by decide +kernel
theorem d2_116 : decode prog_88_method_6_code 116 = .ok (.dload_n 3, 1) := by decide +kernel
theorem d2_117 : decode prog_88_method_6_code 117 = .ok (.dcmp .l, 1) := by decide +kernel
theorem d2_118 : decode prog_88_method_6_code 118 = .ok (.ifCond .lt 7, 3) := by decide +kernel
theorem d2_121 : decode prog_88_method_6_code 121 = .ok (.iconst 1, 1) := by decide +kernel
theorem d2_122 : decode prog_88_method_6_code 122 = .ok (.goto 4, 3) := by decide +kernel
theorem d2_125 : decode prog_88_method_6_code 125 = .ok (.iconst 0, 1) := by decide +kernel
theorem d2_126 : decode prog_88_method_6_code 126 = .ok (.istore 5, 2) := by decide +kernel
theorem d2_128 : decode prog_88_method_6_code 128 = .ok (.iload 5, 2) := by decide +kernel
theorem d2_130 : decode prog_88_method_6_code 130 = .ok (.ireturn, 1) := by decide +kernel
theorem pn_2 : plainName "com/example/libclearance/libclearance/xpath/Comparison" = true := by first | (simp [plainName, overriddenIn]; done) | decide +kernel
theorem ef_2 (z0 : Addr) (z1 : UInt64) (z2 : UInt64) (m : MethodId) : entryFrame m #[.ref z0, .double z1, .double z2] 6 = mkF m 0 #[.val (.ref z0), .val (.double z1), .second, .val (.double z2), .second, .unset] [] := by first | (simp [entryFrame, mkF, argsToLocals, Value.category, maxLocals]; done) | rfl
set_option maxRecDepth 65536 in
set_option maxHeartbeats 40000000 in
theorem rm_2_0_lt (l : Launch) (Z : State) (a0 : Array Value) (hw : ∀ d ∈ tables_1, d.before a0 Z = true) (ws : List Jvm.Cond) (x1 : UInt64) (y1 : UInt64) (aE : Addr) (h0 : Heap) (n0 : Nat) (Z0 : n0 ≤ h0.size) (ho : FP.dcmp x1 y1 = some .lt) (S0 : Sta Z h0 "com/example/libclearance/libclearance/xpath/Comparison" "EQUAL" "Lcom/example/libclearance/libclearance/xpath/Comparison;" (.ref aE)) :
    OwnMet l Z (⟨"com/example/libclearance/libclearance/xpath/Comparison", "holds", "(DD)Z"⟩ : MethodName) prog_88_method_6_code 6 (some .boolean) ws ({ frames := 0, cells := 0, slots := 0, locals := 0 } : Room) #[.ref aE, .double x1, .double y1] h0 (fun v h L => v = some (.int (0 : Int32)) ∧ Fr n0 L ∧ h = h0) := by
  refine own_met (plainFor_of_name pn_2) (ef_2 aE x1 y1) ?_
  intro p e s m below meth c s₁ hx hby hml hZ hown hnm hret hlk X0 e0
  have N0 := Fr.nil n0
  refine s_aloadN X0 hx (hb hby d2_0) (pc' := 1) rfl rfl rfl ?_
  obtain ⟨T1, X1, e1, st1⟩ := getS X0 hx hZ hown (host := "") (hw _ (List.mem_of_getElem? (i := 13) rfl)) Via.refl e0 S0 (g := (mkF m 1 #[.val (.ref aE), .val (.double x1), .second, .val (.double y1), .second, .unset] [.ref aE])) rfl (hb hby d2_1)
  refine own_go st1 ?_
  show Goes p e below _ (T1.setTop (mkF m 4 #[.val (.ref aE), .val (.double x1), .second, .val (.double y1), .second, .unset] [.ref aE, .ref aE]))
  refine s_acmpN X1 hx (hb hby d2_4) (pc' := 7) rfl rfl rfl (an_ne rfl) ?_
  refine s_dloadN X1 hx (hb hby d2_7) (pc' := 8) rfl rfl ?_
  refine s_dloadN X1 hx (hb hby d2_8) (pc' := 9) rfl rfl ?_
  refine s_dcmp X1 hx (-1 : Int32) (hb hby d2_9) (pc' := 10) rfl (by rw [ho]; rfl) ?_
  refine s_ifY X1 hx (hb hby d2_10) (by decide) (by decide) (pc' := 17) (by decide) ?_
  refine s_iconst X1 hx (0 : Int32) (hb hby d2_17) (pc' := 18) rfl rfl ?_
  refine s_istore X1 hx #[.val (.ref aE), .val (.double x1), .second, .val (.double y1), .second, .val (.int (0 : Int32))] (hb hby d2_18) (pc' := 20) rfl rfl ?_
  refine s_goto X1 hx (hb hby d2_20) (by decide) (pc' := 128) (by decide) ?_
  refine s_iload X1 hx (hb hby d2_128) (pc' := 130) rfl rfl ?_
  exact s_retI X1 hx hlk hret (hb hby d2_130) rfl (Or.inl ⟨rfl, by simp, _, rfl⟩) (by decide) (by decide) ⟨rfl, N0, e1⟩
set_option maxRecDepth 65536 in
set_option maxHeartbeats 40000000 in
theorem rm_2_0_eq (l : Launch) (Z : State) (a0 : Array Value) (hw : ∀ d ∈ tables_1, d.before a0 Z = true) (ws : List Jvm.Cond) (x1 : UInt64) (y1 : UInt64) (aE : Addr) (h0 : Heap) (n0 : Nat) (Z0 : n0 ≤ h0.size) (ho : FP.dcmp x1 y1 = some .eq) (S0 : Sta Z h0 "com/example/libclearance/libclearance/xpath/Comparison" "EQUAL" "Lcom/example/libclearance/libclearance/xpath/Comparison;" (.ref aE)) :
    OwnMet l Z (⟨"com/example/libclearance/libclearance/xpath/Comparison", "holds", "(DD)Z"⟩ : MethodName) prog_88_method_6_code 6 (some .boolean) ws ({ frames := 0, cells := 0, slots := 0, locals := 0 } : Room) #[.ref aE, .double x1, .double y1] h0 (fun v h L => v = some (.int (1 : Int32)) ∧ Fr n0 L ∧ h = h0) := by
  refine own_met (plainFor_of_name pn_2) (ef_2 aE x1 y1) ?_
  intro p e s m below meth c s₁ hx hby hml hZ hown hnm hret hlk X0 e0
  have N0 := Fr.nil n0
  refine s_aloadN X0 hx (hb hby d2_0) (pc' := 1) rfl rfl rfl ?_
  obtain ⟨T1, X1, e1, st1⟩ := getS X0 hx hZ hown (host := "") (hw _ (List.mem_of_getElem? (i := 13) rfl)) Via.refl e0 S0 (g := (mkF m 1 #[.val (.ref aE), .val (.double x1), .second, .val (.double y1), .second, .unset] [.ref aE])) rfl (hb hby d2_1)
  refine own_go st1 ?_
  show Goes p e below _ (T1.setTop (mkF m 4 #[.val (.ref aE), .val (.double x1), .second, .val (.double y1), .second, .unset] [.ref aE, .ref aE]))
  refine s_acmpN X1 hx (hb hby d2_4) (pc' := 7) rfl rfl rfl (an_ne rfl) ?_
  refine s_dloadN X1 hx (hb hby d2_7) (pc' := 8) rfl rfl ?_
  refine s_dloadN X1 hx (hb hby d2_8) (pc' := 9) rfl rfl ?_
  refine s_dcmp X1 hx (0 : Int32) (hb hby d2_9) (pc' := 10) rfl (by rw [ho]; rfl) ?_
  refine s_ifN X1 hx (hb hby d2_10) (pc' := 13) rfl (by decide) ?_
  refine s_iconst X1 hx (1 : Int32) (hb hby d2_13) (pc' := 14) rfl rfl ?_
  refine s_goto X1 hx (hb hby d2_14) (by decide) (pc' := 18) (by decide) ?_
  refine s_istore X1 hx #[.val (.ref aE), .val (.double x1), .second, .val (.double y1), .second, .val (.int (1 : Int32))] (hb hby d2_18) (pc' := 20) rfl rfl ?_
  refine s_goto X1 hx (hb hby d2_20) (by decide) (pc' := 128) (by decide) ?_
  refine s_iload X1 hx (hb hby d2_128) (pc' := 130) rfl rfl ?_
  exact s_retI X1 hx hlk hret (hb hby d2_130) rfl (Or.inl ⟨rfl, by simp, _, rfl⟩) (by decide) (by decide) ⟨rfl, N0, e1⟩
set_option maxRecDepth 65536 in
set_option maxHeartbeats 40000000 in
theorem rm_2_0_gt (l : Launch) (Z : State) (a0 : Array Value) (hw : ∀ d ∈ tables_1, d.before a0 Z = true) (ws : List Jvm.Cond) (x1 : UInt64) (y1 : UInt64) (aE : Addr) (h0 : Heap) (n0 : Nat) (Z0 : n0 ≤ h0.size) (ho : FP.dcmp x1 y1 = some .gt) (S0 : Sta Z h0 "com/example/libclearance/libclearance/xpath/Comparison" "EQUAL" "Lcom/example/libclearance/libclearance/xpath/Comparison;" (.ref aE)) :
    OwnMet l Z (⟨"com/example/libclearance/libclearance/xpath/Comparison", "holds", "(DD)Z"⟩ : MethodName) prog_88_method_6_code 6 (some .boolean) ws ({ frames := 0, cells := 0, slots := 0, locals := 0 } : Room) #[.ref aE, .double x1, .double y1] h0 (fun v h L => v = some (.int (0 : Int32)) ∧ Fr n0 L ∧ h = h0) := by
  refine own_met (plainFor_of_name pn_2) (ef_2 aE x1 y1) ?_
  intro p e s m below meth c s₁ hx hby hml hZ hown hnm hret hlk X0 e0
  have N0 := Fr.nil n0
  refine s_aloadN X0 hx (hb hby d2_0) (pc' := 1) rfl rfl rfl ?_
  obtain ⟨T1, X1, e1, st1⟩ := getS X0 hx hZ hown (host := "") (hw _ (List.mem_of_getElem? (i := 13) rfl)) Via.refl e0 S0 (g := (mkF m 1 #[.val (.ref aE), .val (.double x1), .second, .val (.double y1), .second, .unset] [.ref aE])) rfl (hb hby d2_1)
  refine own_go st1 ?_
  show Goes p e below _ (T1.setTop (mkF m 4 #[.val (.ref aE), .val (.double x1), .second, .val (.double y1), .second, .unset] [.ref aE, .ref aE]))
  refine s_acmpN X1 hx (hb hby d2_4) (pc' := 7) rfl rfl rfl (an_ne rfl) ?_
  refine s_dloadN X1 hx (hb hby d2_7) (pc' := 8) rfl rfl ?_
  refine s_dloadN X1 hx (hb hby d2_8) (pc' := 9) rfl rfl ?_
  refine s_dcmp X1 hx (1 : Int32) (hb hby d2_9) (pc' := 10) rfl (by rw [ho]; rfl) ?_
  refine s_ifY X1 hx (hb hby d2_10) (by decide) (by decide) (pc' := 17) (by decide) ?_
  refine s_iconst X1 hx (0 : Int32) (hb hby d2_17) (pc' := 18) rfl rfl ?_
  refine s_istore X1 hx #[.val (.ref aE), .val (.double x1), .second, .val (.double y1), .second, .val (.int (0 : Int32))] (hb hby d2_18) (pc' := 20) rfl rfl ?_
  refine s_goto X1 hx (hb hby d2_20) (by decide) (pc' := 128) (by decide) ?_
  refine s_iload X1 hx (hb hby d2_128) (pc' := 130) rfl rfl ?_
  exact s_retI X1 hx hlk hret (hb hby d2_130) rfl (Or.inl ⟨rfl, by simp, _, rfl⟩) (by decide) (by decide) ⟨rfl, N0, e1⟩
set_option maxRecDepth 65536 in
set_option maxHeartbeats 40000000 in
theorem rm_2_1_lt (l : Launch) (Z : State) (a0 : Array Value) (hw : ∀ d ∈ tables_1, d.before a0 Z = true) (ws : List Jvm.Cond) (x1 : UInt64) (y1 : UInt64) (aE : Addr) (aN : Addr) (h0 : Heap) (n0 : Nat) (Z0 : n0 ≤ h0.size) (ho : FP.dcmp x1 y1 = some .lt) (S0 : Sta Z h0 "com/example/libclearance/libclearance/xpath/Comparison" "EQUAL" "Lcom/example/libclearance/libclearance/xpath/Comparison;" (.ref aE)) (S1 : Sta Z h0 "com/example/libclearance/libclearance/xpath/Comparison" "NOT_EQUAL" "Lcom/example/libclearance/libclearance/xpath/Comparison;" (.ref aN)) (q0 : ¬ aN = aE) :
    OwnMet l Z (⟨"com/example/libclearance/libclearance/xpath/Comparison", "holds", "(DD)Z"⟩ : MethodName) prog_88_method_6_code 6 (some .boolean) ws ({ frames := 0, cells := 0, slots := 0, locals := 0 } : Room) #[.ref aN, .double x1, .double y1] h0 (fun v h L => v = some (.int (1 : Int32)) ∧ Fr n0 L ∧ h = h0) := by
  refine own_met (plainFor_of_name pn_2) (ef_2 aN x1 y1) ?_
  intro p e s m below meth c s₁ hx hby hml hZ hown hnm hret hlk X0 e0
  have N0 := Fr.nil n0
  refine s_aloadN X0 hx (hb hby d2_0) (pc' := 1) rfl rfl rfl ?_
  obtain ⟨T1, X1, e1, st1⟩ := getS X0 hx hZ hown (host := "") (hw _ (List.mem_of_getElem? (i := 13) rfl)) Via.refl e0 S0 (g := (mkF m 1 #[.val (.ref aN), .val (.double x1), .second, .val (.double y1), .second, .unset] [.ref aN])) rfl (hb hby d2_1)
  refine own_go st1 ?_
  show Goes p e below _ (T1.setTop (mkF m 4 #[.val (.ref aN), .val (.double x1), .second, .val (.double y1), .second, .unset] [.ref aE, .ref aN]))
  refine s_acmpY X1 hx (hb hby d2_4) rfl rfl (ay_ne q0) (by decide) (pc' := 23) (by decide) ?_
  refine s_aloadN X1 hx (hb hby d2_23) (pc' := 24) rfl rfl rfl ?_
  obtain ⟨T2, X2, e2, st2⟩ := getS X1 hx hZ hown (host := "") (hw _ (List.mem_of_getElem? (i := 16) rfl)) Via.refl e1 S1 (g := (mkF m 24 #[.val (.ref aN), .val (.double x1), .second, .val (.double y1), .second, .unset] [.ref aN])) rfl (hb hby d2_24)
  refine own_go st2 ?_
  show Goes p e below _ (T2.setTop (mkF m 27 #[.val (.ref aN), .val (.double x1), .second, .val (.double y1), .second, .unset] [.ref aN, .ref aN]))
  refine s_acmpN X2 hx (hb hby d2_27) (pc' := 30) rfl rfl rfl (an_ne rfl) ?_
  refine s_dloadN X2 hx (hb hby d2_30) (pc' := 31) rfl rfl ?_
  refine s_dloadN X2 hx (hb hby d2_31) (pc' := 32) rfl rfl ?_
  refine s_dcmp X2 hx (-1 : Int32) (hb hby d2_32) (pc' := 33) rfl (by rw [ho]; rfl) ?_
  refine s_ifN X2 hx (hb hby d2_33) (pc' := 36) rfl (by decide) ?_
  refine s_iconst X2 hx (1 : Int32) (hb hby d2_36) (pc' := 37) rfl rfl ?_
  refine s_goto X2 hx (hb hby d2_37) (by decide) (pc' := 41) (by decide) ?_
  refine s_istore X2 hx #[.val (.ref aN), .val (.double x1), .second, .val (.double y1), .second, .val (.int (1 : Int32))] (hb hby d2_41) (pc' := 43) rfl rfl ?_
  refine s_goto X2 hx (hb hby d2_43) (by decide) (pc' := 128) (by decide) ?_
  refine s_iload X2 hx (hb hby d2_128) (pc' := 130) rfl rfl ?_
  exact s_retI X2 hx hlk hret (hb hby d2_130) rfl (Or.inl ⟨rfl, by simp, _, rfl⟩) (by decide) (by decide) ⟨rfl, N0, e2⟩
set_option maxRecDepth 65536 in
set_option maxHeartbeats 40000000 in
theorem rm_2_1_eq (l : Launch) (Z : State) (a0 : Array Value) (hw : ∀ d ∈ tables_1, d.before a0 Z = true) (ws : List Jvm.Cond) (x1 : UInt64) (y1 : UInt64) (aE : Addr) (aN : Addr) (h0 : Heap) (n0 : Nat) (Z0 : n0 ≤ h0.size) (ho : FP.dcmp x1 y1 = some .eq) (S0 : Sta Z h0 "com/example/libclearance/libclearance/xpath/Comparison" "EQUAL" "Lcom/example/libclearance/libclearance/xpath/Comparison;" (.ref aE)) (S1 : Sta Z h0 "com/example/libclearance/libclearance/xpath/Comparison" "NOT_EQUAL" "Lcom/example/libclearance/libclearance/xpath/Comparison;" (.ref aN)) (q0 : ¬ aN = aE) :
    OwnMet l Z (⟨"com/example/libclearance/libclearance/xpath/Comparison", "holds", "(DD)Z"⟩ : MethodName) prog_88_method_6_code 6 (some .boolean) ws ({ frames := 0, cells := 0, slots := 0, locals := 0 } : Room) #[.ref aN, .double x1, .double y1] h0 (fun v h L => v = some (.int (0 : Int32)) ∧ Fr n0 L ∧ h = h0) := by
  refine own_met (plainFor_of_name pn_2) (ef_2 aN x1 y1) ?_
  intro p e s m below meth c s₁ hx hby hml hZ hown hnm hret hlk X0 e0
  have N0 := Fr.nil n0
  refine s_aloadN X0 hx (hb hby d2_0) (pc' := 1) rfl rfl rfl ?_
  obtain ⟨T1, X1, e1, st1⟩ := getS X0 hx hZ hown (host := "") (hw _ (List.mem_of_getElem? (i := 13) rfl)) Via.refl e0 S0 (g := (mkF m 1 #[.val (.ref aN), .val (.double x1), .second, .val (.double y1), .second, .unset] [.ref aN])) rfl (hb hby d2_1)
  refine own_go st1 ?_
  show Goes p e below _ (T1.setTop (mkF m 4 #[.val (.ref aN), .val (.double x1), .second, .val (.double y1), .second, .unset] [.ref aE, .ref aN]))
  refine s_acmpY X1 hx (hb hby d2_4) rfl rfl (ay_ne q0) (by decide) (pc' := 23) (by decide) ?_
  refine s_aloadN X1 hx (hb hby d2_23) (pc' := 24) rfl rfl rfl ?_
  obtain ⟨T2, X2, e2, st2⟩ := getS X1 hx hZ hown (host := "") (hw _ (List.mem_of_getElem? (i := 16) rfl)) Via.refl e1 S1 (g := (mkF m 24 #[.val (.ref aN), .val (.double x1), .second, .val (.double y1), .second, .unset] [.ref aN])) rfl (hb hby d2_24)
  refine own_go st2 ?_
  show Goes p e below _ (T2.setTop (mkF m 27 #[.val (.ref aN), .val (.double x1), .second, .val (.double y1), .second, .unset] [.ref aN, .ref aN]))
  refine s_acmpN X2 hx (hb hby d2_27) (pc' := 30) rfl rfl rfl (an_ne rfl) ?_
  refine s_dloadN X2 hx (hb hby d2_30) (pc' := 31) rfl rfl ?_
  refine s_dloadN X2 hx (hb hby d2_31) (pc' := 32) rfl rfl ?_
  refine s_dcmp X2 hx (0 : Int32) (hb hby d2_32) (pc' := 33) rfl (by rw [ho]; rfl) ?_
  refine s_ifY X2 hx (hb hby d2_33) (by decide) (by decide) (pc' := 40) (by decide) ?_
  refine s_iconst X2 hx (0 : Int32) (hb hby d2_40) (pc' := 41) rfl rfl ?_
  refine s_istore X2 hx #[.val (.ref aN), .val (.double x1), .second, .val (.double y1), .second, .val (.int (0 : Int32))] (hb hby d2_41) (pc' := 43) rfl rfl ?_
  refine s_goto X2 hx (hb hby d2_43) (by decide) (pc' := 128) (by decide) ?_
  refine s_iload X2 hx (hb hby d2_128) (pc' := 130) rfl rfl ?_
  exact s_retI X2 hx hlk hret (hb hby d2_130) rfl (Or.inl ⟨rfl, by simp, _, rfl⟩) (by decide) (by decide) ⟨rfl, N0, e2⟩
set_option maxRecDepth 65536 in
set_option maxHeartbeats 40000000 in
theorem rm_2_1_gt (l : Launch) (Z : State) (a0 : Array Value) (hw : ∀ d ∈ tables_1, d.before a0 Z = true) (ws : List Jvm.Cond) (x1 : UInt64) (y1 : UInt64) (aE : Addr) (aN : Addr) (h0 : Heap) (n0 : Nat) (Z0 : n0 ≤ h0.size) (ho : FP.dcmp x1 y1 = some .gt) (S0 : Sta Z h0 "com/example/libclearance/libclearance/xpath/Comparison" "EQUAL" "Lcom/example/libclearance/libclearance/xpath/Comparison;" (.ref aE)) (S1 : Sta Z h0 "com/example/libclearance/libclearance/xpath/Comparison" "NOT_EQUAL" "Lcom/example/libclearance/libclearance/xpath/Comparison;" (.ref aN)) (q0 : ¬ aN = aE) :
    OwnMet l Z (⟨"com/example/libclearance/libclearance/xpath/Comparison", "holds", "(DD)Z"⟩ : MethodName) prog_88_method_6_code 6 (some .boolean) ws ({ frames := 0, cells := 0, slots := 0, locals := 0 } : Room) #[.ref aN, .double x1, .double y1] h0 (fun v h L => v = some (.int (1 : Int32)) ∧ Fr n0 L ∧ h = h0) := by
  refine own_met (plainFor_of_name pn_2) (ef_2 aN x1 y1) ?_
  intro p e s m below meth c s₁ hx hby hml hZ hown hnm hret hlk X0 e0
  have N0 := Fr.nil n0
  refine s_aloadN X0 hx (hb hby d2_0) (pc' := 1) rfl rfl rfl ?_
  obtain ⟨T1, X1, e1, st1⟩ := getS X0 hx hZ hown (host := "") (hw _ (List.mem_of_getElem? (i := 13) rfl)) Via.refl e0 S0 (g := (mkF m 1 #[.val (.ref aN), .val (.double x1), .second, .val (.double y1), .second, .unset] [.ref aN])) rfl (hb hby d2_1)
  refine own_go st1 ?_
  show Goes p e below _ (T1.setTop (mkF m 4 #[.val (.ref aN), .val (.double x1), .second, .val (.double y1), .second, .unset] [.ref aE, .ref aN]))
  refine s_acmpY X1 hx (hb hby d2_4) rfl rfl (ay_ne q0) (by decide) (pc' := 23) (by decide) ?_
  refine s_aloadN X1 hx (hb hby d2_23) (pc' := 24) rfl rfl rfl ?_
  obtain ⟨T2, X2, e2, st2⟩ := getS X1 hx hZ hown (host := "") (hw _ (List.mem_of_getElem? (i := 16) rfl)) Via.refl e1 S1 (g := (mkF m 24 #[.val (.ref aN), .val (.double x1), .second, .val (.double y1), .second, .unset] [.ref aN])) rfl (hb hby d2_24)
  refine own_go st2 ?_
  show Goes p e below _ (T2.setTop (mkF m 27 #[.val (.ref aN), .val (.double x1), .second, .val (.double y1), .second, .unset] [.ref aN, .ref aN]))
  refine s_acmpN X2 hx (hb hby d2_27) (pc' := 30) rfl rfl rfl (an_ne rfl) ?_
  refine s_dloadN X2 hx (hb hby d2_30) (pc' := 31) rfl rfl ?_
  refine s_dloadN X2 hx (hb hby d2_31) (pc' := 32) rfl rfl ?_
  refine s_dcmp X2 hx (1 : Int32) (hb hby d2_32) (pc' := 33) rfl (by rw [ho]; rfl) ?_
  refine s_ifN X2 hx (hb hby d2_33) (pc' := 36) rfl (by decide) ?_
  refine s_iconst X2 hx (1 : Int32) (hb hby d2_36) (pc' := 37) rfl rfl ?_
  refine s_goto X2 hx (hb hby d2_37) (by decide) (pc' := 41) (by decide) ?_
  refine s_istore X2 hx #[.val (.ref aN), .val (.double x1), .second, .val (.double y1), .second, .val (.int (1 : Int32))] (hb hby d2_41) (pc' := 43) rfl rfl ?_
  refine s_goto X2 hx (hb hby d2_43) (by decide) (pc' := 128) (by decide) ?_
  refine s_iload X2 hx (hb hby d2_128) (pc' := 130) rfl rfl ?_
  exact s_retI X2 hx hlk hret (hb hby d2_130) rfl (Or.inl ⟨rfl, by simp, _, rfl⟩) (by decide) (by decide) ⟨rfl, N0, e2⟩
set_option maxRecDepth 65536 in
set_option maxHeartbeats 40000000 in
theorem rm_2_2_lt (l : Launch) (Z : State) (a0 : Array Value) (hw : ∀ d ∈ tables_1, d.before a0 Z = true) (ws : List Jvm.Cond) (x1 : UInt64) (y1 : UInt64) (aE : Addr) (aN : Addr) (aL : Addr) (h0 : Heap) (n0 : Nat) (Z0 : n0 ≤ h0.size) (ho : FP.dcmp x1 y1 = some .lt) (S0 : Sta Z h0 "com/example/libclearance/libclearance/xpath/Comparison" "EQUAL" "Lcom/example/libclearance/libclearance/xpath/Comparison;" (.ref aE)) (S1 : Sta Z h0 "com/example/libclearance/libclearance/xpath/Comparison" "NOT_EQUAL" "Lcom/example/libclearance/libclearance/xpath/Comparison;" (.ref aN)) (S2 : Sta Z h0 "com/example/libclearance/libclearance/xpath/Comparison" "LESS" "Lcom/example/libclearance/libclearance/xpath/Comparison;" (.ref aL)) (q0 : ¬ aL = aE) (q1 : ¬ aL = aN) :
    OwnMet l Z (⟨"com/example/libclearance/libclearance/xpath/Comparison", "holds", "(DD)Z"⟩ : MethodName) prog_88_method_6_code 6 (some .boolean) ws ({ frames := 0, cells := 0, slots := 0, locals := 0 } : Room) #[.ref aL, .double x1, .double y1] h0 (fun v h L => v = some (.int (1 : Int32)) ∧ Fr n0 L ∧ h = h0) := by
  refine own_met (plainFor_of_name pn_2) (ef_2 aL x1 y1) ?_
  intro p e s m below meth c s₁ hx hby hml hZ hown hnm hret hlk X0 e0
  have N0 := Fr.nil n0
  refine s_aloadN X0 hx (hb hby d2_0) (pc' := 1) rfl rfl rfl ?_
  obtain ⟨T1, X1, e1, st1⟩ := getS X0 hx hZ hown (host := "") (hw _ (List.mem_of_getElem? (i := 13) rfl)) Via.refl e0 S0 (g := (mkF m 1 #[.val (.ref aL), .val (.double x1), .second, .val (.double y1), .second, .unset] [.ref aL])) rfl (hb hby d2_1)
  refine own_go st1 ?_
  show Goes p e below _ (T1.setTop (mkF m 4 #[.val (.ref aL), .val (.double x1), .second, .val (.double y1), .second, .unset] [.ref aE, .ref aL]))
  refine s_acmpY X1 hx (hb hby d2_4) rfl rfl (ay_ne q0) (by decide) (pc' := 23) (by decide) ?_
  refine s_aloadN X1 hx (hb hby d2_23) (pc' := 24) rfl rfl rfl ?_
  obtain ⟨T2, X2, e2, st2⟩ := getS X1 hx hZ hown (host := "") (hw _ (List.mem_of_getElem? (i := 16) rfl)) Via.refl e1 S1 (g := (mkF m 24 #[.val (.ref aL), .val (.double x1), .second, .val (.double y1), .second, .unset] [.ref aL])) rfl (hb hby d2_24)
  refine own_go st2 ?_
  show Goes p e below _ (T2.setTop (mkF m 27 #[.val (.ref aL), .val (.double x1), .second, .val (.double y1), .second, .unset] [.ref aN, .ref aL]))
  refine s_acmpY X2 hx (hb hby d2_27) rfl rfl (ay_ne q1) (by decide) (pc' := 46) (by decide) ?_
  refine s_aloadN X2 hx (hb hby d2_46) (pc' := 47) rfl rfl rfl ?_
  obtain ⟨T3, X3, e3, st3⟩ := getS X2 hx hZ hown (host := "") (hw _ (List.mem_of_getElem? (i := 19) rfl)) Via.refl e2 S2 (g := (mkF m 47 #[.val (.ref aL), .val (.double x1), .second, .val (.double y1), .second, .unset] [.ref aL])) rfl (hb hby d2_47)
  refine own_go st3 ?_
  show Goes p e below _ (T3.setTop (mkF m 50 #[.val (.ref aL), .val (.double x1), .second, .val (.double y1), .second, .unset] [.ref aL, .ref aL]))
  refine s_acmpN X3 hx (hb hby d2_50) (pc' := 53) rfl rfl rfl (an_ne rfl) ?_
  refine s_dloadN X3 hx (hb hby d2_53) (pc' := 54) rfl rfl ?_
  refine s_dloadN X3 hx (hb hby d2_54) (pc' := 55) rfl rfl ?_
  refine s_dcmp X3 hx (-1 : Int32) (hb hby d2_55) (pc' := 56) rfl (by rw [ho]; rfl) ?_
  refine s_ifN X3 hx (hb hby d2_56) (pc' := 59) rfl (by decide) ?_
  refine s_iconst X3 hx (1 : Int32) (hb hby d2_59) (pc' := 60) rfl rfl ?_
  refine s_goto X3 hx (hb hby d2_60) (by decide) (pc' := 64) (by decide) ?_
  refine s_istore X3 hx #[.val (.ref aL), .val (.double x1), .second, .val (.double y1), .second, .val (.int (1 : Int32))] (hb hby d2_64) (pc' := 66) rfl rfl ?_
  refine s_goto X3 hx (hb hby d2_66) (by decide) (pc' := 128) (by decide) ?_
  refine s_iload X3 hx (hb hby d2_128) (pc' := 130) rfl rfl ?_
  exact s_retI X3 hx hlk hret (hb hby d2_130) rfl (Or.inl ⟨rfl, by simp, _, rfl⟩) (by decide) (by decide) ⟨rfl, N0, e3⟩
set_option maxRecDepth 65536 in
set_option maxHeartbeats 40000000 in
theorem rm_2_2_eq (l : Launch) (Z : State) (a0 : Array Value) (hw : ∀ d ∈ tables_1, d.before a0 Z = true) (ws : List Jvm.Cond) (x1 : UInt64) (y1 : UInt64) (aE : Addr) (aN : Addr) (aL : Addr) (h0 : Heap) (n0 : Nat) (Z0 : n0 ≤ h0.size) (ho : FP.dcmp x1 y1 = some .eq) (S0 : Sta Z h0 "com/example/libclearance/libclearance/xpath/Comparison" "EQUAL" "Lcom/example/libclearance/libclearance/xpath/Comparison;" (.ref aE)) (S1 : Sta Z h0 "com/example/libclearance/libclearance/xpath/Comparison" "NOT_EQUAL" "Lcom/example/libclearance/libclearance/xpath/Comparison;" (.ref aN)) (S2 : Sta Z h0 "com/example/libclearance/libclearance/xpath/Comparison" "LESS" "Lcom/example/libclearance/libclearance/xpath/Comparison;" (.ref aL)) (q0 : ¬ aL = aE) (q1 : ¬ aL = aN) :
    OwnMet l Z (⟨"com/example/libclearance/libclearance/xpath/Comparison", "holds", "(DD)Z"⟩ : MethodName) prog_88_method_6_code 6 (some .boolean) ws ({ frames := 0, cells := 0, slots := 0, locals := 0 } : Room) #[.ref aL, .double x1, .double y1] h0 (fun v h L => v = some (.int (0 : Int32)) ∧ Fr n0 L ∧ h = h0) := by
  refine own_met (plainFor_of_name pn_2) (ef_2 aL x1 y1) ?_
  intro p e s m below meth c s₁ hx hby hml hZ hown hnm hret hlk X0 e0
  have N0 := Fr.nil n0
  refine s_aloadN X0 hx (hb hby d2_0) (pc' := 1) rfl rfl rfl ?_
  obtain ⟨T1, X1, e1, st1⟩ := getS X0 hx hZ hown (host := "") (hw _ (List.mem_of_getElem? (i := 13) rfl)) Via.refl e0 S0 (g := (mkF m 1 #[.val (.ref aL), .val (.double x1), .second, .val (.double y1), .second, .unset] [.ref aL])) rfl (hb hby d2_1)
  refine own_go st1 ?_
  show Goes p e below _ (T1.setTop (mkF m 4 #[.val (.ref aL), .val (.double x1), .second, .val (.double y1), .second, .unset] [.ref aE, .ref aL]))
  refine s_acmpY X1 hx (hb hby d2_4) rfl rfl (ay_ne q0) (by decide) (pc' := 23) (by decide) ?_
  refine s_aloadN X1 hx (hb hby d2_23) (pc' := 24) rfl rfl rfl ?_
  obtain ⟨T2, X2, e2, st2⟩ := getS X1 hx hZ hown (host := "") (hw _ (List.mem_of_getElem? (i := 16) rfl)) Via.refl e1 S1 (g := (mkF m 24 #[.val (.ref aL), .val (.double x1), .second, .val (.double y1), .second, .unset] [.ref aL])) rfl (hb hby d2_24)
  refine own_go st2 ?_
  show Goes p e below _ (T2.setTop (mkF m 27 #[.val (.ref aL), .val (.double x1), .second, .val (.double y1), .second, .unset] [.ref aN, .ref aL]))
  refine s_acmpY X2 hx (hb hby d2_27) rfl rfl (ay_ne q1) (by decide) (pc' := 46) (by decide) ?_
  refine s_aloadN X2 hx (hb hby d2_46) (pc' := 47) rfl rfl rfl ?_
  obtain ⟨T3, X3, e3, st3⟩ := getS X2 hx hZ hown (host := "") (hw _ (List.mem_of_getElem? (i := 19) rfl)) Via.refl e2 S2 (g := (mkF m 47 #[.val (.ref aL), .val (.double x1), .second, .val (.double y1), .second, .unset] [.ref aL])) rfl (hb hby d2_47)
  refine own_go st3 ?_
  show Goes p e below _ (T3.setTop (mkF m 50 #[.val (.ref aL), .val (.double x1), .second, .val (.double y1), .second, .unset] [.ref aL, .ref aL]))
  refine s_acmpN X3 hx (hb hby d2_50) (pc' := 53) rfl rfl rfl (an_ne rfl) ?_
  refine s_dloadN X3 hx (hb hby d2_53) (pc' := 54) rfl rfl ?_
  refine s_dloadN X3 hx (hb hby d2_54) (pc' := 55) rfl rfl ?_
  refine s_dcmp X3 hx (0 : Int32) (hb hby d2_55) (pc' := 56) rfl (by rw [ho]; rfl) ?_
  refine s_ifY X3 hx (hb hby d2_56) (by decide) (by decide) (pc' := 63) (by decide) ?_
  refine s_iconst X3 hx (0 : Int32) (hb hby d2_63) (pc' := 64) rfl rfl ?_
  refine s_istore X3 hx #[.val (.ref aL), .val (.double x1), .second, .val (.double y1), .second, .val (.int (0 : Int32))] (hb hby d2_64) (pc' := 66) rfl rfl ?_
  refine s_goto X3 hx (hb hby d2_66) (by decide) (pc' := 128) (by decide) ?_
  refine s_iload X3 hx (hb hby d2_128) (pc' := 130) rfl rfl ?_
  exact s_retI X3 hx hlk hret (hb hby d2_130) rfl (Or.inl ⟨rfl, by simp, _, rfl⟩) (by decide) (by decide) ⟨rfl, N0, e3⟩
set_option maxRecDepth 65536 in
set_option maxHeartbeats 40000000 in
theorem rm_2_2_gt (l : Launch) (Z : State) (a0 : Array Value) (hw : ∀ d ∈ tables_1, d.before a0 Z = true) (ws : List Jvm.Cond) (x1 : UInt64) (y1 : UInt64) (aE : Addr) (aN : Addr) (aL : Addr) (h0 : Heap) (n0 : Nat) (Z0 : n0 ≤ h0.size) (ho : FP.dcmp x1 y1 = some .gt) (S0 : Sta Z h0 "com/example/libclearance/libclearance/xpath/Comparison" "EQUAL" "Lcom/example/libclearance/libclearance/xpath/Comparison;" (.ref aE)) (S1 : Sta Z h0 "com/example/libclearance/libclearance/xpath/Comparison" "NOT_EQUAL" "Lcom/example/libclearance/libclearance/xpath/Comparison;" (.ref aN)) (S2 : Sta Z h0 "com/example/libclearance/libclearance/xpath/Comparison" "LESS" "Lcom/example/libclearance/libclearance/xpath/Comparison;" (.ref aL)) (q0 : ¬ aL = aE) (q1 : ¬ aL = aN) :
    OwnMet l Z (⟨"com/example/libclearance/libclearance/xpath/Comparison", "holds", "(DD)Z"⟩ : MethodName) prog_88_method_6_code 6 (some .boolean) ws ({ frames := 0, cells := 0, slots := 0, locals := 0 } : Room) #[.ref aL, .double x1, .double y1] h0 (fun v h L => v = some (.int (0 : Int32)) ∧ Fr n0 L ∧ h = h0) := by
  refine own_met (plainFor_of_name pn_2) (ef_2 aL x1 y1) ?_
  intro p e s m below meth c s₁ hx hby hml hZ hown hnm hret hlk X0 e0
  have N0 := Fr.nil n0
  refine s_aloadN X0 hx (hb hby d2_0) (pc' := 1) rfl rfl rfl ?_
  obtain ⟨T1, X1, e1, st1⟩ := getS X0 hx hZ hown (host := "") (hw _ (List.mem_of_getElem? (i := 13) rfl)) Via.refl e0 S0 (g := (mkF m 1 #[.val (.ref aL), .val (.double x1), .second, .val (.double y1), .second, .unset] [.ref aL])) rfl (hb hby d2_1)
  refine own_go st1 ?_
  show Goes p e below _ (T1.setTop (mkF m 4 #[.val (.ref aL), .val (.double x1), .second, .val (.double y1), .second, .unset] [.ref aE, .ref aL]))
  refine s_acmpY X1 hx (hb hby d2_4) rfl rfl (ay_ne q0) (by decide) (pc' := 23) (by decide) ?_
  refine s_aloadN X1 hx (hb hby d2_23) (pc' := 24) rfl rfl rfl ?_
  obtain ⟨T2, X2, e2, st2⟩ := getS X1 hx hZ hown (host := "") (hw _ (List.mem_of_getElem? (i := 16) rfl)) Via.refl e1 S1 (g := (mkF m 24 #[.val (.ref aL), .val (.double x1), .second, .val (.double y1), .second, .unset] [.ref aL])) rfl (hb hby d2_24)
  refine own_go st2 ?_
  show Goes p e below _ (T2.setTop (mkF m 27 #[.val (.ref aL), .val (.double x1), .second, .val (.double y1), .second, .unset] [.ref aN, .ref aL]))
  refine s_acmpY X2 hx (hb hby d2_27) rfl rfl (ay_ne q1) (by decide) (pc' := 46) (by decide) ?_
  refine s_aloadN X2 hx (hb hby d2_46) (pc' := 47) rfl rfl rfl ?_
  obtain ⟨T3, X3, e3, st3⟩ := getS X2 hx hZ hown (host := "") (hw _ (List.mem_of_getElem? (i := 19) rfl)) Via.refl e2 S2 (g := (mkF m 47 #[.val (.ref aL), .val (.double x1), .second, .val (.double y1), .second, .unset] [.ref aL])) rfl (hb hby d2_47)
  refine own_go st3 ?_
  show Goes p e below _ (T3.setTop (mkF m 50 #[.val (.ref aL), .val (.double x1), .second, .val (.double y1), .second, .unset] [.ref aL, .ref aL]))
  refine s_acmpN X3 hx (hb hby d2_50) (pc' := 53) rfl rfl rfl (an_ne rfl) ?_
  refine s_dloadN X3 hx (hb hby d2_53) (pc' := 54) rfl rfl ?_
  refine s_dloadN X3 hx (hb hby d2_54) (pc' := 55) rfl rfl ?_
  refine s_dcmp X3 hx (1 : Int32) (hb hby d2_55) (pc' := 56) rfl (by rw [ho]; rfl) ?_
  refine s_ifY X3 hx (hb hby d2_56) (by decide) (by decide) (pc' := 63) (by decide) ?_
  refine s_iconst X3 hx (0 : Int32) (hb hby d2_63) (pc' := 64) rfl rfl ?_
  refine s_istore X3 hx #[.val (.ref aL), .val (.double x1), .second, .val (.double y1), .second, .val (.int (0 : Int32))] (hb hby d2_64) (pc' := 66) rfl rfl ?_
  refine s_goto X3 hx (hb hby d2_66) (by decide) (pc' := 128) (by decide) ?_
  refine s_iload X3 hx (hb hby d2_128) (pc' := 130) rfl rfl ?_
  exact s_retI X3 hx hlk hret (hb hby d2_130) rfl (Or.inl ⟨rfl, by simp, _, rfl⟩) (by decide) (by decide) ⟨rfl, N0, e3⟩
set_option maxRecDepth 65536 in
set_option maxHeartbeats 40000000 in
theorem rm_2_3_lt (l : Launch) (Z : State) (a0 : Array Value) (hw : ∀ d ∈ tables_1, d.before a0 Z = true) (ws : List Jvm.Cond) (x1 : UInt64) (y1 : UInt64) (aE : Addr) (aN : Addr) (aL : Addr) (aM : Addr) (h0 : Heap) (n0 : Nat) (Z0 : n0 ≤ h0.size) (ho : FP.dcmp x1 y1 = some .lt) (S0 : Sta Z h0 "com/example/libclearance/libclearance/xpath/Comparison" "EQUAL" "Lcom/example/libclearance/libclearance/xpath/Comparison;" (.ref aE)) (S1 : Sta Z h0 "com/example/libclearance/libclearance/xpath/Comparison" "NOT_EQUAL" "Lcom/example/libclearance/libclearance/xpath/Comparison;" (.ref aN)) (S2 : Sta Z h0 "com/example/libclearance/libclearance/xpath/Comparison" "LESS" "Lcom/example/libclearance/libclearance/xpath/Comparison;" (.ref aL)) (S3 : Sta Z h0 "com/example/libclearance/libclearance/xpath/Comparison" "LESS_OR_EQUAL" "Lcom/example/libclearance/libclearance/xpath/Comparison;" (.ref aM)) (q0 : ¬ aM = aE) (q1 : ¬ aM = aN) (q2 : ¬ aM = aL) :
    OwnMet l Z (⟨"com/example/libclearance/libclearance/xpath/Comparison", "holds", "(DD)Z"⟩ : MethodName) prog_88_method_6_code 6 (some .boolean) ws ({ frames := 0, cells := 0, slots := 0, locals := 0 } : Room) #[.ref aM, .double x1, .double y1] h0 (fun v h L => v = some (.int (1 : Int32)) ∧ Fr n0 L ∧ h = h0) := by
  refine own_met (plainFor_of_name pn_2) (ef_2 aM x1 y1) ?_
  intro p e s m below meth c s₁ hx hby hml hZ hown hnm hret hlk X0 e0
  have N0 := Fr.nil n0
  refine s_aloadN X0 hx (hb hby d2_0) (pc' := 1) rfl rfl rfl ?_
  obtain ⟨T1, X1, e1, st1⟩ := getS X0 hx hZ hown (host := "") (hw _ (List.mem_of_getElem? (i := 13) rfl)) Via.refl e0 S0 (g := (mkF m 1 #[.val (.ref aM), .val (.double x1), .second, .val (.double y1), .second, .unset] [.ref aM])) rfl (hb hby d2_1)
  refine own_go st1 ?_
  show Goes p e below _ (T1.setTop (mkF m 4 #[.val (.ref aM), .val (.double x1), .second, .val (.double y1), .second, .unset] [.ref aE, .ref aM]))
  refine s_acmpY X1 hx (hb hby d2_4) rfl rfl (ay_ne q0) (by decide) (pc' := 23) (by decide) ?_
  refine s_aloadN X1 hx (hb hby d2_23) (pc' := 24) rfl rfl rfl ?_
  obtain ⟨T2, X2, e2, st2⟩ := getS X1 hx hZ hown (host := "") (hw _ (List.mem_of_getElem? (i := 16) rfl)) Via.refl e1 S1 (g := (mkF m 24 #[.val (.ref aM), .val (.double x1), .second, .val (.double y1), .second, .unset] [.ref aM])) rfl (hb hby d2_24)
  refine own_go st2 ?_
  show Goes p e below _ (T2.setTop (mkF m 27 #[.val (.ref aM), .val (.double x1), .second, .val (.double y1), .second, .unset] [.ref aN, .ref aM]))
  refine s_acmpY X2 hx (hb hby d2_27) rfl rfl (ay_ne q1) (by decide) (pc' := 46) (by decide) ?_
  refine s_aloadN X2 hx (hb hby d2_46) (pc' := 47) rfl rfl rfl ?_
  obtain ⟨T3, X3, e3, st3⟩ := getS X2 hx hZ hown (host := "") (hw _ (List.mem_of_getElem? (i := 19) rfl)) Via.refl e2 S2 (g := (mkF m 47 #[.val (.ref aM), .val (.double x1), .second, .val (.double y1), .second, .unset] [.ref aM])) rfl (hb hby d2_47)
  refine own_go st3 ?_
  show Goes p e below _ (T3.setTop (mkF m 50 #[.val (.ref aM), .val (.double x1), .second, .val (.double y1), .second, .unset] [.ref aL, .ref aM]))
  refine s_acmpY X3 hx (hb hby d2_50) rfl rfl (ay_ne q2) (by decide) (pc' := 69) (by decide) ?_
  refine s_aloadN X3 hx (hb hby d2_69) (pc' := 70) rfl rfl rfl ?_
  obtain ⟨T4, X4, e4, st4⟩ := getS X3 hx hZ hown (host := "") (hw _ (List.mem_of_getElem? (i := 21) rfl)) Via.refl e3 S3 (g := (mkF m 70 #[.val (.ref aM), .val (.double x1), .second, .val (.double y1), .second, .unset] [.ref aM])) rfl (hb hby d2_70)
  refine own_go st4 ?_
  show Goes p e below _ (T4.setTop (mkF m 73 #[.val (.ref aM), .val (.double x1), .second, .val (.double y1), .second, .unset] [.ref aM, .ref aM]))
  refine s_acmpN X4 hx (hb hby d2_73) (pc' := 76) rfl rfl rfl (an_ne rfl) ?_
  refine s_dloadN X4 hx (hb hby d2_76) (pc' := 77) rfl rfl ?_
  refine s_dloadN X4 hx (hb hby d2_77) (pc' := 78) rfl rfl ?_
  refine s_dcmp X4 hx (-1 : Int32) (hb hby d2_78) (pc' := 79) rfl (by rw [ho]; rfl) ?_
  refine s_ifN X4 hx (hb hby d2_79) (pc' := 82) rfl (by decide) ?_
  refine s_iconst X4 hx (1 : Int32) (hb hby d2_82) (pc' := 83) rfl rfl ?_
  refine s_goto X4 hx (hb hby d2_83) (by decide) (pc' := 87) (by decide) ?_
  refine s_istore X4 hx #[.val (.ref aM), .val (.double x1), .second, .val (.double y1), .second, .val (.int (1 : Int32))] (hb hby d2_87) (pc' := 89) rfl rfl ?_
  refine s_goto X4 hx (hb hby d2_89) (by decide) (pc' := 128) (by decide) ?_
  refine s_iload X4 hx (hb hby d2_128) (pc' := 130) rfl rfl ?_
  exact s_retI X4 hx hlk hret (hb hby d2_130) rfl (Or.inl ⟨rfl, by simp, _, rfl⟩) (by decide) (by decide) ⟨rfl, N0, e4⟩
set_option maxRecDepth 65536 in
set_option maxHeartbeats 40000000 in
theorem rm_2_3_eq (l : Launch) (Z : State) (a0 : Array Value) (hw : ∀ d ∈ tables_1, d.before a0 Z = true) (ws : List Jvm.Cond) (x1 : UInt64) (y1 : UInt64) (aE : Addr) (aN : Addr) (aL : Addr) (aM : Addr) (h0 : Heap) (n0 : Nat) (Z0 : n0 ≤ h0.size) (ho : FP.dcmp x1 y1 = some .eq) (S0 : Sta Z h0 "com/example/libclearance/libclearance/xpath/Comparison" "EQUAL" "Lcom/example/libclearance/libclearance/xpath/Comparison;" (.ref aE)) (S1 : Sta Z h0 "com/example/libclearance/libclearance/xpath/Comparison" "NOT_EQUAL" "Lcom/example/libclearance/libclearance/xpath/Comparison;" (.ref aN)) (S2 : Sta Z h0 "com/example/libclearance/libclearance/xpath/Comparison" "LESS" "Lcom/example/libclearance/libclearance/xpath/Comparison;" (.ref aL)) (S3 : Sta Z h0 "com/example/libclearance/libclearance/xpath/Comparison" "LESS_OR_EQUAL" "Lcom/example/libclearance/libclearance/xpath/Comparison;" (.ref aM)) (q0 : ¬ aM = aE) (q1 : ¬ aM = aN) (q2 : ¬ aM = aL) :
    OwnMet l Z (⟨"com/example/libclearance/libclearance/xpath/Comparison", "holds", "(DD)Z"⟩ : MethodName) prog_88_method_6_code 6 (some .boolean) ws ({ frames := 0, cells := 0, slots := 0, locals := 0 } : Room) #[.ref aM, .double x1, .double y1] h0 (fun v h L => v = some (.int (1 : Int32)) ∧ Fr n0 L ∧ h = h0) := by
  refine own_met (plainFor_of_name pn_2) (ef_2 aM x1 y1) ?_
  intro p e s m below meth c s₁ hx hby hml hZ hown hnm hret hlk X0 e0
  have N0 := Fr.nil n0
  refine s_aloadN X0 hx (hb hby d2_0) (pc' := 1) rfl rfl rfl ?_
  obtain ⟨T1, X1, e1, st1⟩ := getS X0 hx hZ hown (host := "") (hw _ (List.mem_of_getElem? (i := 13) rfl)) Via.refl e0 S0 (g := (mkF m 1 #[.val (.ref aM), .val (.double x1), .second, .val (.double y1), .second, .unset] [.ref aM])) rfl (hb hby d2_1)
  refine own_go st1 ?_
  show Goes p e below _ (T1.setTop (mkF m 4 #[.val (.ref aM), .val (.double x1), .second, .val (.double y1), .second, .unset] [.ref aE, .ref aM]))
  refine s_acmpY X1 hx (hb hby d2_4) rfl rfl (ay_ne q0) (by decide) (pc' := 23) (by decide) ?_
  refine s_aloadN X1 hx (hb hby d2_23) (pc' := 24) rfl rfl rfl ?_
  obtain ⟨T2, X2, e2, st2⟩ := getS X1 hx hZ hown (host := "") (hw _ (List.mem_of_getElem? (i := 16) rfl)) Via.refl e1 S1 (g := (mkF m 24 #[.val (.ref aM), .val (.double x1), .second, .val (.double y1), .second, .unset] [.ref aM])) rfl (hb hby d2_24)
  refine own_go st2 ?_
  show Goes p e below _ (T2.setTop (mkF m 27 #[.val (.ref aM), .val (.double x1), .second, .val (.double y1), .second, .unset] [.ref aN, .ref aM]))
  refine s_acmpY X2 hx (hb hby d2_27) rfl rfl (ay_ne q1) (by decide) (pc' := 46) (by decide) ?_
  refine s_aloadN X2 hx (hb hby d2_46) (pc' := 47) rfl rfl rfl ?_
  obtain ⟨T3, X3, e3, st3⟩ := getS X2 hx hZ hown (host := "") (hw _ (List.mem_of_getElem? (i := 19) rfl)) Via.refl e2 S2 (g := (mkF m 47 #[.val (.ref aM), .val (.double x1), .second, .val (.double y1), .second, .unset] [.ref aM])) rfl (hb hby d2_47)
  refine own_go st3 ?_
  show Goes p e below _ (T3.setTop (mkF m 50 #[.val (.ref aM), .val (.double x1), .second, .val (.double y1), .second, .unset] [.ref aL, .ref aM]))
  refine s_acmpY X3 hx (hb hby d2_50) rfl rfl (ay_ne q2) (by decide) (pc' := 69) (by decide) ?_
  refine s_aloadN X3 hx (hb hby d2_69) (pc' := 70) rfl rfl rfl ?_
  obtain ⟨T4, X4, e4, st4⟩ := getS X3 hx hZ hown (host := "") (hw _ (List.mem_of_getElem? (i := 21) rfl)) Via.refl e3 S3 (g := (mkF m 70 #[.val (.ref aM), .val (.double x1), .second, .val (.double y1), .second, .unset] [.ref aM])) rfl (hb hby d2_70)
  refine own_go st4 ?_
  show Goes p e below _ (T4.setTop (mkF m 73 #[.val (.ref aM), .val (.double x1), .second, .val (.double y1), .second, .unset] [.ref aM, .ref aM]))
  refine s_acmpN X4 hx (hb hby d2_73) (pc' := 76) rfl rfl rfl (an_ne rfl) ?_
  refine s_dloadN X4 hx (hb hby d2_76) (pc' := 77) rfl rfl ?_
  refine s_dloadN X4 hx (hb hby d2_77) (pc' := 78) rfl rfl ?_
  refine s_dcmp X4 hx (0 : Int32) (hb hby d2_78) (pc' := 79) rfl (by rw [ho]; rfl) ?_
  refine s_ifN X4 hx (hb hby d2_79) (pc' := 82) rfl (by decide) ?_
  refine s_iconst X4 hx (1 : Int32) (hb hby d2_82) (pc' := 83) rfl rfl ?_
  refine s_goto X4 hx (hb hby d2_83) (by decide) (pc' := 87) (by decide) ?_
  refine s_istore X4 hx #[.val (.ref aM), .val (.double x1), .second, .val (.double y1), .second, .val (.int (1 : Int32))] (hb hby d2_87) (pc' := 89) rfl rfl ?_
  refine s_goto X4 hx (hb hby d2_89) (by decide) (pc' := 128) (by decide) ?_
  refine s_iload X4 hx (hb hby d2_128) (pc' := 130) rfl rfl ?_
  exact s_retI X4 hx hlk hret (hb hby d2_130) rfl (Or.inl ⟨rfl, by simp, _, rfl⟩) (by decide) (by decide) ⟨rfl, N0, e4⟩
set_option maxRecDepth 65536 in
set_option maxHeartbeats 40000000 in
theorem rm_2_3_gt (l : Launch) (Z : State) (a0 : Array Value) (hw : ∀ d ∈ tables_1, d.before a0 Z = true) (ws : List Jvm.Cond) (x1 : UInt64) (y1 : UInt64) (aE : Addr) (aN : Addr) (aL : Addr) (aM : Addr) (h0 : Heap) (n0 : Nat) (Z0 : n0 ≤ h0.size) (ho : FP.dcmp x1 y1 = some .gt) (S0 : Sta Z h0 "com/example/libclearance/libclearance/xpath/Comparison" "EQUAL" "Lcom/example/libclearance/libclearance/xpath/Comparison;" (.ref aE)) (S1 : Sta Z h0 "com/example/libclearance/libclearance/xpath/Comparison" "NOT_EQUAL" "Lcom/example/libclearance/libclearance/xpath/Comparison;" (.ref aN)) (S2 : Sta Z h0 "com/example/libclearance/libclearance/xpath/Comparison" "LESS" "Lcom/example/libclearance/libclearance/xpath/Comparison;" (.ref aL)) (S3 : Sta Z h0 "com/example/libclearance/libclearance/xpath/Comparison" "LESS_OR_EQUAL" "Lcom/example/libclearance/libclearance/xpath/Comparison;" (.ref aM)) (q0 : ¬ aM = aE) (q1 : ¬ aM = aN) (q2 : ¬ aM = aL) :
    OwnMet l Z (⟨"com/example/libclearance/libclearance/xpath/Comparison", "holds", "(DD)Z"⟩ : MethodName) prog_88_method_6_code 6 (some .boolean) ws ({ frames := 0, cells := 0, slots := 0, locals := 0 } : Room) #[.ref aM, .double x1, .double y1] h0 (fun v h L => v = some (.int (0 : Int32)) ∧ Fr n0 L ∧ h = h0) := by
  refine own_met (plainFor_of_name pn_2) (ef_2 aM x1 y1) ?_
  intro p e s m below meth c s₁ hx hby hml hZ hown hnm hret hlk X0 e0
  have N0 := Fr.nil n0
  refine s_aloadN X0 hx (hb hby d2_0) (pc' := 1) rfl rfl rfl ?_
  obtain ⟨T1, X1, e1, st1⟩ := getS X0 hx hZ hown (host := "") (hw _ (List.mem_of_getElem? (i := 13) rfl)) Via.refl e0 S0 (g := (mkF m 1 #[.val (.ref aM), .val (.double x1), .second, .val (.double y1), .second, .unset] [.ref aM])) rfl (hb hby d2_1)
  refine own_go st1 ?_
  show Goes p e below _ (T1.setTop (mkF m 4 #[.val (.ref aM), .val (.double x1), .second, .val (.double y1), .second, .unset] [.ref aE, .ref aM]))
  refine s_acmpY X1 hx (hb hby d2_4) rfl rfl (ay_ne q0) (by decide) (pc' := 23) (by decide) ?_
  refine s_aloadN X1 hx (hb hby d2_23) (pc' := 24) rfl rfl rfl ?_
  obtain ⟨T2, X2, e2, st2⟩ := getS X1 hx hZ hown (host := "") (hw _ (List.mem_of_getElem? (i := 16) rfl)) Via.refl e1 S1 (g := (mkF m 24 #[.val (.ref aM), .val (.double x1), .second, .val (.double y1), .second, .unset] [.ref aM])) rfl (hb hby d2_24)
  refine own_go st2 ?_
  show Goes p e below _ (T2.setTop (mkF m 27 #[.val (.ref aM), .val (.double x1), .second, .val (.double y1), .second, .unset] [.ref aN, .ref aM]))
  refine s_acmpY X2 hx (hb hby d2_27) rfl rfl (ay_ne q1) (by decide) (pc' := 46) (by decide) ?_
  refine s_aloadN X2 hx (hb hby d2_46) (pc' := 47) rfl rfl rfl ?_
  obtain ⟨T3, X3, e3, st3⟩ := getS X2 hx hZ hown (host := "") (hw _ (List.mem_of_getElem? (i := 19) rfl)) Via.refl e2 S2 (g := (mkF m 47 #[.val (.ref aM), .val (.double x1), .second, .val (.double y1), .second, .unset] [.ref aM])) rfl (hb hby d2_47)
  refine own_go st3 ?_
  show Goes p e below _ (T3.setTop (mkF m 50 #[.val (.ref aM), .val (.double x1), .second, .val (.double y1), .second, .unset] [.ref aL, .ref aM]))
  refine s_acmpY X3 hx (hb hby d2_50) rfl rfl (ay_ne q2) (by decide) (pc' := 69) (by decide) ?_
  refine s_aloadN X3 hx (hb hby d2_69) (pc' := 70) rfl rfl rfl ?_
  obtain ⟨T4, X4, e4, st4⟩ := getS X3 hx hZ hown (host := "") (hw _ (List.mem_of_getElem? (i := 21) rfl)) Via.refl e3 S3 (g := (mkF m 70 #[.val (.ref aM), .val (.double x1), .second, .val (.double y1), .second, .unset] [.ref aM])) rfl (hb hby d2_70)
  refine own_go st4 ?_
  show Goes p e below _ (T4.setTop (mkF m 73 #[.val (.ref aM), .val (.double x1), .second, .val (.double y1), .second, .unset] [.ref aM, .ref aM]))
  refine s_acmpN X4 hx (hb hby d2_73) (pc' := 76) rfl rfl rfl (an_ne rfl) ?_
  refine s_dloadN X4 hx (hb hby d2_76) (pc' := 77) rfl rfl ?_
  refine s_dloadN X4 hx (hb hby d2_77) (pc' := 78) rfl rfl ?_
  refine s_dcmp X4 hx (1 : Int32) (hb hby d2_78) (pc' := 79) rfl (by rw [ho]; rfl) ?_
  refine s_ifY X4 hx (hb hby d2_79) (by decide) (by decide) (pc' := 86) (by decide) ?_
  refine s_iconst X4 hx (0 : Int32) (hb hby d2_86) (pc' := 87) rfl rfl ?_
  refine s_istore X4 hx #[.val (.ref aM), .val (.double x1), .second, .val (.double y1), .second, .val (.int (0 : Int32))] (hb hby d2_87) (pc' := 89) rfl rfl ?_
  refine s_goto X4 hx (hb hby d2_89) (by decide) (pc' := 128) (by decide) ?_
  refine s_iload X4 hx (hb hby d2_128) (pc' := 130) rfl rfl ?_
  exact s_retI X4 hx hlk hret (hb hby d2_130) rfl (Or.inl ⟨rfl, by simp, _, rfl⟩) (by decide) (by decide) ⟨rfl, N0, e4⟩
set_option maxRecDepth 65536 in
set_option maxHeartbeats 40000000 in
theorem rm_2_4_lt (l : Launch) (Z : State) (a0 : Array Value) (hw : ∀ d ∈ tables_1, d.before a0 Z = true) (ws : List Jvm.Cond) (x1 : UInt64) (y1 : UInt64) (aE : Addr) (aN : Addr) (aL : Addr) (aM : Addr) (aG : Addr) (h0 : Heap) (n0 : Nat) (Z0 : n0 ≤ h0.size) (ho : FP.dcmp x1 y1 = some .lt) (S0 : Sta Z h0 "com/example/libclearance/libclearance/xpath/Comparison" "EQUAL" "Lcom/example/libclearance/libclearance/xpath/Comparison;" (.ref aE)) (S1 : Sta Z h0 "com/example/libclearance/libclearance/xpath/Comparison" "NOT_EQUAL" "Lcom/example/libclearance/libclearance/xpath/Comparison;" (.ref aN)) (S2 : Sta Z h0 "com/example/libclearance/libclearance/xpath/Comparison" "LESS" "Lcom/example/libclearance/libclearance/xpath/Comparison;" (.ref aL)) (S3 : Sta Z h0 "com/example/libclearance/libclearance/xpath/Comparison" "LESS_OR_EQUAL" "Lcom/example/libclearance/libclearance/xpath/Comparison;" (.ref aM)) (S4 : Sta Z h0 "com/example/libclearance/libclearance/xpath/Comparison" "GREATER" "Lcom/example/libclearance/libclearance/xpath/Comparison;" (.ref aG)) (q0 : ¬ aG = aE) (q1 : ¬ aG = aN) (q2 : ¬ aG = aL) (q3 : ¬ aG = aM) :
    OwnMet l Z (⟨"com/example/libclearance/libclearance/xpath/Comparison", "holds", "(DD)Z"⟩ : MethodName) prog_88_method_6_code 6 (some .boolean) ws ({ frames := 0, cells := 0, slots := 0, locals := 0 } : Room) #[.ref aG, .double x1, .double y1] h0 (fun v h L => v = some (.int (0 : Int32)) ∧ Fr n0 L ∧ h = h0) := by
  refine own_met (plainFor_of_name pn_2) (ef_2 aG x1 y1) ?_
  intro p e s m below meth c s₁ hx hby hml hZ hown hnm hret hlk X0 e0
  have N0 := Fr.nil n0
  refine s_aloadN X0 hx (hb hby d2_0) (pc' := 1) rfl rfl rfl ?_
  obtain ⟨T1, X1, e1, st1⟩ := getS X0 hx hZ hown (host := "") (hw _ (List.mem_of_getElem? (i := 13) rfl)) Via.refl e0 S0 (g := (mkF m 1 #[.val (.ref aG), .val (.double x1), .second, .val (.double y1), .second, .unset] [.ref aG])) rfl (hb hby d2_1)
  refine own_go st1 ?_
  show Goes p e below _ (T1.setTop (mkF m 4 #[.val (.ref aG), .val (.double x1), .second, .val (.double y1), .second, .unset] [.ref aE, .ref aG]))
  refine s_acmpY X1 hx (hb hby d2_4) rfl rfl (ay_ne q0) (by decide) (pc' := 23) (by decide) ?_
  refine s_aloadN X1 hx (hb hby d2_23) (pc' := 24) rfl rfl rfl ?_
  obtain ⟨T2, X2, e2, st2⟩ := getS X1 hx hZ hown (host := "") (hw _ (List.mem_of_getElem? (i := 16) rfl)) Via.refl e1 S1 (g := (mkF m 24 #[.val (.ref aG), .val (.double x1), .second, .val (.double y1), .second, .unset] [.ref aG])) rfl (hb hby d2_24)
  refine own_go st2 ?_
  show Goes p e below _ (T2.setTop (mkF m 27 #[.val (.ref aG), .val (.double x1), .second, .val (.double y1), .second, .unset] [.ref aN, .ref aG]))
  refine s_acmpY X2 hx (hb hby d2_27) rfl rfl (ay_ne q1) (by decide) (pc' := 46) (by decide) ?_
  refine s_aloadN X2 hx (hb hby d2_46) (pc' := 47) rfl rfl rfl ?_
  obtain ⟨T3, X3, e3, st3⟩ := getS X2 hx hZ hown (host := "") (hw _ (List.mem_of_getElem? (i := 19) rfl)) Via.refl e2 S2 (g := (mkF m 47 #[.val (.ref aG), .val (.double x1), .second, .val (.double y1), .second, .unset] [.ref aG])) rfl (hb hby d2_47)
  refine own_go st3 ?_
  show Goes p e below _ (T3.setTop (mkF m 50 #[.val (.ref aG), .val (.double x1), .second, .val (.double y1), .second, .unset] [.ref aL, .ref aG]))
  refine s_acmpY X3 hx (hb hby d2_50) rfl rfl (ay_ne q2) (by decide) (pc' := 69) (by decide) ?_
  refine s_aloadN X3 hx (hb hby d2_69) (pc' := 70) rfl rfl rfl ?_
  obtain ⟨T4, X4, e4, st4⟩ := getS X3 hx hZ hown (host := "") (hw _ (List.mem_of_getElem? (i := 21) rfl)) Via.refl e3 S3 (g := (mkF m 70 #[.val (.ref aG), .val (.double x1), .second, .val (.double y1), .second, .unset] [.ref aG])) rfl (hb hby d2_70)
  refine own_go st4 ?_
  show Goes p e below _ (T4.setTop (mkF m 73 #[.val (.ref aG), .val (.double x1), .second, .val (.double y1), .second, .unset] [.ref aM, .ref aG]))
  refine s_acmpY X4 hx (hb hby d2_73) rfl rfl (ay_ne q3) (by decide) (pc' := 92) (by decide) ?_
  refine s_aloadN X4 hx (hb hby d2_92) (pc' := 93) rfl rfl rfl ?_
  obtain ⟨T5, X5, e5, st5⟩ := getS X4 hx hZ hown (host := "") (hw _ (List.mem_of_getElem? (i := 23) rfl)) Via.refl e4 S4 (g := (mkF m 93 #[.val (.ref aG), .val (.double x1), .second, .val (.double y1), .second, .unset] [.ref aG])) rfl (hb hby d2_93)
  refine own_go st5 ?_
  show Goes p e below _ (T5.setTop (mkF m 96 #[.val (.ref aG), .val (.double x1), .second, .val (.double y1), .second, .unset] [.ref aG, .ref aG]))
  refine s_acmpN X5 hx (hb hby d2_96) (pc' := 99) rfl rfl rfl (an_ne rfl) ?_
  refine s_dloadN X5 hx (hb hby d2_99) (pc' := 100) rfl rfl ?_
  refine s_dloadN X5 hx (hb hby d2_100) (pc' := 101) rfl rfl ?_
  refine s_dcmp X5 hx (-1 : Int32) (hb hby d2_101) (pc' := 102) rfl (by rw [ho]; rfl) ?_
  refine s_ifY X5 hx (hb hby d2_102) (by decide) (by decide) (pc' := 109) (by decide) ?_
  refine s_iconst X5 hx (0 : Int32) (hb hby d2_109) (pc' := 110) rfl rfl ?_
  refine s_istore X5 hx #[.val (.ref aG), .val (.double x1), .second, .val (.double y1), .second, .val (.int (0 : Int32))] (hb hby d2_110) (pc' := 112) rfl rfl ?_
  refine s_goto X5 hx (hb hby d2_112) (by decide) (pc' := 128) (by decide) ?_
  refine s_iload X5 hx (hb hby d2_128) (pc' := 130) rfl rfl ?_
  exact s_retI X5 hx hlk hret (hb hby d2_130) rfl (Or.inl ⟨rfl, by simp, _, rfl⟩) (by decide) (by decide) ⟨rfl, N0, e5⟩
set_option maxRecDepth 65536 in
set_option maxHeartbeats 40000000 in
theorem rm_2_4_eq (l : Launch) (Z : State) (a0 : Array Value) (hw : ∀ d ∈ tables_1, d.before a0 Z = true) (ws : List Jvm.Cond) (x1 : UInt64) (y1 : UInt64) (aE : Addr) (aN : Addr) (aL : Addr) (aM : Addr) (aG : Addr) (h0 : Heap) (n0 : Nat) (Z0 : n0 ≤ h0.size) (ho : FP.dcmp x1 y1 = some .eq) (S0 : Sta Z h0 "com/example/libclearance/libclearance/xpath/Comparison" "EQUAL" "Lcom/example/libclearance/libclearance/xpath/Comparison;" (.ref aE)) (S1 : Sta Z h0 "com/example/libclearance/libclearance/xpath/Comparison" "NOT_EQUAL" "Lcom/example/libclearance/libclearance/xpath/Comparison;" (.ref aN)) (S2 : Sta Z h0 "com/example/libclearance/libclearance/xpath/Comparison" "LESS" "Lcom/example/libclearance/libclearance/xpath/Comparison;" (.ref aL)) (S3 : Sta Z h0 "com/example/libclearance/libclearance/xpath/Comparison" "LESS_OR_EQUAL" "Lcom/example/libclearance/libclearance/xpath/Comparison;" (.ref aM)) (S4 : Sta Z h0 "com/example/libclearance/libclearance/xpath/Comparison" "GREATER" "Lcom/example/libclearance/libclearance/xpath/Comparison;" (.ref aG)) (q0 : ¬ aG = aE) (q1 : ¬ aG = aN) (q2 : ¬ aG = aL) (q3 : ¬ aG = aM) :
    OwnMet l Z (⟨"com/example/libclearance/libclearance/xpath/Comparison", "holds", "(DD)Z"⟩ : MethodName) prog_88_method_6_code 6 (some .boolean) ws ({ frames := 0, cells := 0, slots := 0, locals := 0 } : Room) #[.ref aG, .double x1, .double y1] h0 (fun v h L => v = some (.int (0 : Int32)) ∧ Fr n0 L ∧ h = h0) := by
  refine own_met (plainFor_of_name pn_2) (ef_2 aG x1 y1) ?_
  intro p e s m below meth c s₁ hx hby hml hZ hown hnm hret hlk X0 e0
  have N0 := Fr.nil n0
  refine s_aloadN X0 hx (hb hby d2_0) (pc' := 1) rfl rfl rfl ?_
  obtain ⟨T1, X1, e1, st1⟩ := getS X0 hx hZ hown (host := "") (hw _ (List.mem_of_getElem? (i := 13) rfl)) Via.refl e0 S0 (g := (mkF m 1 #[.val (.ref aG), .val (.double x1), .second, .val (.double y1), .second, .unset] [.ref aG])) rfl (hb hby d2_1)
  refine own_go st1 ?_
  show Goes p e below _ (T1.setTop (mkF m 4 #[.val (.ref aG), .val (.double x1), .second, .val (.double y1), .second, .unset] [.ref aE, .ref aG]))
  refine s_acmpY X1 hx (hb hby d2_4) rfl rfl (ay_ne q0) (by decide) (pc' := 23) (by decide) ?_
  refine s_aloadN X1 hx (hb hby d2_23) (pc' := 24) rfl rfl rfl ?_
  obtain ⟨T2, X2, e2, st2⟩ := getS X1 hx hZ hown (host := "") (hw _ (List.mem_of_getElem? (i := 16) rfl)) Via.refl e1 S1 (g := (mkF m 24 #[.val (.ref aG), .val (.double x1), .second, .val (.double y1), .second, .unset] [.ref aG])) rfl (hb hby d2_24)
  refine own_go st2 ?_
  show Goes p e below _ (T2.setTop (mkF m 27 #[.val (.ref aG), .val (.double x1), .second, .val (.double y1), .second, .unset] [.ref aN, .ref aG]))
  refine s_acmpY X2 hx (hb hby d2_27) rfl rfl (ay_ne q1) (by decide) (pc' := 46) (by decide) ?_
  refine s_aloadN X2 hx (hb hby d2_46) (pc' := 47) rfl rfl rfl ?_
  obtain ⟨T3, X3, e3, st3⟩ := getS X2 hx hZ hown (host := "") (hw _ (List.mem_of_getElem? (i := 19) rfl)) Via.refl e2 S2 (g := (mkF m 47 #[.val (.ref aG), .val (.double x1), .second, .val (.double y1), .second, .unset] [.ref aG])) rfl (hb hby d2_47)
  refine own_go st3 ?_
  show Goes p e below _ (T3.setTop (mkF m 50 #[.val (.ref aG), .val (.double x1), .second, .val (.double y1), .second, .unset] [.ref aL, .ref aG]))
  refine s_acmpY X3 hx (hb hby d2_50) rfl rfl (ay_ne q2) (by decide) (pc' := 69) (by decide) ?_
  refine s_aloadN X3 hx (hb hby d2_69) (pc' := 70) rfl rfl rfl ?_
  obtain ⟨T4, X4, e4, st4⟩ := getS X3 hx hZ hown (host := "") (hw _ (List.mem_of_getElem? (i := 21) rfl)) Via.refl e3 S3 (g := (mkF m 70 #[.val (.ref aG), .val (.double x1), .second, .val (.double y1), .second, .unset] [.ref aG])) rfl (hb hby d2_70)
  refine own_go st4 ?_
  show Goes p e below _ (T4.setTop (mkF m 73 #[.val (.ref aG), .val (.double x1), .second, .val (.double y1), .second, .unset] [.ref aM, .ref aG]))
  refine s_acmpY X4 hx (hb hby d2_73) rfl rfl (ay_ne q3) (by decide) (pc' := 92) (by decide) ?_
  refine s_aloadN X4 hx (hb hby d2_92) (pc' := 93) rfl rfl rfl ?_
  obtain ⟨T5, X5, e5, st5⟩ := getS X4 hx hZ hown (host := "") (hw _ (List.mem_of_getElem? (i := 23) rfl)) Via.refl e4 S4 (g := (mkF m 93 #[.val (.ref aG), .val (.double x1), .second, .val (.double y1), .second, .unset] [.ref aG])) rfl (hb hby d2_93)
  refine own_go st5 ?_
  show Goes p e below _ (T5.setTop (mkF m 96 #[.val (.ref aG), .val (.double x1), .second, .val (.double y1), .second, .unset] [.ref aG, .ref aG]))
  refine s_acmpN X5 hx (hb hby d2_96) (pc' := 99) rfl rfl rfl (an_ne rfl) ?_
  refine s_dloadN X5 hx (hb hby d2_99) (pc' := 100) rfl rfl ?_
  refine s_dloadN X5 hx (hb hby d2_100) (pc' := 101) rfl rfl ?_
  refine s_dcmp X5 hx (0 : Int32) (hb hby d2_101) (pc' := 102) rfl (by rw [ho]; rfl) ?_
  refine s_ifY X5 hx (hb hby d2_102) (by decide) (by decide) (pc' := 109) (by decide) ?_
  refine s_iconst X5 hx (0 : Int32) (hb hby d2_109) (pc' := 110) rfl rfl ?_
  refine s_istore X5 hx #[.val (.ref aG), .val (.double x1), .second, .val (.double y1), .second, .val (.int (0 : Int32))] (hb hby d2_110) (pc' := 112) rfl rfl ?_
  refine s_goto X5 hx (hb hby d2_112) (by decide) (pc' := 128) (by decide) ?_
  refine s_iload X5 hx (hb hby d2_128) (pc' := 130) rfl rfl ?_
  exact s_retI X5 hx hlk hret (hb hby d2_130) rfl (Or.inl ⟨rfl, by simp, _, rfl⟩) (by decide) (by decide) ⟨rfl, N0, e5⟩
set_option maxRecDepth 65536 in
set_option maxHeartbeats 40000000 in
theorem rm_2_4_gt (l : Launch) (Z : State) (a0 : Array Value) (hw : ∀ d ∈ tables_1, d.before a0 Z = true) (ws : List Jvm.Cond) (x1 : UInt64) (y1 : UInt64) (aE : Addr) (aN : Addr) (aL : Addr) (aM : Addr) (aG : Addr) (h0 : Heap) (n0 : Nat) (Z0 : n0 ≤ h0.size) (ho : FP.dcmp x1 y1 = some .gt) (S0 : Sta Z h0 "com/example/libclearance/libclearance/xpath/Comparison" "EQUAL" "Lcom/example/libclearance/libclearance/xpath/Comparison;" (.ref aE)) (S1 : Sta Z h0 "com/example/libclearance/libclearance/xpath/Comparison" "NOT_EQUAL" "Lcom/example/libclearance/libclearance/xpath/Comparison;" (.ref aN)) (S2 : Sta Z h0 "com/example/libclearance/libclearance/xpath/Comparison" "LESS" "Lcom/example/libclearance/libclearance/xpath/Comparison;" (.ref aL)) (S3 : Sta Z h0 "com/example/libclearance/libclearance/xpath/Comparison" "LESS_OR_EQUAL" "Lcom/example/libclearance/libclearance/xpath/Comparison;" (.ref aM)) (S4 : Sta Z h0 "com/example/libclearance/libclearance/xpath/Comparison" "GREATER" "Lcom/example/libclearance/libclearance/xpath/Comparison;" (.ref aG)) (q0 : ¬ aG = aE) (q1 : ¬ aG = aN) (q2 : ¬ aG = aL) (q3 : ¬ aG = aM) :
    OwnMet l Z (⟨"com/example/libclearance/libclearance/xpath/Comparison", "holds", "(DD)Z"⟩ : MethodName) prog_88_method_6_code 6 (some .boolean) ws ({ frames := 0, cells := 0, slots := 0, locals := 0 } : Room) #[.ref aG, .double x1, .double y1] h0 (fun v h L => v = some (.int (1 : Int32)) ∧ Fr n0 L ∧ h = h0) := by
  refine own_met (plainFor_of_name pn_2) (ef_2 aG x1 y1) ?_
  intro p e s m below meth c s₁ hx hby hml hZ hown hnm hret hlk X0 e0
  have N0 := Fr.nil n0
  refine s_aloadN X0 hx (hb hby d2_0) (pc' := 1) rfl rfl rfl ?_
  obtain ⟨T1, X1, e1, st1⟩ := getS X0 hx hZ hown (host := "") (hw _ (List.mem_of_getElem? (i := 13) rfl)) Via.refl e0 S0 (g := (mkF m 1 #[.val (.ref aG), .val (.double x1), .second, .val (.double y1), .second, .unset] [.ref aG])) rfl (hb hby d2_1)
  refine own_go st1 ?_
  show Goes p e below _ (T1.setTop (mkF m 4 #[.val (.ref aG), .val (.double x1), .second, .val (.double y1), .second, .unset] [.ref aE, .ref aG]))
  refine s_acmpY X1 hx (hb hby d2_4) rfl rfl (ay_ne q0) (by decide) (pc' := 23) (by decide) ?_
  refine s_aloadN X1 hx (hb hby d2_23) (pc' := 24) rfl rfl rfl ?_
  obtain ⟨T2, X2, e2, st2⟩ := getS X1 hx hZ hown (host := "") (hw _ (List.mem_of_getElem? (i := 16) rfl)) Via.refl e1 S1 (g := (mkF m 24 #[.val (.ref aG), .val (.double x1), .second, .val (.double y1), .second, .unset] [.ref aG])) rfl (hb hby d2_24)
  refine own_go st2 ?_
  show Goes p e below _ (T2.setTop (mkF m 27 #[.val (.ref aG), .val (.double x1), .second, .val (.double y1), .second, .unset] [.ref aN, .ref aG]))
  refine s_acmpY X2 hx (hb hby d2_27) rfl rfl (ay_ne q1) (by decide) (pc' := 46) (by decide) ?_
  refine s_aloadN X2 hx (hb hby d2_46) (pc' := 47) rfl rfl rfl ?_
  obtain ⟨T3, X3, e3, st3⟩ := getS X2 hx hZ hown (host := "") (hw _ (List.mem_of_getElem? (i := 19) rfl)) Via.refl e2 S2 (g := (mkF m 47 #[.val (.ref aG), .val (.double x1), .second, .val (.double y1), .second, .unset] [.ref aG])) rfl (hb hby d2_47)
  refine own_go st3 ?_
  show Goes p e below _ (T3.setTop (mkF m 50 #[.val (.ref aG), .val (.double x1), .second, .val (.double y1), .second, .unset] [.ref aL, .ref aG]))
  refine s_acmpY X3 hx (hb hby d2_50) rfl rfl (ay_ne q2) (by decide) (pc' := 69) (by decide) ?_
  refine s_aloadN X3 hx (hb hby d2_69) (pc' := 70) rfl rfl rfl ?_
  obtain ⟨T4, X4, e4, st4⟩ := getS X3 hx hZ hown (host := "") (hw _ (List.mem_of_getElem? (i := 21) rfl)) Via.refl e3 S3 (g := (mkF m 70 #[.val (.ref aG), .val (.double x1), .second, .val (.double y1), .second, .unset] [.ref aG])) rfl (hb hby d2_70)
  refine own_go st4 ?_
  show Goes p e below _ (T4.setTop (mkF m 73 #[.val (.ref aG), .val (.double x1), .second, .val (.double y1), .second, .unset] [.ref aM, .ref aG]))
  refine s_acmpY X4 hx (hb hby d2_73) rfl rfl (ay_ne q3) (by decide) (pc' := 92) (by decide) ?_
  refine s_aloadN X4 hx (hb hby d2_92) (pc' := 93) rfl rfl rfl ?_
  obtain ⟨T5, X5, e5, st5⟩ := getS X4 hx hZ hown (host := "") (hw _ (List.mem_of_getElem? (i := 23) rfl)) Via.refl e4 S4 (g := (mkF m 93 #[.val (.ref aG), .val (.double x1), .second, .val (.double y1), .second, .unset] [.ref aG])) rfl (hb hby d2_93)
  refine own_go st5 ?_
  show Goes p e below _ (T5.setTop (mkF m 96 #[.val (.ref aG), .val (.double x1), .second, .val (.double y1), .second, .unset] [.ref aG, .ref aG]))
  refine s_acmpN X5 hx (hb hby d2_96) (pc' := 99) rfl rfl rfl (an_ne rfl) ?_
  refine s_dloadN X5 hx (hb hby d2_99) (pc' := 100) rfl rfl ?_
  refine s_dloadN X5 hx (hb hby d2_100) (pc' := 101) rfl rfl ?_
  refine s_dcmp X5 hx (1 : Int32) (hb hby d2_101) (pc' := 102) rfl (by rw [ho]; rfl) ?_
  refine s_ifN X5 hx (hb hby d2_102) (pc' := 105) rfl (by decide) ?_
  refine s_iconst X5 hx (1 : Int32) (hb hby d2_105) (pc' := 106) rfl rfl ?_
  refine s_goto X5 hx (hb hby d2_106) (by decide) (pc' := 110) (by decide) ?_
  refine s_istore X5 hx #[.val (.ref aG), .val (.double x1), .second, .val (.double y1), .second, .val (.int (1 : Int32))] (hb hby d2_110) (pc' := 112) rfl rfl ?_
  refine s_goto X5 hx (hb hby d2_112) (by decide) (pc' := 128) (by decide) ?_
  refine s_iload X5 hx (hb hby d2_128) (pc' := 130) rfl rfl ?_
  exact s_retI X5 hx hlk hret (hb hby d2_130) rfl (Or.inl ⟨rfl, by simp, _, rfl⟩) (by decide) (by decide) ⟨rfl, N0, e5⟩
set_option maxRecDepth 65536 in
set_option maxHeartbeats 40000000 in
theorem rm_2_5_lt (l : Launch) (Z : State) (a0 : Array Value) (hw : ∀ d ∈ tables_1, d.before a0 Z = true) (ws : List Jvm.Cond) (x1 : UInt64) (y1 : UInt64) (aE : Addr) (aN : Addr) (aL : Addr) (aM : Addr) (aG : Addr) (aH : Addr) (h0 : Heap) (n0 : Nat) (Z0 : n0 ≤ h0.size) (ho : FP.dcmp x1 y1 = some .lt) (S0 : Sta Z h0 "com/example/libclearance/libclearance/xpath/Comparison" "EQUAL" "Lcom/example/libclearance/libclearance/xpath/Comparison;" (.ref aE)) (S1 : Sta Z h0 "com/example/libclearance/libclearance/xpath/Comparison" "NOT_EQUAL" "Lcom/example/libclearance/libclearance/xpath/Comparison;" (.ref aN)) (S2 : Sta Z h0 "com/example/libclearance/libclearance/xpath/Comparison" "LESS" "Lcom/example/libclearance/libclearance/xpath/Comparison;" (.ref aL)) (S3 : Sta Z h0 "com/example/libclearance/libclearance/xpath/Comparison" "LESS_OR_EQUAL" "Lcom/example/libclearance/libclearance/xpath/Comparison;" (.ref aM)) (S4 : Sta Z h0 "com/example/libclearance/libclearance/xpath/Comparison" "GREATER" "Lcom/example/libclearance/libclearance/xpath/Comparison;" (.ref aG)) (q0 : ¬ aH = aE) (q1 : ¬ aH = aN) (q2 : ¬ aH = aL) (q3 : ¬ aH = aM) (q4 : ¬ aH = aG) :
    OwnMet l Z (⟨"com/example/libclearance/libclearance/xpath/Comparison", "holds", "(DD)Z"⟩ : MethodName) prog_88_method_6_code 6 (some .boolean) ws ({ frames := 0, cells := 0, slots := 0, locals := 0 } : Room) #[.ref aH, .double x1, .double y1] h0 (fun v h L => v = some (.int (0 : Int32)) ∧ Fr n0 L ∧ h = h0) := by
  refine own_met (plainFor_of_name pn_2) (ef_2 aH x1 y1) ?_
  intro p e s m below meth c s₁ hx hby hml hZ hown hnm hret hlk X0 e0
  have N0 := Fr.nil n0
  refine s_aloadN X0 hx (hb hby d2_0) (pc' := 1) rfl rfl rfl ?_
  obtain ⟨T1, X1, e1, st1⟩ := getS X0 hx hZ hown (host := "") (hw _ (List.mem_of_getElem? (i := 13) rfl)) Via.refl e0 S0 (g := (mkF m 1 #[.val (.ref aH), .val (.double x1), .second, .val (.double y1), .second, .unset] [.ref aH])) rfl (hb hby d2_1)
  refine own_go st1 ?_
  show Goes p e below _ (T1.setTop (mkF m 4 #[.val (.ref aH), .val (.double x1), .second, .val (.double y1), .second, .unset] [.ref aE, .ref aH]))
  refine s_acmpY X1 hx (hb hby d2_4) rfl rfl (ay_ne q0) (by decide) (pc' := 23) (by decide) ?_
  refine s_aloadN X1 hx (hb hby d2_23) (pc' := 24) rfl rfl rfl ?_
  obtain ⟨T2, X2, e2, st2⟩ := getS X1 hx hZ hown (host := "") (hw _ (List.mem_of_getElem? (i := 16) rfl)) Via.refl e1 S1 (g := (mkF m 24 #[.val (.ref aH), .val (.double x1), .second, .val (.double y1), .second, .unset] [.ref aH])) rfl (hb hby d2_24)
  refine own_go st2 ?_
  show Goes p e below _ (T2.setTop (mkF m 27 #[.val (.ref aH), .val (.double x1), .second, .val (.double y1), .second, .unset] [.ref aN, .ref aH]))
  refine s_acmpY X2 hx (hb hby d2_27) rfl rfl (ay_ne q1) (by decide) (pc' := 46) (by decide) ?_
  refine s_aloadN X2 hx (hb hby d2_46) (pc' := 47) rfl rfl rfl ?_
  obtain ⟨T3, X3, e3, st3⟩ := getS X2 hx hZ hown (host := "") (hw _ (List.mem_of_getElem? (i := 19) rfl)) Via.refl e2 S2 (g := (mkF m 47 #[.val (.ref aH), .val (.double x1), .second, .val (.double y1), .second, .unset] [.ref aH])) rfl (hb hby d2_47)
  refine own_go st3 ?_
  show Goes p e below _ (T3.setTop (mkF m 50 #[.val (.ref aH), .val (.double x1), .second, .val (.double y1), .second, .unset] [.ref aL, .ref aH]))
  refine s_acmpY X3 hx (hb hby d2_50) rfl rfl (ay_ne q2) (by decide) (pc' := 69) (by decide) ?_
  refine s_aloadN X3 hx (hb hby d2_69) (pc' := 70) rfl rfl rfl ?_
  obtain ⟨T4, X4, e4, st4⟩ := getS X3 hx hZ hown (host := "") (hw _ (List.mem_of_getElem? (i := 21) rfl)) Via.refl e3 S3 (g := (mkF m 70 #[.val (.ref aH), .val (.double x1), .second, .val (.double y1), .second, .unset] [.ref aH])) rfl (hb hby d2_70)
  refine own_go st4 ?_
  show Goes p e below _ (T4.setTop (mkF m 73 #[.val (.ref aH), .val (.double x1), .second, .val (.double y1), .second, .unset] [.ref aM, .ref aH]))
  refine s_acmpY X4 hx (hb hby d2_73) rfl rfl (ay_ne q3) (by decide) (pc' := 92) (by decide) ?_
  refine s_aloadN X4 hx (hb hby d2_92) (pc' := 93) rfl rfl rfl ?_
  obtain ⟨T5, X5, e5, st5⟩ := getS X4 hx hZ hown (host := "") (hw _ (List.mem_of_getElem? (i := 23) rfl)) Via.refl e4 S4 (g := (mkF m 93 #[.val (.ref aH), .val (.double x1), .second, .val (.double y1), .second, .unset] [.ref aH])) rfl (hb hby d2_93)
  refine own_go st5 ?_
  show Goes p e below _ (T5.setTop (mkF m 96 #[.val (.ref aH), .val (.double x1), .second, .val (.double y1), .second, .unset] [.ref aG, .ref aH]))
  refine s_acmpY X5 hx (hb hby d2_96) rfl rfl (ay_ne q4) (by decide) (pc' := 115) (by decide) ?_
  refine s_dloadN X5 hx (hb hby d2_115) (pc' := 116) rfl rfl ?_
  refine s_dloadN X5 hx (hb hby d2_116) (pc' := 117) rfl rfl ?_
  refine s_dcmp X5 hx (-1 : Int32) (hb hby d2_117) (pc' := 118) rfl (by rw [ho]; rfl) ?_
  refine s_ifY X5 hx (hb hby d2_118) (by decide) (by decide) (pc' := 125) (by decide) ?_
  refine s_iconst X5 hx (0 : Int32) (hb hby d2_125) (pc' := 126) rfl rfl ?_
  refine s_istore X5 hx #[.val (.ref aH), .val (.double x1), .second, .val (.double y1), .second, .val (.int (0 : Int32))] (hb hby d2_126) (pc' := 128) rfl rfl ?_
  refine s_iload X5 hx (hb hby d2_128) (pc' := 130) rfl rfl ?_
  exact s_retI X5 hx hlk hret (hb hby d2_130) rfl (Or.inl ⟨rfl, by simp, _, rfl⟩) (by decide) (by decide) ⟨rfl, N0, e5⟩
set_option maxRecDepth 65536 in
set_option maxHeartbeats 40000000 in
theorem rm_2_5_eq (l : Launch) (Z : State) (a0 : Array Value) (hw : ∀ d ∈ tables_1, d.before a0 Z = true) (ws : List Jvm.Cond) (x1 : UInt64) (y1 : UInt64) (aE : Addr) (aN : Addr) (aL : Addr) (aM : Addr) (aG : Addr) (aH : Addr) (h0 : Heap) (n0 : Nat) (Z0 : n0 ≤ h0.size) (ho : FP.dcmp x1 y1 = some .eq) (S0 : Sta Z h0 "com/example/libclearance/libclearance/xpath/Comparison" "EQUAL" "Lcom/example/libclearance/libclearance/xpath/Comparison;" (.ref aE)) (S1 : Sta Z h0 "com/example/libclearance/libclearance/xpath/Comparison" "NOT_EQUAL" "Lcom/example/libclearance/libclearance/xpath/Comparison;" (.ref aN)) (S2 : Sta Z h0 "com/example/libclearance/libclearance/xpath/Comparison" "LESS" "Lcom/example/libclearance/libclearance/xpath/Comparison;" (.ref aL)) (S3 : Sta Z h0 "com/example/libclearance/libclearance/xpath/Comparison" "LESS_OR_EQUAL" "Lcom/example/libclearance/libclearance/xpath/Comparison;" (.ref aM)) (S4 : Sta Z h0 "com/example/libclearance/libclearance/xpath/Comparison" "GREATER" "Lcom/example/libclearance/libclearance/xpath/Comparison;" (.ref aG)) (q0 : ¬ aH = aE) (q1 : ¬ aH = aN) (q2 : ¬ aH = aL) (q3 : ¬ aH = aM) (q4 : ¬ aH = aG) :
    OwnMet l Z (⟨"com/example/libclearance/libclearance/xpath/Comparison", "holds", "(DD)Z"⟩ : MethodName) prog_88_method_6_code 6 (some .boolean) ws ({ frames := 0, cells := 0, slots := 0, locals := 0 } : Room) #[.ref aH, .double x1, .double y1] h0 (fun v h L => v = some (.int (1 : Int32)) ∧ Fr n0 L ∧ h = h0) := by
  refine own_met (plainFor_of_name pn_2) (ef_2 aH x1 y1) ?_
  intro p e s m below meth c s₁ hx hby hml hZ hown hnm hret hlk X0 e0
  have N0 := Fr.nil n0
  refine s_aloadN X0 hx (hb hby d2_0) (pc' := 1) rfl rfl rfl ?_
  obtain ⟨T1, X1, e1, st1⟩ := getS X0 hx hZ hown (host := "") (hw _ (List.mem_of_getElem? (i := 13) rfl)) Via.refl e0 S0 (g := (mkF m 1 #[.val (.ref aH), .val (.double x1), .second, .val (.double y1), .second, .unset] [.ref aH])) rfl (hb hby d2_1)
  refine own_go st1 ?_
  show Goes p e below _ (T1.setTop (mkF m 4 #[.val (.ref aH), .val (.double x1), .second, .val (.double y1), .second, .unset] [.ref aE, .ref aH]))
  refine s_acmpY X1 hx (hb hby d2_4) rfl rfl (ay_ne q0) (by decide) (pc' := 23) (by decide) ?_
  refine s_aloadN X1 hx (hb hby d2_23) (pc' := 24) rfl rfl rfl ?_
  obtain ⟨T2, X2, e2, st2⟩ := getS X1 hx hZ hown (host := "") (hw _ (List.mem_of_getElem? (i := 16) rfl)) Via.refl e1 S1 (g := (mkF m 24 #[.val (.ref aH), .val (.double x1), .second, .val (.double y1), .second, .unset] [.ref aH])) rfl (hb hby d2_24)
  refine own_go st2 ?_
  show Goes p e below _ (T2.setTop (mkF m 27 #[.val (.ref aH), .val (.double x1), .second, .val (.double y1), .second, .unset] [.ref aN, .ref aH]))
  refine s_acmpY X2 hx (hb hby d2_27) rfl rfl (ay_ne q1) (by decide) (pc' := 46) (by decide) ?_
  refine s_aloadN X2 hx (hb hby d2_46) (pc' := 47) rfl rfl rfl ?_
  obtain ⟨T3, X3, e3, st3⟩ := getS X2 hx hZ hown (host := "") (hw _ (List.mem_of_getElem? (i := 19) rfl)) Via.refl e2 S2 (g := (mkF m 47 #[.val (.ref aH), .val (.double x1), .second, .val (.double y1), .second, .unset] [.ref aH])) rfl (hb hby d2_47)
  refine own_go st3 ?_
  show Goes p e below _ (T3.setTop (mkF m 50 #[.val (.ref aH), .val (.double x1), .second, .val (.double y1), .second, .unset] [.ref aL, .ref aH]))
  refine s_acmpY X3 hx (hb hby d2_50) rfl rfl (ay_ne q2) (by decide) (pc' := 69) (by decide) ?_
  refine s_aloadN X3 hx (hb hby d2_69) (pc' := 70) rfl rfl rfl ?_
  obtain ⟨T4, X4, e4, st4⟩ := getS X3 hx hZ hown (host := "") (hw _ (List.mem_of_getElem? (i := 21) rfl)) Via.refl e3 S3 (g := (mkF m 70 #[.val (.ref aH), .val (.double x1), .second, .val (.double y1), .second, .unset] [.ref aH])) rfl (hb hby d2_70)
  refine own_go st4 ?_
  show Goes p e below _ (T4.setTop (mkF m 73 #[.val (.ref aH), .val (.double x1), .second, .val (.double y1), .second, .unset] [.ref aM, .ref aH]))
  refine s_acmpY X4 hx (hb hby d2_73) rfl rfl (ay_ne q3) (by decide) (pc' := 92) (by decide) ?_
  refine s_aloadN X4 hx (hb hby d2_92) (pc' := 93) rfl rfl rfl ?_
  obtain ⟨T5, X5, e5, st5⟩ := getS X4 hx hZ hown (host := "") (hw _ (List.mem_of_getElem? (i := 23) rfl)) Via.refl e4 S4 (g := (mkF m 93 #[.val (.ref aH), .val (.double x1), .second, .val (.double y1), .second, .unset] [.ref aH])) rfl (hb hby d2_93)
  refine own_go st5 ?_
  show Goes p e below _ (T5.setTop (mkF m 96 #[.val (.ref aH), .val (.double x1), .second, .val (.double y1), .second, .unset] [.ref aG, .ref aH]))
  refine s_acmpY X5 hx (hb hby d2_96) rfl rfl (ay_ne q4) (by decide) (pc' := 115) (by decide) ?_
  refine s_dloadN X5 hx (hb hby d2_115) (pc' := 116) rfl rfl ?_
  refine s_dloadN X5 hx (hb hby d2_116) (pc' := 117) rfl rfl ?_
  refine s_dcmp X5 hx (0 : Int32) (hb hby d2_117) (pc' := 118) rfl (by rw [ho]; rfl) ?_
  refine s_ifN X5 hx (hb hby d2_118) (pc' := 121) rfl (by decide) ?_
  refine s_iconst X5 hx (1 : Int32) (hb hby d2_121) (pc' := 122) rfl rfl ?_
  refine s_goto X5 hx (hb hby d2_122) (by decide) (pc' := 126) (by decide) ?_
  refine s_istore X5 hx #[.val (.ref aH), .val (.double x1), .second, .val (.double y1), .second, .val (.int (1 : Int32))] (hb hby d2_126) (pc' := 128) rfl rfl ?_
  refine s_iload X5 hx (hb hby d2_128) (pc' := 130) rfl rfl ?_
  exact s_retI X5 hx hlk hret (hb hby d2_130) rfl (Or.inl ⟨rfl, by simp, _, rfl⟩) (by decide) (by decide) ⟨rfl, N0, e5⟩
set_option maxRecDepth 65536 in
set_option maxHeartbeats 40000000 in
theorem rm_2_5_gt (l : Launch) (Z : State) (a0 : Array Value) (hw : ∀ d ∈ tables_1, d.before a0 Z = true) (ws : List Jvm.Cond) (x1 : UInt64) (y1 : UInt64) (aE : Addr) (aN : Addr) (aL : Addr) (aM : Addr) (aG : Addr) (aH : Addr) (h0 : Heap) (n0 : Nat) (Z0 : n0 ≤ h0.size) (ho : FP.dcmp x1 y1 = some .gt) (S0 : Sta Z h0 "com/example/libclearance/libclearance/xpath/Comparison" "EQUAL" "Lcom/example/libclearance/libclearance/xpath/Comparison;" (.ref aE)) (S1 : Sta Z h0 "com/example/libclearance/libclearance/xpath/Comparison" "NOT_EQUAL" "Lcom/example/libclearance/libclearance/xpath/Comparison;" (.ref aN)) (S2 : Sta Z h0 "com/example/libclearance/libclearance/xpath/Comparison" "LESS" "Lcom/example/libclearance/libclearance/xpath/Comparison;" (.ref aL)) (S3 : Sta Z h0 "com/example/libclearance/libclearance/xpath/Comparison" "LESS_OR_EQUAL" "Lcom/example/libclearance/libclearance/xpath/Comparison;" (.ref aM)) (S4 : Sta Z h0 "com/example/libclearance/libclearance/xpath/Comparison" "GREATER" "Lcom/example/libclearance/libclearance/xpath/Comparison;" (.ref aG)) (q0 : ¬ aH = aE) (q1 : ¬ aH = aN) (q2 : ¬ aH = aL) (q3 : ¬ aH = aM) (q4 : ¬ aH = aG) :
    OwnMet l Z (⟨"com/example/libclearance/libclearance/xpath/Comparison", "holds", "(DD)Z"⟩ : MethodName) prog_88_method_6_code 6 (some .boolean) ws ({ frames := 0, cells := 0, slots := 0, locals := 0 } : Room) #[.ref aH, .double x1, .double y1] h0 (fun v h L => v = some (.int (1 : Int32)) ∧ Fr n0 L ∧ h = h0) := by
  refine own_met (plainFor_of_name pn_2) (ef_2 aH x1 y1) ?_
  intro p e s m below meth c s₁ hx hby hml hZ hown hnm hret hlk X0 e0
  have N0 := Fr.nil n0
  refine s_aloadN X0 hx (hb hby d2_0) (pc' := 1) rfl rfl rfl ?_
  obtain ⟨T1, X1, e1, st1⟩ := getS X0 hx hZ hown (host := "") (hw _ (List.mem_of_getElem? (i := 13) rfl)) Via.refl e0 S0 (g := (mkF m 1 #[.val (.ref aH), .val (.double x1), .second, .val (.double y1), .second, .unset] [.ref aH])) rfl (hb hby d2_1)
  refine own_go st1 ?_
  show Goes p e below _ (T1.setTop (mkF m 4 #[.val (.ref aH), .val (.double x1), .second, .val (.double y1), .second, .unset] [.ref aE, .ref aH]))
  refine s_acmpY X1 hx (hb hby d2_4) rfl rfl (ay_ne q0) (by decide) (pc' := 23) (by decide) ?_
  refine s_aloadN X1 hx (hb hby d2_23) (pc' := 24) rfl rfl rfl ?_
  obtain ⟨T2, X2, e2, st2⟩ := getS X1 hx hZ hown (host := "") (hw _ (List.mem_of_getElem? (i := 16) rfl)) Via.refl e1 S1 (g := (mkF m 24 #[.val (.ref aH), .val (.double x1), .second, .val (.double y1), .second, .unset] [.ref aH])) rfl (hb hby d2_24)
  refine own_go st2 ?_
  show Goes p e below _ (T2.setTop (mkF m 27 #[.val (.ref aH), .val (.double x1), .second, .val (.double y1), .second, .unset] [.ref aN, .ref aH]))
  refine s_acmpY X2 hx (hb hby d2_27) rfl rfl (ay_ne q1) (by decide) (pc' := 46) (by decide) ?_
  refine s_aloadN X2 hx (hb hby d2_46) (pc' := 47) rfl rfl rfl ?_
  obtain ⟨T3, X3, e3, st3⟩ := getS X2 hx hZ hown (host := "") (hw _ (List.mem_of_getElem? (i := 19) rfl)) Via.refl e2 S2 (g := (mkF m 47 #[.val (.ref aH), .val (.double x1), .second, .val (.double y1), .second, .unset] [.ref aH])) rfl (hb hby d2_47)
  refine own_go st3 ?_
  show Goes p e below _ (T3.setTop (mkF m 50 #[.val (.ref aH), .val (.double x1), .second, .val (.double y1), .second, .unset] [.ref aL, .ref aH]))
  refine s_acmpY X3 hx (hb hby d2_50) rfl rfl (ay_ne q2) (by decide) (pc' := 69) (by decide) ?_
  refine s_aloadN X3 hx (hb hby d2_69) (pc' := 70) rfl rfl rfl ?_
  obtain ⟨T4, X4, e4, st4⟩ := getS X3 hx hZ hown (host := "") (hw _ (List.mem_of_getElem? (i := 21) rfl)) Via.refl e3 S3 (g := (mkF m 70 #[.val (.ref aH), .val (.double x1), .second, .val (.double y1), .second, .unset] [.ref aH])) rfl (hb hby d2_70)
  refine own_go st4 ?_
  show Goes p e below _ (T4.setTop (mkF m 73 #[.val (.ref aH), .val (.double x1), .second, .val (.double y1), .second, .unset] [.ref aM, .ref aH]))
  refine s_acmpY X4 hx (hb hby d2_73) rfl rfl (ay_ne q3) (by decide) (pc' := 92) (by decide) ?_
  refine s_aloadN X4 hx (hb hby d2_92) (pc' := 93) rfl rfl rfl ?_
  obtain ⟨T5, X5, e5, st5⟩ := getS X4 hx hZ hown (host := "") (hw _ (List.mem_of_getElem? (i := 23) rfl)) Via.refl e4 S4 (g := (mkF m 93 #[.val (.ref aH), .val (.double x1), .second, .val (.double y1), .second, .unset] [.ref aH])) rfl (hb hby d2_93)
  refine own_go st5 ?_
  show Goes p e below _ (T5.setTop (mkF m 96 #[.val (.ref aH), .val (.double x1), .second, .val (.double y1), .second, .unset] [.ref aG, .ref aH]))
  refine s_acmpY X5 hx (hb hby d2_96) rfl rfl (ay_ne q4) (by decide) (pc' := 115) (by decide) ?_
  refine s_dloadN X5 hx (hb hby d2_115) (pc' := 116) rfl rfl ?_
  refine s_dloadN X5 hx (hb hby d2_116) (pc' := 117) rfl rfl ?_
  refine s_dcmp X5 hx (1 : Int32) (hb hby d2_117) (pc' := 118) rfl (by rw [ho]; rfl) ?_
  refine s_ifN X5 hx (hb hby d2_118) (pc' := 121) rfl (by decide) ?_
  refine s_iconst X5 hx (1 : Int32) (hb hby d2_121) (pc' := 122) rfl rfl ?_
  refine s_goto X5 hx (hb hby d2_122) (by decide) (pc' := 126) (by decide) ?_
  refine s_istore X5 hx #[.val (.ref aH), .val (.double x1), .second, .val (.double y1), .second, .val (.int (1 : Int32))] (hb hby d2_126) (pc' := 128) rfl rfl ?_
  refine s_iload X5 hx (hb hby d2_128) (pc' := 130) rfl rfl ?_
  exact s_retI X5 hx hlk hret (hb hby d2_130) rfl (Or.inl ⟨rfl, by simp, _, rfl⟩) (by decide) (by decide) ⟨rfl, N0, e5⟩
theorem pn_0 : plainName "com/example/libclearance/libclearance/xpath/ComparisonHoldsPinLaw" = true := by first | (simp [plainName, overriddenIn]; done) | decide +kernel
def Q0 (n0 : Nat) (v : Option Value) (h : Heap) (L : List Loc) : Prop := v = some (.int 1) ∧ Fr n0 L
theorem pd_0 : parseMethodDescriptor "(I)Lcom/example/libclearance/libclearance/xpath/Comparison;" = some ⟨[.int], some (.object "com/example/libclearance/libclearance/xpath/Comparison")⟩ := by decide +kernel
theorem pd_1 : parseMethodDescriptor "(DD)Z" = some ⟨[.double, .double], some .boolean⟩ := by decide +kernel
theorem ef_0 (z0 : Int32) (z1 : Int32) (z2 : Int32) (z3 : Int32) (m : MethodId) : entryFrame m #[.int z0, .int z1, .int z2, .int z3] maxLocals = mkF m 0 #[.val (.int z0), .val (.int z1), .val (.int z2), .val (.int z3), .unset, .unset, .unset, .unset, .unset] [] := by first | (simp [entryFrame, mkF, argsToLocals, Value.category, maxLocals]; done) | rfl
set_option maxRecDepth 65536 in
set_option maxHeartbeats 40000000 in
theorem rm_0 (l : Launch) (Z : State) (a0 : Array Value) (hw : ∀ d ∈ tables_1, d.before a0 Z = true) (ws : List Jvm.Cond) (p0 : Int32) (p1 : Int32) (p2 : Int32) (p3 : Int32) (h0 : Heap) (n0 : Nat) (Z0 : n0 ≤ h0.size) (aE aN aL aM aG aH : Addr) (S0 : Sta Z h0 "com/example/libclearance/libclearance/xpath/Comparison" "EQUAL" "Lcom/example/libclearance/libclearance/xpath/Comparison;" (.ref aE)) (S1 : Sta Z h0 "com/example/libclearance/libclearance/xpath/Comparison" "NOT_EQUAL" "Lcom/example/libclearance/libclearance/xpath/Comparison;" (.ref aN)) (S2 : Sta Z h0 "com/example/libclearance/libclearance/xpath/Comparison" "LESS" "Lcom/example/libclearance/libclearance/xpath/Comparison;" (.ref aL)) (S3 : Sta Z h0 "com/example/libclearance/libclearance/xpath/Comparison" "LESS_OR_EQUAL" "Lcom/example/libclearance/libclearance/xpath/Comparison;" (.ref aM)) (S4 : Sta Z h0 "com/example/libclearance/libclearance/xpath/Comparison" "GREATER" "Lcom/example/libclearance/libclearance/xpath/Comparison;" (.ref aG)) (S5 : Sta Z h0 "com/example/libclearance/libclearance/xpath/Comparison" "GREATER_OR_EQUAL" "Lcom/example/libclearance/libclearance/xpath/Comparison;" (.ref aH)) (E0 : Exa Z h0 aE "com/example/libclearance/libclearance/xpath/Comparison") (E1 : Exa Z h0 aN "com/example/libclearance/libclearance/xpath/Comparison") (E2 : Exa Z h0 aL "com/example/libclearance/libclearance/xpath/Comparison") (E3 : Exa Z h0 aM "com/example/libclearance/libclearance/xpath/Comparison") (E4 : Exa Z h0 aG "com/example/libclearance/libclearance/xpath/Comparison") (E5 : Exa Z h0 aH "com/example/libclearance/libclearance/xpath/Comparison") (q10 : ¬ aN = aE) (q20 : ¬ aL = aE) (q21 : ¬ aL = aN) (q30 : ¬ aM = aE) (q31 : ¬ aM = aN) (q32 : ¬ aM = aL) (q40 : ¬ aG = aE) (q41 : ¬ aG = aN) (q42 : ¬ aG = aL) (q43 : ¬ aG = aM) (q50 : ¬ aH = aE) (q51 : ¬ aH = aN) (q52 : ¬ aH = aL) (q53 : ¬ aH = aM) (q54 : ¬ aH = aG) :
    OwnMet l Z x code maxLocals ret ws room_1 #[.int p0, .int p1, .int p2, .int p3] h0 (Q0 n0) := by
  refine own_met (plainFor_of_name pn_0) (ef_0 p0 p1 p2 p3) ?_
  intro p e s m below meth c s₁ hx hby hml hZ hown hnm hret hlk X0 e0
  have N0 := Fr.nil n0
  refine s_iloadN X0 hx (hb hby at_0) (pc' := 1) rfl rfl ?_
  refine s_ldcI X0 hx hZ hown (hw _ (List.mem_of_getElem? (i := 0) rfl)) (hb hby at_1) (pc' := 3) rfl ?_
  refine s_iand X0 hx (hb hby at_3) (pc' := 4) rfl ?_
  refine s_bipush X0 hx (6 : Int32) (hb hby at_4) (pc' := 6) rfl rfl ?_
  have hk := own_k p0
  refine s_irem X0 hx (hb hby at_6) (pc' := 7) rfl (by decide) ?_
  refine s_istore X0 hx #[.val (.int p0), .val (.int p1), .val (.int p2), .val (.int p3), .val (.int ((p0 &&& (2147483647 : Int32)) % (6 : Int32))), .unset, .unset, .unset, .unset] (hb hby at_7) (pc' := 9) rfl rfl ?_
  generalize ek : ((p0 &&& (2147483647 : Int32)) % (6 : Int32)) = k
  simp only [ek] at hk
  have tail : ∀ r : Int32, Goes p e below (EndsAs (Q0 n0) s room_1.cells room_1.slots) (s₁.setTop (mkF m 22 #[.val (.int p0), .val (.int p1), .val (.int p2), .val (.int p3), .val (.int k), .val (.int r), .unset, .unset, .unset] [])) := by
    intro r
    rcases hk with rfl | rfl | rfl | rfl | rfl | rfl
    ·
      refine s_iload X0 hx (hb hby at_22) (pc' := 24) rfl rfl ?_
      refine c_static X0 hx hZ hown (hw _ (List.mem_of_getElem? (i := 1) rfl)) (hw _ (List.mem_of_getElem? (i := 2) rfl)) (hw _ (List.mem_of_getElem? (i := 3) rfl)) (hw _ (List.mem_of_getElem? (i := 4) rfl)) (by decide) e0 (rm_1_0 l Z a0 hw [] aE h0 n0 Z0 S0) (W := 0) (by decide) (by decide) (by decide) (by decide) (by rw [hml]; rfl) (argsL := [.int (0 : Int32)]) (rest := []) (lenOf pd_0 rfl) rfl rfl (Nat.le_of_eq rfl) (hb hby at_24) (pc' := 27) rfl ?_
      intro T1 v1 L1 X1 hQ1
      obtain ⟨rfl, Nq1, eh1⟩ := hQ1
      have N1 := Fr.app N0 Nq1
      show Goes p e below _ (T1.setTop (mkF m 27 #[.val (.int p0), .val (.int p1), .val (.int p2), .val (.int p3), .val (.int (0 : Int32)), .val (.int r), .unset, .unset, .unset] [.ref aE]))
      refine s_astore X1 hx #[.val (.int p0), .val (.int p1), .val (.int p2), .val (.int p3), .val (.int (0 : Int32)), .val (.int r), .val (.ref aE), .unset, .unset] (hb hby at_27) (pc' := 29) rfl rfl rfl ?_
      refine s_iloadN X1 hx (hb hby at_29) (pc' := 30) rfl rfl ?_
      refine s_iload X1 hx (hb hby at_30) (pc' := 32) rfl rfl ?_
      by_cases h1 : p1 < r
      ·
        refine s_icmpN X1 hx (hb hby at_32) (pc' := 35) rfl (cn_ge h1) ?_
        refine s_iconst X1 hx (-1 : Int32) (hb hby at_35) (pc' := 36) rfl rfl ?_
        refine s_istore X1 hx #[.val (.int p0), .val (.int p1), .val (.int p2), .val (.int p3), .val (.int (0 : Int32)), .val (.int r), .val (.ref aE), .val (.int (-1 : Int32)), .unset] (hb hby at_36) (pc' := 38) rfl rfl ?_
        refine s_goto X1 hx (hb hby at_38) (by decide) (pc' := 56) (by decide) ?_
        refine s_iload X1 hx (hb hby at_56) (pc' := 58) rfl rfl ?_
        refine s_ifN X1 hx (hb hby at_58) (pc' := 61) rfl (by decide) ?_
        refine s_iload X1 hx (hb hby at_61) (pc' := 63) rfl rfl ?_
        refine s_ifY X1 hx (hb hby at_63) (by decide) (by decide) (pc' := 70) (by decide) ?_
        refine s_iconst X1 hx (0 : Int32) (hb hby at_70) (pc' := 71) rfl rfl ?_
        refine s_istore X1 hx #[.val (.int p0), .val (.int p1), .val (.int p2), .val (.int p3), .val (.int (0 : Int32)), .val (.int r), .val (.ref aE), .val (.int (-1 : Int32)), .val (.int (0 : Int32))] (hb hby at_71) (pc' := 73) rfl rfl ?_
        refine s_goto X1 hx (hb hby at_73) (by decide) (pc' := 172) (by decide) ?_
        refine s_aload X1 hx (hb hby at_172) (pc' := 174) rfl rfl rfl ?_
        refine s_iloadN X1 hx (hb hby at_174) (pc' := 175) rfl rfl ?_
        refine s_i2d X1 hx (hb hby at_175) (pc' := 176) rfl ?_
        refine s_iload X1 hx (hb hby at_176) (pc' := 178) rfl rfl ?_
        refine s_i2d X1 hx (hb hby at_178) (pc' := 179) rfl ?_
        refine c_virtual X1 hx hZ hown (hw _ (List.mem_of_getElem? (i := 8) rfl)) (hw _ (List.mem_of_getElem? (i := 9) rfl)) (hw _ (List.mem_of_getElem? (i := 11) rfl)) (hw _ (List.mem_of_getElem? (i := 10) rfl)) (hw _ (List.mem_of_getElem? (i := 6) rfl)) (hw _ (List.mem_of_getElem? (i := 12) rfl)) (by decide) eh1 E0 (rm_2_0_lt l Z a0 hw [] (FP.i2d p1) (FP.i2d r) aE h0 n0 Z0 (by rw [own_dcmp, if_pos h1]) S0 ) (W := 0) (by decide) (by decide) (by decide) (by decide) (by rw [hml]; rfl) (argsL := [.double (FP.i2d p1), .double (FP.i2d r)]) (rest := []) (lenOf pd_1 rfl) rfl rfl (Nat.le_of_eq rfl) (hb hby at_179) (pc' := 182) rfl ?_
        intro T2 v2 L2 X2 hQ2
        obtain ⟨rfl, Nq2, eh2⟩ := hQ2
        have N2 := Fr.app N1 Nq2
        show Goes p e below _ (T2.setTop (mkF m 182 #[.val (.int p0), .val (.int p1), .val (.int p2), .val (.int p3), .val (.int (0 : Int32)), .val (.int r), .val (.ref aE), .val (.int (-1 : Int32)), .val (.int (0 : Int32))] [.int (0 : Int32)]))
        refine s_iload X2 hx (hb hby at_182) (pc' := 184) rfl rfl ?_
        refine s_icmpN X2 hx (hb hby at_184) (pc' := 187) rfl (by decide) ?_
        refine s_iconst X2 hx (1 : Int32) (hb hby at_187) (pc' := 188) rfl rfl ?_
        refine s_goto X2 hx (hb hby at_188) (by decide) (pc' := 192) (by decide) ?_
        exact s_retI X2 hx hlk hret (hb hby at_192) rfl (Or.inl ⟨rfl, by simp, _, rfl⟩) (by decide) (by decide) ⟨rfl, N2⟩
      refine s_icmpY X1 hx (hb hby at_32) (cy_ge h1) (by decide) (pc' := 41) (by decide) ?_
      refine s_iloadN X1 hx (hb hby at_41) (pc' := 42) rfl rfl ?_
      refine s_iload X1 hx (hb hby at_42) (pc' := 44) rfl rfl ?_
      by_cases h2 : p1 = r
      ·
        refine s_icmpN X1 hx (hb hby at_44) (pc' := 47) rfl (cn_ne h2) ?_
        refine s_iconst X1 hx (0 : Int32) (hb hby at_47) (pc' := 48) rfl rfl ?_
        refine s_istore X1 hx #[.val (.int p0), .val (.int p1), .val (.int p2), .val (.int p3), .val (.int (0 : Int32)), .val (.int r), .val (.ref aE), .val (.int (0 : Int32)), .unset] (hb hby at_48) (pc' := 50) rfl rfl ?_
        refine s_goto X1 hx (hb hby at_50) (by decide) (pc' := 56) (by decide) ?_
        refine s_iload X1 hx (hb hby at_56) (pc' := 58) rfl rfl ?_
        refine s_ifN X1 hx (hb hby at_58) (pc' := 61) rfl (by decide) ?_
        refine s_iload X1 hx (hb hby at_61) (pc' := 63) rfl rfl ?_
        refine s_ifN X1 hx (hb hby at_63) (pc' := 66) rfl (by decide) ?_
        refine s_iconst X1 hx (1 : Int32) (hb hby at_66) (pc' := 67) rfl rfl ?_
        refine s_goto X1 hx (hb hby at_67) (by decide) (pc' := 71) (by decide) ?_
        refine s_istore X1 hx #[.val (.int p0), .val (.int p1), .val (.int p2), .val (.int p3), .val (.int (0 : Int32)), .val (.int r), .val (.ref aE), .val (.int (0 : Int32)), .val (.int (1 : Int32))] (hb hby at_71) (pc' := 73) rfl rfl ?_
        refine s_goto X1 hx (hb hby at_73) (by decide) (pc' := 172) (by decide) ?_
        refine s_aload X1 hx (hb hby at_172) (pc' := 174) rfl rfl rfl ?_
        refine s_iloadN X1 hx (hb hby at_174) (pc' := 175) rfl rfl ?_
        refine s_i2d X1 hx (hb hby at_175) (pc' := 176) rfl ?_
        refine s_iload X1 hx (hb hby at_176) (pc' := 178) rfl rfl ?_
        refine s_i2d X1 hx (hb hby at_178) (pc' := 179) rfl ?_
        refine c_virtual X1 hx hZ hown (hw _ (List.mem_of_getElem? (i := 8) rfl)) (hw _ (List.mem_of_getElem? (i := 9) rfl)) (hw _ (List.mem_of_getElem? (i := 11) rfl)) (hw _ (List.mem_of_getElem? (i := 10) rfl)) (hw _ (List.mem_of_getElem? (i := 6) rfl)) (hw _ (List.mem_of_getElem? (i := 12) rfl)) (by decide) eh1 E0 (rm_2_0_eq l Z a0 hw [] (FP.i2d p1) (FP.i2d r) aE h0 n0 Z0 (by rw [own_dcmp, if_neg h1, if_pos h2]) S0 ) (W := 0) (by decide) (by decide) (by decide) (by decide) (by rw [hml]; rfl) (argsL := [.double (FP.i2d p1), .double (FP.i2d r)]) (rest := []) (lenOf pd_1 rfl) rfl rfl (Nat.le_of_eq rfl) (hb hby at_179) (pc' := 182) rfl ?_
        intro T3 v3 L3 X3 hQ3
        obtain ⟨rfl, Nq3, eh3⟩ := hQ3
        have N3 := Fr.app N1 Nq3
        show Goes p e below _ (T3.setTop (mkF m 182 #[.val (.int p0), .val (.int p1), .val (.int p2), .val (.int p3), .val (.int (0 : Int32)), .val (.int r), .val (.ref aE), .val (.int (0 : Int32)), .val (.int (1 : Int32))] [.int (1 : Int32)]))
        refine s_iload X3 hx (hb hby at_182) (pc' := 184) rfl rfl ?_
        refine s_icmpN X3 hx (hb hby at_184) (pc' := 187) rfl (by decide) ?_
        refine s_iconst X3 hx (1 : Int32) (hb hby at_187) (pc' := 188) rfl rfl ?_
        refine s_goto X3 hx (hb hby at_188) (by decide) (pc' := 192) (by decide) ?_
        exact s_retI X3 hx hlk hret (hb hby at_192) rfl (Or.inl ⟨rfl, by simp, _, rfl⟩) (by decide) (by decide) ⟨rfl, N3⟩
      refine s_icmpY X1 hx (hb hby at_44) (cy_ne h2) (by decide) (pc' := 53) (by decide) ?_
      refine s_iconst X1 hx (1 : Int32) (hb hby at_53) (pc' := 54) rfl rfl ?_
      refine s_istore X1 hx #[.val (.int p0), .val (.int p1), .val (.int p2), .val (.int p3), .val (.int (0 : Int32)), .val (.int r), .val (.ref aE), .val (.int (1 : Int32)), .unset] (hb hby at_54) (pc' := 56) rfl rfl ?_
      refine s_iload X1 hx (hb hby at_56) (pc' := 58) rfl rfl ?_
      refine s_ifN X1 hx (hb hby at_58) (pc' := 61) rfl (by decide) ?_
      refine s_iload X1 hx (hb hby at_61) (pc' := 63) rfl rfl ?_
      refine s_ifY X1 hx (hb hby at_63) (by decide) (by decide) (pc' := 70) (by decide) ?_
      refine s_iconst X1 hx (0 : Int32) (hb hby at_70) (pc' := 71) rfl rfl ?_
      refine s_istore X1 hx #[.val (.int p0), .val (.int p1), .val (.int p2), .val (.int p3), .val (.int (0 : Int32)), .val (.int r), .val (.ref aE), .val (.int (1 : Int32)), .val (.int (0 : Int32))] (hb hby at_71) (pc' := 73) rfl rfl ?_
      refine s_goto X1 hx (hb hby at_73) (by decide) (pc' := 172) (by decide) ?_
      refine s_aload X1 hx (hb hby at_172) (pc' := 174) rfl rfl rfl ?_
      refine s_iloadN X1 hx (hb hby at_174) (pc' := 175) rfl rfl ?_
      refine s_i2d X1 hx (hb hby at_175) (pc' := 176) rfl ?_
      refine s_iload X1 hx (hb hby at_176) (pc' := 178) rfl rfl ?_
      refine s_i2d X1 hx (hb hby at_178) (pc' := 179) rfl ?_
      refine c_virtual X1 hx hZ hown (hw _ (List.mem_of_getElem? (i := 8) rfl)) (hw _ (List.mem_of_getElem? (i := 9) rfl)) (hw _ (List.mem_of_getElem? (i := 11) rfl)) (hw _ (List.mem_of_getElem? (i := 10) rfl)) (hw _ (List.mem_of_getElem? (i := 6) rfl)) (hw _ (List.mem_of_getElem? (i := 12) rfl)) (by decide) eh1 E0 (rm_2_0_gt l Z a0 hw [] (FP.i2d p1) (FP.i2d r) aE h0 n0 Z0 (by rw [own_dcmp, if_neg h1, if_neg h2]) S0 ) (W := 0) (by decide) (by decide) (by decide) (by decide) (by rw [hml]; rfl) (argsL := [.double (FP.i2d p1), .double (FP.i2d r)]) (rest := []) (lenOf pd_1 rfl) rfl rfl (Nat.le_of_eq rfl) (hb hby at_179) (pc' := 182) rfl ?_
      intro T4 v4 L4 X4 hQ4
      obtain ⟨rfl, Nq4, eh4⟩ := hQ4
      have N4 := Fr.app N1 Nq4
      show Goes p e below _ (T4.setTop (mkF m 182 #[.val (.int p0), .val (.int p1), .val (.int p2), .val (.int p3), .val (.int (0 : Int32)), .val (.int r), .val (.ref aE), .val (.int (1 : Int32)), .val (.int (0 : Int32))] [.int (0 : Int32)]))
      refine s_iload X4 hx (hb hby at_182) (pc' := 184) rfl rfl ?_
      refine s_icmpN X4 hx (hb hby at_184) (pc' := 187) rfl (by decide) ?_
      refine s_iconst X4 hx (1 : Int32) (hb hby at_187) (pc' := 188) rfl rfl ?_
      refine s_goto X4 hx (hb hby at_188) (by decide) (pc' := 192) (by decide) ?_
      exact s_retI X4 hx hlk hret (hb hby at_192) rfl (Or.inl ⟨rfl, by simp, _, rfl⟩) (by decide) (by decide) ⟨rfl, N4⟩
    ·
      refine s_iload X0 hx (hb hby at_22) (pc' := 24) rfl rfl ?_
      refine c_static X0 hx hZ hown (hw _ (List.mem_of_getElem? (i := 1) rfl)) (hw _ (List.mem_of_getElem? (i := 2) rfl)) (hw _ (List.mem_of_getElem? (i := 3) rfl)) (hw _ (List.mem_of_getElem? (i := 4) rfl)) (by decide) e0 (rm_1_1 l Z a0 hw [] aN h0 n0 Z0 S1) (W := 0) (by decide) (by decide) (by decide) (by decide) (by rw [hml]; rfl) (argsL := [.int (1 : Int32)]) (rest := []) (lenOf pd_0 rfl) rfl rfl (Nat.le_of_eq rfl) (hb hby at_24) (pc' := 27) rfl ?_
      intro T5 v5 L5 X5 hQ5
      obtain ⟨rfl, Nq5, eh5⟩ := hQ5
      have N5 := Fr.app N0 Nq5
      show Goes p e below _ (T5.setTop (mkF m 27 #[.val (.int p0), .val (.int p1), .val (.int p2), .val (.int p3), .val (.int (1 : Int32)), .val (.int r), .unset, .unset, .unset] [.ref aN]))
      refine s_astore X5 hx #[.val (.int p0), .val (.int p1), .val (.int p2), .val (.int p3), .val (.int (1 : Int32)), .val (.int r), .val (.ref aN), .unset, .unset] (hb hby at_27) (pc' := 29) rfl rfl rfl ?_
      refine s_iloadN X5 hx (hb hby at_29) (pc' := 30) rfl rfl ?_
      refine s_iload X5 hx (hb hby at_30) (pc' := 32) rfl rfl ?_
      by_cases h1 : p1 < r
      ·
        refine s_icmpN X5 hx (hb hby at_32) (pc' := 35) rfl (cn_ge h1) ?_
        refine s_iconst X5 hx (-1 : Int32) (hb hby at_35) (pc' := 36) rfl rfl ?_
        refine s_istore X5 hx #[.val (.int p0), .val (.int p1), .val (.int p2), .val (.int p3), .val (.int (1 : Int32)), .val (.int r), .val (.ref aN), .val (.int (-1 : Int32)), .unset] (hb hby at_36) (pc' := 38) rfl rfl ?_
        refine s_goto X5 hx (hb hby at_38) (by decide) (pc' := 56) (by decide) ?_
        refine s_iload X5 hx (hb hby at_56) (pc' := 58) rfl rfl ?_
        refine s_ifY X5 hx (hb hby at_58) (by decide) (by decide) (pc' := 76) (by decide) ?_
        refine s_iload X5 hx (hb hby at_76) (pc' := 78) rfl rfl ?_
        refine s_iconst X5 hx (1 : Int32) (hb hby at_78) (pc' := 79) rfl rfl ?_
        refine s_icmpN X5 hx (hb hby at_79) (pc' := 82) rfl (by decide) ?_
        refine s_iload X5 hx (hb hby at_82) (pc' := 84) rfl rfl ?_
        refine s_ifN X5 hx (hb hby at_84) (pc' := 87) rfl (by decide) ?_
        refine s_iconst X5 hx (1 : Int32) (hb hby at_87) (pc' := 88) rfl rfl ?_
        refine s_goto X5 hx (hb hby at_88) (by decide) (pc' := 92) (by decide) ?_
        refine s_istore X5 hx #[.val (.int p0), .val (.int p1), .val (.int p2), .val (.int p3), .val (.int (1 : Int32)), .val (.int r), .val (.ref aN), .val (.int (-1 : Int32)), .val (.int (1 : Int32))] (hb hby at_92) (pc' := 94) rfl rfl ?_
        refine s_goto X5 hx (hb hby at_94) (by decide) (pc' := 172) (by decide) ?_
        refine s_aload X5 hx (hb hby at_172) (pc' := 174) rfl rfl rfl ?_
        refine s_iloadN X5 hx (hb hby at_174) (pc' := 175) rfl rfl ?_
        refine s_i2d X5 hx (hb hby at_175) (pc' := 176) rfl ?_
        refine s_iload X5 hx (hb hby at_176) (pc' := 178) rfl rfl ?_
        refine s_i2d X5 hx (hb hby at_178) (pc' := 179) rfl ?_
        refine c_virtual X5 hx hZ hown (hw _ (List.mem_of_getElem? (i := 8) rfl)) (hw _ (List.mem_of_getElem? (i := 9) rfl)) (hw _ (List.mem_of_getElem? (i := 11) rfl)) (hw _ (List.mem_of_getElem? (i := 10) rfl)) (hw _ (List.mem_of_getElem? (i := 6) rfl)) (hw _ (List.mem_of_getElem? (i := 12) rfl)) (by decide) eh5 E1 (rm_2_1_lt l Z a0 hw [] (FP.i2d p1) (FP.i2d r) aE aN h0 n0 Z0 (by rw [own_dcmp, if_pos h1]) S0 S1 q10) (W := 0) (by decide) (by decide) (by decide) (by decide) (by rw [hml]; rfl) (argsL := [.double (FP.i2d p1), .double (FP.i2d r)]) (rest := []) (lenOf pd_1 rfl) rfl rfl (Nat.le_of_eq rfl) (hb hby at_179) (pc' := 182) rfl ?_
        intro T6 v6 L6 X6 hQ6
        obtain ⟨rfl, Nq6, eh6⟩ := hQ6
        have N6 := Fr.app N5 Nq6
        show Goes p e below _ (T6.setTop (mkF m 182 #[.val (.int p0), .val (.int p1), .val (.int p2), .val (.int p3), .val (.int (1 : Int32)), .val (.int r), .val (.ref aN), .val (.int (-1 : Int32)), .val (.int (1 : Int32))] [.int (1 : Int32)]))
        refine s_iload X6 hx (hb hby at_182) (pc' := 184) rfl rfl ?_
        refine s_icmpN X6 hx (hb hby at_184) (pc' := 187) rfl (by decide) ?_
        refine s_iconst X6 hx (1 : Int32) (hb hby at_187) (pc' := 188) rfl rfl ?_
        refine s_goto X6 hx (hb hby at_188) (by decide) (pc' := 192) (by decide) ?_
        exact s_retI X6 hx hlk hret (hb hby at_192) rfl (Or.inl ⟨rfl, by simp, _, rfl⟩) (by decide) (by decide) ⟨rfl, N6⟩
      refine s_icmpY X5 hx (hb hby at_32) (cy_ge h1) (by decide) (pc' := 41) (by decide) ?_
      refine s_iloadN X5 hx (hb hby at_41) (pc' := 42) rfl rfl ?_
      refine s_iload X5 hx (hb hby at_42) (pc' := 44) rfl rfl ?_
      by_cases h2 : p1 = r
      ·
        refine s_icmpN X5 hx (hb hby at_44) (pc' := 47) rfl (cn_ne h2) ?_
        refine s_iconst X5 hx (0 : Int32) (hb hby at_47) (pc' := 48) rfl rfl ?_
        refine s_istore X5 hx #[.val (.int p0), .val (.int p1), .val (.int p2), .val (.int p3), .val (.int (1 : Int32)), .val (.int r), .val (.ref aN), .val (.int (0 : Int32)), .unset] (hb hby at_48) (pc' := 50) rfl rfl ?_
        refine s_goto X5 hx (hb hby at_50) (by decide) (pc' := 56) (by decide) ?_
        refine s_iload X5 hx (hb hby at_56) (pc' := 58) rfl rfl ?_
        refine s_ifY X5 hx (hb hby at_58) (by decide) (by decide) (pc' := 76) (by decide) ?_
        refine s_iload X5 hx (hb hby at_76) (pc' := 78) rfl rfl ?_
        refine s_iconst X5 hx (1 : Int32) (hb hby at_78) (pc' := 79) rfl rfl ?_
        refine s_icmpN X5 hx (hb hby at_79) (pc' := 82) rfl (by decide) ?_
        refine s_iload X5 hx (hb hby at_82) (pc' := 84) rfl rfl ?_
        refine s_ifY X5 hx (hb hby at_84) (by decide) (by decide) (pc' := 91) (by decide) ?_
        refine s_iconst X5 hx (0 : Int32) (hb hby at_91) (pc' := 92) rfl rfl ?_
        refine s_istore X5 hx #[.val (.int p0), .val (.int p1), .val (.int p2), .val (.int p3), .val (.int (1 : Int32)), .val (.int r), .val (.ref aN), .val (.int (0 : Int32)), .val (.int (0 : Int32))] (hb hby at_92) (pc' := 94) rfl rfl ?_
        refine s_goto X5 hx (hb hby at_94) (by decide) (pc' := 172) (by decide) ?_
        refine s_aload X5 hx (hb hby at_172) (pc' := 174) rfl rfl rfl ?_
        refine s_iloadN X5 hx (hb hby at_174) (pc' := 175) rfl rfl ?_
        refine s_i2d X5 hx (hb hby at_175) (pc' := 176) rfl ?_
        refine s_iload X5 hx (hb hby at_176) (pc' := 178) rfl rfl ?_
        refine s_i2d X5 hx (hb hby at_178) (pc' := 179) rfl ?_
        refine c_virtual X5 hx hZ hown (hw _ (List.mem_of_getElem? (i := 8) rfl)) (hw _ (List.mem_of_getElem? (i := 9) rfl)) (hw _ (List.mem_of_getElem? (i := 11) rfl)) (hw _ (List.mem_of_getElem? (i := 10) rfl)) (hw _ (List.mem_of_getElem? (i := 6) rfl)) (hw _ (List.mem_of_getElem? (i := 12) rfl)) (by decide) eh5 E1 (rm_2_1_eq l Z a0 hw [] (FP.i2d p1) (FP.i2d r) aE aN h0 n0 Z0 (by rw [own_dcmp, if_neg h1, if_pos h2]) S0 S1 q10) (W := 0) (by decide) (by decide) (by decide) (by decide) (by rw [hml]; rfl) (argsL := [.double (FP.i2d p1), .double (FP.i2d r)]) (rest := []) (lenOf pd_1 rfl) rfl rfl (Nat.le_of_eq rfl) (hb hby at_179) (pc' := 182) rfl ?_
        intro T7 v7 L7 X7 hQ7
        obtain ⟨rfl, Nq7, eh7⟩ := hQ7
        have N7 := Fr.app N5 Nq7
        show Goes p e below _ (T7.setTop (mkF m 182 #[.val (.int p0), .val (.int p1), .val (.int p2), .val (.int p3), .val (.int (1 : Int32)), .val (.int r), .val (.ref aN), .val (.int (0 : Int32)), .val (.int (0 : Int32))] [.int (0 : Int32)]))
        refine s_iload X7 hx (hb hby at_182) (pc' := 184) rfl rfl ?_
        refine s_icmpN X7 hx (hb hby at_184) (pc' := 187) rfl (by decide) ?_
        refine s_iconst X7 hx (1 : Int32) (hb hby at_187) (pc' := 188) rfl rfl ?_
        refine s_goto X7 hx (hb hby at_188) (by decide) (pc' := 192) (by decide) ?_
        exact s_retI X7 hx hlk hret (hb hby at_192) rfl (Or.inl ⟨rfl, by simp, _, rfl⟩) (by decide) (by decide) ⟨rfl, N7⟩
      refine s_icmpY X5 hx (hb hby at_44) (cy_ne h2) (by decide) (pc' := 53) (by decide) ?_
      refine s_iconst X5 hx (1 : Int32) (hb hby at_53) (pc' := 54) rfl rfl ?_
      refine s_istore X5 hx #[.val (.int p0), .val (.int p1), .val (.int p2), .val (.int p3), .val (.int (1 : Int32)), .val (.int r), .val (.ref aN), .val (.int (1 : Int32)), .unset] (hb hby at_54) (pc' := 56) rfl rfl ?_
      refine s_iload X5 hx (hb hby at_56) (pc' := 58) rfl rfl ?_
      refine s_ifY X5 hx (hb hby at_58) (by decide) (by decide) (pc' := 76) (by decide) ?_
      refine s_iload X5 hx (hb hby at_76) (pc' := 78) rfl rfl ?_
      refine s_iconst X5 hx (1 : Int32) (hb hby at_78) (pc' := 79) rfl rfl ?_
      refine s_icmpN X5 hx (hb hby at_79) (pc' := 82) rfl (by decide) ?_
      refine s_iload X5 hx (hb hby at_82) (pc' := 84) rfl rfl ?_
      refine s_ifN X5 hx (hb hby at_84) (pc' := 87) rfl (by decide) ?_
      refine s_iconst X5 hx (1 : Int32) (hb hby at_87) (pc' := 88) rfl rfl ?_
      refine s_goto X5 hx (hb hby at_88) (by decide) (pc' := 92) (by decide) ?_
      refine s_istore X5 hx #[.val (.int p0), .val (.int p1), .val (.int p2), .val (.int p3), .val (.int (1 : Int32)), .val (.int r), .val (.ref aN), .val (.int (1 : Int32)), .val (.int (1 : Int32))] (hb hby at_92) (pc' := 94) rfl rfl ?_
      refine s_goto X5 hx (hb hby at_94) (by decide) (pc' := 172) (by decide) ?_
      refine s_aload X5 hx (hb hby at_172) (pc' := 174) rfl rfl rfl ?_
      refine s_iloadN X5 hx (hb hby at_174) (pc' := 175) rfl rfl ?_
      refine s_i2d X5 hx (hb hby at_175) (pc' := 176) rfl ?_
      refine s_iload X5 hx (hb hby at_176) (pc' := 178) rfl rfl ?_
      refine s_i2d X5 hx (hb hby at_178) (pc' := 179) rfl ?_
      refine c_virtual X5 hx hZ hown (hw _ (List.mem_of_getElem? (i := 8) rfl)) (hw _ (List.mem_of_getElem? (i := 9) rfl)) (hw _ (List.mem_of_getElem? (i := 11) rfl)) (hw _ (List.mem_of_getElem? (i := 10) rfl)) (hw _ (List.mem_of_getElem? (i := 6) rfl)) (hw _ (List.mem_of_getElem? (i := 12) rfl)) (by decide) eh5 E1 (rm_2_1_gt l Z a0 hw [] (FP.i2d p1) (FP.i2d r) aE aN h0 n0 Z0 (by rw [own_dcmp, if_neg h1, if_neg h2]) S0 S1 q10) (W := 0) (by decide) (by decide) (by decide) (by decide) (by rw [hml]; rfl) (argsL := [.double (FP.i2d p1), .double (FP.i2d r)]) (rest := []) (lenOf pd_1 rfl) rfl rfl (Nat.le_of_eq rfl) (hb hby at_179) (pc' := 182) rfl ?_
      intro T8 v8 L8 X8 hQ8
      obtain ⟨rfl, Nq8, eh8⟩ := hQ8
      have N8 := Fr.app N5 Nq8
      show Goes p e below _ (T8.setTop (mkF m 182 #[.val (.int p0), .val (.int p1), .val (.int p2), .val (.int p3), .val (.int (1 : Int32)), .val (.int r), .val (.ref aN), .val (.int (1 : Int32)), .val (.int (1 : Int32))] [.int (1 : Int32)]))
      refine s_iload X8 hx (hb hby at_182) (pc' := 184) rfl rfl ?_
      refine s_icmpN X8 hx (hb hby at_184) (pc' := 187) rfl (by decide) ?_
      refine s_iconst X8 hx (1 : Int32) (hb hby at_187) (pc' := 188) rfl rfl ?_
      refine s_goto X8 hx (hb hby at_188) (by decide) (pc' := 192) (by decide) ?_
      exact s_retI X8 hx hlk hret (hb hby at_192) rfl (Or.inl ⟨rfl, by simp, _, rfl⟩) (by decide) (by decide) ⟨rfl, N8⟩
    ·
      refine s_iload X0 hx (hb hby at_22) (pc' := 24) rfl rfl ?_
      refine c_static X0 hx hZ hown (hw _ (List.mem_of_getElem? (i := 1) rfl)) (hw _ (List.mem_of_getElem? (i := 2) rfl)) (hw _ (List.mem_of_getElem? (i := 3) rfl)) (hw _ (List.mem_of_getElem? (i := 4) rfl)) (by decide) e0 (rm_1_2 l Z a0 hw [] aL h0 n0 Z0 S2) (W := 0) (by decide) (by decide) (by decide) (by decide) (by rw [hml]; rfl) (argsL := [.int (2 : Int32)]) (rest := []) (lenOf pd_0 rfl) rfl rfl (Nat.le_of_eq rfl) (hb hby at_24) (pc' := 27) rfl ?_
      intro T9 v9 L9 X9 hQ9
      obtain ⟨rfl, Nq9, eh9⟩ := hQ9
      have N9 := Fr.app N0 Nq9
      show Goes p e below _ (T9.setTop (mkF m 27 #[.val (.int p0), .val (.int p1), .val (.int p2), .val (.int p3), .val (.int (2 : Int32)), .val (.int r), .unset, .unset, .unset] [.ref aL]))
      refine s_astore X9 hx #[.val (.int p0), .val (.int p1), .val (.int p2), .val (.int p3), .val (.int (2 : Int32)), .val (.int r), .val (.ref aL), .unset, .unset] (hb hby at_27) (pc' := 29) rfl rfl rfl ?_
      refine s_iloadN X9 hx (hb hby at_29) (pc' := 30) rfl rfl ?_
      refine s_iload X9 hx (hb hby at_30) (pc' := 32) rfl rfl ?_
      by_cases h1 : p1 < r
      ·
        refine s_icmpN X9 hx (hb hby at_32) (pc' := 35) rfl (cn_ge h1) ?_
        refine s_iconst X9 hx (-1 : Int32) (hb hby at_35) (pc' := 36) rfl rfl ?_
        refine s_istore X9 hx #[.val (.int p0), .val (.int p1), .val (.int p2), .val (.int p3), .val (.int (2 : Int32)), .val (.int r), .val (.ref aL), .val (.int (-1 : Int32)), .unset] (hb hby at_36) (pc' := 38) rfl rfl ?_
        refine s_goto X9 hx (hb hby at_38) (by decide) (pc' := 56) (by decide) ?_
        refine s_iload X9 hx (hb hby at_56) (pc' := 58) rfl rfl ?_
        refine s_ifY X9 hx (hb hby at_58) (by decide) (by decide) (pc' := 76) (by decide) ?_
        refine s_iload X9 hx (hb hby at_76) (pc' := 78) rfl rfl ?_
        refine s_iconst X9 hx (1 : Int32) (hb hby at_78) (pc' := 79) rfl rfl ?_
        refine s_icmpY X9 hx (hb hby at_79) (by decide) (by decide) (pc' := 97) (by decide) ?_
        refine s_iload X9 hx (hb hby at_97) (pc' := 99) rfl rfl ?_
        refine s_iconst X9 hx (2 : Int32) (hb hby at_99) (pc' := 100) rfl rfl ?_
        refine s_icmpN X9 hx (hb hby at_100) (pc' := 103) rfl (by decide) ?_
        refine s_iload X9 hx (hb hby at_103) (pc' := 105) rfl rfl ?_
        refine s_ifN X9 hx (hb hby at_105) (pc' := 108) rfl (by decide) ?_
        refine s_iconst X9 hx (1 : Int32) (hb hby at_108) (pc' := 109) rfl rfl ?_
        refine s_goto X9 hx (hb hby at_109) (by decide) (pc' := 113) (by decide) ?_
        refine s_istore X9 hx #[.val (.int p0), .val (.int p1), .val (.int p2), .val (.int p3), .val (.int (2 : Int32)), .val (.int r), .val (.ref aL), .val (.int (-1 : Int32)), .val (.int (1 : Int32))] (hb hby at_113) (pc' := 115) rfl rfl ?_
        refine s_goto X9 hx (hb hby at_115) (by decide) (pc' := 172) (by decide) ?_
        refine s_aload X9 hx (hb hby at_172) (pc' := 174) rfl rfl rfl ?_
        refine s_iloadN X9 hx (hb hby at_174) (pc' := 175) rfl rfl ?_
        refine s_i2d X9 hx (hb hby at_175) (pc' := 176) rfl ?_
        refine s_iload X9 hx (hb hby at_176) (pc' := 178) rfl rfl ?_
        refine s_i2d X9 hx (hb hby at_178) (pc' := 179) rfl ?_
        refine c_virtual X9 hx hZ hown (hw _ (List.mem_of_getElem? (i := 8) rfl)) (hw _ (List.mem_of_getElem? (i := 9) rfl)) (hw _ (List.mem_of_getElem? (i := 11) rfl)) (hw _ (List.mem_of_getElem? (i := 10) rfl)) (hw _ (List.mem_of_getElem? (i := 6) rfl)) (hw _ (List.mem_of_getElem? (i := 12) rfl)) (by decide) eh9 E2 (rm_2_2_lt l Z a0 hw [] (FP.i2d p1) (FP.i2d r) aE aN aL h0 n0 Z0 (by rw [own_dcmp, if_pos h1]) S0 S1 S2 q20 q21) (W := 0) (by decide) (by decide) (by decide) (by decide) (by rw [hml]; rfl) (argsL := [.double (FP.i2d p1), .double (FP.i2d r)]) (rest := []) (lenOf pd_1 rfl) rfl rfl (Nat.le_of_eq rfl) (hb hby at_179) (pc' := 182) rfl ?_
        intro T10 v10 L10 X10 hQ10
        obtain ⟨rfl, Nq10, eh10⟩ := hQ10
        have N10 := Fr.app N9 Nq10
        show Goes p e below _ (T10.setTop (mkF m 182 #[.val (.int p0), .val (.int p1), .val (.int p2), .val (.int p3), .val (.int (2 : Int32)), .val (.int r), .val (.ref aL), .val (.int (-1 : Int32)), .val (.int (1 : Int32))] [.int (1 : Int32)]))
        refine s_iload X10 hx (hb hby at_182) (pc' := 184) rfl rfl ?_
        refine s_icmpN X10 hx (hb hby at_184) (pc' := 187) rfl (by decide) ?_
        refine s_iconst X10 hx (1 : Int32) (hb hby at_187) (pc' := 188) rfl rfl ?_
        refine s_goto X10 hx (hb hby at_188) (by decide) (pc' := 192) (by decide) ?_
        exact s_retI X10 hx hlk hret (hb hby at_192) rfl (Or.inl ⟨rfl, by simp, _, rfl⟩) (by decide) (by decide) ⟨rfl, N10⟩
      refine s_icmpY X9 hx (hb hby at_32) (cy_ge h1) (by decide) (pc' := 41) (by decide) ?_
      refine s_iloadN X9 hx (hb hby at_41) (pc' := 42) rfl rfl ?_
      refine s_iload X9 hx (hb hby at_42) (pc' := 44) rfl rfl ?_
      by_cases h2 : p1 = r
      ·
        refine s_icmpN X9 hx (hb hby at_44) (pc' := 47) rfl (cn_ne h2) ?_
        refine s_iconst X9 hx (0 : Int32) (hb hby at_47) (pc' := 48) rfl rfl ?_
        refine s_istore X9 hx #[.val (.int p0), .val (.int p1), .val (.int p2), .val (.int p3), .val (.int (2 : Int32)), .val (.int r), .val (.ref aL), .val (.int (0 : Int32)), .unset] (hb hby at_48) (pc' := 50) rfl rfl ?_
        refine s_goto X9 hx (hb hby at_50) (by decide) (pc' := 56) (by decide) ?_
        refine s_iload X9 hx (hb hby at_56) (pc' := 58) rfl rfl ?_
        refine s_ifY X9 hx (hb hby at_58) (by decide) (by decide) (pc' := 76) (by decide) ?_
        refine s_iload X9 hx (hb hby at_76) (pc' := 78) rfl rfl ?_
        refine s_iconst X9 hx (1 : Int32) (hb hby at_78) (pc' := 79) rfl rfl ?_
        refine s_icmpY X9 hx (hb hby at_79) (by decide) (by decide) (pc' := 97) (by decide) ?_
        refine s_iload X9 hx (hb hby at_97) (pc' := 99) rfl rfl ?_
        refine s_iconst X9 hx (2 : Int32) (hb hby at_99) (pc' := 100) rfl rfl ?_
        refine s_icmpN X9 hx (hb hby at_100) (pc' := 103) rfl (by decide) ?_
        refine s_iload X9 hx (hb hby at_103) (pc' := 105) rfl rfl ?_
        refine s_ifY X9 hx (hb hby at_105) (by decide) (by decide) (pc' := 112) (by decide) ?_
        refine s_iconst X9 hx (0 : Int32) (hb hby at_112) (pc' := 113) rfl rfl ?_
        refine s_istore X9 hx #[.val (.int p0), .val (.int p1), .val (.int p2), .val (.int p3), .val (.int (2 : Int32)), .val (.int r), .val (.ref aL), .val (.int (0 : Int32)), .val (.int (0 : Int32))] (hb hby at_113) (pc' := 115) rfl rfl ?_
        refine s_goto X9 hx (hb hby at_115) (by decide) (pc' := 172) (by decide) ?_
        refine s_aload X9 hx (hb hby at_172) (pc' := 174) rfl rfl rfl ?_
        refine s_iloadN X9 hx (hb hby at_174) (pc' := 175) rfl rfl ?_
        refine s_i2d X9 hx (hb hby at_175) (pc' := 176) rfl ?_
        refine s_iload X9 hx (hb hby at_176) (pc' := 178) rfl rfl ?_
        refine s_i2d X9 hx (hb hby at_178) (pc' := 179) rfl ?_
        refine c_virtual X9 hx hZ hown (hw _ (List.mem_of_getElem? (i := 8) rfl)) (hw _ (List.mem_of_getElem? (i := 9) rfl)) (hw _ (List.mem_of_getElem? (i := 11) rfl)) (hw _ (List.mem_of_getElem? (i := 10) rfl)) (hw _ (List.mem_of_getElem? (i := 6) rfl)) (hw _ (List.mem_of_getElem? (i := 12) rfl)) (by decide) eh9 E2 (rm_2_2_eq l Z a0 hw [] (FP.i2d p1) (FP.i2d r) aE aN aL h0 n0 Z0 (by rw [own_dcmp, if_neg h1, if_pos h2]) S0 S1 S2 q20 q21) (W := 0) (by decide) (by decide) (by decide) (by decide) (by rw [hml]; rfl) (argsL := [.double (FP.i2d p1), .double (FP.i2d r)]) (rest := []) (lenOf pd_1 rfl) rfl rfl (Nat.le_of_eq rfl) (hb hby at_179) (pc' := 182) rfl ?_
        intro T11 v11 L11 X11 hQ11
        obtain ⟨rfl, Nq11, eh11⟩ := hQ11
        have N11 := Fr.app N9 Nq11
        show Goes p e below _ (T11.setTop (mkF m 182 #[.val (.int p0), .val (.int p1), .val (.int p2), .val (.int p3), .val (.int (2 : Int32)), .val (.int r), .val (.ref aL), .val (.int (0 : Int32)), .val (.int (0 : Int32))] [.int (0 : Int32)]))
        refine s_iload X11 hx (hb hby at_182) (pc' := 184) rfl rfl ?_
        refine s_icmpN X11 hx (hb hby at_184) (pc' := 187) rfl (by decide) ?_
        refine s_iconst X11 hx (1 : Int32) (hb hby at_187) (pc' := 188) rfl rfl ?_
        refine s_goto X11 hx (hb hby at_188) (by decide) (pc' := 192) (by decide) ?_
        exact s_retI X11 hx hlk hret (hb hby at_192) rfl (Or.inl ⟨rfl, by simp, _, rfl⟩) (by decide) (by decide) ⟨rfl, N11⟩
      refine s_icmpY X9 hx (hb hby at_44) (cy_ne h2) (by decide) (pc' := 53) (by decide) ?_
      refine s_iconst X9 hx (1 : Int32) (hb hby at_53) (pc' := 54) rfl rfl ?_
      refine s_istore X9 hx #[.val (.int p0), .val (.int p1), .val (.int p2), .val (.int p3), .val (.int (2 : Int32)), .val (.int r), .val (.ref aL), .val (.int (1 : Int32)), .unset] (hb hby at_54) (pc' := 56) rfl rfl ?_
      refine s_iload X9 hx (hb hby at_56) (pc' := 58) rfl rfl ?_
      refine s_ifY X9 hx (hb hby at_58) (by decide) (by decide) (pc' := 76) (by decide) ?_
      refine s_iload X9 hx (hb hby at_76) (pc' := 78) rfl rfl ?_
      refine s_iconst X9 hx (1 : Int32) (hb hby at_78) (pc' := 79) rfl rfl ?_
      refine s_icmpY X9 hx (hb hby at_79) (by decide) (by decide) (pc' := 97) (by decide) ?_
      refine s_iload X9 hx (hb hby at_97) (pc' := 99) rfl rfl ?_
      refine s_iconst X9 hx (2 : Int32) (hb hby at_99) (pc' := 100) rfl rfl ?_
      refine s_icmpN X9 hx (hb hby at_100) (pc' := 103) rfl (by decide) ?_
      refine s_iload X9 hx (hb hby at_103) (pc' := 105) rfl rfl ?_
      refine s_ifY X9 hx (hb hby at_105) (by decide) (by decide) (pc' := 112) (by decide) ?_
      refine s_iconst X9 hx (0 : Int32) (hb hby at_112) (pc' := 113) rfl rfl ?_
      refine s_istore X9 hx #[.val (.int p0), .val (.int p1), .val (.int p2), .val (.int p3), .val (.int (2 : Int32)), .val (.int r), .val (.ref aL), .val (.int (1 : Int32)), .val (.int (0 : Int32))] (hb hby at_113) (pc' := 115) rfl rfl ?_
      refine s_goto X9 hx (hb hby at_115) (by decide) (pc' := 172) (by decide) ?_
      refine s_aload X9 hx (hb hby at_172) (pc' := 174) rfl rfl rfl ?_
      refine s_iloadN X9 hx (hb hby at_174) (pc' := 175) rfl rfl ?_
      refine s_i2d X9 hx (hb hby at_175) (pc' := 176) rfl ?_
      refine s_iload X9 hx (hb hby at_176) (pc' := 178) rfl rfl ?_
      refine s_i2d X9 hx (hb hby at_178) (pc' := 179) rfl ?_
      refine c_virtual X9 hx hZ hown (hw _ (List.mem_of_getElem? (i := 8) rfl)) (hw _ (List.mem_of_getElem? (i := 9) rfl)) (hw _ (List.mem_of_getElem? (i := 11) rfl)) (hw _ (List.mem_of_getElem? (i := 10) rfl)) (hw _ (List.mem_of_getElem? (i := 6) rfl)) (hw _ (List.mem_of_getElem? (i := 12) rfl)) (by decide) eh9 E2 (rm_2_2_gt l Z a0 hw [] (FP.i2d p1) (FP.i2d r) aE aN aL h0 n0 Z0 (by rw [own_dcmp, if_neg h1, if_neg h2]) S0 S1 S2 q20 q21) (W := 0) (by decide) (by decide) (by decide) (by decide) (by rw [hml]; rfl) (argsL := [.double (FP.i2d p1), .double (FP.i2d r)]) (rest := []) (lenOf pd_1 rfl) rfl rfl (Nat.le_of_eq rfl) (hb hby at_179) (pc' := 182) rfl ?_
      intro T12 v12 L12 X12 hQ12
      obtain ⟨rfl, Nq12, eh12⟩ := hQ12
      have N12 := Fr.app N9 Nq12
      show Goes p e below _ (T12.setTop (mkF m 182 #[.val (.int p0), .val (.int p1), .val (.int p2), .val (.int p3), .val (.int (2 : Int32)), .val (.int r), .val (.ref aL), .val (.int (1 : Int32)), .val (.int (0 : Int32))] [.int (0 : Int32)]))
      refine s_iload X12 hx (hb hby at_182) (pc' := 184) rfl rfl ?_
      refine s_icmpN X12 hx (hb hby at_184) (pc' := 187) rfl (by decide) ?_
      refine s_iconst X12 hx (1 : Int32) (hb hby at_187) (pc' := 188) rfl rfl ?_
      refine s_goto X12 hx (hb hby at_188) (by decide) (pc' := 192) (by decide) ?_
      exact s_retI X12 hx hlk hret (hb hby at_192) rfl (Or.inl ⟨rfl, by simp, _, rfl⟩) (by decide) (by decide) ⟨rfl, N12⟩
    ·
      refine s_iload X0 hx (hb hby at_22) (pc' := 24) rfl rfl ?_
      refine c_static X0 hx hZ hown (hw _ (List.mem_of_getElem? (i := 1) rfl)) (hw _ (List.mem_of_getElem? (i := 2) rfl)) (hw _ (List.mem_of_getElem? (i := 3) rfl)) (hw _ (List.mem_of_getElem? (i := 4) rfl)) (by decide) e0 (rm_1_3 l Z a0 hw [] aM h0 n0 Z0 S3) (W := 0) (by decide) (by decide) (by decide) (by decide) (by rw [hml]; rfl) (argsL := [.int (3 : Int32)]) (rest := []) (lenOf pd_0 rfl) rfl rfl (Nat.le_of_eq rfl) (hb hby at_24) (pc' := 27) rfl ?_
      intro T13 v13 L13 X13 hQ13
      obtain ⟨rfl, Nq13, eh13⟩ := hQ13
      have N13 := Fr.app N0 Nq13
      show Goes p e below _ (T13.setTop (mkF m 27 #[.val (.int p0), .val (.int p1), .val (.int p2), .val (.int p3), .val (.int (3 : Int32)), .val (.int r), .unset, .unset, .unset] [.ref aM]))
      refine s_astore X13 hx #[.val (.int p0), .val (.int p1), .val (.int p2), .val (.int p3), .val (.int (3 : Int32)), .val (.int r), .val (.ref aM), .unset, .unset] (hb hby at_27) (pc' := 29) rfl rfl rfl ?_
      refine s_iloadN X13 hx (hb hby at_29) (pc' := 30) rfl rfl ?_
      refine s_iload X13 hx (hb hby at_30) (pc' := 32) rfl rfl ?_
      by_cases h1 : p1 < r
      ·
        refine s_icmpN X13 hx (hb hby at_32) (pc' := 35) rfl (cn_ge h1) ?_
        refine s_iconst X13 hx (-1 : Int32) (hb hby at_35) (pc' := 36) rfl rfl ?_
        refine s_istore X13 hx #[.val (.int p0), .val (.int p1), .val (.int p2), .val (.int p3), .val (.int (3 : Int32)), .val (.int r), .val (.ref aM), .val (.int (-1 : Int32)), .unset] (hb hby at_36) (pc' := 38) rfl rfl ?_
        refine s_goto X13 hx (hb hby at_38) (by decide) (pc' := 56) (by decide) ?_
        refine s_iload X13 hx (hb hby at_56) (pc' := 58) rfl rfl ?_
        refine s_ifY X13 hx (hb hby at_58) (by decide) (by decide) (pc' := 76) (by decide) ?_
        refine s_iload X13 hx (hb hby at_76) (pc' := 78) rfl rfl ?_
        refine s_iconst X13 hx (1 : Int32) (hb hby at_78) (pc' := 79) rfl rfl ?_
        refine s_icmpY X13 hx (hb hby at_79) (by decide) (by decide) (pc' := 97) (by decide) ?_
        refine s_iload X13 hx (hb hby at_97) (pc' := 99) rfl rfl ?_
        refine s_iconst X13 hx (2 : Int32) (hb hby at_99) (pc' := 100) rfl rfl ?_
        refine s_icmpY X13 hx (hb hby at_100) (by decide) (by decide) (pc' := 118) (by decide) ?_
        refine s_iload X13 hx (hb hby at_118) (pc' := 120) rfl rfl ?_
        refine s_iconst X13 hx (3 : Int32) (hb hby at_120) (pc' := 121) rfl rfl ?_
        refine s_icmpN X13 hx (hb hby at_121) (pc' := 124) rfl (by decide) ?_
        refine s_iload X13 hx (hb hby at_124) (pc' := 126) rfl rfl ?_
        refine s_ifN X13 hx (hb hby at_126) (pc' := 129) rfl (by decide) ?_
        refine s_iconst X13 hx (1 : Int32) (hb hby at_129) (pc' := 130) rfl rfl ?_
        refine s_goto X13 hx (hb hby at_130) (by decide) (pc' := 134) (by decide) ?_
        refine s_istore X13 hx #[.val (.int p0), .val (.int p1), .val (.int p2), .val (.int p3), .val (.int (3 : Int32)), .val (.int r), .val (.ref aM), .val (.int (-1 : Int32)), .val (.int (1 : Int32))] (hb hby at_134) (pc' := 136) rfl rfl ?_
        refine s_goto X13 hx (hb hby at_136) (by decide) (pc' := 172) (by decide) ?_
        refine s_aload X13 hx (hb hby at_172) (pc' := 174) rfl rfl rfl ?_
        refine s_iloadN X13 hx (hb hby at_174) (pc' := 175) rfl rfl ?_
        refine s_i2d X13 hx (hb hby at_175) (pc' := 176) rfl ?_
        refine s_iload X13 hx (hb hby at_176) (pc' := 178) rfl rfl ?_
        refine s_i2d X13 hx (hb hby at_178) (pc' := 179) rfl ?_
        refine c_virtual X13 hx hZ hown (hw _ (List.mem_of_getElem? (i := 8) rfl)) (hw _ (List.mem_of_getElem? (i := 9) rfl)) (hw _ (List.mem_of_getElem? (i := 11) rfl)) (hw _ (List.mem_of_getElem? (i := 10) rfl)) (hw _ (List.mem_of_getElem? (i := 6) rfl)) (hw _ (List.mem_of_getElem? (i := 12) rfl)) (by decide) eh13 E3 (rm_2_3_lt l Z a0 hw [] (FP.i2d p1) (FP.i2d r) aE aN aL aM h0 n0 Z0 (by rw [own_dcmp, if_pos h1]) S0 S1 S2 S3 q30 q31 q32) (W := 0) (by decide) (by decide) (by decide) (by decide) (by rw [hml]; rfl) (argsL := [.double (FP.i2d p1), .double (FP.i2d r)]) (rest := []) (lenOf pd_1 rfl) rfl rfl (Nat.le_of_eq rfl) (hb hby at_179) (pc' := 182) rfl ?_
        intro T14 v14 L14 X14 hQ14
        obtain ⟨rfl, Nq14, eh14⟩ := hQ14
        have N14 := Fr.app N13 Nq14
        show Goes p e below _ (T14.setTop (mkF m 182 #[.val (.int p0), .val (.int p1), .val (.int p2), .val (.int p3), .val (.int (3 : Int32)), .val (.int r), .val (.ref aM), .val (.int (-1 : Int32)), .val (.int (1 : Int32))] [.int (1 : Int32)]))
        refine s_iload X14 hx (hb hby at_182) (pc' := 184) rfl rfl ?_
        refine s_icmpN X14 hx (hb hby at_184) (pc' := 187) rfl (by decide) ?_
        refine s_iconst X14 hx (1 : Int32) (hb hby at_187) (pc' := 188) rfl rfl ?_
        refine s_goto X14 hx (hb hby at_188) (by decide) (pc' := 192) (by decide) ?_
        exact s_retI X14 hx hlk hret (hb hby at_192) rfl (Or.inl ⟨rfl, by simp, _, rfl⟩) (by decide) (by decide) ⟨rfl, N14⟩
      refine s_icmpY X13 hx (hb hby at_32) (cy_ge h1) (by decide) (pc' := 41) (by decide) ?_
      refine s_iloadN X13 hx (hb hby at_41) (pc' := 42) rfl rfl ?_
      refine s_iload X13 hx (hb hby at_42) (pc' := 44) rfl rfl ?_
      by_cases h2 : p1 = r
      ·
        refine s_icmpN X13 hx (hb hby at_44) (pc' := 47) rfl (cn_ne h2) ?_
        refine s_iconst X13 hx (0 : Int32) (hb hby at_47) (pc' := 48) rfl rfl ?_
        refine s_istore X13 hx #[.val (.int p0), .val (.int p1), .val (.int p2), .val (.int p3), .val (.int (3 : Int32)), .val (.int r), .val (.ref aM), .val (.int (0 : Int32)), .unset] (hb hby at_48) (pc' := 50) rfl rfl ?_
        refine s_goto X13 hx (hb hby at_50) (by decide) (pc' := 56) (by decide) ?_
        refine s_iload X13 hx (hb hby at_56) (pc' := 58) rfl rfl ?_
        refine s_ifY X13 hx (hb hby at_58) (by decide) (by decide) (pc' := 76) (by decide) ?_
        refine s_iload X13 hx (hb hby at_76) (pc' := 78) rfl rfl ?_
        refine s_iconst X13 hx (1 : Int32) (hb hby at_78) (pc' := 79) rfl rfl ?_
        refine s_icmpY X13 hx (hb hby at_79) (by decide) (by decide) (pc' := 97) (by decide) ?_
        refine s_iload X13 hx (hb hby at_97) (pc' := 99) rfl rfl ?_
        refine s_iconst X13 hx (2 : Int32) (hb hby at_99) (pc' := 100) rfl rfl ?_
        refine s_icmpY X13 hx (hb hby at_100) (by decide) (by decide) (pc' := 118) (by decide) ?_
        refine s_iload X13 hx (hb hby at_118) (pc' := 120) rfl rfl ?_
        refine s_iconst X13 hx (3 : Int32) (hb hby at_120) (pc' := 121) rfl rfl ?_
        refine s_icmpN X13 hx (hb hby at_121) (pc' := 124) rfl (by decide) ?_
        refine s_iload X13 hx (hb hby at_124) (pc' := 126) rfl rfl ?_
        refine s_ifN X13 hx (hb hby at_126) (pc' := 129) rfl (by decide) ?_
        refine s_iconst X13 hx (1 : Int32) (hb hby at_129) (pc' := 130) rfl rfl ?_
        refine s_goto X13 hx (hb hby at_130) (by decide) (pc' := 134) (by decide) ?_
        refine s_istore X13 hx #[.val (.int p0), .val (.int p1), .val (.int p2), .val (.int p3), .val (.int (3 : Int32)), .val (.int r), .val (.ref aM), .val (.int (0 : Int32)), .val (.int (1 : Int32))] (hb hby at_134) (pc' := 136) rfl rfl ?_
        refine s_goto X13 hx (hb hby at_136) (by decide) (pc' := 172) (by decide) ?_
        refine s_aload X13 hx (hb hby at_172) (pc' := 174) rfl rfl rfl ?_
        refine s_iloadN X13 hx (hb hby at_174) (pc' := 175) rfl rfl ?_
        refine s_i2d X13 hx (hb hby at_175) (pc' := 176) rfl ?_
        refine s_iload X13 hx (hb hby at_176) (pc' := 178) rfl rfl ?_
        refine s_i2d X13 hx (hb hby at_178) (pc' := 179) rfl ?_
        refine c_virtual X13 hx hZ hown (hw _ (List.mem_of_getElem? (i := 8) rfl)) (hw _ (List.mem_of_getElem? (i := 9) rfl)) (hw _ (List.mem_of_getElem? (i := 11) rfl)) (hw _ (List.mem_of_getElem? (i := 10) rfl)) (hw _ (List.mem_of_getElem? (i := 6) rfl)) (hw _ (List.mem_of_getElem? (i := 12) rfl)) (by decide) eh13 E3 (rm_2_3_eq l Z a0 hw [] (FP.i2d p1) (FP.i2d r) aE aN aL aM h0 n0 Z0 (by rw [own_dcmp, if_neg h1, if_pos h2]) S0 S1 S2 S3 q30 q31 q32) (W := 0) (by decide) (by decide) (by decide) (by decide) (by rw [hml]; rfl) (argsL := [.double (FP.i2d p1), .double (FP.i2d r)]) (rest := []) (lenOf pd_1 rfl) rfl rfl (Nat.le_of_eq rfl) (hb hby at_179) (pc' := 182) rfl ?_
        intro T15 v15 L15 X15 hQ15
        obtain ⟨rfl, Nq15, eh15⟩ := hQ15
        have N15 := Fr.app N13 Nq15
        show Goes p e below _ (T15.setTop (mkF m 182 #[.val (.int p0), .val (.int p1), .val (.int p2), .val (.int p3), .val (.int (3 : Int32)), .val (.int r), .val (.ref aM), .val (.int (0 : Int32)), .val (.int (1 : Int32))] [.int (1 : Int32)]))
        refine s_iload X15 hx (hb hby at_182) (pc' := 184) rfl rfl ?_
        refine s_icmpN X15 hx (hb hby at_184) (pc' := 187) rfl (by decide) ?_
        refine s_iconst X15 hx (1 : Int32) (hb hby at_187) (pc' := 188) rfl rfl ?_
        refine s_goto X15 hx (hb hby at_188) (by decide) (pc' := 192) (by decide) ?_
        exact s_retI X15 hx hlk hret (hb hby at_192) rfl (Or.inl ⟨rfl, by simp, _, rfl⟩) (by decide) (by decide) ⟨rfl, N15⟩
      refine s_icmpY X13 hx (hb hby at_44) (cy_ne h2) (by decide) (pc' := 53) (by decide) ?_
      refine s_iconst X13 hx (1 : Int32) (hb hby at_53) (pc' := 54) rfl rfl ?_
      refine s_istore X13 hx #[.val (.int p0), .val (.int p1), .val (.int p2), .val (.int p3), .val (.int (3 : Int32)), .val (.int r), .val (.ref aM), .val (.int (1 : Int32)), .unset] (hb hby at_54) (pc' := 56) rfl rfl ?_
      refine s_iload X13 hx (hb hby at_56) (pc' := 58) rfl rfl ?_
      refine s_ifY X13 hx (hb hby at_58) (by decide) (by decide) (pc' := 76) (by decide) ?_
      refine s_iload X13 hx (hb hby at_76) (pc' := 78) rfl rfl ?_
      refine s_iconst X13 hx (1 : Int32) (hb hby at_78) (pc' := 79) rfl rfl ?_
      refine s_icmpY X13 hx (hb hby at_79) (by decide) (by decide) (pc' := 97) (by decide) ?_
      refine s_iload X13 hx (hb hby at_97) (pc' := 99) rfl rfl ?_
      refine s_iconst X13 hx (2 : Int32) (hb hby at_99) (pc' := 100) rfl rfl ?_
      refine s_icmpY X13 hx (hb hby at_100) (by decide) (by decide) (pc' := 118) (by decide) ?_
      refine s_iload X13 hx (hb hby at_118) (pc' := 120) rfl rfl ?_
      refine s_iconst X13 hx (3 : Int32) (hb hby at_120) (pc' := 121) rfl rfl ?_
      refine s_icmpN X13 hx (hb hby at_121) (pc' := 124) rfl (by decide) ?_
      refine s_iload X13 hx (hb hby at_124) (pc' := 126) rfl rfl ?_
      refine s_ifY X13 hx (hb hby at_126) (by decide) (by decide) (pc' := 133) (by decide) ?_
      refine s_iconst X13 hx (0 : Int32) (hb hby at_133) (pc' := 134) rfl rfl ?_
      refine s_istore X13 hx #[.val (.int p0), .val (.int p1), .val (.int p2), .val (.int p3), .val (.int (3 : Int32)), .val (.int r), .val (.ref aM), .val (.int (1 : Int32)), .val (.int (0 : Int32))] (hb hby at_134) (pc' := 136) rfl rfl ?_
      refine s_goto X13 hx (hb hby at_136) (by decide) (pc' := 172) (by decide) ?_
      refine s_aload X13 hx (hb hby at_172) (pc' := 174) rfl rfl rfl ?_
      refine s_iloadN X13 hx (hb hby at_174) (pc' := 175) rfl rfl ?_
      refine s_i2d X13 hx (hb hby at_175) (pc' := 176) rfl ?_
      refine s_iload X13 hx (hb hby at_176) (pc' := 178) rfl rfl ?_
      refine s_i2d X13 hx (hb hby at_178) (pc' := 179) rfl ?_
      refine c_virtual X13 hx hZ hown (hw _ (List.mem_of_getElem? (i := 8) rfl)) (hw _ (List.mem_of_getElem? (i := 9) rfl)) (hw _ (List.mem_of_getElem? (i := 11) rfl)) (hw _ (List.mem_of_getElem? (i := 10) rfl)) (hw _ (List.mem_of_getElem? (i := 6) rfl)) (hw _ (List.mem_of_getElem? (i := 12) rfl)) (by decide) eh13 E3 (rm_2_3_gt l Z a0 hw [] (FP.i2d p1) (FP.i2d r) aE aN aL aM h0 n0 Z0 (by rw [own_dcmp, if_neg h1, if_neg h2]) S0 S1 S2 S3 q30 q31 q32) (W := 0) (by decide) (by decide) (by decide) (by decide) (by rw [hml]; rfl) (argsL := [.double (FP.i2d p1), .double (FP.i2d r)]) (rest := []) (lenOf pd_1 rfl) rfl rfl (Nat.le_of_eq rfl) (hb hby at_179) (pc' := 182) rfl ?_
      intro T16 v16 L16 X16 hQ16
      obtain ⟨rfl, Nq16, eh16⟩ := hQ16
      have N16 := Fr.app N13 Nq16
      show Goes p e below _ (T16.setTop (mkF m 182 #[.val (.int p0), .val (.int p1), .val (.int p2), .val (.int p3), .val (.int (3 : Int32)), .val (.int r), .val (.ref aM), .val (.int (1 : Int32)), .val (.int (0 : Int32))] [.int (0 : Int32)]))
      refine s_iload X16 hx (hb hby at_182) (pc' := 184) rfl rfl ?_
      refine s_icmpN X16 hx (hb hby at_184) (pc' := 187) rfl (by decide) ?_
      refine s_iconst X16 hx (1 : Int32) (hb hby at_187) (pc' := 188) rfl rfl ?_
      refine s_goto X16 hx (hb hby at_188) (by decide) (pc' := 192) (by decide) ?_
      exact s_retI X16 hx hlk hret (hb hby at_192) rfl (Or.inl ⟨rfl, by simp, _, rfl⟩) (by decide) (by decide) ⟨rfl, N16⟩
    ·
      refine s_iload X0 hx (hb hby at_22) (pc' := 24) rfl rfl ?_
      refine c_static X0 hx hZ hown (hw _ (List.mem_of_getElem? (i := 1) rfl)) (hw _ (List.mem_of_getElem? (i := 2) rfl)) (hw _ (List.mem_of_getElem? (i := 3) rfl)) (hw _ (List.mem_of_getElem? (i := 4) rfl)) (by decide) e0 (rm_1_4 l Z a0 hw [] aG h0 n0 Z0 S4) (W := 0) (by decide) (by decide) (by decide) (by decide) (by rw [hml]; rfl) (argsL := [.int (4 : Int32)]) (rest := []) (lenOf pd_0 rfl) rfl rfl (Nat.le_of_eq rfl) (hb hby at_24) (pc' := 27) rfl ?_
      intro T17 v17 L17 X17 hQ17
      obtain ⟨rfl, Nq17, eh17⟩ := hQ17
      have N17 := Fr.app N0 Nq17
      show Goes p e below _ (T17.setTop (mkF m 27 #[.val (.int p0), .val (.int p1), .val (.int p2), .val (.int p3), .val (.int (4 : Int32)), .val (.int r), .unset, .unset, .unset] [.ref aG]))
      refine s_astore X17 hx #[.val (.int p0), .val (.int p1), .val (.int p2), .val (.int p3), .val (.int (4 : Int32)), .val (.int r), .val (.ref aG), .unset, .unset] (hb hby at_27) (pc' := 29) rfl rfl rfl ?_
      refine s_iloadN X17 hx (hb hby at_29) (pc' := 30) rfl rfl ?_
      refine s_iload X17 hx (hb hby at_30) (pc' := 32) rfl rfl ?_
      by_cases h1 : p1 < r
      ·
        refine s_icmpN X17 hx (hb hby at_32) (pc' := 35) rfl (cn_ge h1) ?_
        refine s_iconst X17 hx (-1 : Int32) (hb hby at_35) (pc' := 36) rfl rfl ?_
        refine s_istore X17 hx #[.val (.int p0), .val (.int p1), .val (.int p2), .val (.int p3), .val (.int (4 : Int32)), .val (.int r), .val (.ref aG), .val (.int (-1 : Int32)), .unset] (hb hby at_36) (pc' := 38) rfl rfl ?_
        refine s_goto X17 hx (hb hby at_38) (by decide) (pc' := 56) (by decide) ?_
        refine s_iload X17 hx (hb hby at_56) (pc' := 58) rfl rfl ?_
        refine s_ifY X17 hx (hb hby at_58) (by decide) (by decide) (pc' := 76) (by decide) ?_
        refine s_iload X17 hx (hb hby at_76) (pc' := 78) rfl rfl ?_
        refine s_iconst X17 hx (1 : Int32) (hb hby at_78) (pc' := 79) rfl rfl ?_
        refine s_icmpY X17 hx (hb hby at_79) (by decide) (by decide) (pc' := 97) (by decide) ?_
        refine s_iload X17 hx (hb hby at_97) (pc' := 99) rfl rfl ?_
        refine s_iconst X17 hx (2 : Int32) (hb hby at_99) (pc' := 100) rfl rfl ?_
        refine s_icmpY X17 hx (hb hby at_100) (by decide) (by decide) (pc' := 118) (by decide) ?_
        refine s_iload X17 hx (hb hby at_118) (pc' := 120) rfl rfl ?_
        refine s_iconst X17 hx (3 : Int32) (hb hby at_120) (pc' := 121) rfl rfl ?_
        refine s_icmpY X17 hx (hb hby at_121) (by decide) (by decide) (pc' := 139) (by decide) ?_
        refine s_iload X17 hx (hb hby at_139) (pc' := 141) rfl rfl ?_
        refine s_iconst X17 hx (4 : Int32) (hb hby at_141) (pc' := 142) rfl rfl ?_
        refine s_icmpN X17 hx (hb hby at_142) (pc' := 145) rfl (by decide) ?_
        refine s_iload X17 hx (hb hby at_145) (pc' := 147) rfl rfl ?_
        refine s_ifY X17 hx (hb hby at_147) (by decide) (by decide) (pc' := 154) (by decide) ?_
        refine s_iconst X17 hx (0 : Int32) (hb hby at_154) (pc' := 155) rfl rfl ?_
        refine s_istore X17 hx #[.val (.int p0), .val (.int p1), .val (.int p2), .val (.int p3), .val (.int (4 : Int32)), .val (.int r), .val (.ref aG), .val (.int (-1 : Int32)), .val (.int (0 : Int32))] (hb hby at_155) (pc' := 157) rfl rfl ?_
        refine s_goto X17 hx (hb hby at_157) (by decide) (pc' := 172) (by decide) ?_
        refine s_aload X17 hx (hb hby at_172) (pc' := 174) rfl rfl rfl ?_
        refine s_iloadN X17 hx (hb hby at_174) (pc' := 175) rfl rfl ?_
        refine s_i2d X17 hx (hb hby at_175) (pc' := 176) rfl ?_
        refine s_iload X17 hx (hb hby at_176) (pc' := 178) rfl rfl ?_
        refine s_i2d X17 hx (hb hby at_178) (pc' := 179) rfl ?_
        refine c_virtual X17 hx hZ hown (hw _ (List.mem_of_getElem? (i := 8) rfl)) (hw _ (List.mem_of_getElem? (i := 9) rfl)) (hw _ (List.mem_of_getElem? (i := 11) rfl)) (hw _ (List.mem_of_getElem? (i := 10) rfl)) (hw _ (List.mem_of_getElem? (i := 6) rfl)) (hw _ (List.mem_of_getElem? (i := 12) rfl)) (by decide) eh17 E4 (rm_2_4_lt l Z a0 hw [] (FP.i2d p1) (FP.i2d r) aE aN aL aM aG h0 n0 Z0 (by rw [own_dcmp, if_pos h1]) S0 S1 S2 S3 S4 q40 q41 q42 q43) (W := 0) (by decide) (by decide) (by decide) (by decide) (by rw [hml]; rfl) (argsL := [.double (FP.i2d p1), .double (FP.i2d r)]) (rest := []) (lenOf pd_1 rfl) rfl rfl (Nat.le_of_eq rfl) (hb hby at_179) (pc' := 182) rfl ?_
        intro T18 v18 L18 X18 hQ18
        obtain ⟨rfl, Nq18, eh18⟩ := hQ18
        have N18 := Fr.app N17 Nq18
        show Goes p e below _ (T18.setTop (mkF m 182 #[.val (.int p0), .val (.int p1), .val (.int p2), .val (.int p3), .val (.int (4 : Int32)), .val (.int r), .val (.ref aG), .val (.int (-1 : Int32)), .val (.int (0 : Int32))] [.int (0 : Int32)]))
        refine s_iload X18 hx (hb hby at_182) (pc' := 184) rfl rfl ?_
        refine s_icmpN X18 hx (hb hby at_184) (pc' := 187) rfl (by decide) ?_
        refine s_iconst X18 hx (1 : Int32) (hb hby at_187) (pc' := 188) rfl rfl ?_
        refine s_goto X18 hx (hb hby at_188) (by decide) (pc' := 192) (by decide) ?_
        exact s_retI X18 hx hlk hret (hb hby at_192) rfl (Or.inl ⟨rfl, by simp, _, rfl⟩) (by decide) (by decide) ⟨rfl, N18⟩
      refine s_icmpY X17 hx (hb hby at_32) (cy_ge h1) (by decide) (pc' := 41) (by decide) ?_
      refine s_iloadN X17 hx (hb hby at_41) (pc' := 42) rfl rfl ?_
      refine s_iload X17 hx (hb hby at_42) (pc' := 44) rfl rfl ?_
      by_cases h2 : p1 = r
      ·
        refine s_icmpN X17 hx (hb hby at_44) (pc' := 47) rfl (cn_ne h2) ?_
        refine s_iconst X17 hx (0 : Int32) (hb hby at_47) (pc' := 48) rfl rfl ?_
        refine s_istore X17 hx #[.val (.int p0), .val (.int p1), .val (.int p2), .val (.int p3), .val (.int (4 : Int32)), .val (.int r), .val (.ref aG), .val (.int (0 : Int32)), .unset] (hb hby at_48) (pc' := 50) rfl rfl ?_
        refine s_goto X17 hx (hb hby at_50) (by decide) (pc' := 56) (by decide) ?_
        refine s_iload X17 hx (hb hby at_56) (pc' := 58) rfl rfl ?_
        refine s_ifY X17 hx (hb hby at_58) (by decide) (by decide) (pc' := 76) (by decide) ?_
        refine s_iload X17 hx (hb hby at_76) (pc' := 78) rfl rfl ?_
        refine s_iconst X17 hx (1 : Int32) (hb hby at_78) (pc' := 79) rfl rfl ?_
        refine s_icmpY X17 hx (hb hby at_79) (by decide) (by decide) (pc' := 97) (by decide) ?_
        refine s_iload X17 hx (hb hby at_97) (pc' := 99) rfl rfl ?_
        refine s_iconst X17 hx (2 : Int32) (hb hby at_99) (pc' := 100) rfl rfl ?_
        refine s_icmpY X17 hx (hb hby at_100) (by decide) (by decide) (pc' := 118) (by decide) ?_
        refine s_iload X17 hx (hb hby at_118) (pc' := 120) rfl rfl ?_
        refine s_iconst X17 hx (3 : Int32) (hb hby at_120) (pc' := 121) rfl rfl ?_
        refine s_icmpY X17 hx (hb hby at_121) (by decide) (by decide) (pc' := 139) (by decide) ?_
        refine s_iload X17 hx (hb hby at_139) (pc' := 141) rfl rfl ?_
        refine s_iconst X17 hx (4 : Int32) (hb hby at_141) (pc' := 142) rfl rfl ?_
        refine s_icmpN X17 hx (hb hby at_142) (pc' := 145) rfl (by decide) ?_
        refine s_iload X17 hx (hb hby at_145) (pc' := 147) rfl rfl ?_
        refine s_ifY X17 hx (hb hby at_147) (by decide) (by decide) (pc' := 154) (by decide) ?_
        refine s_iconst X17 hx (0 : Int32) (hb hby at_154) (pc' := 155) rfl rfl ?_
        refine s_istore X17 hx #[.val (.int p0), .val (.int p1), .val (.int p2), .val (.int p3), .val (.int (4 : Int32)), .val (.int r), .val (.ref aG), .val (.int (0 : Int32)), .val (.int (0 : Int32))] (hb hby at_155) (pc' := 157) rfl rfl ?_
        refine s_goto X17 hx (hb hby at_157) (by decide) (pc' := 172) (by decide) ?_
        refine s_aload X17 hx (hb hby at_172) (pc' := 174) rfl rfl rfl ?_
        refine s_iloadN X17 hx (hb hby at_174) (pc' := 175) rfl rfl ?_
        refine s_i2d X17 hx (hb hby at_175) (pc' := 176) rfl ?_
        refine s_iload X17 hx (hb hby at_176) (pc' := 178) rfl rfl ?_
        refine s_i2d X17 hx (hb hby at_178) (pc' := 179) rfl ?_
        refine c_virtual X17 hx hZ hown (hw _ (List.mem_of_getElem? (i := 8) rfl)) (hw _ (List.mem_of_getElem? (i := 9) rfl)) (hw _ (List.mem_of_getElem? (i := 11) rfl)) (hw _ (List.mem_of_getElem? (i := 10) rfl)) (hw _ (List.mem_of_getElem? (i := 6) rfl)) (hw _ (List.mem_of_getElem? (i := 12) rfl)) (by decide) eh17 E4 (rm_2_4_eq l Z a0 hw [] (FP.i2d p1) (FP.i2d r) aE aN aL aM aG h0 n0 Z0 (by rw [own_dcmp, if_neg h1, if_pos h2]) S0 S1 S2 S3 S4 q40 q41 q42 q43) (W := 0) (by decide) (by decide) (by decide) (by decide) (by rw [hml]; rfl) (argsL := [.double (FP.i2d p1), .double (FP.i2d r)]) (rest := []) (lenOf pd_1 rfl) rfl rfl (Nat.le_of_eq rfl) (hb hby at_179) (pc' := 182) rfl ?_
        intro T19 v19 L19 X19 hQ19
        obtain ⟨rfl, Nq19, eh19⟩ := hQ19
        have N19 := Fr.app N17 Nq19
        show Goes p e below _ (T19.setTop (mkF m 182 #[.val (.int p0), .val (.int p1), .val (.int p2), .val (.int p3), .val (.int (4 : Int32)), .val (.int r), .val (.ref aG), .val (.int (0 : Int32)), .val (.int (0 : Int32))] [.int (0 : Int32)]))
        refine s_iload X19 hx (hb hby at_182) (pc' := 184) rfl rfl ?_
        refine s_icmpN X19 hx (hb hby at_184) (pc' := 187) rfl (by decide) ?_
        refine s_iconst X19 hx (1 : Int32) (hb hby at_187) (pc' := 188) rfl rfl ?_
        refine s_goto X19 hx (hb hby at_188) (by decide) (pc' := 192) (by decide) ?_
        exact s_retI X19 hx hlk hret (hb hby at_192) rfl (Or.inl ⟨rfl, by simp, _, rfl⟩) (by decide) (by decide) ⟨rfl, N19⟩
      refine s_icmpY X17 hx (hb hby at_44) (cy_ne h2) (by decide) (pc' := 53) (by decide) ?_
      refine s_iconst X17 hx (1 : Int32) (hb hby at_53) (pc' := 54) rfl rfl ?_
      refine s_istore X17 hx #[.val (.int p0), .val (.int p1), .val (.int p2), .val (.int p3), .val (.int (4 : Int32)), .val (.int r), .val (.ref aG), .val (.int (1 : Int32)), .unset] (hb hby at_54) (pc' := 56) rfl rfl ?_
      refine s_iload X17 hx (hb hby at_56) (pc' := 58) rfl rfl ?_
      refine s_ifY X17 hx (hb hby at_58) (by decide) (by decide) (pc' := 76) (by decide) ?_
      refine s_iload X17 hx (hb hby at_76) (pc' := 78) rfl rfl ?_
      refine s_iconst X17 hx (1 : Int32) (hb hby at_78) (pc' := 79) rfl rfl ?_
      refine s_icmpY X17 hx (hb hby at_79) (by decide) (by decide) (pc' := 97) (by decide) ?_
      refine s_iload X17 hx (hb hby at_97) (pc' := 99) rfl rfl ?_
      refine s_iconst X17 hx (2 : Int32) (hb hby at_99) (pc' := 100) rfl rfl ?_
      refine s_icmpY X17 hx (hb hby at_100) (by decide) (by decide) (pc' := 118) (by decide) ?_
      refine s_iload X17 hx (hb hby at_118) (pc' := 120) rfl rfl ?_
      refine s_iconst X17 hx (3 : Int32) (hb hby at_120) (pc' := 121) rfl rfl ?_
      refine s_icmpY X17 hx (hb hby at_121) (by decide) (by decide) (pc' := 139) (by decide) ?_
      refine s_iload X17 hx (hb hby at_139) (pc' := 141) rfl rfl ?_
      refine s_iconst X17 hx (4 : Int32) (hb hby at_141) (pc' := 142) rfl rfl ?_
      refine s_icmpN X17 hx (hb hby at_142) (pc' := 145) rfl (by decide) ?_
      refine s_iload X17 hx (hb hby at_145) (pc' := 147) rfl rfl ?_
      refine s_ifN X17 hx (hb hby at_147) (pc' := 150) rfl (by decide) ?_
      refine s_iconst X17 hx (1 : Int32) (hb hby at_150) (pc' := 151) rfl rfl ?_
      refine s_goto X17 hx (hb hby at_151) (by decide) (pc' := 155) (by decide) ?_
      refine s_istore X17 hx #[.val (.int p0), .val (.int p1), .val (.int p2), .val (.int p3), .val (.int (4 : Int32)), .val (.int r), .val (.ref aG), .val (.int (1 : Int32)), .val (.int (1 : Int32))] (hb hby at_155) (pc' := 157) rfl rfl ?_
      refine s_goto X17 hx (hb hby at_157) (by decide) (pc' := 172) (by decide) ?_
      refine s_aload X17 hx (hb hby at_172) (pc' := 174) rfl rfl rfl ?_
      refine s_iloadN X17 hx (hb hby at_174) (pc' := 175) rfl rfl ?_
      refine s_i2d X17 hx (hb hby at_175) (pc' := 176) rfl ?_
      refine s_iload X17 hx (hb hby at_176) (pc' := 178) rfl rfl ?_
      refine s_i2d X17 hx (hb hby at_178) (pc' := 179) rfl ?_
      refine c_virtual X17 hx hZ hown (hw _ (List.mem_of_getElem? (i := 8) rfl)) (hw _ (List.mem_of_getElem? (i := 9) rfl)) (hw _ (List.mem_of_getElem? (i := 11) rfl)) (hw _ (List.mem_of_getElem? (i := 10) rfl)) (hw _ (List.mem_of_getElem? (i := 6) rfl)) (hw _ (List.mem_of_getElem? (i := 12) rfl)) (by decide) eh17 E4 (rm_2_4_gt l Z a0 hw [] (FP.i2d p1) (FP.i2d r) aE aN aL aM aG h0 n0 Z0 (by rw [own_dcmp, if_neg h1, if_neg h2]) S0 S1 S2 S3 S4 q40 q41 q42 q43) (W := 0) (by decide) (by decide) (by decide) (by decide) (by rw [hml]; rfl) (argsL := [.double (FP.i2d p1), .double (FP.i2d r)]) (rest := []) (lenOf pd_1 rfl) rfl rfl (Nat.le_of_eq rfl) (hb hby at_179) (pc' := 182) rfl ?_
      intro T20 v20 L20 X20 hQ20
      obtain ⟨rfl, Nq20, eh20⟩ := hQ20
      have N20 := Fr.app N17 Nq20
      show Goes p e below _ (T20.setTop (mkF m 182 #[.val (.int p0), .val (.int p1), .val (.int p2), .val (.int p3), .val (.int (4 : Int32)), .val (.int r), .val (.ref aG), .val (.int (1 : Int32)), .val (.int (1 : Int32))] [.int (1 : Int32)]))
      refine s_iload X20 hx (hb hby at_182) (pc' := 184) rfl rfl ?_
      refine s_icmpN X20 hx (hb hby at_184) (pc' := 187) rfl (by decide) ?_
      refine s_iconst X20 hx (1 : Int32) (hb hby at_187) (pc' := 188) rfl rfl ?_
      refine s_goto X20 hx (hb hby at_188) (by decide) (pc' := 192) (by decide) ?_
      exact s_retI X20 hx hlk hret (hb hby at_192) rfl (Or.inl ⟨rfl, by simp, _, rfl⟩) (by decide) (by decide) ⟨rfl, N20⟩
    ·
      refine s_iload X0 hx (hb hby at_22) (pc' := 24) rfl rfl ?_
      refine c_static X0 hx hZ hown (hw _ (List.mem_of_getElem? (i := 1) rfl)) (hw _ (List.mem_of_getElem? (i := 2) rfl)) (hw _ (List.mem_of_getElem? (i := 3) rfl)) (hw _ (List.mem_of_getElem? (i := 4) rfl)) (by decide) e0 (rm_1_5 l Z a0 hw [] aH h0 n0 Z0 S5) (W := 0) (by decide) (by decide) (by decide) (by decide) (by rw [hml]; rfl) (argsL := [.int (5 : Int32)]) (rest := []) (lenOf pd_0 rfl) rfl rfl (Nat.le_of_eq rfl) (hb hby at_24) (pc' := 27) rfl ?_
      intro T21 v21 L21 X21 hQ21
      obtain ⟨rfl, Nq21, eh21⟩ := hQ21
      have N21 := Fr.app N0 Nq21
      show Goes p e below _ (T21.setTop (mkF m 27 #[.val (.int p0), .val (.int p1), .val (.int p2), .val (.int p3), .val (.int (5 : Int32)), .val (.int r), .unset, .unset, .unset] [.ref aH]))
      refine s_astore X21 hx #[.val (.int p0), .val (.int p1), .val (.int p2), .val (.int p3), .val (.int (5 : Int32)), .val (.int r), .val (.ref aH), .unset, .unset] (hb hby at_27) (pc' := 29) rfl rfl rfl ?_
      refine s_iloadN X21 hx (hb hby at_29) (pc' := 30) rfl rfl ?_
      refine s_iload X21 hx (hb hby at_30) (pc' := 32) rfl rfl ?_
      by_cases h1 : p1 < r
      ·
        refine s_icmpN X21 hx (hb hby at_32) (pc' := 35) rfl (cn_ge h1) ?_
        refine s_iconst X21 hx (-1 : Int32) (hb hby at_35) (pc' := 36) rfl rfl ?_
        refine s_istore X21 hx #[.val (.int p0), .val (.int p1), .val (.int p2), .val (.int p3), .val (.int (5 : Int32)), .val (.int r), .val (.ref aH), .val (.int (-1 : Int32)), .unset] (hb hby at_36) (pc' := 38) rfl rfl ?_
        refine s_goto X21 hx (hb hby at_38) (by decide) (pc' := 56) (by decide) ?_
        refine s_iload X21 hx (hb hby at_56) (pc' := 58) rfl rfl ?_
        refine s_ifY X21 hx (hb hby at_58) (by decide) (by decide) (pc' := 76) (by decide) ?_
        refine s_iload X21 hx (hb hby at_76) (pc' := 78) rfl rfl ?_
        refine s_iconst X21 hx (1 : Int32) (hb hby at_78) (pc' := 79) rfl rfl ?_
        refine s_icmpY X21 hx (hb hby at_79) (by decide) (by decide) (pc' := 97) (by decide) ?_
        refine s_iload X21 hx (hb hby at_97) (pc' := 99) rfl rfl ?_
        refine s_iconst X21 hx (2 : Int32) (hb hby at_99) (pc' := 100) rfl rfl ?_
        refine s_icmpY X21 hx (hb hby at_100) (by decide) (by decide) (pc' := 118) (by decide) ?_
        refine s_iload X21 hx (hb hby at_118) (pc' := 120) rfl rfl ?_
        refine s_iconst X21 hx (3 : Int32) (hb hby at_120) (pc' := 121) rfl rfl ?_
        refine s_icmpY X21 hx (hb hby at_121) (by decide) (by decide) (pc' := 139) (by decide) ?_
        refine s_iload X21 hx (hb hby at_139) (pc' := 141) rfl rfl ?_
        refine s_iconst X21 hx (4 : Int32) (hb hby at_141) (pc' := 142) rfl rfl ?_
        refine s_icmpY X21 hx (hb hby at_142) (by decide) (by decide) (pc' := 160) (by decide) ?_
        refine s_iload X21 hx (hb hby at_160) (pc' := 162) rfl rfl ?_
        refine s_ifY X21 hx (hb hby at_162) (by decide) (by decide) (pc' := 169) (by decide) ?_
        refine s_iconst X21 hx (0 : Int32) (hb hby at_169) (pc' := 170) rfl rfl ?_
        refine s_istore X21 hx #[.val (.int p0), .val (.int p1), .val (.int p2), .val (.int p3), .val (.int (5 : Int32)), .val (.int r), .val (.ref aH), .val (.int (-1 : Int32)), .val (.int (0 : Int32))] (hb hby at_170) (pc' := 172) rfl rfl ?_
        refine s_aload X21 hx (hb hby at_172) (pc' := 174) rfl rfl rfl ?_
        refine s_iloadN X21 hx (hb hby at_174) (pc' := 175) rfl rfl ?_
        refine s_i2d X21 hx (hb hby at_175) (pc' := 176) rfl ?_
        refine s_iload X21 hx (hb hby at_176) (pc' := 178) rfl rfl ?_
        refine s_i2d X21 hx (hb hby at_178) (pc' := 179) rfl ?_
        refine c_virtual X21 hx hZ hown (hw _ (List.mem_of_getElem? (i := 8) rfl)) (hw _ (List.mem_of_getElem? (i := 9) rfl)) (hw _ (List.mem_of_getElem? (i := 11) rfl)) (hw _ (List.mem_of_getElem? (i := 10) rfl)) (hw _ (List.mem_of_getElem? (i := 6) rfl)) (hw _ (List.mem_of_getElem? (i := 12) rfl)) (by decide) eh21 E5 (rm_2_5_lt l Z a0 hw [] (FP.i2d p1) (FP.i2d r) aE aN aL aM aG aH h0 n0 Z0 (by rw [own_dcmp, if_pos h1]) S0 S1 S2 S3 S4 q50 q51 q52 q53 q54) (W := 0) (by decide) (by decide) (by decide) (by decide) (by rw [hml]; rfl) (argsL := [.double (FP.i2d p1), .double (FP.i2d r)]) (rest := []) (lenOf pd_1 rfl) rfl rfl (Nat.le_of_eq rfl) (hb hby at_179) (pc' := 182) rfl ?_
        intro T22 v22 L22 X22 hQ22
        obtain ⟨rfl, Nq22, eh22⟩ := hQ22
        have N22 := Fr.app N21 Nq22
        show Goes p e below _ (T22.setTop (mkF m 182 #[.val (.int p0), .val (.int p1), .val (.int p2), .val (.int p3), .val (.int (5 : Int32)), .val (.int r), .val (.ref aH), .val (.int (-1 : Int32)), .val (.int (0 : Int32))] [.int (0 : Int32)]))
        refine s_iload X22 hx (hb hby at_182) (pc' := 184) rfl rfl ?_
        refine s_icmpN X22 hx (hb hby at_184) (pc' := 187) rfl (by decide) ?_
        refine s_iconst X22 hx (1 : Int32) (hb hby at_187) (pc' := 188) rfl rfl ?_
        refine s_goto X22 hx (hb hby at_188) (by decide) (pc' := 192) (by decide) ?_
        exact s_retI X22 hx hlk hret (hb hby at_192) rfl (Or.inl ⟨rfl, by simp, _, rfl⟩) (by decide) (by decide) ⟨rfl, N22⟩
      refine s_icmpY X21 hx (hb hby at_32) (cy_ge h1) (by decide) (pc' := 41) (by decide) ?_
      refine s_iloadN X21 hx (hb hby at_41) (pc' := 42) rfl rfl ?_
      refine s_iload X21 hx (hb hby at_42) (pc' := 44) rfl rfl ?_
      by_cases h2 : p1 = r
      ·
        refine s_icmpN X21 hx (hb hby at_44) (pc' := 47) rfl (cn_ne h2) ?_
        refine s_iconst X21 hx (0 : Int32) (hb hby at_47) (pc' := 48) rfl rfl ?_
        refine s_istore X21 hx #[.val (.int p0), .val (.int p1), .val (.int p2), .val (.int p3), .val (.int (5 : Int32)), .val (.int r), .val (.ref aH), .val (.int (0 : Int32)), .unset] (hb hby at_48) (pc' := 50) rfl rfl ?_
        refine s_goto X21 hx (hb hby at_50) (by decide) (pc' := 56) (by decide) ?_
        refine s_iload X21 hx (hb hby at_56) (pc' := 58) rfl rfl ?_
        refine s_ifY X21 hx (hb hby at_58) (by decide) (by decide) (pc' := 76) (by decide) ?_
        refine s_iload X21 hx (hb hby at_76) (pc' := 78) rfl rfl ?_
        refine s_iconst X21 hx (1 : Int32) (hb hby at_78) (pc' := 79) rfl rfl ?_
        refine s_icmpY X21 hx (hb hby at_79) (by decide) (by decide) (pc' := 97) (by decide) ?_
        refine s_iload X21 hx (hb hby at_97) (pc' := 99) rfl rfl ?_
        refine s_iconst X21 hx (2 : Int32) (hb hby at_99) (pc' := 100) rfl rfl ?_
        refine s_icmpY X21 hx (hb hby at_100) (by decide) (by decide) (pc' := 118) (by decide) ?_
        refine s_iload X21 hx (hb hby at_118) (pc' := 120) rfl rfl ?_
        refine s_iconst X21 hx (3 : Int32) (hb hby at_120) (pc' := 121) rfl rfl ?_
        refine s_icmpY X21 hx (hb hby at_121) (by decide) (by decide) (pc' := 139) (by decide) ?_
        refine s_iload X21 hx (hb hby at_139) (pc' := 141) rfl rfl ?_
        refine s_iconst X21 hx (4 : Int32) (hb hby at_141) (pc' := 142) rfl rfl ?_
        refine s_icmpY X21 hx (hb hby at_142) (by decide) (by decide) (pc' := 160) (by decide) ?_
        refine s_iload X21 hx (hb hby at_160) (pc' := 162) rfl rfl ?_
        refine s_ifN X21 hx (hb hby at_162) (pc' := 165) rfl (by decide) ?_
        refine s_iconst X21 hx (1 : Int32) (hb hby at_165) (pc' := 166) rfl rfl ?_
        refine s_goto X21 hx (hb hby at_166) (by decide) (pc' := 170) (by decide) ?_
        refine s_istore X21 hx #[.val (.int p0), .val (.int p1), .val (.int p2), .val (.int p3), .val (.int (5 : Int32)), .val (.int r), .val (.ref aH), .val (.int (0 : Int32)), .val (.int (1 : Int32))] (hb hby at_170) (pc' := 172) rfl rfl ?_
        refine s_aload X21 hx (hb hby at_172) (pc' := 174) rfl rfl rfl ?_
        refine s_iloadN X21 hx (hb hby at_174) (pc' := 175) rfl rfl ?_
        refine s_i2d X21 hx (hb hby at_175) (pc' := 176) rfl ?_
        refine s_iload X21 hx (hb hby at_176) (pc' := 178) rfl rfl ?_
        refine s_i2d X21 hx (hb hby at_178) (pc' := 179) rfl ?_
        refine c_virtual X21 hx hZ hown (hw _ (List.mem_of_getElem? (i := 8) rfl)) (hw _ (List.mem_of_getElem? (i := 9) rfl)) (hw _ (List.mem_of_getElem? (i := 11) rfl)) (hw _ (List.mem_of_getElem? (i := 10) rfl)) (hw _ (List.mem_of_getElem? (i := 6) rfl)) (hw _ (List.mem_of_getElem? (i := 12) rfl)) (by decide) eh21 E5 (rm_2_5_eq l Z a0 hw [] (FP.i2d p1) (FP.i2d r) aE aN aL aM aG aH h0 n0 Z0 (by rw [own_dcmp, if_neg h1, if_pos h2]) S0 S1 S2 S3 S4 q50 q51 q52 q53 q54) (W := 0) (by decide) (by decide) (by decide) (by decide) (by rw [hml]; rfl) (argsL := [.double (FP.i2d p1), .double (FP.i2d r)]) (rest := []) (lenOf pd_1 rfl) rfl rfl (Nat.le_of_eq rfl) (hb hby at_179) (pc' := 182) rfl ?_
        intro T23 v23 L23 X23 hQ23
        obtain ⟨rfl, Nq23, eh23⟩ := hQ23
        have N23 := Fr.app N21 Nq23
        show Goes p e below _ (T23.setTop (mkF m 182 #[.val (.int p0), .val (.int p1), .val (.int p2), .val (.int p3), .val (.int (5 : Int32)), .val (.int r), .val (.ref aH), .val (.int (0 : Int32)), .val (.int (1 : Int32))] [.int (1 : Int32)]))
        refine s_iload X23 hx (hb hby at_182) (pc' := 184) rfl rfl ?_
        refine s_icmpN X23 hx (hb hby at_184) (pc' := 187) rfl (by decide) ?_
        refine s_iconst X23 hx (1 : Int32) (hb hby at_187) (pc' := 188) rfl rfl ?_
        refine s_goto X23 hx (hb hby at_188) (by decide) (pc' := 192) (by decide) ?_
        exact s_retI X23 hx hlk hret (hb hby at_192) rfl (Or.inl ⟨rfl, by simp, _, rfl⟩) (by decide) (by decide) ⟨rfl, N23⟩
      refine s_icmpY X21 hx (hb hby at_44) (cy_ne h2) (by decide) (pc' := 53) (by decide) ?_
      refine s_iconst X21 hx (1 : Int32) (hb hby at_53) (pc' := 54) rfl rfl ?_
      refine s_istore X21 hx #[.val (.int p0), .val (.int p1), .val (.int p2), .val (.int p3), .val (.int (5 : Int32)), .val (.int r), .val (.ref aH), .val (.int (1 : Int32)), .unset] (hb hby at_54) (pc' := 56) rfl rfl ?_
      refine s_iload X21 hx (hb hby at_56) (pc' := 58) rfl rfl ?_
      refine s_ifY X21 hx (hb hby at_58) (by decide) (by decide) (pc' := 76) (by decide) ?_
      refine s_iload X21 hx (hb hby at_76) (pc' := 78) rfl rfl ?_
      refine s_iconst X21 hx (1 : Int32) (hb hby at_78) (pc' := 79) rfl rfl ?_
      refine s_icmpY X21 hx (hb hby at_79) (by decide) (by decide) (pc' := 97) (by decide) ?_
      refine s_iload X21 hx (hb hby at_97) (pc' := 99) rfl rfl ?_
      refine s_iconst X21 hx (2 : Int32) (hb hby at_99) (pc' := 100) rfl rfl ?_
      refine s_icmpY X21 hx (hb hby at_100) (by decide) (by decide) (pc' := 118) (by decide) ?_
      refine s_iload X21 hx (hb hby at_118) (pc' := 120) rfl rfl ?_
      refine s_iconst X21 hx (3 : Int32) (hb hby at_120) (pc' := 121) rfl rfl ?_
      refine s_icmpY X21 hx (hb hby at_121) (by decide) (by decide) (pc' := 139) (by decide) ?_
      refine s_iload X21 hx (hb hby at_139) (pc' := 141) rfl rfl ?_
      refine s_iconst X21 hx (4 : Int32) (hb hby at_141) (pc' := 142) rfl rfl ?_
      refine s_icmpY X21 hx (hb hby at_142) (by decide) (by decide) (pc' := 160) (by decide) ?_
      refine s_iload X21 hx (hb hby at_160) (pc' := 162) rfl rfl ?_
      refine s_ifN X21 hx (hb hby at_162) (pc' := 165) rfl (by decide) ?_
      refine s_iconst X21 hx (1 : Int32) (hb hby at_165) (pc' := 166) rfl rfl ?_
      refine s_goto X21 hx (hb hby at_166) (by decide) (pc' := 170) (by decide) ?_
      refine s_istore X21 hx #[.val (.int p0), .val (.int p1), .val (.int p2), .val (.int p3), .val (.int (5 : Int32)), .val (.int r), .val (.ref aH), .val (.int (1 : Int32)), .val (.int (1 : Int32))] (hb hby at_170) (pc' := 172) rfl rfl ?_
      refine s_aload X21 hx (hb hby at_172) (pc' := 174) rfl rfl rfl ?_
      refine s_iloadN X21 hx (hb hby at_174) (pc' := 175) rfl rfl ?_
      refine s_i2d X21 hx (hb hby at_175) (pc' := 176) rfl ?_
      refine s_iload X21 hx (hb hby at_176) (pc' := 178) rfl rfl ?_
      refine s_i2d X21 hx (hb hby at_178) (pc' := 179) rfl ?_
      refine c_virtual X21 hx hZ hown (hw _ (List.mem_of_getElem? (i := 8) rfl)) (hw _ (List.mem_of_getElem? (i := 9) rfl)) (hw _ (List.mem_of_getElem? (i := 11) rfl)) (hw _ (List.mem_of_getElem? (i := 10) rfl)) (hw _ (List.mem_of_getElem? (i := 6) rfl)) (hw _ (List.mem_of_getElem? (i := 12) rfl)) (by decide) eh21 E5 (rm_2_5_gt l Z a0 hw [] (FP.i2d p1) (FP.i2d r) aE aN aL aM aG aH h0 n0 Z0 (by rw [own_dcmp, if_neg h1, if_neg h2]) S0 S1 S2 S3 S4 q50 q51 q52 q53 q54) (W := 0) (by decide) (by decide) (by decide) (by decide) (by rw [hml]; rfl) (argsL := [.double (FP.i2d p1), .double (FP.i2d r)]) (rest := []) (lenOf pd_1 rfl) rfl rfl (Nat.le_of_eq rfl) (hb hby at_179) (pc' := 182) rfl ?_
      intro T24 v24 L24 X24 hQ24
      obtain ⟨rfl, Nq24, eh24⟩ := hQ24
      have N24 := Fr.app N21 Nq24
      show Goes p e below _ (T24.setTop (mkF m 182 #[.val (.int p0), .val (.int p1), .val (.int p2), .val (.int p3), .val (.int (5 : Int32)), .val (.int r), .val (.ref aH), .val (.int (1 : Int32)), .val (.int (1 : Int32))] [.int (1 : Int32)]))
      refine s_iload X24 hx (hb hby at_182) (pc' := 184) rfl rfl ?_
      refine s_icmpN X24 hx (hb hby at_184) (pc' := 187) rfl (by decide) ?_
      refine s_iconst X24 hx (1 : Int32) (hb hby at_187) (pc' := 188) rfl rfl ?_
      refine s_goto X24 hx (hb hby at_188) (by decide) (pc' := 192) (by decide) ?_
      exact s_retI X24 hx hlk hret (hb hby at_192) rfl (Or.inl ⟨rfl, by simp, _, rfl⟩) (by decide) (by decide) ⟨rfl, N24⟩
  refine s_iloadN X0 hx (hb hby at_9) (pc' := 10) rfl rfl ?_
  refine s_iconst X0 hx (1 : Int32) (hb hby at_10) (pc' := 11) rfl rfl ?_
  refine s_iand X0 hx (hb hby at_11) (pc' := 12) rfl ?_
  by_cases hs : (p3 &&& (1 : Int32)) = 0
  ·
    refine s_ifY X0 hx (hb hby at_12) (iy_eq hs) (by decide) (pc' := 19) (by decide) ?_
    refine s_iloadN X0 hx (hb hby at_19) (pc' := 20) rfl rfl ?_
    refine s_istore X0 hx #[.val (.int p0), .val (.int p1), .val (.int p2), .val (.int p3), .val (.int k), .val (.int p2), .unset, .unset, .unset] (hb hby at_20) (pc' := 22) rfl rfl ?_
    exact tail p2
  ·
    refine s_ifN X0 hx (hb hby at_12) (pc' := 15) rfl (in_eq hs) ?_
    refine s_iloadN X0 hx (hb hby at_15) (pc' := 16) rfl rfl ?_
    refine s_goto X0 hx (hb hby at_16) (by decide) (pc' := 20) (by decide) ?_
    refine s_istore X0 hx #[.val (.int p0), .val (.int p1), .val (.int p2), .val (.int p3), .val (.int k), .val (.int p1), .unset, .unset, .unset] (hb hby at_20) (pc' := 22) rfl rfl ?_
    exact tail p1
set_option maxRecDepth 65536 in
set_option maxHeartbeats 40000000 in
theorem comes_1 {Post : Tables → Env → Array Value → State → Outcome → State → Prop} (hpost : ∀ tb e args s v u, (limb_1_1.after args s (.returned v) u = true ∧ limb_1_2.after args s (.returned v) u = true ∧ True) → FrameEnd s (.returned v) u (Jvm.fieldLocs frame_1_writes args s ++ Jvm.arrayLocs frame_1_arrays args s ++ Jvm.staticLocs frame_1_statics s) 0 0 → Post tb e args s (.returned v) u) :
    ArmFor flags0 classFile x code maxLocals ret World_1 tables_1 room_1 Calls_1 rest_1 Pre_1 Post := by
  intro l hfl _ _ p e ha hc hk s m args below hf hA hF happ hP
  obtain ⟨hcalls, hrest, hpre⟩ := hP
  obtain ⟨-, -, -, hnamed, -, -, -, hat⟩ := (Spec.applies_iff hf).mp happ
  obtain ⟨hg, hn⟩ := and_e (Cond.before_iff.mp (show (Jvm.Cond.and given_1 narrow_1).before args s = true from hpre))
  obtain ⟨g0, gr0⟩ := and_e hg
  obtain ⟨g1, gr1⟩ := and_e gr0
  obtain ⟨g2, gr2⟩ := and_e gr1
  obtain ⟨g3, gr3⟩ := and_e gr2
  obtain ⟨w0, w1, w2, w3, rfl⟩ : ∃ w0 w1 w2 w3 : Value, args = #[w0, w1, w2, w3] := by
    have hs : args.size = 4 := by simpa [Cond.value, given_1] using g0
    obtain ⟨L⟩ := args
    match L, hs with
    | [w0, w1, w2, w3], _ => exact ⟨w0, w1, w2, w3, rfl⟩
  have hw := fun d (hd : d ∈ tables_1) => atoms_spec (ws := Jvm.Cond.code x code maxLocals ret :: tables_1) hat d (List.mem_cons_of_mem _ hd)
  have hfit : Fit s := fun {y c} hc i hi => by
    obtain ⟨ha, rfl⟩ := Array.getElem?_eq_some_iff.mp hc
    have q := List.all_eq_true.mp ((Array.all_eq_true_iff_forall_mem.mp hF) _ (Array.getElem_mem ha)) i (List.mem_range.mpr hi)
    simpa [Array.getElem?_eq_getElem hi] using q
  obtain ⟨i0, q0⟩ := is_v g1
  obtain rfl : w0 = (.int i0) := Option.some.inj q0
  obtain ⟨i1, q1⟩ := is_v g2
  obtain rfl : w1 = (.int i1) := Option.some.inj q1
  obtain ⟨i2, q2⟩ := is_v g3
  obtain rfl : w2 = (.int i2) := Option.some.inj q2
  obtain ⟨i3, q3⟩ := is_v gr3
  obtain rfl : w3 = (.int i3) := Option.some.inj q3
  obtain ⟨c0, r0⟩ := and_e hn
  obtain ⟨c1, r1⟩ := and_e r0
  obtain ⟨c2, r2⟩ := and_e r1
  obtain ⟨c3, r3⟩ := and_e r2
  obtain ⟨c4, r4⟩ := and_e r3
  obtain ⟨c5, r5⟩ := and_e r4
  obtain ⟨c6, r6⟩ := and_e r5
  obtain ⟨c7, r7⟩ := and_e r6
  obtain ⟨c8, r8⟩ := and_e r7
  obtain ⟨c9, r9⟩ := and_e r8
  obtain ⟨c10, r10⟩ := and_e r9
  have c11 := r10
  obtain ⟨aE, v0⟩ := exa_v c0
  have S0 := Sta.start v0 (Or.inr ⟨(hw _ (List.mem_of_getElem? (i := 6) rfl)), (hw _ (List.mem_of_getElem? (i := 7) rfl))⟩)
  have E0 := Exa.start v0 c0
  obtain ⟨aN, v1⟩ := exa_v c1
  have S1 := Sta.start v1 (Or.inr ⟨(hw _ (List.mem_of_getElem? (i := 6) rfl)), (hw _ (List.mem_of_getElem? (i := 15) rfl))⟩)
  have E1 := Exa.start v1 c1
  obtain ⟨aL, v2⟩ := exa_v c6
  have S2 := Sta.start v2 (Or.inr ⟨(hw _ (List.mem_of_getElem? (i := 6) rfl)), (hw _ (List.mem_of_getElem? (i := 20) rfl))⟩)
  have E2 := Exa.start v2 c6
  obtain ⟨aM, v3⟩ := exa_v c8
  have S3 := Sta.start v3 (Or.inr ⟨(hw _ (List.mem_of_getElem? (i := 6) rfl)), (hw _ (List.mem_of_getElem? (i := 22) rfl))⟩)
  have E3 := Exa.start v3 c8
  obtain ⟨aG, v4⟩ := exa_v c4
  have S4 := Sta.start v4 (Or.inr ⟨(hw _ (List.mem_of_getElem? (i := 6) rfl)), (hw _ (List.mem_of_getElem? (i := 18) rfl))⟩)
  have E4 := Exa.start v4 c4
  obtain ⟨aH, v5⟩ := exa_v c10
  have S5 := Sta.start v5 (Or.inr ⟨(hw _ (List.mem_of_getElem? (i := 6) rfl)), (hw _ (List.mem_of_getElem? (i := 26) rfl))⟩)
  have E5 := Exa.start v5 c10
  obtain ⟨n, o, h1, h2, h3, _, L, rfl, ⟨rfl, N⟩, hq⟩ := rm_0 l s _ hw tables_1 i0 i1 i2 i3 s.heap s.heap.size (Nat.le_refl _) aE aN aL aM aG aH S0 S1 S2 S3 S4 S5 E0 E1 E2 E3 E4 E5 (own_ne v1 v0 c2 c3 (by decide)) (own_ne v2 v0 c7 c3 (by decide)) (own_ne v2 v1 c7 c2 (by decide)) (own_ne v3 v0 c9 c3 (by decide)) (own_ne v3 v1 c9 c2 (by decide)) (own_ne v3 v2 c9 c7 (by decide)) (own_ne v4 v0 c5 c3 (by decide)) (own_ne v4 v1 c5 c2 (by decide)) (own_ne v4 v2 c5 c7 (by decide)) (own_ne v4 v3 c5 c9 (by decide)) (own_ne v5 v0 c11 c3 (by decide)) (own_ne v5 v1 c11 c2 (by decide)) (own_ne v5 v2 c11 c7 (by decide)) (own_ne v5 v3 c11 c9 (by decide)) (own_ne v5 v4 c11 c5 (by decide)) p e ha hc hk s m _ below hf ((Spec.applies_iff_loose hf).mp happ).1 ⟨rfl, State.Warmed39.refl s, rfl⟩ trivial
  refine ⟨n, _, h1, h2, h3, hpost _ _ _ _ _ _ ⟨Cond.after_iff.mpr rfl, Cond.after_iff.mpr (eq_i res_at (Term.int_eval (1)) rfl), trivial⟩ ⟨hq.1, hq.2.1, (hq.2.2.sift fun y hy => Or.inr (N y hy)).mono (by decide) (by decide)⟩⟩
theorem main_1_1 : Claimed_1_1 := comes_1 fun _ _ _ _ _ _ h hF => ⟨h.1, hF⟩
theorem main_1_2 : Claimed_1_2 := comes_1 fun _ _ _ _ _ _ h hF => ⟨h.2.1, hF⟩
end Jvm.Pilot.@@N@@
namespace Jvm.Pilot.@@N@@
open Jvm Jvm.ClassFile Sem Op Lib Jvm.Free Jvm.Stand Jvm.Pilot.@@N@@.Jvm.D
/-! MADE BY PROGRAM (witnessworld.py) out of the Statement's table words and the real class files: 12 classes; the members and pool entries that the words name. The judged class is class 1, her method 1. -/
namespace start1
open Jvm.ClassFile
def u (s : String) : CpInfo := .utf8 (stringToUtf16 s)
/-- a pool by its gaps: so many unusable entries, then the entry; so many at the end -/
def gap : Nat → List CpInfo → List CpInfo
  | 0, r => r
  | n + 1, r => .unusable :: gap n r
def poolList (es : List (Nat × CpInfo)) (last : Nat) : List CpInfo := es.foldr (fun e r => gap e.1 (e.2 :: r)) (gap last [])
def pool (es : List (Nat × CpInfo)) (last : Nat) : Array CpInfo := ⟨poolList es last⟩
def fileOf (pool : Array CpInfo) (this : Nat) (attrs : Array Attribute := #[]) (ms : Array MethodInfo := #[]) (fl : Nat := 33) (sup : Nat := 0) (ifs : Array Nat := #[]) (fds : Array FieldInfo := #[]) : ClassFile where
  minorVersion := 0
  majorVersion := 65
  constantPool := pool
  accessFlags := fl
  thisClass := this
  superClass := sup
  interfaces := ifs
  fields := fds
  methods := ms
  attributes := attrs
def plain (name : String) (sup : Option ClassId) : Class where
  name := name
  kind := .ordinary
  loader := none
  accessFlags := 33
  super := sup
  interfaces := #[]
  cf := none
  fields := #[]
  methods := #[]
  instanceTypes := #[]
  staticTypes := #[]
  resolved := #[]
  callSites := []
  init := .initialized
  statics := none
  mirror := none

def pool0 : Array CpInfo := pool [(5, u "<init>"), (0, u "()V"), (1, .class_ 10), (1, u "java/lang/Object")] 113

def k0m0 : Method := { name := "<init>", desc := "()V", sig := { parameters := [], returnType := none }, accessFlags := 1, code := none }
/-- java/lang/Object -/
def k0 : Class := { plain "java/lang/Object" none with
  accessFlags := 33
  interfaces := #[]
  cf := some (fileOf pool0 8 #[] #[{ accessFlags := 1, nameIndex := 5, descriptorIndex := 6, attributes := #[] }] 33 0 #[] #[])
  fields := #[]
  methods := #[k0m0]
  instanceTypes := #[]
  staticTypes := #[]
  resolved := Array.replicate 124 none
  statics := none }

def pool1 : Array CpInfo := pool [(2, .class_ 4), (1, u "java/lang/Object"), (0, u "<init>"), (0, u "()V"), (0, .integer 2147483647), (0, .methodref 9 10), (0, .class_ 11), (0, .nameAndType 12 13), (0, u "com/example/libclearance/libclearance/xpath/ComparisonHoldsPinLaw"), (0, u "pick"), (0, u "(I)Lcom/example/libclearance/libclearance/xpath/Comparison;"), (0, .methodref 15 16), (0, .class_ 17), (0, .nameAndType 18 19), (0, u "com/example/libclearance/libclearance/xpath/Comparison"), (0, u "holds"), (0, u "(DD)Z"), (0, .fieldref 15 21), (0, .nameAndType 22 23), (0, u "EQUAL"), (0, u "Lcom/example/libclearance/libclearance/xpath/Comparison;"), (0, .fieldref 15 25), (0, .nameAndType 26 23), (0, u "NOT_EQUAL"), (0, .fieldref 15 28), (0, .nameAndType 29 23), (0, u "LESS"), (0, .fieldref 15 31), (0, .nameAndType 32 23), (0, u "LESS_OR_EQUAL"), (0, .fieldref 15 34), (0, .nameAndType 35 23), (0, u "GREATER"), (0, .fieldref 15 37), (0, .nameAndType 38 23), (0, u "GREATER_OR_EQUAL"), (2, u "law"), (0, u "(IIII)Z")] 3

def k1m0 : Method := { name := "<init>", desc := "()V", sig := { parameters := [], returnType := none }, accessFlags := 1, code := none }
def k1c1 : Code := { maxStack := 5, maxLocals := 9, code := code, exceptionTable := #[], attributes := #[] }
def k1m1 : Method := { name := "law", desc := "(IIII)Z", sig := { parameters := [.int, .int, .int, .int], returnType := some .boolean }, accessFlags := 9, code := some k1c1 }
def k1c2 : Code := { maxStack := 2, maxLocals := 1, code := method_3_code, exceptionTable := #[], attributes := #[] }
def k1m2 : Method := { name := "pick", desc := "(I)Lcom/example/libclearance/libclearance/xpath/Comparison;", sig := { parameters := [.int], returnType := some (.object "com/example/libclearance/libclearance/xpath/Comparison") }, accessFlags := 10, code := some k1c2 }
/-- com/example/libclearance/libclearance/xpath/ComparisonHoldsPinLaw -/
def k1 : Class := { plain "com/example/libclearance/libclearance/xpath/ComparisonHoldsPinLaw" (some 0) with
  accessFlags := 49
  interfaces := #[]
  cf := some (fileOf pool1 9 #[] #[{ accessFlags := 1, nameIndex := 5, descriptorIndex := 6, attributes := #[] }, { accessFlags := 9, nameIndex := 41, descriptorIndex := 42, attributes := #[] }, { accessFlags := 10, nameIndex := 12, descriptorIndex := 13, attributes := #[] }] 49 2 #[] #[])
  fields := #[]
  methods := #[k1m0, k1m1, k1m2]
  instanceTypes := #[]
  staticTypes := #[]
  resolved := Array.replicate 46 none
  statics := none }

def pool2 : Array CpInfo := pool [(1, .class_ 2), (0, u "java/lang/constant/Constable"), (0, .class_ 4), (0, u "java/lang/Object")] 6

/-- java/lang/constant/Constable -/
def k2 : Class := { plain "java/lang/constant/Constable" (some 0) with
  accessFlags := 1537
  interfaces := #[]
  cf := some (fileOf pool2 1 #[] #[] 1537 3 #[] #[])
  fields := #[]
  methods := #[]
  instanceTypes := #[]
  staticTypes := #[]
  resolved := Array.replicate 11 none
  statics := none }

def pool3 : Array CpInfo := pool [(1, .class_ 2), (0, u "java/lang/Comparable"), (0, .class_ 4), (0, u "java/lang/Object")] 7

/-- java/lang/Comparable -/
def k3 : Class := { plain "java/lang/Comparable" (some 0) with
  accessFlags := 1537
  interfaces := #[]
  cf := some (fileOf pool3 1 #[] #[] 1537 3 #[] #[])
  fields := #[]
  methods := #[]
  instanceTypes := #[]
  staticTypes := #[]
  resolved := Array.replicate 12 none
  statics := none }

def pool4 : Array CpInfo := pool [(1, .class_ 2), (0, u "java/io/Serializable"), (0, .class_ 4), (0, u "java/lang/Object")] 2

/-- java/io/Serializable -/
def k4 : Class := { plain "java/io/Serializable" (some 0) with
  accessFlags := 1537
  interfaces := #[]
  cf := some (fileOf pool4 1 #[] #[] 1537 3 #[] #[])
  fields := #[]
  methods := #[]
  instanceTypes := #[]
  staticTypes := #[]
  resolved := Array.replicate 7 none
  statics := none }

def pool5 : Array CpInfo := pool [(2, .class_ 4), (1, u "java/lang/Enum"), (0, u "name"), (0, u "Ljava/lang/String;"), (2, u "ordinal"), (0, u "I"), (1, .class_ 14), (1, u "java/lang/Object"), (4, u "hash"), (86, .class_ 108), (1, u "java/lang/Enum$EnumDesc"), (2, .class_ 112), (0, u "java/lang/constant/Constable"), (0, .class_ 114), (0, u "java/lang/Comparable"), (0, .class_ 116), (0, u "java/io/Serializable")] 87

/-- java/lang/Enum -/
def k5 : Class := { plain "java/lang/Enum" (some 0) with
  accessFlags := 1057
  interfaces := #[2, 3, 4]
  cf := some (fileOf pool5 2 #[.nestMembers #[106]] #[] 1057 12 #[111, 113, 115] #[{ accessFlags := 18, nameIndex := 5, descriptorIndex := 6, attributes := #[] }, { accessFlags := 18, nameIndex := 9, descriptorIndex := 10, attributes := #[] }, { accessFlags := 2, nameIndex := 19, descriptorIndex := 10, attributes := #[] }])
  fields := #[{ name := "name", type := (.object "java/lang/String"), accessFlags := 18, slot := 0, constantValue := 0 }, { name := "ordinal", type := .int, accessFlags := 18, slot := 1, constantValue := 0 }, { name := "hash", type := .int, accessFlags := 2, slot := 2, constantValue := 0 }]
  methods := #[]
  instanceTypes := #[(.object "java/lang/String"), .int, .int]
  staticTypes := #[]
  resolved := Array.replicate 204 none
  statics := none }

def pool6 : Array CpInfo := pool [(1, .class_ 2), (0, u "com/example/libclearance/libclearance/xpath/Comparison"), (0, .fieldref 1 4), (0, .nameAndType 5 6), (0, u "EQUAL"), (0, u "Lcom/example/libclearance/libclearance/xpath/Comparison;"), (0, .fieldref 1 8), (0, .nameAndType 9 6), (0, u "NOT_EQUAL"), (0, .fieldref 1 11), (0, .nameAndType 12 6), (0, u "LESS"), (0, .fieldref 1 14), (0, .nameAndType 15 6), (0, u "LESS_OR_EQUAL"), (0, .fieldref 1 17), (0, .nameAndType 18 6), (0, u "GREATER"), (2, u "GREATER_OR_EQUAL"), (2, u "$VALUES"), (0, u "[Lcom/example/libclearance/libclearance/xpath/Comparison;"), (6, .class_ 34), (1, u "java/lang/Enum"), (8, u "written"), (0, u "Ljava/lang/String;"), (43, u "holds"), (0, u "(DD)Z")] 6

def k6c0 : Code := { maxStack := 4, maxLocals := 6, code := prog_88_method_6_code, exceptionTable := #[], attributes := #[] }
def k6m0 : Method := { name := "holds", desc := "(DD)Z", sig := { parameters := [.double, .double], returnType := some .boolean }, accessFlags := 0, code := some k6c0 }
/-- com/example/libclearance/libclearance/xpath/Comparison -/
def k6 : Class := { plain "com/example/libclearance/libclearance/xpath/Comparison" (some 5) with
  accessFlags := 16432
  interfaces := #[]
  cf := some (fileOf pool6 1 #[] #[{ accessFlags := 0, nameIndex := 88, descriptorIndex := 89, attributes := #[] }] 16432 32 #[] #[{ accessFlags := 16409, nameIndex := 5, descriptorIndex := 6, attributes := #[] }, { accessFlags := 16409, nameIndex := 9, descriptorIndex := 6, attributes := #[] }, { accessFlags := 16409, nameIndex := 12, descriptorIndex := 6, attributes := #[] }, { accessFlags := 16409, nameIndex := 15, descriptorIndex := 6, attributes := #[] }, { accessFlags := 16409, nameIndex := 18, descriptorIndex := 6, attributes := #[] }, { accessFlags := 16409, nameIndex := 21, descriptorIndex := 6, attributes := #[] }, { accessFlags := 18, nameIndex := 43, descriptorIndex := 44, attributes := #[] }, { accessFlags := 4122, nameIndex := 24, descriptorIndex := 25, attributes := #[] }])
  fields := #[{ name := "EQUAL", type := (.object "com/example/libclearance/libclearance/xpath/Comparison"), accessFlags := 16409, slot := 0, constantValue := 0 }, { name := "NOT_EQUAL", type := (.object "com/example/libclearance/libclearance/xpath/Comparison"), accessFlags := 16409, slot := 1, constantValue := 0 }, { name := "LESS", type := (.object "com/example/libclearance/libclearance/xpath/Comparison"), accessFlags := 16409, slot := 2, constantValue := 0 }, { name := "LESS_OR_EQUAL", type := (.object "com/example/libclearance/libclearance/xpath/Comparison"), accessFlags := 16409, slot := 3, constantValue := 0 }, { name := "GREATER", type := (.object "com/example/libclearance/libclearance/xpath/Comparison"), accessFlags := 16409, slot := 4, constantValue := 0 }, { name := "GREATER_OR_EQUAL", type := (.object "com/example/libclearance/libclearance/xpath/Comparison"), accessFlags := 16409, slot := 5, constantValue := 0 }, { name := "written", type := (.object "java/lang/String"), accessFlags := 18, slot := 3, constantValue := 0 }, { name := "$VALUES", type := (.array (.object "com/example/libclearance/libclearance/xpath/Comparison")), accessFlags := 4122, slot := 6, constantValue := 0 }]
  methods := #[k6m0]
  instanceTypes := #[(.object "java/lang/String"), .int, .int, (.object "java/lang/String")]
  staticTypes := #[(.object "com/example/libclearance/libclearance/xpath/Comparison"), (.object "com/example/libclearance/libclearance/xpath/Comparison"), (.object "com/example/libclearance/libclearance/xpath/Comparison"), (.object "com/example/libclearance/libclearance/xpath/Comparison"), (.object "com/example/libclearance/libclearance/xpath/Comparison"), (.object "com/example/libclearance/libclearance/xpath/Comparison"), (.array (.object "com/example/libclearance/libclearance/xpath/Comparison"))]
  resolved := Array.replicate 96 none
  statics := some 0 }

def pool7 : Array CpInfo := pool [(1, u "java/lang/Cloneable"), (0, .class_ 1), (0, u "java/lang/Object"), (0, .class_ 3)] 3

/-- java/lang/Cloneable -/
def k7 : Class := { plain "java/lang/Cloneable" (some 0) with
  accessFlags := 1537
  interfaces := #[]
  cf := some (fileOf pool7 2 #[] #[] 1537 4 #[] #[])
  fields := #[]
  methods := #[]
  instanceTypes := #[]
  staticTypes := #[]
  resolved := Array.replicate 8 none
  statics := none }

/-- the primitive byte -/
def k8 : Class := { plain "byte" none with kind := .primitive 'B', accessFlags := 0x411 }
/-- [B -/
def k9 : Class := { plain "[B" (some 0) with kind := .array 8 .byte, interfaces := #[7, 4], accessFlags := 1041 }

/-- the primitive int -/
def k10 : Class := { plain "int" none with kind := .primitive 'I', accessFlags := 0x411 }
/-- [I -/
def k11 : Class := { plain "[I" (some 0) with kind := .array 10 .int, interfaces := #[7, 4], accessFlags := 1041 }

def heap : Heap := #[{ cls := 6, slots := #[.ref 1, .ref 2, .ref 3, .ref 4, .ref 5, .ref 6, .null], vm := .statics 6 },
  { cls := 6, slots := #[.null, .int 0, .int 0, .null], vm := .none },
  { cls := 6, slots := #[.null, .int 1, .int 0, .null], vm := .none },
  { cls := 6, slots := #[.null, .int 2, .int 0, .null], vm := .none },
  { cls := 6, slots := #[.null, .int 3, .int 0, .null], vm := .none },
  { cls := 6, slots := #[.null, .int 4, .int 0, .null], vm := .none },
  { cls := 6, slots := #[.null, .int 5, .int 0, .null], vm := .none }]
def classes : Array Class := #[k0, k1, k2, k3, k4, k5, k6, k7, k8, k9, k10, k11]
def interned : List (Array UInt16 × Addr) := []
def slotsUsed : Nat := 31
def theMethod : MethodId := ⟨1, 1⟩
def args0 : Array Value := #[.int 0, .int 5, .int 6, .int 1]
def aboutOver (below : List Frame) : State where
  vm := { classes := classes, interned := interned.toArray }
  heap := heap
  slotsUsed := slotsUsed
  threads := #[{ frames := .invoking theMethod args0 :: below }]
def below0 : List Frame := [.native { method := ⟨0, 0⟩, args := #[] }]
def about1 : State := aboutOver below0
def p0 : Program := .bare "" "" ""
def e0 : Env := launch0.env 0 0 0
theorem w_frames : about1.frames = Frame.invoking theMethod args0 :: below0 := rfl
set_option maxRecDepth 65536 in
theorem w_args : argsFit about1.vm theMethod args0 = true := by decide +kernel
set_option maxRecDepth 65536 in
theorem w_heap : heapFits about1 = true := by decide +kernel
set_option maxRecDepth 65536 in
theorem w_runnable : about1.curStatus? = some .runnable := by decide +kernel
set_option maxRecDepth 65536 in
theorem w_alone : about1.alone = true := by decide +kernel
set_option maxRecDepth 65536 in
theorem w_named : about1.methodNamed? x = some theMethod := by decide +kernel
set_option maxRecDepth 65536 in
theorem w_hears : about1.hears theMethod below0 = true := by decide +kernel
set_option maxRecDepth 65536 in
theorem w_ripe : about1.ripe theMethod args0 below0 = true := by decide +kernel
theorem w_running : about1.status = .running := rfl
set_option maxRecDepth 65536 in
theorem w_room : about1.hasRoom e0.platform room_1 = true :=
  launch0.hasRoom_least _ room_1 (by decide +kernel) (by decide +kernel) (by decide +kernel) (by decide +kernel) (by decide +kernel) (by decide +kernel)
theorem allAtoms_all (ts : List Jvm.Cond) (a : Array Jvm.Value) (st : Jvm.State) : (allAtoms ts).before a st = ts.all (fun c => c.before a st) := by
  induction ts with
  | nil => rfl
  | cons c t ih =>
    show (Jvm.Cond.and c (allAtoms t)).before a st = _
    rw [Jvm.Cond.before_and, ih, List.all_cons]
def words1 : List Jvm.Cond := Jvm.Cond.code x code maxLocals ret :: tables_1
/-- a 'code' word, met by the world's own term for the bytes: nothing is compared byte by byte -/
theorem code_word {y : MethodName} {bytes : ByteArray} {mx : Nat} {rt : Option FieldType} {a : Array Value} {s : State} {m : MethodId} {meth : Method} {c : Code} (h1 : s.methodNamed? y = some m) (h2 : s.vm.method? m = some meth) (h3 : meth.code = some c) (h4 : c.code = bytes)
    (h5 : (c.maxLocals == mx && c.exceptionTable.isEmpty && decide (c.maxStack ≤ mostOperands) && decide (meth.sig.returnType = rt) && !meth.locks && decide (parseMethodDescriptor y.desc = some meth.sig)) = true) : (Jvm.Cond.code y bytes mx rt).before a s = true := by
  simp only [Bool.and_eq_true, beq_iff_eq, Bool.not_eq_true', decide_eq_true_eq] at h5
  obtain ⟨⟨⟨⟨⟨g1, g2⟩, g3⟩, g4⟩, g5⟩, g6⟩ := h5
  simp [Cond.before, Cond.holds, Cond.value, h1, h2, h3, h4, g1, g2, g3, g4, g5, g6]
def isCode : Jvm.Cond → Bool
  | .code _ _ _ _ => true
  | _ => false
theorem all_split {L : List Jvm.Cond} {P : Jvm.Cond → Bool} (h1 : L.all (fun c => isCode c || P c) = true) (h2 : ∀ c ∈ L.filter isCode, P c = true) : L.all P = true := by
  refine List.all_eq_true.mpr fun c hc => ?_
  have h := List.all_eq_true.mp h1 c hc
  rcases Bool.eq_false_or_eq_true (isCode c) with hi | hi
  · exact h2 c (List.mem_filter.mpr ⟨hc, hi⟩)
  · simpa [hi] using h
set_option maxRecDepth 65536 in
theorem w_c0 : (Jvm.Cond.code x code maxLocals ret).before args0 about1 = true := code_word (m := ⟨1, 1⟩) (meth := k1m1) (c := k1c1) (by decide +kernel) rfl rfl rfl (by decide +kernel)
set_option maxRecDepth 65536 in
theorem w_c1 : (Jvm.Cond.code ({ cls := "com/example/libclearance/libclearance/xpath/ComparisonHoldsPinLaw", name := "pick", desc := "(I)Lcom/example/libclearance/libclearance/xpath/Comparison;" } : Jvm.MethodName) method_3_code (1 : Nat) (Option.some (Jvm.ClassFile.FieldType.object "com/example/libclearance/libclearance/xpath/Comparison"))).before args0 about1 = true := code_word (m := ⟨1, 2⟩) (meth := k1m2) (c := k1c2) (by decide +kernel) rfl rfl rfl (by decide +kernel)
set_option maxRecDepth 65536 in
theorem w_c2 : (Jvm.Cond.code ({ cls := "com/example/libclearance/libclearance/xpath/Comparison", name := "holds", desc := "(DD)Z" } : Jvm.MethodName) prog_88_method_6_code (6 : Nat) (Option.some Jvm.ClassFile.FieldType.boolean)).before args0 about1 = true := code_word (m := ⟨6, 0⟩) (meth := k6m0) (c := k6c0) (by decide +kernel) rfl rfl rfl (by decide +kernel)
def codes1 : List Jvm.Cond := [Jvm.Cond.code x code maxLocals ret, Jvm.Cond.code ({ cls := "com/example/libclearance/libclearance/xpath/ComparisonHoldsPinLaw", name := "pick", desc := "(I)Lcom/example/libclearance/libclearance/xpath/Comparison;" } : Jvm.MethodName) method_3_code (1 : Nat) (Option.some (Jvm.ClassFile.FieldType.object "com/example/libclearance/libclearance/xpath/Comparison")), Jvm.Cond.code ({ cls := "com/example/libclearance/libclearance/xpath/Comparison", name := "holds", desc := "(DD)Z" } : Jvm.MethodName) prog_88_method_6_code (6 : Nat) (Option.some Jvm.ClassFile.FieldType.boolean)]
set_option maxRecDepth 65536 in
theorem codes_eq : words1.filter isCode = codes1 := rfl
theorem w_codes : ∀ c ∈ words1.filter isCode, c.before args0 about1 = true := by
  rw [codes_eq]
  intro c hc
  simp only [codes1, List.mem_cons, List.not_mem_nil, or_false] at hc
  rcases hc with rfl | rfl | rfl
  · exact w_c0
  · exact w_c1
  · exact w_c2
set_option maxRecDepth 65536 in
theorem w_t1 : (words1.take 24).all (fun c => isCode c || c.before args0 about1) = true := by decide +kernel
set_option maxRecDepth 65536 in
theorem w_t2 : (words1.drop 24).all (fun c => isCode c || c.before args0 about1) = true := by decide +kernel
theorem w_tables : (allAtoms (Jvm.Cond.code x code maxLocals ret :: tables_1)).before args0 about1 = true := by
  rw [allAtoms_all]
  show words1.all (fun c => c.before args0 about1) = true
  refine all_split ?_ w_codes
  rw [← List.take_append_drop 24 words1, List.all_append, w_t1, w_t2]
  rfl
set_option maxRecDepth 65536 in
theorem w_case : (Jvm.Cond.and given_1 narrow_1).before args0 about1 = true := by decide +kernel
theorem w_applies : (headSpec (Jvm.Cond.code x code maxLocals ret :: tables_1) room_1).applies x e0.platform about1 = true :=
  (Spec.applies_iff w_frames).mpr ⟨w_running, w_runnable, w_alone, w_named, w_hears, w_ripe, w_room, w_tables⟩
theorem atStart : AtStart classFile x code maxLocals ret World_1 tables_1 room_1 Calls_1 rest_1 Pre_1 launch0 p0 e0 about1 theMethod args0 below0 :=
  ⟨lists_1, trivial, launch0.admits_env _ _ _, launch0.least_env, fairChoices_fair.cas, fairChoices_fair.clock, w_frames, w_args, w_heap, w_applies, trivial, trivial, w_case⟩
end start1
theorem witness_1 : WitnessClaimed_1 := ⟨start1.p0, start1.e0, start1.about1, start1.theMethod, start1.args0, start1.below0, start1.atStart⟩
end Jvm.Pilot.@@N@@
