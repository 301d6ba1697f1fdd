import JvmDerived
import JvmDerived.Pilot.@@N@@Statement
import JvmDerived.Pilot.@@N@@Code
set_option linter.unusedVariables false
set_option linter.unusedSimpArgs false
namespace Jvm.Pilot.@@N@@
open Jvm Jvm.ClassFile Sem Op Lib Jvm.Free Jvm.Stand Jvm.LawKit Jvm.RoadKit Bundle Jvm.Pilot.@@N@@.Jvm.D Jvm.Free.Fl
section Own
variable {p : Program} {l : Launch} {e : Env} {R : Room} {s : State} {m : MethodId} {args : Array Value} {below : List Frame} {meth : Method} {c : Code} {T : State} {locs : List Loc} {cells slots : Nat} {Z : State} {a0 : Array Value} {h : Heap} {G : Outcome → State → Prop}
/-- from S the body comes to its end, and the end is as asked -/
def Goes (p : Program) (e : Env) (below : List Frame) (G : Outcome → State → Prop) (S : State) : Prop :=
  ∃ s₂ o, Steps p.tables e below S s₂ ∧ s₂.status = .running ∧ Ended s₂ below o ∧ G o s₂
theorem own_go {S S' : State} (st : ∀ t, Steps p.tables e below S' t → Steps p.tables e below S t) (k : Goes p e below G S') : Goes p e below G S := by
  obtain ⟨s₂, o, h1, h2⟩ := k
  exact ⟨s₂, o, st _ h1, h2⟩
/-- what a contract says of the end -/
def EndsAs (Q : Option Value → Heap → List Loc → Prop) (s : State) (rc rs : Nat) (o : Outcome) (U : State) : Prop :=
  ∃ v L, o = .returned v ∧ Q v U.heap L ∧ FrameEnd s o U L rc rs
abbrev OwnMet (l : Launch) (Z : State) (y : MethodName) (bytes : ByteArray) (maxL : Nat) (ret : Option FieldType) (ws : List Jvm.Cond) (rm : Room) (as' : Array Value) (h : Heap) (Q : Option Value → Heap → List Loc → Prop) : Prop :=
  MetFree l y (head1 (Jvm.Cond.code y bytes maxL ret :: ws) rm) (fun a U => a = as' ∧ Z.Warmed39 U.vm ∧ U.heap = h) (fun _ _ _ _ _ => True) (fun _ U o U' => ∃ v L, o = .returned v ∧ Q v U'.heap L ∧ FrameEnd U o U' L rm.cells rm.slots)
theorem own_met {y : MethodName} {bytes : ByteArray} {maxL : Nat} {ret : Option FieldType} {ws : List Jvm.Cond} {rm : Room} {as' : Array Value} {h : Heap} {Q : Option Value → Heap → List Loc → Prop} {Ls : Array Slot}
    (hpn : plainFor y = true) (hef : ∀ m, entryFrame m as' maxL = mkF m 0 Ls [])
    (body : ∀ (p : Program) (e : Env) (s : State) (m : MethodId) (below : List Frame) (meth : Method) (c : Code) (s₁ : State), p.tables.exec = Jvm.exec → c.code = bytes → c.maxLocals = maxL → Z.Warmed39 s.vm → s.vm.findClass y.cls = some m.cls → meth.name = y.name → meth.sig.returnType = ret → meth.locks = false →
      Stand p l e rm s m as' below meth c s₁ [] 0 0 → s₁.heap = h → Goes p e below (EndsAs Q s rm.cells rm.slots) (s₁.setTop (mkF m 0 Ls []))) :
    OwnMet l Z y bytes maxL ret ws rm as' h Q := by
  refine MetFree.of_bodySF hpn hisR ?_
  intro p e s m args below meth c s₁ Bd hml0 hP hK
  obtain ⟨rfl, hZ, hh⟩ := hP
  obtain ⟨s₂, o, h1, h2, h3, h4⟩ := body p e s m below meth c s₁ Bd.exec Bd.bytes hml0 hZ (findClass_of_methodNamed Bd.named) (name_of_methodNamed Bd.named Bd.method).1 Bd.returns Bd.notSynchronized (Stand.of_body Bd) (by rw [← hh, Bd.state]; rfl)
  exact ⟨s₂, o, castTop (hef m) h1, h2, h3, h4⟩
theorem s_retI (X : Stand p l e R s m args below meth c T locs cells slots) (hx : p.tables.exec = Jvm.exec) (hlk : meth.locks = false) {Q : Option Value → Heap → List Loc → Prop} {pc rc rs : Nat} {Ls : Array Slot} {st : List Value} {t : FieldType} {w : Value} {i : Instr} (hret : meth.sig.returnType = some t)
    (hd : decode c.code pc = .ok (i, 1)) (hn : narrow t w = w) (hi : (i = .ireturn ∧ (t = .int ∨ t = .boolean ∨ t = .byte ∨ t = .char ∨ t = .short) ∧ ∃ z, w = .int z) ∨ (i = .lreturn ∧ t = .long ∧ ∃ z, w = .long z) ∨ (i = .dreturn ∧ t = .double ∧ ∃ z, w = .double z) ∨ (i = .freturn ∧ t = .float ∧ ∃ z, w = .float z) ∨ (i = .areturn ∧ t.isReference = true ∧ w.isRef = true))
    (hc : cells ≤ rc) (hs : slots ≤ rs) (hq : Q (some w) T.heap locs) : Goes p e below (EndsAs Q s rc rs) (T.setTop (mkF m pc Ls (w :: st))) := by
  obtain ⟨fs, hr, hrun, hended, hW, hsame⟩ := X.leave (v := some w) (fun h => by rw [hret] at h; cases h) hlk
  exact ⟨_, _, retOut X hx hret hn hi hd hr, hrun, hended, _, _, rfl, hq, ⟨_, rfl⟩, hW, hsame.mono hc hs⟩
theorem s_ret (X : Stand p l e R s m args below meth c T locs cells slots) (hx : p.tables.exec = Jvm.exec) (hlk : meth.locks = false) {Q : Option Value → Heap → List Loc → Prop} {pc rc rs : Nat} {Ls : Array Slot} (hret : meth.sig.returnType = none)
    (hd : decode c.code pc = .ok (.return_, 1)) (hc : cells ≤ rc) (hs : slots ≤ rs) (hq : Q none T.heap locs) : Goes p e below (EndsAs Q s rc rs) (T.setTop (mkF m pc Ls [])) := by
  obtain ⟨fs, hr, hrun, hended, hW, hsame⟩ := X.leave (v := none) (fun _ => rfl) hlk
  exact ⟨_, _, X.returnOut hx hret hd hr, hrun, hended, _, _, rfl, hq, ⟨_, rfl⟩, hW, hsame.mono hc hs⟩
theorem c_static (X : Stand p l e R s m args below meth c T locs cells slots) (hx : p.tables.exec = Jvm.exec) (hZ : Z.Warmed39 s.vm) {own : String} {index : Nat} {y : MethodName} (hown : s.vm.findClass own = some m.cls)
    {bytes : ByteArray} {maxL : Nat} {ret : Option FieldType} (w1 : (Jvm.Cond.methodLink own index y).before a0 Z = true) (w2 : (Jvm.Cond.static y).before a0 Z = true) (w3 : (Jvm.Cond.initialized y.cls).before a0 Z = true) (w4 : (Jvm.Cond.code y bytes maxL ret).before a0 Z = true) (hy : y.cls ≠ "java/lang/invoke/MethodHandle" ∧ y.cls ≠ "java/lang/invoke/VarHandle")
    {rm : Room} {as' : Array Value} {Q : Option Value → Heap → List Loc → Prop} (eT : T.heap = h) (hM : OwnMet l Z y bytes maxL ret [] rm as' h Q) {W : Nat} (hf : rm.frames + 1 ≤ R.frames) (hl : W + (maxL + 11) + rm.locals ≤ R.locals) (hc : cells + rm.cells ≤ R.cells) (hs : slots + rm.slots ≤ R.slots)
    {pc pc' : Nat} {Ls : Array Slot} {st : List Value} (hsize : Ls.size = c.maxLocals) {argsL rest : List Value} (hlen : ∀ sig, parseMethodDescriptor y.desc = some sig → argsL.length = sig.parameters.length) (has : argsL.toArray = as') (hst : st = argsL.reverse ++ rest) (hW : (rest.map fun v => v.category).sum ≤ W)
    (hd : decode c.code pc = .ok (.invokestatic index, 3)) (hp : pc + 3 = pc')
    (k : ∀ (T' : State) (v : Option Value) (L : List Loc), Stand p l e R s m args below meth c T' (locs ++ L) (cells + rm.cells) (slots + rm.slots) → Q v T'.heap L → Goes p e below G (T'.setTop (mkF m pc' Ls (v.toList ++ rest)))) :
    Goes p e below G (T.setTop (mkF m pc Ls st)) := by
  subst hp
  obtain ⟨v, _, ⟨T', L', k', n'⟩, -, X', ⟨Lc, hQ, l1, y1, z1⟩, stp⟩ := Jvm.LawKit.callS X hx (y := y) hown (mvT hZ w1) (mvT hZ w2) (mvT hZ w3) (mvT hZ w4) hy (backOf (W := W) hM hZ w4 w3 hf hl) (g := mkF m pc Ls st) rfl hsize (argsL := argsL) (rest := rest) hlen hst (by show 2 * 0 + _ ≤ _; omega) hd (fun _ _ => ⟨has, eT, hc, hs⟩)
  dsimp only [Pt.U, Pt.locs, Pt.cells, Pt.slots] at X' l1 y1 z1 stp hQ
  subst l1 y1 z1
  exact own_go stp (k T' v Lc X' hQ)
theorem c_special (X : Stand p l e R s m args below meth c T locs cells slots) (hx : p.tables.exec = Jvm.exec) (hZ : Z.Warmed39 s.vm) {own : String} {index : Nat} {y : MethodName} (hy1 : y.name = "<init>") (hown : s.vm.findClass own = some m.cls)
    {bytes : ByteArray} {maxL : Nat} (w1 : (Jvm.Cond.methodLink own index y).before a0 Z = true) (w2 : (Jvm.Cond.instanceMethod y).before a0 Z = true) (w3 : (Jvm.Cond.initialized y.cls).before a0 Z = true) (w4 : (Jvm.Cond.code y bytes maxL none).before a0 Z = true) (hy : y.cls ≠ "java/lang/invoke/MethodHandle" ∧ y.cls ≠ "java/lang/invoke/VarHandle")
    {rm : Room} {as' : Array Value} {Q : Option Value → Heap → List Loc → Prop} (eT : T.heap = h) (hM : OwnMet l Z y bytes maxL none [] rm as' h Q) {W : Nat} (hf : rm.frames + 1 ≤ R.frames) (hl : W + (maxL + 11) + rm.locals ≤ R.locals) (hc : cells + rm.cells ≤ R.cells) (hs : slots + rm.slots ≤ R.slots)
    {pc pc' : Nat} {Ls : Array Slot} {st : List Value} (hsize : Ls.size = c.maxLocals) {a : Addr} {argsL rest : List Value} (hlen : ∀ sig, parseMethodDescriptor y.desc = some sig → argsL.length = sig.parameters.length) (has : (.ref a :: argsL).toArray = as') (hst : st = argsL.reverse ++ .ref a :: rest) (hW : (rest.map fun v => v.category).sum ≤ W)
    (hd : decode c.code pc = .ok (.invokespecial index, 3)) (hp : pc + 3 = pc')
    (k : ∀ (T' : State) (v : Option Value) (L : List Loc), Stand p l e R s m args below meth c T' (locs ++ L) (cells + rm.cells) (slots + rm.slots) → Q v T'.heap L → Goes p e below G (T'.setTop (mkF m pc' Ls (v.toList ++ rest)))) :
    Goes p e below G (T.setTop (mkF m pc Ls st)) := by
  subst hp
  obtain ⟨v, _, ⟨T', L', k', n'⟩, -, X', ⟨Lc, hQ, l1, y1, z1⟩, stp⟩ := X.specialBack hx (y := y) hy1 hown (mvT hZ w1) (mvT hZ w2) (mvT hZ w4) hy (backOf (W := W) hM hZ w4 w3 hf hl) (g := mkF m pc Ls st) rfl hsize (Steps.refl _) (a := a) (argsL := argsL) (rest := rest) hlen hst (by show 2 * 0 + _ ≤ _; omega) hd (fun _ _ => ⟨has, eT, hc, hs⟩)
  dsimp only [Pt.U, Pt.locs, Pt.cells, Pt.slots] at X' l1 y1 z1 stp hQ
  subst l1 y1 z1
  exact own_go (fun _ q => stp.trans q) (k T' v Lc X' hQ)
theorem c_virtual (X : Stand p l e R s m args below meth c T locs cells slots) (hx : p.tables.exec = Jvm.exec) (hZ : Z.Warmed39 s.vm) {own C : String} {index : Nat} {y : MethodName} (hown : s.vm.findClass own = some m.cls)
    {bytes : ByteArray} {maxL : Nat} {ret : Option FieldType} (w1 : (Jvm.Cond.methodLink own index y).before a0 Z = true) (w2 : (Jvm.Cond.declares y).before a0 Z = true) (w5 : (Jvm.Cond.selects C y y).before a0 Z = true) (w6 : (Jvm.Cond.instanceMethod y).before a0 Z = true) (w3 : (Jvm.Cond.initialized y.cls).before a0 Z = true) (w4 : (Jvm.Cond.code y bytes maxL ret).before a0 Z = true) (hy : y.cls ≠ "java/lang/invoke/MethodHandle" ∧ y.cls ≠ "java/lang/invoke/VarHandle")
    {rm : Room} {as' : Array Value} {Q : Option Value → Heap → List Loc → Prop} (eT : T.heap = h) {a : Addr} (E : Exa Z h a C) (hM : OwnMet l Z y bytes maxL ret [] rm as' h Q) {W : Nat} (hf : rm.frames + 1 ≤ R.frames) (hl : W + (maxL + 11) + rm.locals ≤ R.locals) (hc : cells + rm.cells ≤ R.cells) (hs : slots + rm.slots ≤ R.slots)
    {pc pc' : Nat} {Ls : Array Slot} {st : List Value} (hsize : Ls.size = c.maxLocals) {argsL rest : List Value} (hlen : ∀ sig, parseMethodDescriptor y.desc = some sig → argsL.length = sig.parameters.length) (has : (.ref a :: argsL).toArray = as') (hst : st = argsL.reverse ++ .ref a :: rest) (hW : (rest.map fun v => v.category).sum ≤ W)
    (hd : decode c.code pc = .ok (.invokevirtual index, 3)) (hp : pc + 3 = pc')
    (k : ∀ (T' : State) (v : Option Value) (L : List Loc), Stand p l e R s m args below meth c T' (locs ++ L) (cells + rm.cells) (slots + rm.slots) → Q v T'.heap L → Goes p e below G (T'.setTop (mkF m pc' Ls (v.toList ++ rest)))) :
    Goes p e below G (T.setTop (mkF m pc Ls st)) := by
  subst hp
  obtain ⟨cq, kq, qa, qb, qc⟩ := isOf hZ eT E
  obtain ⟨v, _, ⟨T', L', k', n'⟩, -, X', ⟨Lc, hQ, l1, y1, z1⟩, stp⟩ := X.virtualBack hx (y := y) (z := y) hown (mvT hZ w1) (mvT hZ w2) (notFace_of_selects (args := #[]) (mvT hZ w5)) (mvT hZ w5) (mvT hZ w6) hy (backOf (W := W) hM hZ w4 w3 hf hl) qa qc (g := mkF m pc Ls st) rfl hsize (Steps.refl _) (argsL := argsL) (rest := rest) hlen hst (by show 2 * 0 + _ ≤ _; omega) hd (fun _ _ => ⟨has, eT, hc, hs⟩)
  dsimp only [Pt.U, Pt.locs, Pt.cells, Pt.slots] at X' l1 y1 z1 stp hQ
  subst l1 y1 z1
  exact own_go (fun _ q => stp.trans q) (k T' v Lc X' hQ)
theorem s_iload (X : Stand p l e R s m args below meth c T locs cells slots) (hx : p.tables.exec = Jvm.exec) {pc pc' : Nat} {Ls : Array Slot} {st : List Value} {j : Nat} {v : Int32} (hd : decode c.code pc = .ok (.iload j, 2)) (hp : pc + 2 = pc') (hl : Ls[j]? = some (.val (.int v)))
    (k : Goes p e below G (T.setTop (mkF m pc' Ls (.int v :: st)))) : Goes p e below G (T.setTop (mkF m pc Ls (st))) := by
  subst hp
  exact own_go (fun _ k => XS.iload X.here hx rfl hd hl k) k
theorem s_iloadN (X : Stand p l e R s m args below meth c T locs cells slots) (hx : p.tables.exec = Jvm.exec) {pc pc' : Nat} {Ls : Array Slot} {st : List Value} {j : Fin 4} {v : Int32} (hd : decode c.code pc = .ok (.iload_n j, 1)) (hp : pc + 1 = pc') (hl : Ls[j.val]? = some (.val (.int v)))
    (k : Goes p e below G (T.setTop (mkF m pc' Ls (.int v :: st)))) : Goes p e below G (T.setTop (mkF m pc Ls (st))) := by
  subst hp
  exact own_go (fun _ k => XS.iloadN X.here hx rfl hd hl k) k
theorem s_istore (X : Stand p l e R s m args below meth c T locs cells slots) (hx : p.tables.exec = Jvm.exec) {pc pc' : Nat} {Ls : Array Slot} {st : List Value} {j : Nat} {v : Int32} (l' : Array Slot) (hd : decode c.code pc = .ok (.istore j, 2)) (hp : pc + 2 = pc') (hl : storeLocals Ls j (.int v) = some l')
    (k : Goes p e below G (T.setTop (mkF m pc' l' (st)))) : Goes p e below G (T.setTop (mkF m pc Ls (.int v :: st))) := by
  subst hp
  exact own_go (fun _ k => XS.istore X.here hx rfl hd rfl hl k) k
theorem s_istoreN (X : Stand p l e R s m args below meth c T locs cells slots) (hx : p.tables.exec = Jvm.exec) {pc pc' : Nat} {Ls : Array Slot} {st : List Value} {j : Fin 4} {v : Int32} (l' : Array Slot) (hd : decode c.code pc = .ok (.istore_n j, 1)) (hp : pc + 1 = pc') (hl : storeLocals Ls j.val (.int v) = some l')
    (k : Goes p e below G (T.setTop (mkF m pc' l' (st)))) : Goes p e below G (T.setTop (mkF m pc Ls (.int v :: st))) := by
  subst hp
  exact own_go (fun _ k => XS.istoreN X.here hx rfl hd rfl hl k) k
theorem s_lload (X : Stand p l e R s m args below meth c T locs cells slots) (hx : p.tables.exec = Jvm.exec) {pc pc' : Nat} {Ls : Array Slot} {st : List Value} {j : Nat} {v : Int64} (hd : decode c.code pc = .ok (.lload j, 2)) (hp : pc + 2 = pc') (hl : Ls[j]? = some (.val (.long v)))
    (k : Goes p e below G (T.setTop (mkF m pc' Ls (.long v :: st)))) : Goes p e below G (T.setTop (mkF m pc Ls (st))) := by
  subst hp
  exact own_go (fun _ k => XT.lload X.here hx rfl hd hl k) k
theorem s_lloadN (X : Stand p l e R s m args below meth c T locs cells slots) (hx : p.tables.exec = Jvm.exec) {pc pc' : Nat} {Ls : Array Slot} {st : List Value} {j : Fin 4} {v : Int64} (hd : decode c.code pc = .ok (.lload_n j, 1)) (hp : pc + 1 = pc') (hl : Ls[j.val]? = some (.val (.long v)))
    (k : Goes p e below G (T.setTop (mkF m pc' Ls (.long v :: st)))) : Goes p e below G (T.setTop (mkF m pc Ls (st))) := by
  subst hp
  exact own_go (fun _ k => XT.lloadN X.here hx rfl hd hl k) k
theorem s_lstore (X : Stand p l e R s m args below meth c T locs cells slots) (hx : p.tables.exec = Jvm.exec) {pc pc' : Nat} {Ls : Array Slot} {st : List Value} {j : Nat} {v : Int64} (l' : Array Slot) (hd : decode c.code pc = .ok (.lstore j, 2)) (hp : pc + 2 = pc') (hl : storeLocals Ls j (.long v) = some l')
    (k : Goes p e below G (T.setTop (mkF m pc' l' (st)))) : Goes p e below G (T.setTop (mkF m pc Ls (.long v :: st))) := by
  subst hp
  exact own_go (fun _ k => XT.lstore X.here hx rfl hd rfl hl k) k
theorem s_lstoreN (X : Stand p l e R s m args below meth c T locs cells slots) (hx : p.tables.exec = Jvm.exec) {pc pc' : Nat} {Ls : Array Slot} {st : List Value} {j : Fin 4} {v : Int64} (l' : Array Slot) (hd : decode c.code pc = .ok (.lstore_n j, 1)) (hp : pc + 1 = pc') (hl : storeLocals Ls j.val (.long v) = some l')
    (k : Goes p e below G (T.setTop (mkF m pc' l' (st)))) : Goes p e below G (T.setTop (mkF m pc Ls (.long v :: st))) := by
  subst hp
  exact own_go (fun _ k => XT.lstoreN X.here hx rfl hd rfl hl k) k
theorem s_dload (X : Stand p l e R s m args below meth c T locs cells slots) (hx : p.tables.exec = Jvm.exec) {pc pc' : Nat} {Ls : Array Slot} {st : List Value} {j : Nat} {v : UInt64} (hd : decode c.code pc = .ok (.dload j, 2)) (hp : pc + 2 = pc') (hl : Ls[j]? = some (.val (.double v)))
    (k : Goes p e below G (T.setTop (mkF m pc' Ls (.double v :: st)))) : Goes p e below G (T.setTop (mkF m pc Ls (st))) := by
  subst hp
  exact own_go (fun _ k => XS.dload X.here hx rfl hd hl k) k
theorem s_dloadN (X : Stand p l e R s m args below meth c T locs cells slots) (hx : p.tables.exec = Jvm.exec) {pc pc' : Nat} {Ls : Array Slot} {st : List Value} {j : Fin 4} {v : UInt64} (hd : decode c.code pc = .ok (.dload_n j, 1)) (hp : pc + 1 = pc') (hl : Ls[j.val]? = some (.val (.double v)))
    (k : Goes p e below G (T.setTop (mkF m pc' Ls (.double v :: st)))) : Goes p e below G (T.setTop (mkF m pc Ls (st))) := by
  subst hp
  exact own_go (fun _ k => XS.dloadN X.here hx rfl hd hl k) k
theorem s_dstore (X : Stand p l e R s m args below meth c T locs cells slots) (hx : p.tables.exec = Jvm.exec) {pc pc' : Nat} {Ls : Array Slot} {st : List Value} {j : Nat} {v : UInt64} (l' : Array Slot) (hd : decode c.code pc = .ok (.dstore j, 2)) (hp : pc + 2 = pc') (hl : storeLocals Ls j (.double v) = some l')
    (k : Goes p e below G (T.setTop (mkF m pc' l' (st)))) : Goes p e below G (T.setTop (mkF m pc Ls (.double v :: st))) := by
  subst hp
  exact own_go (fun _ k => XS.dstore X.here hx rfl hd rfl hl k) k
theorem s_dstoreN (X : Stand p l e R s m args below meth c T locs cells slots) (hx : p.tables.exec = Jvm.exec) {pc pc' : Nat} {Ls : Array Slot} {st : List Value} {j : Fin 4} {v : UInt64} (l' : Array Slot) (hd : decode c.code pc = .ok (.dstore_n j, 1)) (hp : pc + 1 = pc') (hl : storeLocals Ls j.val (.double v) = some l')
    (k : Goes p e below G (T.setTop (mkF m pc' l' (st)))) : Goes p e below G (T.setTop (mkF m pc Ls (.double v :: st))) := by
  subst hp
  exact own_go (fun _ k => XS.dstoreN X.here hx rfl hd rfl hl k) k
theorem s_aload (X : Stand p l e R s m args below meth c T locs cells slots) (hx : p.tables.exec = Jvm.exec) {pc pc' : Nat} {Ls : Array Slot} {st : List Value} {j : Nat} {v : Value} (hd : decode c.code pc = .ok (.aload j, 2)) (hp : pc + 2 = pc') (hl : Ls[j]? = some (.val v)) (hv : v.isRef = true)
    (k : Goes p e below G (T.setTop (mkF m pc' Ls (v :: st)))) : Goes p e below G (T.setTop (mkF m pc Ls (st))) := by
  subst hp
  exact own_go (fun _ k => XS.aload X.here hx rfl hd hl hv k) k
theorem s_aloadN (X : Stand p l e R s m args below meth c T locs cells slots) (hx : p.tables.exec = Jvm.exec) {pc pc' : Nat} {Ls : Array Slot} {st : List Value} {j : Fin 4} {v : Value} (hd : decode c.code pc = .ok (.aload_n j, 1)) (hp : pc + 1 = pc') (hl : Ls[j.val]? = some (.val v)) (hv : v.isRef = true)
    (k : Goes p e below G (T.setTop (mkF m pc' Ls (v :: st)))) : Goes p e below G (T.setTop (mkF m pc Ls (st))) := by
  subst hp
  exact own_go (fun _ k => XS.aloadN X.here hx rfl hd hl hv k) k
theorem s_astore (X : Stand p l e R s m args below meth c T locs cells slots) (hx : p.tables.exec = Jvm.exec) {pc pc' : Nat} {Ls : Array Slot} {st : List Value} {j : Nat} {v : Value} (l' : Array Slot) (hd : decode c.code pc = .ok (.astore j, 2)) (hp : pc + 2 = pc') (hv : v.isRef = true) (hl : storeLocals Ls j v = some l')
    (k : Goes p e below G (T.setTop (mkF m pc' l' (st)))) : Goes p e below G (T.setTop (mkF m pc Ls (v :: st))) := by
  subst hp
  exact own_go (fun _ k => XS.astore X.here hx rfl hd rfl hv hl k) k
theorem s_astoreN (X : Stand p l e R s m args below meth c T locs cells slots) (hx : p.tables.exec = Jvm.exec) {pc pc' : Nat} {Ls : Array Slot} {st : List Value} {j : Fin 4} {v : Value} (l' : Array Slot) (hd : decode c.code pc = .ok (.astore_n j, 1)) (hp : pc + 1 = pc') (hv : v.isRef = true) (hl : storeLocals Ls j.val v = some l')
    (k : Goes p e below G (T.setTop (mkF m pc' l' (st)))) : Goes p e below G (T.setTop (mkF m pc Ls (v :: st))) := by
  subst hp
  exact own_go (fun _ k => XS.astoreN X.here hx rfl hd rfl hv hl k) k
theorem s_iconst (X : Stand p l e R s m args below meth c T locs cells slots) (hx : p.tables.exec = Jvm.exec) {pc pc' : Nat} {Ls : Array Slot} {st : List Value} {i : Int} (v : Int32) (hd : decode c.code pc = .ok (.iconst i, 1)) (hp : pc + 1 = pc') (hv : Int32.ofInt i = v)
    (k : Goes p e below G (T.setTop (mkF m pc' Ls (.int v :: st)))) : Goes p e below G (T.setTop (mkF m pc Ls (st))) := by
  subst hp
  exact own_go (fun _ k => XS.iconst X.here hx rfl hd (by rw [hv]; exact k)) k
theorem s_bipush (X : Stand p l e R s m args below meth c T locs cells slots) (hx : p.tables.exec = Jvm.exec) {pc pc' : Nat} {Ls : Array Slot} {st : List Value} {i : Int} (v : Int32) (hd : decode c.code pc = .ok (.bipush i, 2)) (hp : pc + 2 = pc') (hv : (Int8.ofInt i).toInt32 = v)
    (k : Goes p e below G (T.setTop (mkF m pc' Ls (.int v :: st)))) : Goes p e below G (T.setTop (mkF m pc Ls (st))) := by
  subst hp
  exact own_go (fun _ k => XS.bipush X.here hx rfl hd (by rw [hv]; exact k)) k
theorem s_sipush (X : Stand p l e R s m args below meth c T locs cells slots) (hx : p.tables.exec = Jvm.exec) {pc pc' : Nat} {Ls : Array Slot} {st : List Value} {i : Int} (v : Int32) (hd : decode c.code pc = .ok (.sipush i, 3)) (hp : pc + 3 = pc') (hv : (Int16.ofInt i).toInt32 = v)
    (k : Goes p e below G (T.setTop (mkF m pc' Ls (.int v :: st)))) : Goes p e below G (T.setTop (mkF m pc Ls (st))) := by
  subst hp
  exact own_go (fun _ k => XS.sipush X.here hx rfl hd (by rw [hv]; exact k)) k
theorem s_lconst (X : Stand p l e R s m args below meth c T locs cells slots) (hx : p.tables.exec = Jvm.exec) {pc pc' : Nat} {Ls : Array Slot} {st : List Value} {i : Fin 2} (v : Int64) (hd : decode c.code pc = .ok (.lconst i, 1)) (hp : pc + 1 = pc') (hv : Int64.ofNat i = v)
    (k : Goes p e below G (T.setTop (mkF m pc' Ls (.long v :: st)))) : Goes p e below G (T.setTop (mkF m pc Ls (st))) := by
  subst hp
  exact own_go (fun _ k => XT.lconst X.here hx rfl hd (by rw [hv]; exact k)) k
theorem s_dconst0 (X : Stand p l e R s m args below meth c T locs cells slots) (hx : p.tables.exec = Jvm.exec) {pc pc' : Nat} {Ls : Array Slot} {st : List Value}  (hd : decode c.code pc = .ok (.dconst 0, 1)) (hp : pc + 1 = pc') 
    (k : Goes p e below G (T.setTop (mkF m pc' Ls (.double 0 :: st)))) : Goes p e below G (T.setTop (mkF m pc Ls (st))) := by
  subst hp
  exact own_go (fun _ k => XS.dconst0 X.here hx rfl hd rfl k) k
theorem s_dconst1 (X : Stand p l e R s m args below meth c T locs cells slots) (hx : p.tables.exec = Jvm.exec) {pc pc' : Nat} {Ls : Array Slot} {st : List Value}  (hd : decode c.code pc = .ok (.dconst 1, 1)) (hp : pc + 1 = pc') 
    (k : Goes p e below G (T.setTop (mkF m pc' Ls (.double 4607182418800017408 :: st)))) : Goes p e below G (T.setTop (mkF m pc Ls (st))) := by
  subst hp
  exact own_go (fun _ k => XS.dconst1 X.here hx rfl hd rfl k) k
theorem s_aconstNull (X : Stand p l e R s m args below meth c T locs cells slots) (hx : p.tables.exec = Jvm.exec) {pc pc' : Nat} {Ls : Array Slot} {st : List Value}  (hd : decode c.code pc = .ok (.aconst_null, 1)) (hp : pc + 1 = pc') 
    (k : Goes p e below G (T.setTop (mkF m pc' Ls (.null :: st)))) : Goes p e below G (T.setTop (mkF m pc Ls (st))) := by
  subst hp
  exact own_go (fun _ k => XS.aconstNull X.here hx rfl hd k) k
theorem s_ldcI (X : Stand p l e R s m args below meth c T locs cells slots) (hx : p.tables.exec = Jvm.exec) {pc pc' : Nat} {Ls : Array Slot} {st : List Value} (hZ : Z.Warmed39 s.vm) {own : String} {j : Nat} {v : Int32} (hown : s.vm.findClass own = some m.cls) (w : (Jvm.Cond.constant own j v).before a0 Z = true) (hd : decode c.code pc = .ok (.ldc j, 2)) (hp : pc + 2 = pc') 
    (k : Goes p e below G (T.setTop (mkF m pc' Ls (.int v :: st)))) : Goes p e below G (T.setTop (mkF m pc Ls (st))) := by
  subst hp
  exact own_go (fun _ k => X.ldcInt hx hown (mvT hZ w) (g := mkF m pc Ls st) rfl hd _ k) k
theorem s_ldcJ (X : Stand p l e R s m args below meth c T locs cells slots) (hx : p.tables.exec = Jvm.exec) {pc pc' : Nat} {Ls : Array Slot} {st : List Value} (hZ : Z.Warmed39 s.vm) {own : String} {j : Nat} {v : Int64} (hown : s.vm.findClass own = some m.cls) (w : (Jvm.Cond.constantLong own j v).before a0 Z = true) (hd : decode c.code pc = .ok (.ldc2_w j, 3)) (hp : pc + 3 = pc') 
    (k : Goes p e below G (T.setTop (mkF m pc' Ls (.long v :: st)))) : Goes p e below G (T.setTop (mkF m pc Ls (st))) := by
  subst hp
  exact own_go (fun _ k => X.ldc2Long hx hown (mvT hZ w) (g := mkF m pc Ls st) rfl hd _ k) k
theorem s_ldcD (X : Stand p l e R s m args below meth c T locs cells slots) (hx : p.tables.exec = Jvm.exec) {pc pc' : Nat} {Ls : Array Slot} {st : List Value} (hZ : Z.Warmed39 s.vm) {own : String} {j : Nat} {v : UInt64} (hown : s.vm.findClass own = some m.cls) (w : (Jvm.Cond.constantDouble own j v).before a0 Z = true) (hd : decode c.code pc = .ok (.ldc2_w j, 3)) (hp : pc + 3 = pc') 
    (k : Goes p e below G (T.setTop (mkF m pc' Ls (.double v :: st)))) : Goes p e below G (T.setTop (mkF m pc Ls (st))) := by
  subst hp
  exact own_go (fun _ k => X.ldc2DoubleC hx hown (mvT hZ w) (g := mkF m pc Ls st) rfl hd _ k) k
theorem s_iadd (X : Stand p l e R s m args below meth c T locs cells slots) (hx : p.tables.exec = Jvm.exec) {pc pc' : Nat} {Ls : Array Slot} {st : List Value} {x y : Int32} (hd : decode c.code pc = .ok (.iadd, 1)) (hp : pc + 1 = pc') 
    (k : Goes p e below G (T.setTop (mkF m pc' Ls (.int (x + y) :: st)))) : Goes p e below G (T.setTop (mkF m pc Ls (.int y :: .int x :: st))) := by
  subst hp
  exact own_go (fun _ k => XS.iadd X.here hx rfl hd rfl k) k
theorem s_isub (X : Stand p l e R s m args below meth c T locs cells slots) (hx : p.tables.exec = Jvm.exec) {pc pc' : Nat} {Ls : Array Slot} {st : List Value} {x y : Int32} (hd : decode c.code pc = .ok (.isub, 1)) (hp : pc + 1 = pc') 
    (k : Goes p e below G (T.setTop (mkF m pc' Ls (.int (x - y) :: st)))) : Goes p e below G (T.setTop (mkF m pc Ls (.int y :: .int x :: st))) := by
  subst hp
  exact own_go (fun _ k => XS.isub X.here hx rfl hd rfl k) k
theorem s_imul (X : Stand p l e R s m args below meth c T locs cells slots) (hx : p.tables.exec = Jvm.exec) {pc pc' : Nat} {Ls : Array Slot} {st : List Value} {x y : Int32} (hd : decode c.code pc = .ok (.imul, 1)) (hp : pc + 1 = pc') 
    (k : Goes p e below G (T.setTop (mkF m pc' Ls (.int (x * y) :: st)))) : Goes p e below G (T.setTop (mkF m pc Ls (.int y :: .int x :: st))) := by
  subst hp
  exact own_go (fun _ k => XS.imul X.here hx rfl hd rfl k) k
theorem s_iand (X : Stand p l e R s m args below meth c T locs cells slots) (hx : p.tables.exec = Jvm.exec) {pc pc' : Nat} {Ls : Array Slot} {st : List Value} {x y : Int32} (hd : decode c.code pc = .ok (.iand, 1)) (hp : pc + 1 = pc') 
    (k : Goes p e below G (T.setTop (mkF m pc' Ls (.int (x &&& y) :: st)))) : Goes p e below G (T.setTop (mkF m pc Ls (.int y :: .int x :: st))) := by
  subst hp
  exact own_go (fun _ k => XS.iand X.here hx rfl hd rfl k) k
theorem s_ixor (X : Stand p l e R s m args below meth c T locs cells slots) (hx : p.tables.exec = Jvm.exec) {pc pc' : Nat} {Ls : Array Slot} {st : List Value} {x y : Int32} (hd : decode c.code pc = .ok (.ixor, 1)) (hp : pc + 1 = pc') 
    (k : Goes p e below G (T.setTop (mkF m pc' Ls (.int (x ^^^ y) :: st)))) : Goes p e below G (T.setTop (mkF m pc Ls (.int y :: .int x :: st))) := by
  subst hp
  exact own_go (fun _ k => XT.ixor X.here hx rfl hd rfl k) k
theorem s_ior (X : Stand p l e R s m args below meth c T locs cells slots) (hx : p.tables.exec = Jvm.exec) {pc pc' : Nat} {Ls : Array Slot} {st : List Value} {x y : Int32} (hd : decode c.code pc = .ok (.ior, 1)) (hp : pc + 1 = pc') 
    (k : Goes p e below G (T.setTop (mkF m pc' Ls (.int (x ||| y) :: st)))) : Goes p e below G (T.setTop (mkF m pc Ls (.int y :: .int x :: st))) := by
  subst hp
  exact own_go (fun _ k => XT.ior X.here hx rfl hd rfl k) k
theorem s_ishl (X : Stand p l e R s m args below meth c T locs cells slots) (hx : p.tables.exec = Jvm.exec) {pc pc' : Nat} {Ls : Array Slot} {st : List Value} {x y : Int32} (hd : decode c.code pc = .ok (.ishl, 1)) (hp : pc + 1 = pc') 
    (k : Goes p e below G (T.setTop (mkF m pc' Ls (.int (x <<< (y &&& 31)) :: st)))) : Goes p e below G (T.setTop (mkF m pc Ls (.int y :: .int x :: st))) := by
  subst hp
  exact own_go (fun _ k => XT.ishl X.here hx rfl hd rfl k) k
theorem s_ishr (X : Stand p l e R s m args below meth c T locs cells slots) (hx : p.tables.exec = Jvm.exec) {pc pc' : Nat} {Ls : Array Slot} {st : List Value} {x y : Int32} (hd : decode c.code pc = .ok (.ishr, 1)) (hp : pc + 1 = pc') 
    (k : Goes p e below G (T.setTop (mkF m pc' Ls (.int (x >>> (y &&& 31)) :: st)))) : Goes p e below G (T.setTop (mkF m pc Ls (.int y :: .int x :: st))) := by
  subst hp
  exact own_go (fun _ k => XT.ishr X.here hx rfl hd rfl k) k
theorem s_iushr (X : Stand p l e R s m args below meth c T locs cells slots) (hx : p.tables.exec = Jvm.exec) {pc pc' : Nat} {Ls : Array Slot} {st : List Value} {x y : Int32} (hd : decode c.code pc = .ok (.iushr, 1)) (hp : pc + 1 = pc') 
    (k : Goes p e below G (T.setTop (mkF m pc' Ls (.int (XT.ushr x y) :: st)))) : Goes p e below G (T.setTop (mkF m pc Ls (.int y :: .int x :: st))) := by
  subst hp
  exact own_go (fun _ k => XT.iushr X.here hx rfl hd rfl k) k
theorem s_irem (X : Stand p l e R s m args below meth c T locs cells slots) (hx : p.tables.exec = Jvm.exec) {pc pc' : Nat} {Ls : Array Slot} {st : List Value} {x y : Int32} (hd : decode c.code pc = .ok (.irem, 1)) (hp : pc + 1 = pc') (hy : y ≠ 0)
    (k : Goes p e below G (T.setTop (mkF m pc' Ls (.int (x % y) :: st)))) : Goes p e below G (T.setTop (mkF m pc Ls (.int y :: .int x :: st))) := by
  subst hp
  exact own_go (fun _ k => iremM X hx rfl hd rfl hy k) k
theorem s_ineg (X : Stand p l e R s m args below meth c T locs cells slots) (hx : p.tables.exec = Jvm.exec) {pc pc' : Nat} {Ls : Array Slot} {st : List Value} {x : Int32} (hd : decode c.code pc = .ok (.ineg, 1)) (hp : pc + 1 = pc') 
    (k : Goes p e below G (T.setTop (mkF m pc' Ls (.int (-x) :: st)))) : Goes p e below G (T.setTop (mkF m pc Ls (.int x :: st))) := by
  subst hp
  exact own_go (fun _ k => XS.ineg X.here hx rfl hd rfl k) k
theorem s_ladd (X : Stand p l e R s m args below meth c T locs cells slots) (hx : p.tables.exec = Jvm.exec) {pc pc' : Nat} {Ls : Array Slot} {st : List Value} {x y : Int64} (hd : decode c.code pc = .ok (.ladd, 1)) (hp : pc + 1 = pc') 
    (k : Goes p e below G (T.setTop (mkF m pc' Ls (.long (x + y) :: st)))) : Goes p e below G (T.setTop (mkF m pc Ls (.long y :: .long x :: st))) := by
  subst hp
  exact own_go (fun _ k => XT.ladd X.here hx rfl hd rfl k) k
theorem s_lsub (X : Stand p l e R s m args below meth c T locs cells slots) (hx : p.tables.exec = Jvm.exec) {pc pc' : Nat} {Ls : Array Slot} {st : List Value} {x y : Int64} (hd : decode c.code pc = .ok (.lsub, 1)) (hp : pc + 1 = pc') 
    (k : Goes p e below G (T.setTop (mkF m pc' Ls (.long (x - y) :: st)))) : Goes p e below G (T.setTop (mkF m pc Ls (.long y :: .long x :: st))) := by
  subst hp
  exact own_go (fun _ k => XT.lsub X.here hx rfl hd rfl k) k
theorem s_lmul (X : Stand p l e R s m args below meth c T locs cells slots) (hx : p.tables.exec = Jvm.exec) {pc pc' : Nat} {Ls : Array Slot} {st : List Value} {x y : Int64} (hd : decode c.code pc = .ok (.lmul, 1)) (hp : pc + 1 = pc') 
    (k : Goes p e below G (T.setTop (mkF m pc' Ls (.long (x * y) :: st)))) : Goes p e below G (T.setTop (mkF m pc Ls (.long y :: .long x :: st))) := by
  subst hp
  exact own_go (fun _ k => XT.lmul X.here hx rfl hd rfl k) k
theorem s_land (X : Stand p l e R s m args below meth c T locs cells slots) (hx : p.tables.exec = Jvm.exec) {pc pc' : Nat} {Ls : Array Slot} {st : List Value} {x y : Int64} (hd : decode c.code pc = .ok (.land, 1)) (hp : pc + 1 = pc') 
    (k : Goes p e below G (T.setTop (mkF m pc' Ls (.long (x &&& y) :: st)))) : Goes p e below G (T.setTop (mkF m pc Ls (.long y :: .long x :: st))) := by
  subst hp
  exact own_go (fun _ k => XT.land X.here hx rfl hd rfl k) k
theorem s_lor (X : Stand p l e R s m args below meth c T locs cells slots) (hx : p.tables.exec = Jvm.exec) {pc pc' : Nat} {Ls : Array Slot} {st : List Value} {x y : Int64} (hd : decode c.code pc = .ok (.lor, 1)) (hp : pc + 1 = pc') 
    (k : Goes p e below G (T.setTop (mkF m pc' Ls (.long (x ||| y) :: st)))) : Goes p e below G (T.setTop (mkF m pc Ls (.long y :: .long x :: st))) := by
  subst hp
  exact own_go (fun _ k => XT.lor X.here hx rfl hd rfl k) k
theorem s_lxor (X : Stand p l e R s m args below meth c T locs cells slots) (hx : p.tables.exec = Jvm.exec) {pc pc' : Nat} {Ls : Array Slot} {st : List Value} {x y : Int64} (hd : decode c.code pc = .ok (.lxor, 1)) (hp : pc + 1 = pc') 
    (k : Goes p e below G (T.setTop (mkF m pc' Ls (.long (x ^^^ y) :: st)))) : Goes p e below G (T.setTop (mkF m pc Ls (.long y :: .long x :: st))) := by
  subst hp
  exact own_go (fun _ k => XT.lxor X.here hx rfl hd rfl k) k
theorem s_lshl (X : Stand p l e R s m args below meth c T locs cells slots) (hx : p.tables.exec = Jvm.exec) {pc pc' : Nat} {Ls : Array Slot} {st : List Value} {x : Int64} {y : Int32} (hd : decode c.code pc = .ok (.lshl, 1)) (hp : pc + 1 = pc') 
    (k : Goes p e below G (T.setTop (mkF m pc' Ls (.long (x <<< (y.toInt64 &&& 63)) :: st)))) : Goes p e below G (T.setTop (mkF m pc Ls (.int y :: .long x :: st))) := by
  subst hp
  exact own_go (fun _ k => XT.lshl X.here hx rfl hd rfl k) k
theorem s_lshr (X : Stand p l e R s m args below meth c T locs cells slots) (hx : p.tables.exec = Jvm.exec) {pc pc' : Nat} {Ls : Array Slot} {st : List Value} {x : Int64} {y : Int32} (hd : decode c.code pc = .ok (.lshr, 1)) (hp : pc + 1 = pc') 
    (k : Goes p e below G (T.setTop (mkF m pc' Ls (.long (x >>> (y.toInt64 &&& 63)) :: st)))) : Goes p e below G (T.setTop (mkF m pc Ls (.int y :: .long x :: st))) := by
  subst hp
  exact own_go (fun _ k => XT.lshr X.here hx rfl hd rfl k) k
theorem s_lushr (X : Stand p l e R s m args below meth c T locs cells slots) (hx : p.tables.exec = Jvm.exec) {pc pc' : Nat} {Ls : Array Slot} {st : List Value} {x : Int64} {y : Int32} (hd : decode c.code pc = .ok (.lushr, 1)) (hp : pc + 1 = pc') 
    (k : Goes p e below G (T.setTop (mkF m pc' Ls (.long (XT.ushrL x y) :: st)))) : Goes p e below G (T.setTop (mkF m pc Ls (.int y :: .long x :: st))) := by
  subst hp
  exact own_go (fun _ k => XT.lushr X.here hx rfl hd rfl k) k
theorem s_i2l (X : Stand p l e R s m args below meth c T locs cells slots) (hx : p.tables.exec = Jvm.exec) {pc pc' : Nat} {Ls : Array Slot} {st : List Value} {x : Int32} (hd : decode c.code pc = .ok (.i2l, 1)) (hp : pc + 1 = pc') 
    (k : Goes p e below G (T.setTop (mkF m pc' Ls ((.long x.toInt64) :: st)))) : Goes p e below G (T.setTop (mkF m pc Ls (.int x :: st))) := by
  subst hp
  exact own_go (fun _ k => XT.i2l X.here hx rfl hd rfl k) k
theorem s_i2b (X : Stand p l e R s m args below meth c T locs cells slots) (hx : p.tables.exec = Jvm.exec) {pc pc' : Nat} {Ls : Array Slot} {st : List Value} {x : Int32} (hd : decode c.code pc = .ok (.i2b, 1)) (hp : pc + 1 = pc') 
    (k : Goes p e below G (T.setTop (mkF m pc' Ls ((.int x.toInt8.toInt32) :: st)))) : Goes p e below G (T.setTop (mkF m pc Ls (.int x :: st))) := by
  subst hp
  exact own_go (fun _ k => XT.i2b X.here hx rfl hd rfl k) k
theorem s_l2i (X : Stand p l e R s m args below meth c T locs cells slots) (hx : p.tables.exec = Jvm.exec) {pc pc' : Nat} {Ls : Array Slot} {st : List Value} {x : Int64} (hd : decode c.code pc = .ok (.l2i, 1)) (hp : pc + 1 = pc') 
    (k : Goes p e below G (T.setTop (mkF m pc' Ls (.int x.toInt32 :: st)))) : Goes p e below G (T.setTop (mkF m pc Ls (.long x :: st))) := by
  subst hp
  exact own_go (fun _ k => XT.l2i X.here hx rfl hd rfl k) k
theorem s_i2d (X : Stand p l e R s m args below meth c T locs cells slots) (hx : p.tables.exec = Jvm.exec) {pc pc' : Nat} {Ls : Array Slot} {st : List Value} {x : Int32} (hd : decode c.code pc = .ok (.i2d, 1)) (hp : pc + 1 = pc') 
    (k : Goes p e below G (T.setTop (mkF m pc' Ls (.double (FP.i2d x) :: st)))) : Goes p e below G (T.setTop (mkF m pc Ls (.int x :: st))) := by
  subst hp
  exact own_go (fun _ k => XS.i2dS X.here hx rfl hd rfl rfl k) k
theorem s_l2d (X : Stand p l e R s m args below meth c T locs cells slots) (hx : p.tables.exec = Jvm.exec) {pc pc' : Nat} {Ls : Array Slot} {st : List Value} {x : Int64} (hd : decode c.code pc = .ok (.l2d, 1)) (hp : pc + 1 = pc') 
    (k : Goes p e below G (T.setTop (mkF m pc' Ls (.double (FP.l2d x) :: st)))) : Goes p e below G (T.setTop (mkF m pc Ls (.long x :: st))) := by
  subst hp
  exact own_go (fun _ k => XS.l2dS X.here hx rfl hd rfl rfl k) k
theorem s_dneg (X : Stand p l e R s m args below meth c T locs cells slots) (hx : p.tables.exec = Jvm.exec) {pc pc' : Nat} {Ls : Array Slot} {st : List Value} {x : UInt64} (hd : decode c.code pc = .ok (.dneg, 1)) (hp : pc + 1 = pc') 
    (k : Goes p e below G (T.setTop (mkF m pc' Ls (.double (FP.dneg x) :: st)))) : Goes p e below G (T.setTop (mkF m pc Ls (.double x :: st))) := by
  subst hp
  exact own_go (fun _ k => XS.dnegS X.here hx rfl hd rfl rfl k) k
theorem s_dadd (X : Stand p l e R s m args below meth c T locs cells slots) (hx : p.tables.exec = Jvm.exec) {pc pc' : Nat} {Ls : Array Slot} {st : List Value} {x y : UInt64} (v : UInt64) (hd : decode c.code pc = .ok (.dadd, 1)) (hp : pc + 1 = pc') (hn : NoNaN64 (FP.dadd x y)) (hv : FP.dadd x y = v)
    (k : Goes p e below G (T.setTop (mkF m pc' Ls (.double v :: st)))) : Goes p e below G (T.setTop (mkF m pc Ls (.double y :: .double x :: st))) := by
  subst hp
  exact own_go (fun _ k => XS.daddS X.here hx rfl hd rfl hn hv k) k
theorem s_dsub (X : Stand p l e R s m args below meth c T locs cells slots) (hx : p.tables.exec = Jvm.exec) {pc pc' : Nat} {Ls : Array Slot} {st : List Value} {x y : UInt64} (v : UInt64) (hd : decode c.code pc = .ok (.dsub, 1)) (hp : pc + 1 = pc') (hn : NoNaN64 (FP.dsub x y)) (hv : FP.dsub x y = v)
    (k : Goes p e below G (T.setTop (mkF m pc' Ls (.double v :: st)))) : Goes p e below G (T.setTop (mkF m pc Ls (.double y :: .double x :: st))) := by
  subst hp
  exact own_go (fun _ k => XS.dsubS X.here hx rfl hd rfl hn hv k) k
theorem s_dmul (X : Stand p l e R s m args below meth c T locs cells slots) (hx : p.tables.exec = Jvm.exec) {pc pc' : Nat} {Ls : Array Slot} {st : List Value} {x y : UInt64} (v : UInt64) (hd : decode c.code pc = .ok (.dmul, 1)) (hp : pc + 1 = pc') (hn : NoNaN64 (FP.dmul x y)) (hv : FP.dmul x y = v)
    (k : Goes p e below G (T.setTop (mkF m pc' Ls (.double v :: st)))) : Goes p e below G (T.setTop (mkF m pc Ls (.double y :: .double x :: st))) := by
  subst hp
  exact own_go (fun _ k => XS.dmulS X.here hx rfl hd rfl hn hv k) k
theorem s_ddiv (X : Stand p l e R s m args below meth c T locs cells slots) (hx : p.tables.exec = Jvm.exec) {pc pc' : Nat} {Ls : Array Slot} {st : List Value} {x y : UInt64} (v : UInt64) (hd : decode c.code pc = .ok (.ddiv, 1)) (hp : pc + 1 = pc') (hn : NoNaN64 (FP.ddiv x y)) (hv : FP.ddiv x y = v)
    (k : Goes p e below G (T.setTop (mkF m pc' Ls (.double v :: st)))) : Goes p e below G (T.setTop (mkF m pc Ls (.double y :: .double x :: st))) := by
  subst hp
  exact own_go (fun _ k => XS.ddivS X.here hx rfl hd rfl hn hv k) k
theorem s_lcmp (X : Stand p l e R s m args below meth c T locs cells slots) (hx : p.tables.exec = Jvm.exec) {pc pc' : Nat} {Ls : Array Slot} {st : List Value} {x y : Int64} (hd : decode c.code pc = .ok (.lcmp, 1)) (hp : pc + 1 = pc') 
    (k : Goes p e below G (T.setTop (mkF m pc' Ls (.int (XT.cmpL x y) :: st)))) : Goes p e below G (T.setTop (mkF m pc Ls (.long y :: .long x :: st))) := by
  subst hp
  exact own_go (fun _ k => XT.lcmp X.here hx rfl hd rfl k) k
theorem s_dcmp (X : Stand p l e R s m args below meth c T locs cells slots) (hx : p.tables.exec = Jvm.exec) {pc pc' : Nat} {Ls : Array Slot} {st : List Value} {x y : UInt64} {o : CmpOp} (v : Int32) (hd : decode c.code pc = .ok (.dcmp o, 1)) (hp : pc + 1 = pc') (hv : cmpValue (FP.dcmp x y) o = v)
    (k : Goes p e below G (T.setTop (mkF m pc' Ls (.int v :: st)))) : Goes p e below G (T.setTop (mkF m pc Ls (.double y :: .double x :: st))) := by
  subst hp
  exact own_go (fun _ k => XS.dcmpS X.here hx rfl hd rfl hv k) k
theorem s_dup (X : Stand p l e R s m args below meth c T locs cells slots) (hx : p.tables.exec = Jvm.exec) {pc pc' : Nat} {Ls : Array Slot} {st : List Value} {x : Value} (hd : decode c.code pc = .ok (.dup, 1)) (hp : pc + 1 = pc') (hc : x.category = 1)
    (k : Goes p e below G (T.setTop (mkF m pc' Ls (x :: x :: st)))) : Goes p e below G (T.setTop (mkF m pc Ls (x :: st))) := by
  subst hp
  exact own_go (fun _ k => XS.dup X.here hx rfl hd rfl hc k) k
theorem s_pop (X : Stand p l e R s m args below meth c T locs cells slots) (hx : p.tables.exec = Jvm.exec) {pc pc' : Nat} {Ls : Array Slot} {st : List Value} {x : Value} (hd : decode c.code pc = .ok (.pop, 1)) (hp : pc + 1 = pc') (hc : x.category = 1)
    (k : Goes p e below G (T.setTop (mkF m pc' Ls (st)))) : Goes p e below G (T.setTop (mkF m pc Ls (x :: st))) := by
  subst hp
  exact own_go (fun _ k => XT.pop X.here hx rfl hd rfl hc k) k
theorem s_pop2D (X : Stand p l e R s m args below meth c T locs cells slots) (hx : p.tables.exec = Jvm.exec) {pc pc' : Nat} {Ls : Array Slot} {st : List Value} {x : UInt64} (hd : decode c.code pc = .ok (.pop2, 1)) (hp : pc + 1 = pc')
    (k : Goes p e below G (T.setTop (mkF m pc' Ls st))) : Goes p e below G (T.setTop (mkF m pc Ls (.double x :: st))) := by
  subst hp
  refine own_go (fun _ k => ?_) k
  jvm_step X.here [X.here.top, hx, hd, Value.category]
  exact k
theorem s_dup2 (X : Stand p l e R s m args below meth c T locs cells slots) (hx : p.tables.exec = Jvm.exec) {pc pc' : Nat} {Ls : Array Slot} {st : List Value} {x y : Value} (hd : decode c.code pc = .ok (.dup2, 1)) (hp : pc + 1 = pc') (hc : x.category = 1) (hc' : y.category = 1)
    (k : Goes p e below G (T.setTop (mkF m pc' Ls (x :: y :: x :: y :: st)))) : Goes p e below G (T.setTop (mkF m pc Ls (x :: y :: st))) := by
  subst hp
  exact own_go (fun _ k => XT.dup2 X.here hx rfl hd rfl hc hc' k) k
theorem s_iinc (X : Stand p l e R s m args below meth c T locs cells slots) (hx : p.tables.exec = Jvm.exec) {pc pc' : Nat} {Ls : Array Slot} {st : List Value} {j : Nat} {i : Int} {x : Int32} (v : Int32) (l' : Array Slot) (hd : decode c.code pc = .ok (.iinc j i, 3)) (hp : pc + 3 = pc') (hl : Ls[j]? = some (.val (.int x))) (hv : x + Int32.ofInt i = v) (hl' : storeLocals Ls j (.int v) = some l')
    (k : Goes p e below G (T.setTop (mkF m pc' l' (st)))) : Goes p e below G (T.setTop (mkF m pc Ls (st))) := by
  subst hp
  exact own_go (fun _ k => XS.iinc X.here hx rfl hd hl (by rw [hv]; exact hl') k) k
theorem s_goto (X : Stand p l e R s m args below meth c T locs cells slots) (hx : p.tables.exec = Jvm.exec) {pc pc' : Nat} {Ls : Array Slot} {st : List Value}  {o : Int} (hd : decode c.code pc = .ok (.goto o, 3))  (ho : 0 ≤ (pc : Int) + o) (hp : ((pc : Int) + o).toNat = pc')
    (k : Goes p e below G (T.setTop (mkF m pc' Ls (st)))) : Goes p e below G (T.setTop (mkF m pc Ls (st))) := own_go (fun _ k => XS.goto X.here hx rfl rfl hd ho hp k) k
theorem s_ifY (X : Stand p l e R s m args below meth c T locs cells slots) (hx : p.tables.exec = Jvm.exec) {pc pc' : Nat} {Ls : Array Slot} {st : List Value} {cd : ClassFile.Cond} {x : Int32} {o : Int} (hd : decode c.code pc = .ok (.ifCond cd o, 3)) (hc : ifCond.holds cd x = true) (ho : 0 ≤ (pc : Int) + o) (hp : ((pc : Int) + o).toNat = pc')
    (k : Goes p e below G (T.setTop (mkF m pc' Ls (st)))) : Goes p e below G (T.setTop (mkF m pc Ls (.int x :: st))) := own_go (fun _ k => XS.ifYes X.here hx rfl rfl hd rfl hc ho hp k) k
theorem s_icmpY (X : Stand p l e R s m args below meth c T locs cells slots) (hx : p.tables.exec = Jvm.exec) {pc pc' : Nat} {Ls : Array Slot} {st : List Value} {cd : ClassFile.Cond} {x y : Int32} {o : Int} (hd : decode c.code pc = .ok (.if_icmp cd o, 3)) (hc : if_icmp.holds cd x y = true) (ho : 0 ≤ (pc : Int) + o) (hp : ((pc : Int) + o).toNat = pc')
    (k : Goes p e below G (T.setTop (mkF m pc' Ls (st)))) : Goes p e below G (T.setTop (mkF m pc Ls (.int y :: .int x :: st))) := own_go (fun _ k => XS.icmpYes X.here hx rfl rfl hd rfl hc ho hp k) k
theorem s_acmpY (X : Stand p l e R s m args below meth c T locs cells slots) (hx : p.tables.exec = Jvm.exec) {pc pc' : Nat} {Ls : Array Slot} {st : List Value} {cd : ClassFile.ACond} {x y : Value} {o : Int} (hd : decode c.code pc = .ok (.if_acmp cd o, 3)) (h1 : x.isRef = true) (h2 : y.isRef = true) (hc : XT.acmp cd x y = true) (ho : 0 ≤ (pc : Int) + o) (hp : ((pc : Int) + o).toNat = pc')
    (k : Goes p e below G (T.setTop (mkF m pc' Ls (st)))) : Goes p e below G (T.setTop (mkF m pc Ls (y :: x :: st))) := own_go (fun _ k => XT.acmpYes X.here hx rfl rfl hd rfl h1 h2 hc ho hp k) k
theorem s_nonnullY (X : Stand p l e R s m args below meth c T locs cells slots) (hx : p.tables.exec = Jvm.exec) {pc pc' : Nat} {Ls : Array Slot} {st : List Value} {b : Addr} {o : Int} (hd : decode c.code pc = .ok (.ifnonnull o, 3))  (ho : 0 ≤ (pc : Int) + o) (hp : ((pc : Int) + o).toNat = pc')
    (k : Goes p e below G (T.setTop (mkF m pc' Ls (st)))) : Goes p e below G (T.setTop (mkF m pc Ls (.ref b :: st))) := own_go (fun _ k => XT.ifnonnullYes X.here hx rfl rfl hd rfl ho hp k) k
theorem s_ifN (X : Stand p l e R s m args below meth c T locs cells slots) (hx : p.tables.exec = Jvm.exec) {pc pc' : Nat} {Ls : Array Slot} {st : List Value} {cd : ClassFile.Cond} {x : Int32} {o : Int} (hd : decode c.code pc = .ok (.ifCond cd o, 3)) (hp : pc + 3 = pc') (hc : ifCond.holds cd x = false)
    (k : Goes p e below G (T.setTop (mkF m pc' Ls (st)))) : Goes p e below G (T.setTop (mkF m pc Ls (.int x :: st))) := by
  subst hp
  exact own_go (fun _ k => XS.ifNo X.here hx rfl hd rfl hc k) k
theorem s_icmpN (X : Stand p l e R s m args below meth c T locs cells slots) (hx : p.tables.exec = Jvm.exec) {pc pc' : Nat} {Ls : Array Slot} {st : List Value} {cd : ClassFile.Cond} {x y : Int32} {o : Int} (hd : decode c.code pc = .ok (.if_icmp cd o, 3)) (hp : pc + 3 = pc') (hc : if_icmp.holds cd x y = false)
    (k : Goes p e below G (T.setTop (mkF m pc' Ls (st)))) : Goes p e below G (T.setTop (mkF m pc Ls (.int y :: .int x :: st))) := by
  subst hp
  exact own_go (fun _ k => XS.icmpNo X.here hx rfl hd rfl hc k) k
theorem s_acmpN (X : Stand p l e R s m args below meth c T locs cells slots) (hx : p.tables.exec = Jvm.exec) {pc pc' : Nat} {Ls : Array Slot} {st : List Value} {cd : ClassFile.ACond} {x y : Value} {o : Int} (hd : decode c.code pc = .ok (.if_acmp cd o, 3)) (hp : pc + 3 = pc') (h1 : x.isRef = true) (h2 : y.isRef = true) (hc : XT.acmp cd x y = false)
    (k : Goes p e below G (T.setTop (mkF m pc' Ls (st)))) : Goes p e below G (T.setTop (mkF m pc Ls (y :: x :: st))) := by
  subst hp
  exact own_go (fun _ k => XT.acmpNo X.here hx rfl hd rfl h1 h2 hc k) k
theorem s_nullN (X : Stand p l e R s m args below meth c T locs cells slots) (hx : p.tables.exec = Jvm.exec) {pc pc' : Nat} {Ls : Array Slot} {st : List Value} {b : Addr} {o : Int} (hd : decode c.code pc = .ok (.ifnull o, 3)) (hp : pc + 3 = pc') 
    (k : Goes p e below G (T.setTop (mkF m pc' Ls (st)))) : Goes p e below G (T.setTop (mkF m pc Ls (.ref b :: st))) := by
  subst hp
  exact own_go (fun _ k => XS.ifnullNo X.here hx rfl hd rfl k) k
end Own
theorem iy_lt {x : Int32} (h : x < 0) : ifCond.holds .lt x = true := by rw [if0]; exact (tlt h).1
theorem in_lt {x : Int32} (h : ¬ x < 0) : ifCond.holds .lt x = false := by rw [if0]; exact (flt h).1
theorem iy_ge {x : Int32} (h : ¬ x < 0) : ifCond.holds .ge x = true := by rw [if0]; exact (flt h).2.1
theorem in_ge {x : Int32} (h : x < 0) : ifCond.holds .ge x = false := by rw [if0]; exact (tlt h).2.1
theorem iy_gt {x : Int32} (h : 0 < x) : ifCond.holds .gt x = true := by rw [if0]; exact (tlt h).2.2.1
theorem in_gt {x : Int32} (h : ¬ 0 < x) : ifCond.holds .gt x = false := by rw [if0]; exact (flt h).2.2.1
theorem iy_le {x : Int32} (h : ¬ 0 < x) : ifCond.holds .le x = true := by rw [if0]; exact (flt h).2.2.2
theorem in_le {x : Int32} (h : 0 < x) : ifCond.holds .le x = false := by rw [if0]; exact (tlt h).2.2.2
theorem iy_eq {x : Int32} (h : x = 0) : ifCond.holds .eq x = true := by rw [if0]; exact (teq h).1
theorem in_eq {x : Int32} (h : ¬ x = 0) : ifCond.holds .eq x = false := by rw [if0]; exact (feq h).1
theorem iy_ne {x : Int32} (h : ¬ x = 0) : ifCond.holds .ne x = true := by rw [if0]; exact (feq h).2
theorem in_ne {x : Int32} (h : x = 0) : ifCond.holds .ne x = false := by rw [if0]; exact (teq h).2
theorem cy_lt {x y : Int32} (h : x < y) : if_icmp.holds .lt x y = true := (tlt h).1
theorem cn_lt {x y : Int32} (h : ¬ x < y) : if_icmp.holds .lt x y = false := (flt h).1
theorem cy_ge {x y : Int32} (h : ¬ x < y) : if_icmp.holds .ge x y = true := (flt h).2.1
theorem cn_ge {x y : Int32} (h : x < y) : if_icmp.holds .ge x y = false := (tlt h).2.1
theorem cy_gt {x y : Int32} (h : y < x) : if_icmp.holds .gt x y = true := (tlt h).2.2.1
theorem cn_gt {x y : Int32} (h : ¬ y < x) : if_icmp.holds .gt x y = false := (flt h).2.2.1
theorem cy_le {x y : Int32} (h : ¬ y < x) : if_icmp.holds .le x y = true := (flt h).2.2.2
theorem cn_le {x y : Int32} (h : y < x) : if_icmp.holds .le x y = false := (tlt h).2.2.2
theorem cy_eq {x y : Int32} (h : x = y) : if_icmp.holds .eq x y = true := (teq h).1
theorem cn_eq {x y : Int32} (h : ¬ x = y) : if_icmp.holds .eq x y = false := (feq h).1
theorem cy_ne {x y : Int32} (h : ¬ x = y) : if_icmp.holds .ne x y = true := (feq h).2
theorem cn_ne {x y : Int32} (h : x = y) : if_icmp.holds .ne x y = false := (teq h).2
theorem an_ne {a b : Addr} (h : a = b) : XT.acmp .ne (.ref a) (.ref b) = false := by subst h; show decide (_ ≠ _) = false; simp
theorem ay_ne {a b : Addr} (h : ¬ a = b) : XT.acmp .ne (.ref a) (.ref b) = true := by show decide (_ ≠ _) = true; simp [h]
theorem own_eqint {t : Term} {k : Int32} {args : Array Value} {first s : State} {o : Option Outcome} {idx : List Nat} (h : (Jvm.Cond.eq t (Jvm.Term.int k)).value args first o s idx = some true) : t.eval args first o idx s = some (.int k) := by
  simp only [Cond.value, Term.eval] at h
  cases ht : t.eval args first o idx s with
  | none => simp [ht] at h
  | some x => cases x <;> simp [ht] at h ⊢; exact h
theorem own_dcmp (a b : Int32) : FP.dcmp (FP.i2d a) (FP.i2d b) = some (if a = b then .eq else if a < b then .lt else .gt) := by
  have h : FP.dcmp (FP.i2d a) (FP.i2d b) = some (compare a.toInt b.toInt) := FP.Core.dcmp_int (FP.Core.i2d_int a) (FP.Core.i2d_int b)
  rw [h, FP.Core.compare_ite]
  simp only [Int32.lt_iff_toInt_lt, ← Int32.toInt_inj]
  by_cases h1 : a.toInt < b.toInt
  · simp [h1, show ¬ a.toInt = b.toInt by omega]
  · by_cases h2 : a.toInt = b.toInt <;> simp [h1, h2]
theorem own_ne0 {a b : Int32} (h : ¬ a = b) (o : CmpOp) : ¬ cmpValue (FP.dcmp (FP.i2d a) (FP.i2d b)) o = 0 := by
  rw [own_dcmp, if_neg h]; split <;> cases o <;> decide
theorem own_eq0 {a b : Int32} (h : a = b) (o : CmpOp) : cmpValue (FP.dcmp (FP.i2d a) (FP.i2d b)) o = 0 := by
  rw [own_dcmp, if_pos h]; cases o <;> decide
theorem d1_0 : decode prog_88_method_7_code 0 = .ok (.aload_n 0, 1) := by decide +kernel
theorem d1_1 : decode prog_88_method_7_code 1 = .ok (.getstatic 3, 3) := by decide +kernel
theorem d1_4 : decode prog_88_method_7_code 4 = .ok (.if_acmp .ne 7, 3) := by decide +kernel
theorem d1_7 : decode prog_88_method_7_code 7 = .ok (.iload_n 1, 1) := by decide +kernel
theorem d1_8 : decode prog_88_method_7_code 8 = .ok (.goto 12, 3) := by decide +kernel
theorem d1_11 : decode prog_88_method_7_code 11 = .ok (.iload_n 1, 1) := by decide +kernel
theorem d1_12 : decode prog_88_method_7_code 12 = .ok (.ifCond .ne 7, 3) := by decide +kernel
theorem d1_15 : decode prog_88_method_7_code 15 = .ok (.iconst 1, 1) := by decide +kernel
theorem d1_16 : decode prog_88_method_7_code 16 = .ok (.goto 4, 3) := by decide +kernel
theorem d1_19 : decode prog_88_method_7_code 19 = .ok (.iconst 0, 1) := by decide +kernel
theorem d1_20 : decode prog_88_method_7_code 20 = .ok (.ireturn, 1) := by decide +kernel
theorem pn_1 : plainName "com/example/libclearance/libclearance/xpath/Comparison" = true := by first | (simp [plainName, overriddenIn]; done) | decide +kernel
theorem ef_1 (z0 : Addr) (z1 : Int32) (m : MethodId) : entryFrame m #[.ref z0, .int z1] 2 = mkF m 0 #[.val (.ref z0), .val (.int z1)] [] := by first | (simp [entryFrame, mkF, argsToLocals, Value.category, maxLocals]; done) | rfl
set_option maxRecDepth 65536 in
set_option maxHeartbeats 40000000 in
theorem rm_1 (l : Launch) (Z : State) (a0 : Array Value) (hw : ∀ d ∈ tables_1, d.before a0 Z = true) (ws : List Jvm.Cond) (a : Addr) (z : Int32) (aE : Addr) (h0 : Heap) (n0 : Nat) (Z0 : n0 ≤ h0.size) (hz : z = 0 ∨ z = 1) (SaE : Sta Z h0 "com/example/libclearance/libclearance/xpath/Comparison" "EQUAL" "Lcom/example/libclearance/libclearance/xpath/Comparison;" (.ref aE)) :
    OwnMet l Z (⟨"com/example/libclearance/libclearance/xpath/Comparison", "holds", "(Z)Z"⟩ : MethodName) prog_88_method_7_code 2 (some .boolean) ws ({ frames := 0, cells := 0, slots := 0, locals := 0 } : Room) #[.ref a, .int z] h0 (fun v h L => v = some (.int (if a = aE then z else if z = 0 then 1 else 0)) ∧ Fr n0 L ∧ h = h0) := by
  refine own_met (plainFor_of_name pn_1) (ef_1 a z) ?_
  intro p e s m below meth c s₁ hx hby hml hZ hown hnm hret hlk X0 e0
  have N0 := Fr.nil n0
  rcases hz with rfl | rfl
  ·
    by_cases ha : a = aE
    ·
      refine s_aloadN X0 hx (hb hby d1_0) (pc' := 1) rfl rfl rfl ?_
      obtain ⟨T1, X1, e1, st1⟩ := getS X0 hx hZ hown (host := "") (hw _ (List.mem_of_getElem? (i := 8) rfl)) Via.refl e0 SaE (g := (mkF m 1 #[.val (.ref a), .val (.int (0 : Int32))] [.ref a])) rfl (hb hby d1_1)
      refine own_go st1 ?_
      show Goes p e below _ (T1.setTop (mkF m 4 #[.val (.ref a), .val (.int (0 : Int32))] [.ref aE, .ref a]))
      refine s_acmpN X1 hx (hb hby d1_4) (pc' := 7) rfl rfl rfl (an_ne ha) ?_
      refine s_iloadN X1 hx (hb hby d1_7) (pc' := 8) rfl rfl ?_
      refine s_goto X1 hx (hb hby d1_8) (by decide) (pc' := 20) (by decide) ?_
      exact s_retI X1 hx hlk hret (hb hby d1_20) rfl (Or.inl ⟨rfl, by simp, _, rfl⟩) (by decide) (by decide) ⟨by rw [if_pos ha], N0, e1⟩
    ·
      refine s_aloadN X0 hx (hb hby d1_0) (pc' := 1) rfl rfl rfl ?_
      obtain ⟨T2, X2, e2, st2⟩ := getS X0 hx hZ hown (host := "") (hw _ (List.mem_of_getElem? (i := 8) rfl)) Via.refl e0 SaE (g := (mkF m 1 #[.val (.ref a), .val (.int (0 : Int32))] [.ref a])) rfl (hb hby d1_1)
      refine own_go st2 ?_
      show Goes p e below _ (T2.setTop (mkF m 4 #[.val (.ref a), .val (.int (0 : Int32))] [.ref aE, .ref a]))
      refine s_acmpY X2 hx (hb hby d1_4) rfl rfl (ay_ne ha) (by decide) (pc' := 11) (by decide) ?_
      refine s_iloadN X2 hx (hb hby d1_11) (pc' := 12) rfl rfl ?_
      refine s_ifN X2 hx (hb hby d1_12) (pc' := 15) rfl (in_ne (rfl : (0 : Int32) = 0)) ?_
      refine s_iconst X2 hx (1 : Int32) (hb hby d1_15) (pc' := 16) rfl rfl ?_
      refine s_goto X2 hx (hb hby d1_16) (by decide) (pc' := 20) (by decide) ?_
      exact s_retI X2 hx hlk hret (hb hby d1_20) rfl (Or.inl ⟨rfl, by simp, _, rfl⟩) (by decide) (by decide) ⟨by rw [if_neg ha]; rfl, N0, e2⟩
  ·
    by_cases ha : a = aE
    ·
      refine s_aloadN X0 hx (hb hby d1_0) (pc' := 1) rfl rfl rfl ?_
      obtain ⟨T3, X3, e3, st3⟩ := getS X0 hx hZ hown (host := "") (hw _ (List.mem_of_getElem? (i := 8) rfl)) Via.refl e0 SaE (g := (mkF m 1 #[.val (.ref a), .val (.int (1 : Int32))] [.ref a])) rfl (hb hby d1_1)
      refine own_go st3 ?_
      show Goes p e below _ (T3.setTop (mkF m 4 #[.val (.ref a), .val (.int (1 : Int32))] [.ref aE, .ref a]))
      refine s_acmpN X3 hx (hb hby d1_4) (pc' := 7) rfl rfl rfl (an_ne ha) ?_
      refine s_iloadN X3 hx (hb hby d1_7) (pc' := 8) rfl rfl ?_
      refine s_goto X3 hx (hb hby d1_8) (by decide) (pc' := 20) (by decide) ?_
      exact s_retI X3 hx hlk hret (hb hby d1_20) rfl (Or.inl ⟨rfl, by simp, _, rfl⟩) (by decide) (by decide) ⟨by rw [if_pos ha], N0, e3⟩
    ·
      refine s_aloadN X0 hx (hb hby d1_0) (pc' := 1) rfl rfl rfl ?_
      obtain ⟨T4, X4, e4, st4⟩ := getS X0 hx hZ hown (host := "") (hw _ (List.mem_of_getElem? (i := 8) rfl)) Via.refl e0 SaE (g := (mkF m 1 #[.val (.ref a), .val (.int (1 : Int32))] [.ref a])) rfl (hb hby d1_1)
      refine own_go st4 ?_
      show Goes p e below _ (T4.setTop (mkF m 4 #[.val (.ref a), .val (.int (1 : Int32))] [.ref aE, .ref a]))
      refine s_acmpY X4 hx (hb hby d1_4) rfl rfl (ay_ne ha) (by decide) (pc' := 11) (by decide) ?_
      refine s_iloadN X4 hx (hb hby d1_11) (pc' := 12) rfl rfl ?_
      refine s_ifY X4 hx (hb hby d1_12) (iy_ne (by decide : ¬ (1 : Int32) = 0)) (by decide) (pc' := 19) (by decide) ?_
      refine s_iconst X4 hx (0 : Int32) (hb hby d1_19) (pc' := 20) rfl rfl ?_
      exact s_retI X4 hx hlk hret (hb hby d1_20) rfl (Or.inl ⟨rfl, by simp, _, rfl⟩) (by decide) (by decide) ⟨by rw [if_neg ha]; rfl, N0, e4⟩
theorem d2_0 : decode prog_88_method_6_code 0 = .ok (.aload_n 0, 1) := by decide +kernel
theorem d2_1 : decode prog_88_method_6_code 1 = .ok (.getstatic 3, 3) := by decide +kernel
theorem d2_4 : decode prog_88_method_6_code 4 = .ok (.if_acmp .ne 19, 3) := by decide +kernel
theorem d2_7 : decode prog_88_method_6_code 7 = .ok (.dload_n 1, 1) := by decide +kernel
theorem d2_8 : decode prog_88_method_6_code 8 = .ok (.dload_n 3, 1) := by decide +kernel
theorem d2_9 : decode prog_88_method_6_code 9 = .ok (.dcmp .l, 1) := by decide +kernel
theorem d2_10 : decode prog_88_method_6_code 10 = .ok (.ifCond .ne 7, 3) := by decide +kernel
theorem d2_13 : decode prog_88_method_6_code 13 = .ok (.iconst 1, 1) := by decide +kernel
theorem d2_14 : decode prog_88_method_6_code 14 = .ok (.goto 4, 3) := by decide +kernel
theorem d2_17 : decode prog_88_method_6_code 17 = .ok (.iconst 0, 1) := by decide +kernel
theorem d2_18 : decode prog_88_method_6_code 18 = .ok (.istore 5, 2) := by decide +kernel
theorem d2_20 : decode prog_88_method_6_code 20 = .ok (.goto 108, 3) := by decide +kernel
theorem d2_23 : decode prog_88_method_6_code 23 = .ok (.aload_n 0, 1) := by decide +kernel
theorem d2_24 : decode prog_88_method_6_code 24 = .ok (.getstatic 7, 3) := by decide +kernel
theorem d2_27 : decode prog_88_method_6_code 27 = .ok (.if_acmp .ne 19, 3) := by decide +kernel
theorem d2_30 : decode prog_88_method_6_code 30 = .ok (.dload_n 1, 1) := by decide +kernel
theorem d2_31 : decode prog_88_method_6_code 31 = .ok (.dload_n 3, 1) := by decide +kernel
theorem d2_32 : decode prog_88_method_6_code 32 = .ok (.dcmp .l, 1) := by decide +kernel
theorem d2_33 : decode prog_88_method_6_code 33 = .ok (.ifCond .eq 7, 3) := by decide +kernel
theorem d2_36 : decode prog_88_method_6_code 36 = .ok (.iconst 1, 1) := by decide +kernel
theorem d2_37 : decode prog_88_method_6_code 37 = .ok (.goto 4, 3) := by decide +kernel
theorem d2_40 : decode prog_88_method_6_code 40 = .ok (.iconst 0, 1) := by decide +kernel
theorem d2_41 : decode prog_88_method_6_code 41 = .ok (.istore 5, 2) := by decide +kernel
theorem d2_43 : decode prog_88_method_6_code 43 = .ok (.goto 85, 3) := by decide +kernel
theorem d2_46 : decode prog_88_method_6_code 46 = .ok (.aload_n 0, 1) := by decide +kernel
theorem d2_47 : decode prog_88_method_6_code 47 = .ok (.getstatic 10, 3) := by decide +kernel
theorem d2_50 : decode prog_88_method_6_code 50 = .ok (.if_acmp .ne 19, 3) := by decide +kernel
theorem d2_53 : decode prog_88_method_6_code 53 = .ok (.dload_n 1, 1) := by decide +kernel
theorem d2_54 : decode prog_88_method_6_code 54 = .ok (.dload_n 3, 1) := by decide +kernel
theorem d2_55 : decode prog_88_method_6_code 55 = .ok (.dcmp .g, 1) := by decide +kernel
theorem d2_56 : decode prog_88_method_6_code 56 = .ok (.ifCond .ge 7, 3) := by decide +kernel
theorem d2_59 : decode prog_88_method_6_code 59 = .ok (.iconst 1, 1) := by decide +kernel
theorem d2_60 : decode prog_88_method_6_code 60 = .ok (.goto 4, 3) := by decide +kernel
theorem d2_63 : decode prog_88_method_6_code 63 = .ok (.iconst 0, 1) := by decide +kernel
theorem d2_64 : decode prog_88_method_6_code 64 = .ok (.istore 5, 2) := by decide +kernel
theorem d2_66 : decode prog_88_method_6_code 66 = .ok (.goto 62, 3) := by decide +kernel
theorem d2_69 : decode prog_88_method_6_code 69 = .ok (.aload_n 0, 1) := by decide +kernel
theorem d2_70 : decode prog_88_method_6_code 70 = .ok (.getstatic 13, 3) := by decide +kernel
theorem d2_73 : decode prog_88_method_6_code 73 = .ok (.if_acmp .ne 19, 3) := by decide +kernel
theorem d2_76 : decode prog_88_method_6_code 76 = .ok (.dload_n 1, 1) := by decide +kernel
theorem d2_77 : decode prog_88_method_6_code 77 = .ok (.dload_n 3, 1) := by decide +kernel
theorem d2_78 : decode prog_88_method_6_code 78 = .ok (.dcmp .g, 1) := by decide +kernel
theorem d2_79 : decode prog_88_method_6_code 79 = .ok (.ifCond .gt 7, 3) := by decide +kernel
theorem d2_82 : decode prog_88_method_6_code 82 = .ok (.iconst 1, 1) := by decide +kernel
theorem d2_83 : decode prog_88_method_6_code 83 = .ok (.goto 4, 3) := by decide +kernel
theorem d2_86 : decode prog_88_method_6_code 86 = .ok (.iconst 0, 1) := by decide +kernel
theorem d2_87 : decode prog_88_method_6_code 87 = .ok (.istore 5, 2) := by decide +kernel
theorem d2_89 : decode prog_88_method_6_code 89 = .ok (.goto 39, 3) := by decide +kernel
theorem d2_92 : decode prog_88_method_6_code 92 = .ok (.aload_n 0, 1) := by decide +kernel
theorem d2_93 : decode prog_88_method_6_code 93 = .ok (.getstatic 16, 3) := by decide +kernel
theorem d2_96 : decode prog_88_method_6_code 96 = .ok (.if_acmp .ne 19, 3) := by decide +kernel
theorem d2_99 : decode prog_88_method_6_code 99 = .ok (.dload_n 1, 1) := by decide +kernel
theorem d2_100 : decode prog_88_method_6_code 100 = .ok (.dload_n 3, 1) := by decide +kernel
theorem d2_101 : decode prog_88_method_6_code 101 = .ok (.dcmp .l, 1) := by decide +kernel
theorem d2_102 : decode prog_88_method_6_code 102 = .ok (.ifCond .le 7, 3) := by decide +kernel
theorem d2_105 : decode prog_88_method_6_code 105 = .ok (.iconst 1, 1) := by decide +kernel
theorem d2_106 : decode prog_88_method_6_code 106 = .ok (.goto 4, 3) := by decide +kernel
theorem d2_109 : decode prog_88_method_6_code 109 = .ok (.iconst 0, 1) := by decide +kernel
theorem d2_110 : decode prog_88_method_6_code 110 = .ok (.istore 5, 2) := by decide +kernel
theorem d2_112 : decode prog_88_method_6_code 112 = .ok (.goto 16, 3) := by decide +kernel
theorem d2_115 : decode prog_88_method_6_code 115 = .ok (.dload_n 1, 1) := by decide +kernel
theorem d2_116 : decode prog_88_method_6_code 116 = .ok (.dload_n 3, 1) := by decide +kernel
theorem d2_117 : decode prog_88_method_6_code 117 = .ok (.dcmp .l, 1) := by decide +kernel
theorem d2_118 : decode prog_88_method_6_code 118 = .ok (.ifCond .lt 7, 3) := by decide +kernel
theorem d2_121 : decode prog_88_method_6_code 121 = .ok (.iconst 1, 1) := by decide +kernel
theorem d2_122 : decode prog_88_method_6_code 122 = .ok (.goto 4, 3) := by decide +kernel
theorem d2_125 : decode prog_88_method_6_code 125 = .ok (.iconst 0, 1) := by decide +kernel
theorem d2_126 : decode prog_88_method_6_code 126 = .ok (.istore 5, 2) := by decide +kernel
theorem d2_128 : decode prog_88_method_6_code 128 = .ok (.iload 5, 2) := by decide +kernel
theorem d2_130 : decode prog_88_method_6_code 130 = .ok (.ireturn, 1) := by decide +kernel
theorem pn_2 : plainName "com/example/libclearance/libclearance/xpath/Comparison" = true := by first | (simp [plainName, overriddenIn]; done) | decide +kernel
theorem ef_2 (z0 : Addr) (z1 : UInt64) (z2 : UInt64) (m : MethodId) : entryFrame m #[.ref z0, .double z1, .double z2] 6 = mkF m 0 #[.val (.ref z0), .val (.double z1), .second, .val (.double z2), .second, .unset] [] := by first | (simp [entryFrame, mkF, argsToLocals, Value.category, maxLocals]; done) | rfl
set_option maxRecDepth 65536 in
set_option maxHeartbeats 40000000 in
theorem rm_2 (l : Launch) (Z : State) (a0 : Array Value) (hw : ∀ d ∈ tables_1, d.before a0 Z = true) (ws : List Jvm.Cond) (a : Addr) (x1 : Int32) (y1 : Int32) (aE : Addr) (aN : Addr) (h0 : Heap) (n0 : Nat) (Z0 : n0 ≤ h0.size) (hor : a = aE ∨ a = aN) (SaE : Sta Z h0 "com/example/libclearance/libclearance/xpath/Comparison" "EQUAL" "Lcom/example/libclearance/libclearance/xpath/Comparison;" (.ref aE)) (SaN : Sta Z h0 "com/example/libclearance/libclearance/xpath/Comparison" "NOT_EQUAL" "Lcom/example/libclearance/libclearance/xpath/Comparison;" (.ref aN)) :
    OwnMet l Z (⟨"com/example/libclearance/libclearance/xpath/Comparison", "holds", "(DD)Z"⟩ : MethodName) prog_88_method_6_code 6 (some .boolean) ws ({ frames := 0, cells := 0, slots := 0, locals := 0 } : Room) #[.ref a, .double (FP.i2d x1), .double (FP.i2d y1)] h0 (fun v h L => v = some (.int (if a = aE then (if x1 = y1 then 1 else 0) else (if x1 = y1 then 0 else 1))) ∧ Fr n0 L ∧ h = h0) := by
  refine own_met (plainFor_of_name pn_2) (ef_2 a (FP.i2d x1) (FP.i2d y1)) ?_
  intro p e s m below meth c s₁ hx hby hml hZ hown hnm hret hlk X0 e0
  have N0 := Fr.nil n0
  by_cases ha : a = aE
  ·
    refine s_aloadN X0 hx (hb hby d2_0) (pc' := 1) rfl rfl rfl ?_
    obtain ⟨T1, X1, e1, st1⟩ := getS X0 hx hZ hown (host := "") (hw _ (List.mem_of_getElem? (i := 8) rfl)) Via.refl e0 SaE (g := (mkF m 1 #[.val (.ref a), .val (.double (FP.i2d x1)), .second, .val (.double (FP.i2d y1)), .second, .unset] [.ref a])) rfl (hb hby d2_1)
    refine own_go st1 ?_
    show Goes p e below _ (T1.setTop (mkF m 4 #[.val (.ref a), .val (.double (FP.i2d x1)), .second, .val (.double (FP.i2d y1)), .second, .unset] [.ref aE, .ref a]))
    refine s_acmpN X1 hx (hb hby d2_4) (pc' := 7) rfl rfl rfl (an_ne ha) ?_
    refine s_dloadN X1 hx (hb hby d2_7) (pc' := 8) rfl rfl ?_
    refine s_dloadN X1 hx (hb hby d2_8) (pc' := 9) rfl rfl ?_
    refine s_dcmp X1 hx (cmpValue (FP.dcmp (FP.i2d x1) (FP.i2d y1)) .l) (hb hby d2_9) (pc' := 10) rfl rfl ?_
    by_cases hxy : x1 = y1
    ·
      refine s_ifN X1 hx (hb hby d2_10) (pc' := 13) rfl (in_ne (own_eq0 hxy _)) ?_
      refine s_iconst X1 hx (1 : Int32) (hb hby d2_13) (pc' := 14) rfl rfl ?_
      refine s_goto X1 hx (hb hby d2_14) (by decide) (pc' := 18) (by decide) ?_
      refine s_istore X1 hx #[.val (.ref a), .val (.double (FP.i2d x1)), .second, .val (.double (FP.i2d y1)), .second, .val (.int (1 : Int32))] (hb hby d2_18) (pc' := 20) rfl rfl ?_
      refine s_goto X1 hx (hb hby d2_20) (by decide) (pc' := 128) (by decide) ?_
      refine s_iload X1 hx (hb hby d2_128) (pc' := 130) rfl rfl ?_
      exact s_retI X1 hx hlk hret (hb hby d2_130) rfl (Or.inl ⟨rfl, by simp, _, rfl⟩) (by decide) (by decide) ⟨by rw [if_pos ha, if_pos hxy], N0, e1⟩
    ·
      refine s_ifY X1 hx (hb hby d2_10) (iy_ne (own_ne0 hxy _)) (by decide) (pc' := 17) (by decide) ?_
      refine s_iconst X1 hx (0 : Int32) (hb hby d2_17) (pc' := 18) rfl rfl ?_
      refine s_istore X1 hx #[.val (.ref a), .val (.double (FP.i2d x1)), .second, .val (.double (FP.i2d y1)), .second, .val (.int (0 : Int32))] (hb hby d2_18) (pc' := 20) rfl rfl ?_
      refine s_goto X1 hx (hb hby d2_20) (by decide) (pc' := 128) (by decide) ?_
      refine s_iload X1 hx (hb hby d2_128) (pc' := 130) rfl rfl ?_
      exact s_retI X1 hx hlk hret (hb hby d2_130) rfl (Or.inl ⟨rfl, by simp, _, rfl⟩) (by decide) (by decide) ⟨by rw [if_pos ha, if_neg hxy], N0, e1⟩
  ·
    refine s_aloadN X0 hx (hb hby d2_0) (pc' := 1) rfl rfl rfl ?_
    obtain ⟨T2, X2, e2, st2⟩ := getS X0 hx hZ hown (host := "") (hw _ (List.mem_of_getElem? (i := 8) rfl)) Via.refl e0 SaE (g := (mkF m 1 #[.val (.ref a), .val (.double (FP.i2d x1)), .second, .val (.double (FP.i2d y1)), .second, .unset] [.ref a])) rfl (hb hby d2_1)
    refine own_go st2 ?_
    show Goes p e below _ (T2.setTop (mkF m 4 #[.val (.ref a), .val (.double (FP.i2d x1)), .second, .val (.double (FP.i2d y1)), .second, .unset] [.ref aE, .ref a]))
    refine s_acmpY X2 hx (hb hby d2_4) rfl rfl (ay_ne ha) (by decide) (pc' := 23) (by decide) ?_
    refine s_aloadN X2 hx (hb hby d2_23) (pc' := 24) rfl rfl rfl ?_
    obtain ⟨T3, X3, e3, st3⟩ := getS X2 hx hZ hown (host := "") (hw _ (List.mem_of_getElem? (i := 16) rfl)) Via.refl e2 SaN (g := (mkF m 24 #[.val (.ref a), .val (.double (FP.i2d x1)), .second, .val (.double (FP.i2d y1)), .second, .unset] [.ref a])) rfl (hb hby d2_24)
    refine own_go st3 ?_
    show Goes p e below _ (T3.setTop (mkF m 27 #[.val (.ref a), .val (.double (FP.i2d x1)), .second, .val (.double (FP.i2d y1)), .second, .unset] [.ref aN, .ref a]))
    refine s_acmpN X3 hx (hb hby d2_27) (pc' := 30) rfl rfl rfl (an_ne (hor.resolve_left ha)) ?_
    refine s_dloadN X3 hx (hb hby d2_30) (pc' := 31) rfl rfl ?_
    refine s_dloadN X3 hx (hb hby d2_31) (pc' := 32) rfl rfl ?_
    refine s_dcmp X3 hx (cmpValue (FP.dcmp (FP.i2d x1) (FP.i2d y1)) .l) (hb hby d2_32) (pc' := 33) rfl rfl ?_
    by_cases hxy : x1 = y1
    ·
      refine s_ifY X3 hx (hb hby d2_33) (iy_eq (own_eq0 hxy _)) (by decide) (pc' := 40) (by decide) ?_
      refine s_iconst X3 hx (0 : Int32) (hb hby d2_40) (pc' := 41) rfl rfl ?_
      refine s_istore X3 hx #[.val (.ref a), .val (.double (FP.i2d x1)), .second, .val (.double (FP.i2d y1)), .second, .val (.int (0 : Int32))] (hb hby d2_41) (pc' := 43) rfl rfl ?_
      refine s_goto X3 hx (hb hby d2_43) (by decide) (pc' := 128) (by decide) ?_
      refine s_iload X3 hx (hb hby d2_128) (pc' := 130) rfl rfl ?_
      exact s_retI X3 hx hlk hret (hb hby d2_130) rfl (Or.inl ⟨rfl, by simp, _, rfl⟩) (by decide) (by decide) ⟨by rw [if_neg ha, if_pos hxy], N0, e3⟩
    ·
      refine s_ifN X3 hx (hb hby d2_33) (pc' := 36) rfl (in_eq (own_ne0 hxy _)) ?_
      refine s_iconst X3 hx (1 : Int32) (hb hby d2_36) (pc' := 37) rfl rfl ?_
      refine s_goto X3 hx (hb hby d2_37) (by decide) (pc' := 41) (by decide) ?_
      refine s_istore X3 hx #[.val (.ref a), .val (.double (FP.i2d x1)), .second, .val (.double (FP.i2d y1)), .second, .val (.int (1 : Int32))] (hb hby d2_41) (pc' := 43) rfl rfl ?_
      refine s_goto X3 hx (hb hby d2_43) (by decide) (pc' := 128) (by decide) ?_
      refine s_iload X3 hx (hb hby d2_128) (pc' := 130) rfl rfl ?_
      exact s_retI X3 hx hlk hret (hb hby d2_130) rfl (Or.inl ⟨rfl, by simp, _, rfl⟩) (by decide) (by decide) ⟨by rw [if_neg ha, if_neg hxy], N0, e3⟩
theorem pn_0 : plainName "com/example/libclearance/libclearance/xpath/ComparisonHolds439PinLaw" = true := by first | (simp [plainName, overriddenIn]; done) | decide +kernel
def Q0 (n0 : Nat) (v : Option Value) (h : Heap) (L : List Loc) : Prop := v = some (.int 1) ∧ Fr n0 L
theorem pd_0 : parseMethodDescriptor "(Z)Z" = some ⟨[.boolean], some .boolean⟩ := by decide +kernel
theorem pd_1 : parseMethodDescriptor "(DD)Z" = some ⟨[.double, .double], some .boolean⟩ := by decide +kernel
theorem ef_0 (z0 : Int32) (z1 : Int32) (z2 : Int32) (m : MethodId) : entryFrame m #[.int z0, .int z1, .int z2] maxLocals = mkF m 0 #[.val (.int z0), .val (.int z1), .val (.int z2), .unset, .unset, .unset, .unset, .unset, .unset] [] := by first | (simp [entryFrame, mkF, argsToLocals, Value.category, maxLocals]; done) | rfl
set_option maxRecDepth 65536 in
set_option maxHeartbeats 40000000 in
theorem rm_0 (l : Launch) (Z : State) (a0 : Array Value) (hw : ∀ d ∈ tables_1, d.before a0 Z = true) (ws : List Jvm.Cond) (p0 : Int32) (p1 : Int32) (p2 : Int32) (h0 : Heap) (n0 : Nat) (Z0 : n0 ≤ h0.size) (aE aN : Addr) (SaE : Sta Z h0 "com/example/libclearance/libclearance/xpath/Comparison" "EQUAL" "Lcom/example/libclearance/libclearance/xpath/Comparison;" (.ref aE)) (SaN : Sta Z h0 "com/example/libclearance/libclearance/xpath/Comparison" "NOT_EQUAL" "Lcom/example/libclearance/libclearance/xpath/Comparison;" (.ref aN)) (EaE : Exa Z h0 aE "com/example/libclearance/libclearance/xpath/Comparison") (EaN : Exa Z h0 aN "com/example/libclearance/libclearance/xpath/Comparison") (hne : aE ≠ aN) :
    OwnMet l Z x code maxLocals ret ws room_1 #[.int p0, .int p1, .int p2] h0 (Q0 n0) := by
  refine own_met (plainFor_of_name pn_0) (ef_0 p0 p1 p2) ?_
  intro p e s m below meth c s₁ hx hby hml hZ hown hnm hret hlk X0 e0
  have N0 := Fr.nil n0
  refine s_iloadN X0 hx (hb hby at_0) (pc' := 1) rfl rfl ?_
  refine s_iconst X0 hx (1 : Int32) (hb hby at_1) (pc' := 2) rfl rfl ?_
  refine s_iand X0 hx (hb hby at_2) (pc' := 3) rfl ?_
  by_cases hs : (p0 &&& (1 : Int32)) = 0
  ·
    refine s_ifN X0 hx (hb hby at_3) (pc' := 6) rfl (in_ne hs) ?_
    obtain ⟨T1, X1, e1, st1⟩ := getS X0 hx hZ hown (host := "") (hw _ (List.mem_of_getElem? (i := 0) rfl)) Via.refl e0 SaE (g := (mkF m 6 #[.val (.int p0), .val (.int p1), .val (.int p2), .unset, .unset, .unset, .unset, .unset, .unset] [])) rfl (hb hby at_6)
    refine own_go st1 ?_
    show Goes p e below _ (T1.setTop (mkF m 9 #[.val (.int p0), .val (.int p1), .val (.int p2), .unset, .unset, .unset, .unset, .unset, .unset] [.ref aE]))
    refine s_goto X1 hx (hb hby at_9) (by decide) (pc' := 15) (by decide) ?_
    refine s_astoreN X1 hx #[.val (.int p0), .val (.int p1), .val (.int p2), .val (.ref aE), .unset, .unset, .unset, .unset, .unset] (hb hby at_15) (pc' := 16) rfl rfl rfl ?_
    refine s_iloadN X1 hx (hb hby at_16) (pc' := 17) rfl rfl ?_
    refine s_iconst X1 hx (2 : Int32) (hb hby at_17) (pc' := 18) rfl rfl ?_
    refine s_iand X1 hx (hb hby at_18) (pc' := 19) rfl ?_
    by_cases h2 : (p0 &&& (2 : Int32)) = 0
    ·
      refine s_ifY X1 hx (hb hby at_19) (iy_eq h2) (by decide) (pc' := 26) (by decide) ?_
      refine s_iloadN X1 hx (hb hby at_26) (pc' := 27) rfl rfl ?_
      refine s_istore X1 hx #[.val (.int p0), .val (.int p1), .val (.int p2), .val (.ref aE), .val (.int p2), .unset, .unset, .unset, .unset] (hb hby at_27) (pc' := 29) rfl rfl ?_
      refine s_iloadN X1 hx (hb hby at_29) (pc' := 30) rfl rfl ?_
      refine s_iload X1 hx (hb hby at_30) (pc' := 32) rfl rfl ?_
      by_cases h3 : p1 = p2
      ·
        refine s_icmpN X1 hx (hb hby at_32) (pc' := 35) rfl (cn_ne h3) ?_
        refine s_iconst X1 hx (1 : Int32) (hb hby at_35) (pc' := 36) rfl rfl ?_
        refine s_goto X1 hx (hb hby at_36) (by decide) (pc' := 40) (by decide) ?_
        refine s_istore X1 hx #[.val (.int p0), .val (.int p1), .val (.int p2), .val (.ref aE), .val (.int p2), .val (.int (1 : Int32)), .unset, .unset, .unset] (hb hby at_40) (pc' := 42) rfl rfl ?_
        refine s_aloadN X1 hx (hb hby at_42) (pc' := 43) rfl rfl rfl ?_
        refine s_iload X1 hx (hb hby at_43) (pc' := 45) rfl rfl ?_
        refine c_virtual X1 hx hZ hown (hw _ (List.mem_of_getElem? (i := 3) rfl)) (hw _ (List.mem_of_getElem? (i := 4) rfl)) (hw _ (List.mem_of_getElem? (i := 6) rfl)) (hw _ (List.mem_of_getElem? (i := 5) rfl)) (hw _ (List.mem_of_getElem? (i := 1) rfl)) (hw _ (List.mem_of_getElem? (i := 7) rfl)) (by decide) e1 EaE (rm_1 l Z a0 hw [] aE (1 : Int32) aE h0 n0 Z0 (by decide) SaE) (W := 0) (by decide) (by decide) (by decide) (by decide) (by rw [hml]; rfl) (argsL := [.int (1 : Int32)]) (rest := []) (lenOf pd_0 rfl) rfl rfl (Nat.le_of_eq rfl) (hb hby at_45) (pc' := 48) rfl ?_
        intro T2 v2 L2 X2 hQ2
        obtain ⟨hv2, Nq2, eh2⟩ := hQ2
        have gv2 : v2 = some (.int (1 : Int32)) := by rw [hv2]; simp
        subst gv2
        have N2 := Fr.app N0 Nq2
        show Goes p e below _ (T2.setTop (mkF m 48 #[.val (.int p0), .val (.int p1), .val (.int p2), .val (.ref aE), .val (.int p2), .val (.int (1 : Int32)), .unset, .unset, .unset] [.int (1 : Int32)]))
        refine s_istore X2 hx #[.val (.int p0), .val (.int p1), .val (.int p2), .val (.ref aE), .val (.int p2), .val (.int (1 : Int32)), .val (.int (1 : Int32)), .unset, .unset] (hb hby at_48) (pc' := 50) rfl rfl ?_
        refine s_aloadN X2 hx (hb hby at_50) (pc' := 51) rfl rfl rfl ?_
        refine s_iloadN X2 hx (hb hby at_51) (pc' := 52) rfl rfl ?_
        refine s_i2d X2 hx (hb hby at_52) (pc' := 53) rfl ?_
        refine s_iload X2 hx (hb hby at_53) (pc' := 55) rfl rfl ?_
        refine s_i2d X2 hx (hb hby at_55) (pc' := 56) rfl ?_
        refine c_virtual X2 hx hZ hown (hw _ (List.mem_of_getElem? (i := 9) rfl)) (hw _ (List.mem_of_getElem? (i := 10) rfl)) (hw _ (List.mem_of_getElem? (i := 12) rfl)) (hw _ (List.mem_of_getElem? (i := 11) rfl)) (hw _ (List.mem_of_getElem? (i := 1) rfl)) (hw _ (List.mem_of_getElem? (i := 13) rfl)) (by decide) eh2 EaE (rm_2 l Z a0 hw [] aE p1 p2 aE aN h0 n0 Z0 (Or.inl rfl) SaE SaN) (W := 0) (by decide) (by decide) (by decide) (by decide) (by rw [hml]; rfl) (argsL := [.double (FP.i2d p1), .double (FP.i2d p2)]) (rest := []) (lenOf pd_1 rfl) rfl rfl (Nat.le_of_eq rfl) (hb hby at_56) (pc' := 59) rfl ?_
        intro T3 v3 L3 X3 hQ3
        obtain ⟨hv3, Nq3, eh3⟩ := hQ3
        have gv3 : v3 = some (.int (1 : Int32)) := by rw [hv3, if_pos rfl, if_pos h3]
        subst gv3
        have N3 := Fr.app N2 Nq3
        show Goes p e below _ (T3.setTop (mkF m 59 #[.val (.int p0), .val (.int p1), .val (.int p2), .val (.ref aE), .val (.int p2), .val (.int (1 : Int32)), .val (.int (1 : Int32)), .unset, .unset] [.int (1 : Int32)]))
        refine s_istore X3 hx #[.val (.int p0), .val (.int p1), .val (.int p2), .val (.ref aE), .val (.int p2), .val (.int (1 : Int32)), .val (.int (1 : Int32)), .val (.int (1 : Int32)), .unset] (hb hby at_59) (pc' := 61) rfl rfl ?_
        refine s_iloadN X3 hx (hb hby at_61) (pc' := 62) rfl rfl ?_
        refine s_iconst X3 hx (1 : Int32) (hb hby at_62) (pc' := 63) rfl rfl ?_
        refine s_iand X3 hx (hb hby at_63) (pc' := 64) rfl ?_
        refine s_ifN X3 hx (hb hby at_64) (pc' := 67) rfl (in_ne hs) ?_
        refine s_iload X3 hx (hb hby at_67) (pc' := 69) rfl rfl ?_
        refine s_goto X3 hx (hb hby at_69) (by decide) (pc' := 82) (by decide) ?_
        refine s_istore X3 hx #[.val (.int p0), .val (.int p1), .val (.int p2), .val (.ref aE), .val (.int p2), .val (.int (1 : Int32)), .val (.int (1 : Int32)), .val (.int (1 : Int32)), .val (.int (1 : Int32))] (hb hby at_82) (pc' := 84) rfl rfl ?_
        refine s_iload X3 hx (hb hby at_84) (pc' := 86) rfl rfl ?_
        refine s_iload X3 hx (hb hby at_86) (pc' := 88) rfl rfl ?_
        refine s_icmpN X3 hx (hb hby at_88) (pc' := 91) rfl (cn_ne rfl) ?_
        refine s_iload X3 hx (hb hby at_91) (pc' := 93) rfl rfl ?_
        refine s_iload X3 hx (hb hby at_93) (pc' := 95) rfl rfl ?_
        refine s_icmpN X3 hx (hb hby at_95) (pc' := 98) rfl (cn_ne rfl) ?_
        refine s_iconst X3 hx (1 : Int32) (hb hby at_98) (pc' := 99) rfl rfl ?_
        refine s_goto X3 hx (hb hby at_99) (by decide) (pc' := 103) (by decide) ?_
        exact s_retI X3 hx hlk hret (hb hby at_103) rfl (Or.inl ⟨rfl, by simp, _, rfl⟩) (by decide) (by decide) ⟨rfl, N3⟩
      ·
        refine s_icmpY X1 hx (hb hby at_32) (cy_ne h3) (by decide) (pc' := 39) (by decide) ?_
        refine s_iconst X1 hx (0 : Int32) (hb hby at_39) (pc' := 40) rfl rfl ?_
        refine s_istore X1 hx #[.val (.int p0), .val (.int p1), .val (.int p2), .val (.ref aE), .val (.int p2), .val (.int (0 : Int32)), .unset, .unset, .unset] (hb hby at_40) (pc' := 42) rfl rfl ?_
        refine s_aloadN X1 hx (hb hby at_42) (pc' := 43) rfl rfl rfl ?_
        refine s_iload X1 hx (hb hby at_43) (pc' := 45) rfl rfl ?_
        refine c_virtual X1 hx hZ hown (hw _ (List.mem_of_getElem? (i := 3) rfl)) (hw _ (List.mem_of_getElem? (i := 4) rfl)) (hw _ (List.mem_of_getElem? (i := 6) rfl)) (hw _ (List.mem_of_getElem? (i := 5) rfl)) (hw _ (List.mem_of_getElem? (i := 1) rfl)) (hw _ (List.mem_of_getElem? (i := 7) rfl)) (by decide) e1 EaE (rm_1 l Z a0 hw [] aE (0 : Int32) aE h0 n0 Z0 (by decide) SaE) (W := 0) (by decide) (by decide) (by decide) (by decide) (by rw [hml]; rfl) (argsL := [.int (0 : Int32)]) (rest := []) (lenOf pd_0 rfl) rfl rfl (Nat.le_of_eq rfl) (hb hby at_45) (pc' := 48) rfl ?_
        intro T4 v4 L4 X4 hQ4
        obtain ⟨hv4, Nq4, eh4⟩ := hQ4
        have gv4 : v4 = some (.int (0 : Int32)) := by rw [hv4]; simp
        subst gv4
        have N4 := Fr.app N0 Nq4
        show Goes p e below _ (T4.setTop (mkF m 48 #[.val (.int p0), .val (.int p1), .val (.int p2), .val (.ref aE), .val (.int p2), .val (.int (0 : Int32)), .unset, .unset, .unset] [.int (0 : Int32)]))
        refine s_istore X4 hx #[.val (.int p0), .val (.int p1), .val (.int p2), .val (.ref aE), .val (.int p2), .val (.int (0 : Int32)), .val (.int (0 : Int32)), .unset, .unset] (hb hby at_48) (pc' := 50) rfl rfl ?_
        refine s_aloadN X4 hx (hb hby at_50) (pc' := 51) rfl rfl rfl ?_
        refine s_iloadN X4 hx (hb hby at_51) (pc' := 52) rfl rfl ?_
        refine s_i2d X4 hx (hb hby at_52) (pc' := 53) rfl ?_
        refine s_iload X4 hx (hb hby at_53) (pc' := 55) rfl rfl ?_
        refine s_i2d X4 hx (hb hby at_55) (pc' := 56) rfl ?_
        refine c_virtual X4 hx hZ hown (hw _ (List.mem_of_getElem? (i := 9) rfl)) (hw _ (List.mem_of_getElem? (i := 10) rfl)) (hw _ (List.mem_of_getElem? (i := 12) rfl)) (hw _ (List.mem_of_getElem? (i := 11) rfl)) (hw _ (List.mem_of_getElem? (i := 1) rfl)) (hw _ (List.mem_of_getElem? (i := 13) rfl)) (by decide) eh4 EaE (rm_2 l Z a0 hw [] aE p1 p2 aE aN h0 n0 Z0 (Or.inl rfl) SaE SaN) (W := 0) (by decide) (by decide) (by decide) (by decide) (by rw [hml]; rfl) (argsL := [.double (FP.i2d p1), .double (FP.i2d p2)]) (rest := []) (lenOf pd_1 rfl) rfl rfl (Nat.le_of_eq rfl) (hb hby at_56) (pc' := 59) rfl ?_
        intro T5 v5 L5 X5 hQ5
        obtain ⟨hv5, Nq5, eh5⟩ := hQ5
        have gv5 : v5 = some (.int (0 : Int32)) := by rw [hv5, if_pos rfl, if_neg h3]
        subst gv5
        have N5 := Fr.app N4 Nq5
        show Goes p e below _ (T5.setTop (mkF m 59 #[.val (.int p0), .val (.int p1), .val (.int p2), .val (.ref aE), .val (.int p2), .val (.int (0 : Int32)), .val (.int (0 : Int32)), .unset, .unset] [.int (0 : Int32)]))
        refine s_istore X5 hx #[.val (.int p0), .val (.int p1), .val (.int p2), .val (.ref aE), .val (.int p2), .val (.int (0 : Int32)), .val (.int (0 : Int32)), .val (.int (0 : Int32)), .unset] (hb hby at_59) (pc' := 61) rfl rfl ?_
        refine s_iloadN X5 hx (hb hby at_61) (pc' := 62) rfl rfl ?_
        refine s_iconst X5 hx (1 : Int32) (hb hby at_62) (pc' := 63) rfl rfl ?_
        refine s_iand X5 hx (hb hby at_63) (pc' := 64) rfl ?_
        refine s_ifN X5 hx (hb hby at_64) (pc' := 67) rfl (in_ne hs) ?_
        refine s_iload X5 hx (hb hby at_67) (pc' := 69) rfl rfl ?_
        refine s_goto X5 hx (hb hby at_69) (by decide) (pc' := 82) (by decide) ?_
        refine s_istore X5 hx #[.val (.int p0), .val (.int p1), .val (.int p2), .val (.ref aE), .val (.int p2), .val (.int (0 : Int32)), .val (.int (0 : Int32)), .val (.int (0 : Int32)), .val (.int (0 : Int32))] (hb hby at_82) (pc' := 84) rfl rfl ?_
        refine s_iload X5 hx (hb hby at_84) (pc' := 86) rfl rfl ?_
        refine s_iload X5 hx (hb hby at_86) (pc' := 88) rfl rfl ?_
        refine s_icmpN X5 hx (hb hby at_88) (pc' := 91) rfl (cn_ne rfl) ?_
        refine s_iload X5 hx (hb hby at_91) (pc' := 93) rfl rfl ?_
        refine s_iload X5 hx (hb hby at_93) (pc' := 95) rfl rfl ?_
        refine s_icmpN X5 hx (hb hby at_95) (pc' := 98) rfl (cn_ne rfl) ?_
        refine s_iconst X5 hx (1 : Int32) (hb hby at_98) (pc' := 99) rfl rfl ?_
        refine s_goto X5 hx (hb hby at_99) (by decide) (pc' := 103) (by decide) ?_
        exact s_retI X5 hx hlk hret (hb hby at_103) rfl (Or.inl ⟨rfl, by simp, _, rfl⟩) (by decide) (by decide) ⟨rfl, N5⟩
    ·
      refine s_ifN X1 hx (hb hby at_19) (pc' := 22) rfl (in_eq h2) ?_
      refine s_iloadN X1 hx (hb hby at_22) (pc' := 23) rfl rfl ?_
      refine s_goto X1 hx (hb hby at_23) (by decide) (pc' := 27) (by decide) ?_
      refine s_istore X1 hx #[.val (.int p0), .val (.int p1), .val (.int p2), .val (.ref aE), .val (.int p1), .unset, .unset, .unset, .unset] (hb hby at_27) (pc' := 29) rfl rfl ?_
      refine s_iloadN X1 hx (hb hby at_29) (pc' := 30) rfl rfl ?_
      refine s_iload X1 hx (hb hby at_30) (pc' := 32) rfl rfl ?_
      by_cases h3 : p1 = p1
      ·
        refine s_icmpN X1 hx (hb hby at_32) (pc' := 35) rfl (cn_ne h3) ?_
        refine s_iconst X1 hx (1 : Int32) (hb hby at_35) (pc' := 36) rfl rfl ?_
        refine s_goto X1 hx (hb hby at_36) (by decide) (pc' := 40) (by decide) ?_
        refine s_istore X1 hx #[.val (.int p0), .val (.int p1), .val (.int p2), .val (.ref aE), .val (.int p1), .val (.int (1 : Int32)), .unset, .unset, .unset] (hb hby at_40) (pc' := 42) rfl rfl ?_
        refine s_aloadN X1 hx (hb hby at_42) (pc' := 43) rfl rfl rfl ?_
        refine s_iload X1 hx (hb hby at_43) (pc' := 45) rfl rfl ?_
        refine c_virtual X1 hx hZ hown (hw _ (List.mem_of_getElem? (i := 3) rfl)) (hw _ (List.mem_of_getElem? (i := 4) rfl)) (hw _ (List.mem_of_getElem? (i := 6) rfl)) (hw _ (List.mem_of_getElem? (i := 5) rfl)) (hw _ (List.mem_of_getElem? (i := 1) rfl)) (hw _ (List.mem_of_getElem? (i := 7) rfl)) (by decide) e1 EaE (rm_1 l Z a0 hw [] aE (1 : Int32) aE h0 n0 Z0 (by decide) SaE) (W := 0) (by decide) (by decide) (by decide) (by decide) (by rw [hml]; rfl) (argsL := [.int (1 : Int32)]) (rest := []) (lenOf pd_0 rfl) rfl rfl (Nat.le_of_eq rfl) (hb hby at_45) (pc' := 48) rfl ?_
        intro T6 v6 L6 X6 hQ6
        obtain ⟨hv6, Nq6, eh6⟩ := hQ6
        have gv6 : v6 = some (.int (1 : Int32)) := by rw [hv6]; simp
        subst gv6
        have N6 := Fr.app N0 Nq6
        show Goes p e below _ (T6.setTop (mkF m 48 #[.val (.int p0), .val (.int p1), .val (.int p2), .val (.ref aE), .val (.int p1), .val (.int (1 : Int32)), .unset, .unset, .unset] [.int (1 : Int32)]))
        refine s_istore X6 hx #[.val (.int p0), .val (.int p1), .val (.int p2), .val (.ref aE), .val (.int p1), .val (.int (1 : Int32)), .val (.int (1 : Int32)), .unset, .unset] (hb hby at_48) (pc' := 50) rfl rfl ?_
        refine s_aloadN X6 hx (hb hby at_50) (pc' := 51) rfl rfl rfl ?_
        refine s_iloadN X6 hx (hb hby at_51) (pc' := 52) rfl rfl ?_
        refine s_i2d X6 hx (hb hby at_52) (pc' := 53) rfl ?_
        refine s_iload X6 hx (hb hby at_53) (pc' := 55) rfl rfl ?_
        refine s_i2d X6 hx (hb hby at_55) (pc' := 56) rfl ?_
        refine c_virtual X6 hx hZ hown (hw _ (List.mem_of_getElem? (i := 9) rfl)) (hw _ (List.mem_of_getElem? (i := 10) rfl)) (hw _ (List.mem_of_getElem? (i := 12) rfl)) (hw _ (List.mem_of_getElem? (i := 11) rfl)) (hw _ (List.mem_of_getElem? (i := 1) rfl)) (hw _ (List.mem_of_getElem? (i := 13) rfl)) (by decide) eh6 EaE (rm_2 l Z a0 hw [] aE p1 p1 aE aN h0 n0 Z0 (Or.inl rfl) SaE SaN) (W := 0) (by decide) (by decide) (by decide) (by decide) (by rw [hml]; rfl) (argsL := [.double (FP.i2d p1), .double (FP.i2d p1)]) (rest := []) (lenOf pd_1 rfl) rfl rfl (Nat.le_of_eq rfl) (hb hby at_56) (pc' := 59) rfl ?_
        intro T7 v7 L7 X7 hQ7
        obtain ⟨hv7, Nq7, eh7⟩ := hQ7
        have gv7 : v7 = some (.int (1 : Int32)) := by rw [hv7, if_pos rfl, if_pos (rfl : p1 = p1)]
        subst gv7
        have N7 := Fr.app N6 Nq7
        show Goes p e below _ (T7.setTop (mkF m 59 #[.val (.int p0), .val (.int p1), .val (.int p2), .val (.ref aE), .val (.int p1), .val (.int (1 : Int32)), .val (.int (1 : Int32)), .unset, .unset] [.int (1 : Int32)]))
        refine s_istore X7 hx #[.val (.int p0), .val (.int p1), .val (.int p2), .val (.ref aE), .val (.int p1), .val (.int (1 : Int32)), .val (.int (1 : Int32)), .val (.int (1 : Int32)), .unset] (hb hby at_59) (pc' := 61) rfl rfl ?_
        refine s_iloadN X7 hx (hb hby at_61) (pc' := 62) rfl rfl ?_
        refine s_iconst X7 hx (1 : Int32) (hb hby at_62) (pc' := 63) rfl rfl ?_
        refine s_iand X7 hx (hb hby at_63) (pc' := 64) rfl ?_
        refine s_ifN X7 hx (hb hby at_64) (pc' := 67) rfl (in_ne hs) ?_
        refine s_iload X7 hx (hb hby at_67) (pc' := 69) rfl rfl ?_
        refine s_goto X7 hx (hb hby at_69) (by decide) (pc' := 82) (by decide) ?_
        refine s_istore X7 hx #[.val (.int p0), .val (.int p1), .val (.int p2), .val (.ref aE), .val (.int p1), .val (.int (1 : Int32)), .val (.int (1 : Int32)), .val (.int (1 : Int32)), .val (.int (1 : Int32))] (hb hby at_82) (pc' := 84) rfl rfl ?_
        refine s_iload X7 hx (hb hby at_84) (pc' := 86) rfl rfl ?_
        refine s_iload X7 hx (hb hby at_86) (pc' := 88) rfl rfl ?_
        refine s_icmpN X7 hx (hb hby at_88) (pc' := 91) rfl (cn_ne rfl) ?_
        refine s_iload X7 hx (hb hby at_91) (pc' := 93) rfl rfl ?_
        refine s_iload X7 hx (hb hby at_93) (pc' := 95) rfl rfl ?_
        refine s_icmpN X7 hx (hb hby at_95) (pc' := 98) rfl (cn_ne rfl) ?_
        refine s_iconst X7 hx (1 : Int32) (hb hby at_98) (pc' := 99) rfl rfl ?_
        refine s_goto X7 hx (hb hby at_99) (by decide) (pc' := 103) (by decide) ?_
        exact s_retI X7 hx hlk hret (hb hby at_103) rfl (Or.inl ⟨rfl, by simp, _, rfl⟩) (by decide) (by decide) ⟨rfl, N7⟩
      ·
        refine s_icmpY X1 hx (hb hby at_32) (cy_ne h3) (by decide) (pc' := 39) (by decide) ?_
        refine s_iconst X1 hx (0 : Int32) (hb hby at_39) (pc' := 40) rfl rfl ?_
        refine s_istore X1 hx #[.val (.int p0), .val (.int p1), .val (.int p2), .val (.ref aE), .val (.int p1), .val (.int (0 : Int32)), .unset, .unset, .unset] (hb hby at_40) (pc' := 42) rfl rfl ?_
        refine s_aloadN X1 hx (hb hby at_42) (pc' := 43) rfl rfl rfl ?_
        refine s_iload X1 hx (hb hby at_43) (pc' := 45) rfl rfl ?_
        refine c_virtual X1 hx hZ hown (hw _ (List.mem_of_getElem? (i := 3) rfl)) (hw _ (List.mem_of_getElem? (i := 4) rfl)) (hw _ (List.mem_of_getElem? (i := 6) rfl)) (hw _ (List.mem_of_getElem? (i := 5) rfl)) (hw _ (List.mem_of_getElem? (i := 1) rfl)) (hw _ (List.mem_of_getElem? (i := 7) rfl)) (by decide) e1 EaE (rm_1 l Z a0 hw [] aE (0 : Int32) aE h0 n0 Z0 (by decide) SaE) (W := 0) (by decide) (by decide) (by decide) (by decide) (by rw [hml]; rfl) (argsL := [.int (0 : Int32)]) (rest := []) (lenOf pd_0 rfl) rfl rfl (Nat.le_of_eq rfl) (hb hby at_45) (pc' := 48) rfl ?_
        intro T8 v8 L8 X8 hQ8
        obtain ⟨hv8, Nq8, eh8⟩ := hQ8
        have gv8 : v8 = some (.int (0 : Int32)) := by rw [hv8]; simp
        subst gv8
        have N8 := Fr.app N0 Nq8
        show Goes p e below _ (T8.setTop (mkF m 48 #[.val (.int p0), .val (.int p1), .val (.int p2), .val (.ref aE), .val (.int p1), .val (.int (0 : Int32)), .unset, .unset, .unset] [.int (0 : Int32)]))
        refine s_istore X8 hx #[.val (.int p0), .val (.int p1), .val (.int p2), .val (.ref aE), .val (.int p1), .val (.int (0 : Int32)), .val (.int (0 : Int32)), .unset, .unset] (hb hby at_48) (pc' := 50) rfl rfl ?_
        refine s_aloadN X8 hx (hb hby at_50) (pc' := 51) rfl rfl rfl ?_
        refine s_iloadN X8 hx (hb hby at_51) (pc' := 52) rfl rfl ?_
        refine s_i2d X8 hx (hb hby at_52) (pc' := 53) rfl ?_
        refine s_iload X8 hx (hb hby at_53) (pc' := 55) rfl rfl ?_
        refine s_i2d X8 hx (hb hby at_55) (pc' := 56) rfl ?_
        refine c_virtual X8 hx hZ hown (hw _ (List.mem_of_getElem? (i := 9) rfl)) (hw _ (List.mem_of_getElem? (i := 10) rfl)) (hw _ (List.mem_of_getElem? (i := 12) rfl)) (hw _ (List.mem_of_getElem? (i := 11) rfl)) (hw _ (List.mem_of_getElem? (i := 1) rfl)) (hw _ (List.mem_of_getElem? (i := 13) rfl)) (by decide) eh8 EaE (rm_2 l Z a0 hw [] aE p1 p1 aE aN h0 n0 Z0 (Or.inl rfl) SaE SaN) (W := 0) (by decide) (by decide) (by decide) (by decide) (by rw [hml]; rfl) (argsL := [.double (FP.i2d p1), .double (FP.i2d p1)]) (rest := []) (lenOf pd_1 rfl) rfl rfl (Nat.le_of_eq rfl) (hb hby at_56) (pc' := 59) rfl ?_
        intro T9 v9 L9 X9 hQ9
        obtain ⟨hv9, Nq9, eh9⟩ := hQ9
        have gv9 : v9 = some (.int (0 : Int32)) := by rw [hv9, if_pos rfl, if_neg h3]
        subst gv9
        have N9 := Fr.app N8 Nq9
        show Goes p e below _ (T9.setTop (mkF m 59 #[.val (.int p0), .val (.int p1), .val (.int p2), .val (.ref aE), .val (.int p1), .val (.int (0 : Int32)), .val (.int (0 : Int32)), .unset, .unset] [.int (0 : Int32)]))
        refine s_istore X9 hx #[.val (.int p0), .val (.int p1), .val (.int p2), .val (.ref aE), .val (.int p1), .val (.int (0 : Int32)), .val (.int (0 : Int32)), .val (.int (0 : Int32)), .unset] (hb hby at_59) (pc' := 61) rfl rfl ?_
        refine s_iloadN X9 hx (hb hby at_61) (pc' := 62) rfl rfl ?_
        refine s_iconst X9 hx (1 : Int32) (hb hby at_62) (pc' := 63) rfl rfl ?_
        refine s_iand X9 hx (hb hby at_63) (pc' := 64) rfl ?_
        refine s_ifN X9 hx (hb hby at_64) (pc' := 67) rfl (in_ne hs) ?_
        refine s_iload X9 hx (hb hby at_67) (pc' := 69) rfl rfl ?_
        refine s_goto X9 hx (hb hby at_69) (by decide) (pc' := 82) (by decide) ?_
        refine s_istore X9 hx #[.val (.int p0), .val (.int p1), .val (.int p2), .val (.ref aE), .val (.int p1), .val (.int (0 : Int32)), .val (.int (0 : Int32)), .val (.int (0 : Int32)), .val (.int (0 : Int32))] (hb hby at_82) (pc' := 84) rfl rfl ?_
        refine s_iload X9 hx (hb hby at_84) (pc' := 86) rfl rfl ?_
        refine s_iload X9 hx (hb hby at_86) (pc' := 88) rfl rfl ?_
        refine s_icmpN X9 hx (hb hby at_88) (pc' := 91) rfl (cn_ne rfl) ?_
        refine s_iload X9 hx (hb hby at_91) (pc' := 93) rfl rfl ?_
        refine s_iload X9 hx (hb hby at_93) (pc' := 95) rfl rfl ?_
        refine s_icmpN X9 hx (hb hby at_95) (pc' := 98) rfl (cn_ne rfl) ?_
        refine s_iconst X9 hx (1 : Int32) (hb hby at_98) (pc' := 99) rfl rfl ?_
        refine s_goto X9 hx (hb hby at_99) (by decide) (pc' := 103) (by decide) ?_
        exact s_retI X9 hx hlk hret (hb hby at_103) rfl (Or.inl ⟨rfl, by simp, _, rfl⟩) (by decide) (by decide) ⟨rfl, N9⟩
  ·
    refine s_ifY X0 hx (hb hby at_3) (iy_ne hs) (by decide) (pc' := 12) (by decide) ?_
    obtain ⟨T10, X10, e10, st10⟩ := getS X0 hx hZ hown (host := "") (hw _ (List.mem_of_getElem? (i := 14) rfl)) Via.refl e0 SaN (g := (mkF m 12 #[.val (.int p0), .val (.int p1), .val (.int p2), .unset, .unset, .unset, .unset, .unset, .unset] [])) rfl (hb hby at_12)
    refine own_go st10 ?_
    show Goes p e below _ (T10.setTop (mkF m 15 #[.val (.int p0), .val (.int p1), .val (.int p2), .unset, .unset, .unset, .unset, .unset, .unset] [.ref aN]))
    refine s_astoreN X10 hx #[.val (.int p0), .val (.int p1), .val (.int p2), .val (.ref aN), .unset, .unset, .unset, .unset, .unset] (hb hby at_15) (pc' := 16) rfl rfl rfl ?_
    refine s_iloadN X10 hx (hb hby at_16) (pc' := 17) rfl rfl ?_
    refine s_iconst X10 hx (2 : Int32) (hb hby at_17) (pc' := 18) rfl rfl ?_
    refine s_iand X10 hx (hb hby at_18) (pc' := 19) rfl ?_
    by_cases h2 : (p0 &&& (2 : Int32)) = 0
    ·
      refine s_ifY X10 hx (hb hby at_19) (iy_eq h2) (by decide) (pc' := 26) (by decide) ?_
      refine s_iloadN X10 hx (hb hby at_26) (pc' := 27) rfl rfl ?_
      refine s_istore X10 hx #[.val (.int p0), .val (.int p1), .val (.int p2), .val (.ref aN), .val (.int p2), .unset, .unset, .unset, .unset] (hb hby at_27) (pc' := 29) rfl rfl ?_
      refine s_iloadN X10 hx (hb hby at_29) (pc' := 30) rfl rfl ?_
      refine s_iload X10 hx (hb hby at_30) (pc' := 32) rfl rfl ?_
      by_cases h3 : p1 = p2
      ·
        refine s_icmpN X10 hx (hb hby at_32) (pc' := 35) rfl (cn_ne h3) ?_
        refine s_iconst X10 hx (1 : Int32) (hb hby at_35) (pc' := 36) rfl rfl ?_
        refine s_goto X10 hx (hb hby at_36) (by decide) (pc' := 40) (by decide) ?_
        refine s_istore X10 hx #[.val (.int p0), .val (.int p1), .val (.int p2), .val (.ref aN), .val (.int p2), .val (.int (1 : Int32)), .unset, .unset, .unset] (hb hby at_40) (pc' := 42) rfl rfl ?_
        refine s_aloadN X10 hx (hb hby at_42) (pc' := 43) rfl rfl rfl ?_
        refine s_iload X10 hx (hb hby at_43) (pc' := 45) rfl rfl ?_
        refine c_virtual X10 hx hZ hown (hw _ (List.mem_of_getElem? (i := 3) rfl)) (hw _ (List.mem_of_getElem? (i := 4) rfl)) (hw _ (List.mem_of_getElem? (i := 6) rfl)) (hw _ (List.mem_of_getElem? (i := 5) rfl)) (hw _ (List.mem_of_getElem? (i := 1) rfl)) (hw _ (List.mem_of_getElem? (i := 7) rfl)) (by decide) e10 EaN (rm_1 l Z a0 hw [] aN (1 : Int32) aE h0 n0 Z0 (by decide) SaE) (W := 0) (by decide) (by decide) (by decide) (by decide) (by rw [hml]; rfl) (argsL := [.int (1 : Int32)]) (rest := []) (lenOf pd_0 rfl) rfl rfl (Nat.le_of_eq rfl) (hb hby at_45) (pc' := 48) rfl ?_
        intro T11 v11 L11 X11 hQ11
        obtain ⟨hv11, Nq11, eh11⟩ := hQ11
        have gv11 : v11 = some (.int (0 : Int32)) := by rw [hv11]; rw [if_neg hne.symm]; rfl
        subst gv11
        have N11 := Fr.app N0 Nq11
        show Goes p e below _ (T11.setTop (mkF m 48 #[.val (.int p0), .val (.int p1), .val (.int p2), .val (.ref aN), .val (.int p2), .val (.int (1 : Int32)), .unset, .unset, .unset] [.int (0 : Int32)]))
        refine s_istore X11 hx #[.val (.int p0), .val (.int p1), .val (.int p2), .val (.ref aN), .val (.int p2), .val (.int (1 : Int32)), .val (.int (0 : Int32)), .unset, .unset] (hb hby at_48) (pc' := 50) rfl rfl ?_
        refine s_aloadN X11 hx (hb hby at_50) (pc' := 51) rfl rfl rfl ?_
        refine s_iloadN X11 hx (hb hby at_51) (pc' := 52) rfl rfl ?_
        refine s_i2d X11 hx (hb hby at_52) (pc' := 53) rfl ?_
        refine s_iload X11 hx (hb hby at_53) (pc' := 55) rfl rfl ?_
        refine s_i2d X11 hx (hb hby at_55) (pc' := 56) rfl ?_
        refine c_virtual X11 hx hZ hown (hw _ (List.mem_of_getElem? (i := 9) rfl)) (hw _ (List.mem_of_getElem? (i := 10) rfl)) (hw _ (List.mem_of_getElem? (i := 12) rfl)) (hw _ (List.mem_of_getElem? (i := 11) rfl)) (hw _ (List.mem_of_getElem? (i := 1) rfl)) (hw _ (List.mem_of_getElem? (i := 13) rfl)) (by decide) eh11 EaN (rm_2 l Z a0 hw [] aN p1 p2 aE aN h0 n0 Z0 (Or.inr rfl) SaE SaN) (W := 0) (by decide) (by decide) (by decide) (by decide) (by rw [hml]; rfl) (argsL := [.double (FP.i2d p1), .double (FP.i2d p2)]) (rest := []) (lenOf pd_1 rfl) rfl rfl (Nat.le_of_eq rfl) (hb hby at_56) (pc' := 59) rfl ?_
        intro T12 v12 L12 X12 hQ12
        obtain ⟨hv12, Nq12, eh12⟩ := hQ12
        have gv12 : v12 = some (.int (0 : Int32)) := by rw [hv12, if_neg hne.symm, if_pos h3]
        subst gv12
        have N12 := Fr.app N11 Nq12
        show Goes p e below _ (T12.setTop (mkF m 59 #[.val (.int p0), .val (.int p1), .val (.int p2), .val (.ref aN), .val (.int p2), .val (.int (1 : Int32)), .val (.int (0 : Int32)), .unset, .unset] [.int (0 : Int32)]))
        refine s_istore X12 hx #[.val (.int p0), .val (.int p1), .val (.int p2), .val (.ref aN), .val (.int p2), .val (.int (1 : Int32)), .val (.int (0 : Int32)), .val (.int (0 : Int32)), .unset] (hb hby at_59) (pc' := 61) rfl rfl ?_
        refine s_iloadN X12 hx (hb hby at_61) (pc' := 62) rfl rfl ?_
        refine s_iconst X12 hx (1 : Int32) (hb hby at_62) (pc' := 63) rfl rfl ?_
        refine s_iand X12 hx (hb hby at_63) (pc' := 64) rfl ?_
        refine s_ifY X12 hx (hb hby at_64) (iy_ne hs) (by decide) (pc' := 72) (by decide) ?_
        refine s_iload X12 hx (hb hby at_72) (pc' := 74) rfl rfl ?_
        refine s_ifY X12 hx (hb hby at_74) (iy_ne (by decide : ¬ (1 : Int32) = 0)) (by decide) (pc' := 81) (by decide) ?_
        refine s_iconst X12 hx (0 : Int32) (hb hby at_81) (pc' := 82) rfl rfl ?_
        refine s_istore X12 hx #[.val (.int p0), .val (.int p1), .val (.int p2), .val (.ref aN), .val (.int p2), .val (.int (1 : Int32)), .val (.int (0 : Int32)), .val (.int (0 : Int32)), .val (.int (0 : Int32))] (hb hby at_82) (pc' := 84) rfl rfl ?_
        refine s_iload X12 hx (hb hby at_84) (pc' := 86) rfl rfl ?_
        refine s_iload X12 hx (hb hby at_86) (pc' := 88) rfl rfl ?_
        refine s_icmpN X12 hx (hb hby at_88) (pc' := 91) rfl (cn_ne rfl) ?_
        refine s_iload X12 hx (hb hby at_91) (pc' := 93) rfl rfl ?_
        refine s_iload X12 hx (hb hby at_93) (pc' := 95) rfl rfl ?_
        refine s_icmpN X12 hx (hb hby at_95) (pc' := 98) rfl (cn_ne rfl) ?_
        refine s_iconst X12 hx (1 : Int32) (hb hby at_98) (pc' := 99) rfl rfl ?_
        refine s_goto X12 hx (hb hby at_99) (by decide) (pc' := 103) (by decide) ?_
        exact s_retI X12 hx hlk hret (hb hby at_103) rfl (Or.inl ⟨rfl, by simp, _, rfl⟩) (by decide) (by decide) ⟨rfl, N12⟩
      ·
        refine s_icmpY X10 hx (hb hby at_32) (cy_ne h3) (by decide) (pc' := 39) (by decide) ?_
        refine s_iconst X10 hx (0 : Int32) (hb hby at_39) (pc' := 40) rfl rfl ?_
        refine s_istore X10 hx #[.val (.int p0), .val (.int p1), .val (.int p2), .val (.ref aN), .val (.int p2), .val (.int (0 : Int32)), .unset, .unset, .unset] (hb hby at_40) (pc' := 42) rfl rfl ?_
        refine s_aloadN X10 hx (hb hby at_42) (pc' := 43) rfl rfl rfl ?_
        refine s_iload X10 hx (hb hby at_43) (pc' := 45) rfl rfl ?_
        refine c_virtual X10 hx hZ hown (hw _ (List.mem_of_getElem? (i := 3) rfl)) (hw _ (List.mem_of_getElem? (i := 4) rfl)) (hw _ (List.mem_of_getElem? (i := 6) rfl)) (hw _ (List.mem_of_getElem? (i := 5) rfl)) (hw _ (List.mem_of_getElem? (i := 1) rfl)) (hw _ (List.mem_of_getElem? (i := 7) rfl)) (by decide) e10 EaN (rm_1 l Z a0 hw [] aN (0 : Int32) aE h0 n0 Z0 (by decide) SaE) (W := 0) (by decide) (by decide) (by decide) (by decide) (by rw [hml]; rfl) (argsL := [.int (0 : Int32)]) (rest := []) (lenOf pd_0 rfl) rfl rfl (Nat.le_of_eq rfl) (hb hby at_45) (pc' := 48) rfl ?_
        intro T13 v13 L13 X13 hQ13
        obtain ⟨hv13, Nq13, eh13⟩ := hQ13
        have gv13 : v13 = some (.int (1 : Int32)) := by rw [hv13]; rw [if_neg hne.symm]; rfl
        subst gv13
        have N13 := Fr.app N0 Nq13
        show Goes p e below _ (T13.setTop (mkF m 48 #[.val (.int p0), .val (.int p1), .val (.int p2), .val (.ref aN), .val (.int p2), .val (.int (0 : Int32)), .unset, .unset, .unset] [.int (1 : Int32)]))
        refine s_istore X13 hx #[.val (.int p0), .val (.int p1), .val (.int p2), .val (.ref aN), .val (.int p2), .val (.int (0 : Int32)), .val (.int (1 : Int32)), .unset, .unset] (hb hby at_48) (pc' := 50) rfl rfl ?_
        refine s_aloadN X13 hx (hb hby at_50) (pc' := 51) rfl rfl rfl ?_
        refine s_iloadN X13 hx (hb hby at_51) (pc' := 52) rfl rfl ?_
        refine s_i2d X13 hx (hb hby at_52) (pc' := 53) rfl ?_
        refine s_iload X13 hx (hb hby at_53) (pc' := 55) rfl rfl ?_
        refine s_i2d X13 hx (hb hby at_55) (pc' := 56) rfl ?_
        refine c_virtual X13 hx hZ hown (hw _ (List.mem_of_getElem? (i := 9) rfl)) (hw _ (List.mem_of_getElem? (i := 10) rfl)) (hw _ (List.mem_of_getElem? (i := 12) rfl)) (hw _ (List.mem_of_getElem? (i := 11) rfl)) (hw _ (List.mem_of_getElem? (i := 1) rfl)) (hw _ (List.mem_of_getElem? (i := 13) rfl)) (by decide) eh13 EaN (rm_2 l Z a0 hw [] aN p1 p2 aE aN h0 n0 Z0 (Or.inr rfl) SaE SaN) (W := 0) (by decide) (by decide) (by decide) (by decide) (by rw [hml]; rfl) (argsL := [.double (FP.i2d p1), .double (FP.i2d p2)]) (rest := []) (lenOf pd_1 rfl) rfl rfl (Nat.le_of_eq rfl) (hb hby at_56) (pc' := 59) rfl ?_
        intro T14 v14 L14 X14 hQ14
        obtain ⟨hv14, Nq14, eh14⟩ := hQ14
        have gv14 : v14 = some (.int (1 : Int32)) := by rw [hv14, if_neg hne.symm, if_neg h3]
        subst gv14
        have N14 := Fr.app N13 Nq14
        show Goes p e below _ (T14.setTop (mkF m 59 #[.val (.int p0), .val (.int p1), .val (.int p2), .val (.ref aN), .val (.int p2), .val (.int (0 : Int32)), .val (.int (1 : Int32)), .unset, .unset] [.int (1 : Int32)]))
        refine s_istore X14 hx #[.val (.int p0), .val (.int p1), .val (.int p2), .val (.ref aN), .val (.int p2), .val (.int (0 : Int32)), .val (.int (1 : Int32)), .val (.int (1 : Int32)), .unset] (hb hby at_59) (pc' := 61) rfl rfl ?_
        refine s_iloadN X14 hx (hb hby at_61) (pc' := 62) rfl rfl ?_
        refine s_iconst X14 hx (1 : Int32) (hb hby at_62) (pc' := 63) rfl rfl ?_
        refine s_iand X14 hx (hb hby at_63) (pc' := 64) rfl ?_
        refine s_ifY X14 hx (hb hby at_64) (iy_ne hs) (by decide) (pc' := 72) (by decide) ?_
        refine s_iload X14 hx (hb hby at_72) (pc' := 74) rfl rfl ?_
        refine s_ifN X14 hx (hb hby at_74) (pc' := 77) rfl (in_ne (rfl : (0 : Int32) = 0)) ?_
        refine s_iconst X14 hx (1 : Int32) (hb hby at_77) (pc' := 78) rfl rfl ?_
        refine s_goto X14 hx (hb hby at_78) (by decide) (pc' := 82) (by decide) ?_
        refine s_istore X14 hx #[.val (.int p0), .val (.int p1), .val (.int p2), .val (.ref aN), .val (.int p2), .val (.int (0 : Int32)), .val (.int (1 : Int32)), .val (.int (1 : Int32)), .val (.int (1 : Int32))] (hb hby at_82) (pc' := 84) rfl rfl ?_
        refine s_iload X14 hx (hb hby at_84) (pc' := 86) rfl rfl ?_
        refine s_iload X14 hx (hb hby at_86) (pc' := 88) rfl rfl ?_
        refine s_icmpN X14 hx (hb hby at_88) (pc' := 91) rfl (cn_ne rfl) ?_
        refine s_iload X14 hx (hb hby at_91) (pc' := 93) rfl rfl ?_
        refine s_iload X14 hx (hb hby at_93) (pc' := 95) rfl rfl ?_
        refine s_icmpN X14 hx (hb hby at_95) (pc' := 98) rfl (cn_ne rfl) ?_
        refine s_iconst X14 hx (1 : Int32) (hb hby at_98) (pc' := 99) rfl rfl ?_
        refine s_goto X14 hx (hb hby at_99) (by decide) (pc' := 103) (by decide) ?_
        exact s_retI X14 hx hlk hret (hb hby at_103) rfl (Or.inl ⟨rfl, by simp, _, rfl⟩) (by decide) (by decide) ⟨rfl, N14⟩
    ·
      refine s_ifN X10 hx (hb hby at_19) (pc' := 22) rfl (in_eq h2) ?_
      refine s_iloadN X10 hx (hb hby at_22) (pc' := 23) rfl rfl ?_
      refine s_goto X10 hx (hb hby at_23) (by decide) (pc' := 27) (by decide) ?_
      refine s_istore X10 hx #[.val (.int p0), .val (.int p1), .val (.int p2), .val (.ref aN), .val (.int p1), .unset, .unset, .unset, .unset] (hb hby at_27) (pc' := 29) rfl rfl ?_
      refine s_iloadN X10 hx (hb hby at_29) (pc' := 30) rfl rfl ?_
      refine s_iload X10 hx (hb hby at_30) (pc' := 32) rfl rfl ?_
      by_cases h3 : p1 = p1
      ·
        refine s_icmpN X10 hx (hb hby at_32) (pc' := 35) rfl (cn_ne h3) ?_
        refine s_iconst X10 hx (1 : Int32) (hb hby at_35) (pc' := 36) rfl rfl ?_
        refine s_goto X10 hx (hb hby at_36) (by decide) (pc' := 40) (by decide) ?_
        refine s_istore X10 hx #[.val (.int p0), .val (.int p1), .val (.int p2), .val (.ref aN), .val (.int p1), .val (.int (1 : Int32)), .unset, .unset, .unset] (hb hby at_40) (pc' := 42) rfl rfl ?_
        refine s_aloadN X10 hx (hb hby at_42) (pc' := 43) rfl rfl rfl ?_
        refine s_iload X10 hx (hb hby at_43) (pc' := 45) rfl rfl ?_
        refine c_virtual X10 hx hZ hown (hw _ (List.mem_of_getElem? (i := 3) rfl)) (hw _ (List.mem_of_getElem? (i := 4) rfl)) (hw _ (List.mem_of_getElem? (i := 6) rfl)) (hw _ (List.mem_of_getElem? (i := 5) rfl)) (hw _ (List.mem_of_getElem? (i := 1) rfl)) (hw _ (List.mem_of_getElem? (i := 7) rfl)) (by decide) e10 EaN (rm_1 l Z a0 hw [] aN (1 : Int32) aE h0 n0 Z0 (by decide) SaE) (W := 0) (by decide) (by decide) (by decide) (by decide) (by rw [hml]; rfl) (argsL := [.int (1 : Int32)]) (rest := []) (lenOf pd_0 rfl) rfl rfl (Nat.le_of_eq rfl) (hb hby at_45) (pc' := 48) rfl ?_
        intro T15 v15 L15 X15 hQ15
        obtain ⟨hv15, Nq15, eh15⟩ := hQ15
        have gv15 : v15 = some (.int (0 : Int32)) := by rw [hv15]; rw [if_neg hne.symm]; rfl
        subst gv15
        have N15 := Fr.app N0 Nq15
        show Goes p e below _ (T15.setTop (mkF m 48 #[.val (.int p0), .val (.int p1), .val (.int p2), .val (.ref aN), .val (.int p1), .val (.int (1 : Int32)), .unset, .unset, .unset] [.int (0 : Int32)]))
        refine s_istore X15 hx #[.val (.int p0), .val (.int p1), .val (.int p2), .val (.ref aN), .val (.int p1), .val (.int (1 : Int32)), .val (.int (0 : Int32)), .unset, .unset] (hb hby at_48) (pc' := 50) rfl rfl ?_
        refine s_aloadN X15 hx (hb hby at_50) (pc' := 51) rfl rfl rfl ?_
        refine s_iloadN X15 hx (hb hby at_51) (pc' := 52) rfl rfl ?_
        refine s_i2d X15 hx (hb hby at_52) (pc' := 53) rfl ?_
        refine s_iload X15 hx (hb hby at_53) (pc' := 55) rfl rfl ?_
        refine s_i2d X15 hx (hb hby at_55) (pc' := 56) rfl ?_
        refine c_virtual X15 hx hZ hown (hw _ (List.mem_of_getElem? (i := 9) rfl)) (hw _ (List.mem_of_getElem? (i := 10) rfl)) (hw _ (List.mem_of_getElem? (i := 12) rfl)) (hw _ (List.mem_of_getElem? (i := 11) rfl)) (hw _ (List.mem_of_getElem? (i := 1) rfl)) (hw _ (List.mem_of_getElem? (i := 13) rfl)) (by decide) eh15 EaN (rm_2 l Z a0 hw [] aN p1 p1 aE aN h0 n0 Z0 (Or.inr rfl) SaE SaN) (W := 0) (by decide) (by decide) (by decide) (by decide) (by rw [hml]; rfl) (argsL := [.double (FP.i2d p1), .double (FP.i2d p1)]) (rest := []) (lenOf pd_1 rfl) rfl rfl (Nat.le_of_eq rfl) (hb hby at_56) (pc' := 59) rfl ?_
        intro T16 v16 L16 X16 hQ16
        obtain ⟨hv16, Nq16, eh16⟩ := hQ16
        have gv16 : v16 = some (.int (0 : Int32)) := by rw [hv16, if_neg hne.symm, if_pos (rfl : p1 = p1)]
        subst gv16
        have N16 := Fr.app N15 Nq16
        show Goes p e below _ (T16.setTop (mkF m 59 #[.val (.int p0), .val (.int p1), .val (.int p2), .val (.ref aN), .val (.int p1), .val (.int (1 : Int32)), .val (.int (0 : Int32)), .unset, .unset] [.int (0 : Int32)]))
        refine s_istore X16 hx #[.val (.int p0), .val (.int p1), .val (.int p2), .val (.ref aN), .val (.int p1), .val (.int (1 : Int32)), .val (.int (0 : Int32)), .val (.int (0 : Int32)), .unset] (hb hby at_59) (pc' := 61) rfl rfl ?_
        refine s_iloadN X16 hx (hb hby at_61) (pc' := 62) rfl rfl ?_
        refine s_iconst X16 hx (1 : Int32) (hb hby at_62) (pc' := 63) rfl rfl ?_
        refine s_iand X16 hx (hb hby at_63) (pc' := 64) rfl ?_
        refine s_ifY X16 hx (hb hby at_64) (iy_ne hs) (by decide) (pc' := 72) (by decide) ?_
        refine s_iload X16 hx (hb hby at_72) (pc' := 74) rfl rfl ?_
        refine s_ifY X16 hx (hb hby at_74) (iy_ne (by decide : ¬ (1 : Int32) = 0)) (by decide) (pc' := 81) (by decide) ?_
        refine s_iconst X16 hx (0 : Int32) (hb hby at_81) (pc' := 82) rfl rfl ?_
        refine s_istore X16 hx #[.val (.int p0), .val (.int p1), .val (.int p2), .val (.ref aN), .val (.int p1), .val (.int (1 : Int32)), .val (.int (0 : Int32)), .val (.int (0 : Int32)), .val (.int (0 : Int32))] (hb hby at_82) (pc' := 84) rfl rfl ?_
        refine s_iload X16 hx (hb hby at_84) (pc' := 86) rfl rfl ?_
        refine s_iload X16 hx (hb hby at_86) (pc' := 88) rfl rfl ?_
        refine s_icmpN X16 hx (hb hby at_88) (pc' := 91) rfl (cn_ne rfl) ?_
        refine s_iload X16 hx (hb hby at_91) (pc' := 93) rfl rfl ?_
        refine s_iload X16 hx (hb hby at_93) (pc' := 95) rfl rfl ?_
        refine s_icmpN X16 hx (hb hby at_95) (pc' := 98) rfl (cn_ne rfl) ?_
        refine s_iconst X16 hx (1 : Int32) (hb hby at_98) (pc' := 99) rfl rfl ?_
        refine s_goto X16 hx (hb hby at_99) (by decide) (pc' := 103) (by decide) ?_
        exact s_retI X16 hx hlk hret (hb hby at_103) rfl (Or.inl ⟨rfl, by simp, _, rfl⟩) (by decide) (by decide) ⟨rfl, N16⟩
      ·
        refine s_icmpY X10 hx (hb hby at_32) (cy_ne h3) (by decide) (pc' := 39) (by decide) ?_
        refine s_iconst X10 hx (0 : Int32) (hb hby at_39) (pc' := 40) rfl rfl ?_
        refine s_istore X10 hx #[.val (.int p0), .val (.int p1), .val (.int p2), .val (.ref aN), .val (.int p1), .val (.int (0 : Int32)), .unset, .unset, .unset] (hb hby at_40) (pc' := 42) rfl rfl ?_
        refine s_aloadN X10 hx (hb hby at_42) (pc' := 43) rfl rfl rfl ?_
        refine s_iload X10 hx (hb hby at_43) (pc' := 45) rfl rfl ?_
        refine c_virtual X10 hx hZ hown (hw _ (List.mem_of_getElem? (i := 3) rfl)) (hw _ (List.mem_of_getElem? (i := 4) rfl)) (hw _ (List.mem_of_getElem? (i := 6) rfl)) (hw _ (List.mem_of_getElem? (i := 5) rfl)) (hw _ (List.mem_of_getElem? (i := 1) rfl)) (hw _ (List.mem_of_getElem? (i := 7) rfl)) (by decide) e10 EaN (rm_1 l Z a0 hw [] aN (0 : Int32) aE h0 n0 Z0 (by decide) SaE) (W := 0) (by decide) (by decide) (by decide) (by decide) (by rw [hml]; rfl) (argsL := [.int (0 : Int32)]) (rest := []) (lenOf pd_0 rfl) rfl rfl (Nat.le_of_eq rfl) (hb hby at_45) (pc' := 48) rfl ?_
        intro T17 v17 L17 X17 hQ17
        obtain ⟨hv17, Nq17, eh17⟩ := hQ17
        have gv17 : v17 = some (.int (1 : Int32)) := by rw [hv17]; rw [if_neg hne.symm]; rfl
        subst gv17
        have N17 := Fr.app N0 Nq17
        show Goes p e below _ (T17.setTop (mkF m 48 #[.val (.int p0), .val (.int p1), .val (.int p2), .val (.ref aN), .val (.int p1), .val (.int (0 : Int32)), .unset, .unset, .unset] [.int (1 : Int32)]))
        refine s_istore X17 hx #[.val (.int p0), .val (.int p1), .val (.int p2), .val (.ref aN), .val (.int p1), .val (.int (0 : Int32)), .val (.int (1 : Int32)), .unset, .unset] (hb hby at_48) (pc' := 50) rfl rfl ?_
        refine s_aloadN X17 hx (hb hby at_50) (pc' := 51) rfl rfl rfl ?_
        refine s_iloadN X17 hx (hb hby at_51) (pc' := 52) rfl rfl ?_
        refine s_i2d X17 hx (hb hby at_52) (pc' := 53) rfl ?_
        refine s_iload X17 hx (hb hby at_53) (pc' := 55) rfl rfl ?_
        refine s_i2d X17 hx (hb hby at_55) (pc' := 56) rfl ?_
        refine c_virtual X17 hx hZ hown (hw _ (List.mem_of_getElem? (i := 9) rfl)) (hw _ (List.mem_of_getElem? (i := 10) rfl)) (hw _ (List.mem_of_getElem? (i := 12) rfl)) (hw _ (List.mem_of_getElem? (i := 11) rfl)) (hw _ (List.mem_of_getElem? (i := 1) rfl)) (hw _ (List.mem_of_getElem? (i := 13) rfl)) (by decide) eh17 EaN (rm_2 l Z a0 hw [] aN p1 p1 aE aN h0 n0 Z0 (Or.inr rfl) SaE SaN) (W := 0) (by decide) (by decide) (by decide) (by decide) (by rw [hml]; rfl) (argsL := [.double (FP.i2d p1), .double (FP.i2d p1)]) (rest := []) (lenOf pd_1 rfl) rfl rfl (Nat.le_of_eq rfl) (hb hby at_56) (pc' := 59) rfl ?_
        intro T18 v18 L18 X18 hQ18
        obtain ⟨hv18, Nq18, eh18⟩ := hQ18
        have gv18 : v18 = some (.int (1 : Int32)) := by rw [hv18, if_neg hne.symm, if_neg h3]
        subst gv18
        have N18 := Fr.app N17 Nq18
        show Goes p e below _ (T18.setTop (mkF m 59 #[.val (.int p0), .val (.int p1), .val (.int p2), .val (.ref aN), .val (.int p1), .val (.int (0 : Int32)), .val (.int (1 : Int32)), .unset, .unset] [.int (1 : Int32)]))
        refine s_istore X18 hx #[.val (.int p0), .val (.int p1), .val (.int p2), .val (.ref aN), .val (.int p1), .val (.int (0 : Int32)), .val (.int (1 : Int32)), .val (.int (1 : Int32)), .unset] (hb hby at_59) (pc' := 61) rfl rfl ?_
        refine s_iloadN X18 hx (hb hby at_61) (pc' := 62) rfl rfl ?_
        refine s_iconst X18 hx (1 : Int32) (hb hby at_62) (pc' := 63) rfl rfl ?_
        refine s_iand X18 hx (hb hby at_63) (pc' := 64) rfl ?_
        refine s_ifY X18 hx (hb hby at_64) (iy_ne hs) (by decide) (pc' := 72) (by decide) ?_
        refine s_iload X18 hx (hb hby at_72) (pc' := 74) rfl rfl ?_
        refine s_ifN X18 hx (hb hby at_74) (pc' := 77) rfl (in_ne (rfl : (0 : Int32) = 0)) ?_
        refine s_iconst X18 hx (1 : Int32) (hb hby at_77) (pc' := 78) rfl rfl ?_
        refine s_goto X18 hx (hb hby at_78) (by decide) (pc' := 82) (by decide) ?_
        refine s_istore X18 hx #[.val (.int p0), .val (.int p1), .val (.int p2), .val (.ref aN), .val (.int p1), .val (.int (0 : Int32)), .val (.int (1 : Int32)), .val (.int (1 : Int32)), .val (.int (1 : Int32))] (hb hby at_82) (pc' := 84) rfl rfl ?_
        refine s_iload X18 hx (hb hby at_84) (pc' := 86) rfl rfl ?_
        refine s_iload X18 hx (hb hby at_86) (pc' := 88) rfl rfl ?_
        refine s_icmpN X18 hx (hb hby at_88) (pc' := 91) rfl (cn_ne rfl) ?_
        refine s_iload X18 hx (hb hby at_91) (pc' := 93) rfl rfl ?_
        refine s_iload X18 hx (hb hby at_93) (pc' := 95) rfl rfl ?_
        refine s_icmpN X18 hx (hb hby at_95) (pc' := 98) rfl (cn_ne rfl) ?_
        refine s_iconst X18 hx (1 : Int32) (hb hby at_98) (pc' := 99) rfl rfl ?_
        refine s_goto X18 hx (hb hby at_99) (by decide) (pc' := 103) (by decide) ?_
        exact s_retI X18 hx hlk hret (hb hby at_103) rfl (Or.inl ⟨rfl, by simp, _, rfl⟩) (by decide) (by decide) ⟨rfl, N18⟩
set_option maxRecDepth 65536 in
set_option maxHeartbeats 40000000 in
theorem comes_1 {Post : Tables → Env → Array Value → State → Outcome → State → Prop} (hpost : ∀ tb e args s v u, (limb_1_1.after args s (.returned v) u = true ∧ limb_1_2.after args s (.returned v) u = true ∧ True) → FrameEnd s (.returned v) u (Jvm.fieldLocs frame_1_writes args s ++ Jvm.arrayLocs frame_1_arrays args s ++ Jvm.staticLocs frame_1_statics s) 0 0 → Post tb e args s (.returned v) u) :
    ArmFor flags0 classFile x code maxLocals ret World_1 tables_1 room_1 Calls_1 rest_1 Pre_1 Post := by
  intro l hfl _ _ p e ha hc hk s m args below hf hA hF happ hP
  obtain ⟨hcalls, hrest, hpre⟩ := hP
  obtain ⟨-, -, -, hnamed, -, -, -, hat⟩ := (Spec.applies_iff hf).mp happ
  obtain ⟨hg, hn⟩ := and_e (Cond.before_iff.mp (show (Jvm.Cond.and given_1 narrow_1).before args s = true from hpre))
  obtain ⟨g0, gr0⟩ := and_e hg
  obtain ⟨g1, gr1⟩ := and_e gr0
  obtain ⟨g2, gr2⟩ := and_e gr1
  obtain ⟨w0, w1, w2, rfl⟩ : ∃ w0 w1 w2 : Value, args = #[w0, w1, w2] := by
    have hs : args.size = 3 := by simpa [Cond.value, given_1] using g0
    obtain ⟨L⟩ := args
    match L, hs with
    | [w0, w1, w2], _ => exact ⟨w0, w1, w2, rfl⟩
  have hw := fun d (hd : d ∈ tables_1) => atoms_spec (ws := Jvm.Cond.code x code maxLocals ret :: tables_1) hat d (List.mem_cons_of_mem _ hd)
  have hfit : Fit s := fun {y c} hc i hi => by
    obtain ⟨ha, rfl⟩ := Array.getElem?_eq_some_iff.mp hc
    have q := List.all_eq_true.mp ((Array.all_eq_true_iff_forall_mem.mp hF) _ (Array.getElem_mem ha)) i (List.mem_range.mpr hi)
    simpa [Array.getElem?_eq_getElem hi] using q
  obtain ⟨i0, q0⟩ := is_v g1
  obtain rfl : w0 = (.int i0) := Option.some.inj q0
  obtain ⟨i1, q1⟩ := is_v g2
  obtain rfl : w1 = (.int i1) := Option.some.inj q1
  obtain ⟨i2, q2⟩ := is_v gr2
  obtain rfl : w2 = (.int i2) := Option.some.inj q2
  obtain ⟨n1, nr1⟩ := and_e hn
  obtain ⟨n2, nr2⟩ := and_e nr1
  obtain ⟨n3, n4⟩ := and_e nr2
  obtain ⟨aE, vE⟩ := exa_v n1
  obtain ⟨aN, vN⟩ := exa_v n2
  have SE := Sta.start vE (Or.inr ⟨hw _ (List.mem_of_getElem? (i := 1) rfl), hw _ (List.mem_of_getElem? (i := 2) rfl)⟩)
  have SN := Sta.start vN (Or.inr ⟨hw _ (List.mem_of_getElem? (i := 1) rfl), hw _ (List.mem_of_getElem? (i := 15) rfl)⟩)
  have EE := Exa.start vE n1
  have EN := Exa.start vN n2
  have hne : aE ≠ aN := fun q => by
    have o1 := own_eqint n3
    have o0 := own_eqint n4
    rw [fld_at vN] at o1
    rw [fld_at vE, q, o1] at o0
    cases o0
  obtain ⟨n, o, h1, h2, h3, _, L, rfl, ⟨rfl, N⟩, hq⟩ := rm_0 l s _ hw tables_1 i0 i1 i2 s.heap s.heap.size (Nat.le_refl _) aE aN SE SN EE EN hne p e ha hc hk s m _ below hf ((Spec.applies_iff_loose hf).mp happ).1 ⟨rfl, State.Warmed39.refl s, rfl⟩ trivial
  refine ⟨n, _, h1, h2, h3, hpost _ _ _ _ _ _ ⟨Cond.after_iff.mpr rfl, Cond.after_iff.mpr (eq_i res_at (Term.int_eval (1)) rfl), trivial⟩ ⟨hq.1, hq.2.1, (hq.2.2.sift fun y hy => Or.inr (N y hy)).mono (by decide) (by decide)⟩⟩
theorem main_1_1 : Claimed_1_1 := comes_1 fun _ _ _ _ _ _ h hF => ⟨h.1, hF⟩
theorem main_1_2 : Claimed_1_2 := comes_1 fun _ _ _ _ _ _ h hF => ⟨h.2.1, hF⟩
end Jvm.Pilot.@@N@@
namespace Jvm.Pilot.@@N@@
open Jvm Jvm.ClassFile Sem Op Lib Jvm.Free Jvm.Stand Jvm.Pilot.@@N@@.Jvm.D
/-! MADE BY PROGRAM (witnessworld.py) out of the Statement's table words and the real class files: 12 classes; the members and pool entries that the words name. The judged class is class 1, her method 1. -/
namespace start1
open Jvm.ClassFile
def u (s : String) : CpInfo := .utf8 (stringToUtf16 s)
/-- a pool by its gaps: so many unusable entries, then the entry; so many at the end -/
def gap : Nat → List CpInfo → List CpInfo
  | 0, r => r
  | n + 1, r => .unusable :: gap n r
def poolList (es : List (Nat × CpInfo)) (last : Nat) : List CpInfo := es.foldr (fun e r => gap e.1 (e.2 :: r)) (gap last [])
def pool (es : List (Nat × CpInfo)) (last : Nat) : Array CpInfo := ⟨poolList es last⟩
def fileOf (pool : Array CpInfo) (this : Nat) (attrs : Array Attribute := #[]) (ms : Array MethodInfo := #[]) (fl : Nat := 33) (sup : Nat := 0) (ifs : Array Nat := #[]) (fds : Array FieldInfo := #[]) : ClassFile where
  minorVersion := 0
  majorVersion := 65
  constantPool := pool
  accessFlags := fl
  thisClass := this
  superClass := sup
  interfaces := ifs
  fields := fds
  methods := ms
  attributes := attrs
def plain (name : String) (sup : Option ClassId) : Class where
  name := name
  kind := .ordinary
  loader := none
  accessFlags := 33
  super := sup
  interfaces := #[]
  cf := none
  fields := #[]
  methods := #[]
  instanceTypes := #[]
  staticTypes := #[]
  resolved := #[]
  callSites := []
  init := .initialized
  statics := none
  mirror := none

def pool0 : Array CpInfo := pool [(5, u "<init>"), (0, u "()V"), (1, .class_ 10), (1, u "java/lang/Object")] 113

def k0m0 : Method := { name := "<init>", desc := "()V", sig := { parameters := [], returnType := none }, accessFlags := 1, code := none }
/-- java/lang/Object -/
def k0 : Class := { plain "java/lang/Object" none with
  accessFlags := 33
  interfaces := #[]
  cf := some (fileOf pool0 8 #[] #[{ accessFlags := 1, nameIndex := 5, descriptorIndex := 6, attributes := #[] }] 33 0 #[] #[])
  fields := #[]
  methods := #[k0m0]
  instanceTypes := #[]
  staticTypes := #[]
  resolved := Array.replicate 124 none
  statics := none }

def pool1 : Array CpInfo := pool [(2, .class_ 4), (1, u "java/lang/Object"), (0, u "<init>"), (0, u "()V"), (0, .fieldref 8 9), (0, .class_ 10), (0, .nameAndType 11 12), (0, u "com/example/libclearance/libclearance/xpath/Comparison"), (0, u "EQUAL"), (0, u "Lcom/example/libclearance/libclearance/xpath/Comparison;"), (0, .fieldref 8 14), (0, .nameAndType 15 12), (0, u "NOT_EQUAL"), (0, .methodref 8 17), (0, .nameAndType 18 19), (0, u "holds"), (0, u "(Z)Z"), (0, .methodref 8 21), (0, .nameAndType 18 22), (0, u "(DD)Z"), (0, .class_ 24), (0, u "com/example/libclearance/libclearance/xpath/ComparisonHolds439PinLaw"), (2, u "law"), (0, u "(III)Z")] 3

def k1m0 : Method := { name := "<init>", desc := "()V", sig := { parameters := [], returnType := none }, accessFlags := 1, code := none }
def k1c1 : Code := { maxStack := 5, maxLocals := 9, code := code, exceptionTable := #[], attributes := #[] }
def k1m1 : Method := { name := "law", desc := "(III)Z", sig := { parameters := [.int, .int, .int], returnType := some .boolean }, accessFlags := 9, code := some k1c1 }
/-- com/example/libclearance/libclearance/xpath/ComparisonHolds439PinLaw -/
def k1 : Class := { plain "com/example/libclearance/libclearance/xpath/ComparisonHolds439PinLaw" (some 0) with
  accessFlags := 49
  interfaces := #[]
  cf := some (fileOf pool1 23 #[] #[{ accessFlags := 1, nameIndex := 5, descriptorIndex := 6, attributes := #[] }, { accessFlags := 9, nameIndex := 27, descriptorIndex := 28, attributes := #[] }] 49 2 #[] #[])
  fields := #[]
  methods := #[k1m0, k1m1]
  instanceTypes := #[]
  staticTypes := #[]
  resolved := Array.replicate 32 none
  statics := none }

def pool2 : Array CpInfo := pool [(1, .class_ 2), (0, u "java/lang/constant/Constable"), (0, .class_ 4), (0, u "java/lang/Object")] 6

/-- java/lang/constant/Constable -/
def k2 : Class := { plain "java/lang/constant/Constable" (some 0) with
  accessFlags := 1537
  interfaces := #[]
  cf := some (fileOf pool2 1 #[] #[] 1537 3 #[] #[])
  fields := #[]
  methods := #[]
  instanceTypes := #[]
  staticTypes := #[]
  resolved := Array.replicate 11 none
  statics := none }

def pool3 : Array CpInfo := pool [(1, .class_ 2), (0, u "java/lang/Comparable"), (0, .class_ 4), (0, u "java/lang/Object")] 7

/-- java/lang/Comparable -/
def k3 : Class := { plain "java/lang/Comparable" (some 0) with
  accessFlags := 1537
  interfaces := #[]
  cf := some (fileOf pool3 1 #[] #[] 1537 3 #[] #[])
  fields := #[]
  methods := #[]
  instanceTypes := #[]
  staticTypes := #[]
  resolved := Array.replicate 12 none
  statics := none }

def pool4 : Array CpInfo := pool [(1, .class_ 2), (0, u "java/io/Serializable"), (0, .class_ 4), (0, u "java/lang/Object")] 2

/-- java/io/Serializable -/
def k4 : Class := { plain "java/io/Serializable" (some 0) with
  accessFlags := 1537
  interfaces := #[]
  cf := some (fileOf pool4 1 #[] #[] 1537 3 #[] #[])
  fields := #[]
  methods := #[]
  instanceTypes := #[]
  staticTypes := #[]
  resolved := Array.replicate 7 none
  statics := none }

def pool5 : Array CpInfo := pool [(2, .class_ 4), (1, u "java/lang/Enum"), (0, u "name"), (0, u "Ljava/lang/String;"), (2, u "ordinal"), (0, u "I"), (1, .class_ 14), (1, u "java/lang/Object"), (4, u "hash"), (86, .class_ 108), (1, u "java/lang/Enum$EnumDesc"), (2, .class_ 112), (0, u "java/lang/constant/Constable"), (0, .class_ 114), (0, u "java/lang/Comparable"), (0, .class_ 116), (0, u "java/io/Serializable")] 87

/-- java/lang/Enum -/
def k5 : Class := { plain "java/lang/Enum" (some 0) with
  accessFlags := 1057
  interfaces := #[2, 3, 4]
  cf := some (fileOf pool5 2 #[.nestMembers #[106]] #[] 1057 12 #[111, 113, 115] #[{ accessFlags := 18, nameIndex := 5, descriptorIndex := 6, attributes := #[] }, { accessFlags := 18, nameIndex := 9, descriptorIndex := 10, attributes := #[] }, { accessFlags := 2, nameIndex := 19, descriptorIndex := 10, attributes := #[] }])
  fields := #[{ name := "name", type := (.object "java/lang/String"), accessFlags := 18, slot := 0, constantValue := 0 }, { name := "ordinal", type := .int, accessFlags := 18, slot := 1, constantValue := 0 }, { name := "hash", type := .int, accessFlags := 2, slot := 2, constantValue := 0 }]
  methods := #[]
  instanceTypes := #[(.object "java/lang/String"), .int, .int]
  staticTypes := #[]
  resolved := Array.replicate 204 none
  statics := none }

def pool6 : Array CpInfo := pool [(1, .class_ 2), (0, u "com/example/libclearance/libclearance/xpath/Comparison"), (0, .fieldref 1 4), (0, .nameAndType 5 6), (0, u "EQUAL"), (0, u "Lcom/example/libclearance/libclearance/xpath/Comparison;"), (0, .fieldref 1 8), (0, .nameAndType 9 6), (0, u "NOT_EQUAL"), (2, u "LESS"), (2, u "LESS_OR_EQUAL"), (2, u "GREATER"), (2, u "GREATER_OR_EQUAL"), (2, u "$VALUES"), (0, u "[Lcom/example/libclearance/libclearance/xpath/Comparison;"), (6, .class_ 34), (1, u "java/lang/Enum"), (8, u "written"), (0, u "Ljava/lang/String;"), (43, u "holds"), (0, u "(DD)Z"), (0, u "(Z)Z")] 5

def k6c0 : Code := { maxStack := 4, maxLocals := 6, code := prog_88_method_6_code, exceptionTable := #[], attributes := #[] }
def k6m0 : Method := { name := "holds", desc := "(DD)Z", sig := { parameters := [.double, .double], returnType := some .boolean }, accessFlags := 0, code := some k6c0 }
def k6c1 : Code := { maxStack := 2, maxLocals := 2, code := prog_88_method_7_code, exceptionTable := #[], attributes := #[] }
def k6m1 : Method := { name := "holds", desc := "(Z)Z", sig := { parameters := [.boolean], returnType := some .boolean }, accessFlags := 0, code := some k6c1 }
/-- com/example/libclearance/libclearance/xpath/Comparison -/
def k6 : Class := { plain "com/example/libclearance/libclearance/xpath/Comparison" (some 5) with
  accessFlags := 16432
  interfaces := #[]
  cf := some (fileOf pool6 1 #[] #[{ accessFlags := 0, nameIndex := 88, descriptorIndex := 89, attributes := #[] }, { accessFlags := 0, nameIndex := 88, descriptorIndex := 90, attributes := #[] }] 16432 32 #[] #[{ accessFlags := 16409, nameIndex := 5, descriptorIndex := 6, attributes := #[] }, { accessFlags := 16409, nameIndex := 9, descriptorIndex := 6, attributes := #[] }, { accessFlags := 16409, nameIndex := 12, descriptorIndex := 6, attributes := #[] }, { accessFlags := 16409, nameIndex := 15, descriptorIndex := 6, attributes := #[] }, { accessFlags := 16409, nameIndex := 18, descriptorIndex := 6, attributes := #[] }, { accessFlags := 16409, nameIndex := 21, descriptorIndex := 6, attributes := #[] }, { accessFlags := 18, nameIndex := 43, descriptorIndex := 44, attributes := #[] }, { accessFlags := 4122, nameIndex := 24, descriptorIndex := 25, attributes := #[] }])
  fields := #[{ name := "EQUAL", type := (.object "com/example/libclearance/libclearance/xpath/Comparison"), accessFlags := 16409, slot := 0, constantValue := 0 }, { name := "NOT_EQUAL", type := (.object "com/example/libclearance/libclearance/xpath/Comparison"), accessFlags := 16409, slot := 1, constantValue := 0 }, { name := "LESS", type := (.object "com/example/libclearance/libclearance/xpath/Comparison"), accessFlags := 16409, slot := 2, constantValue := 0 }, { name := "LESS_OR_EQUAL", type := (.object "com/example/libclearance/libclearance/xpath/Comparison"), accessFlags := 16409, slot := 3, constantValue := 0 }, { name := "GREATER", type := (.object "com/example/libclearance/libclearance/xpath/Comparison"), accessFlags := 16409, slot := 4, constantValue := 0 }, { name := "GREATER_OR_EQUAL", type := (.object "com/example/libclearance/libclearance/xpath/Comparison"), accessFlags := 16409, slot := 5, constantValue := 0 }, { name := "written", type := (.object "java/lang/String"), accessFlags := 18, slot := 3, constantValue := 0 }, { name := "$VALUES", type := (.array (.object "com/example/libclearance/libclearance/xpath/Comparison")), accessFlags := 4122, slot := 6, constantValue := 0 }]
  methods := #[k6m0, k6m1]
  instanceTypes := #[(.object "java/lang/String"), .int, .int, (.object "java/lang/String")]
  staticTypes := #[(.object "com/example/libclearance/libclearance/xpath/Comparison"), (.object "com/example/libclearance/libclearance/xpath/Comparison"), (.object "com/example/libclearance/libclearance/xpath/Comparison"), (.object "com/example/libclearance/libclearance/xpath/Comparison"), (.object "com/example/libclearance/libclearance/xpath/Comparison"), (.object "com/example/libclearance/libclearance/xpath/Comparison"), (.array (.object "com/example/libclearance/libclearance/xpath/Comparison"))]
  resolved := Array.replicate 96 none
  statics := some 0 }

def pool7 : Array CpInfo := pool [(1, u "java/lang/Cloneable"), (0, .class_ 1), (0, u "java/lang/Object"), (0, .class_ 3)] 3

/-- java/lang/Cloneable -/
def k7 : Class := { plain "java/lang/Cloneable" (some 0) with
  accessFlags := 1537
  interfaces := #[]
  cf := some (fileOf pool7 2 #[] #[] 1537 4 #[] #[])
  fields := #[]
  methods := #[]
  instanceTypes := #[]
  staticTypes := #[]
  resolved := Array.replicate 8 none
  statics := none }

/-- the primitive byte -/
def k8 : Class := { plain "byte" none with kind := .primitive 'B', accessFlags := 0x411 }
/-- [B -/
def k9 : Class := { plain "[B" (some 0) with kind := .array 8 .byte, interfaces := #[7, 4], accessFlags := 1041 }

/-- the primitive int -/
def k10 : Class := { plain "int" none with kind := .primitive 'I', accessFlags := 0x411 }
/-- [I -/
def k11 : Class := { plain "[I" (some 0) with kind := .array 10 .int, interfaces := #[7, 4], accessFlags := 1041 }

def heap : Heap := #[{ cls := 6, slots := #[.ref 1, .ref 2, .null, .null, .null, .null, .null], vm := .statics 6 },
  { cls := 6, slots := #[.null, .int 0, .int 0, .null], vm := .none },
  { cls := 6, slots := #[.null, .int 1, .int 0, .null], vm := .none }]
def classes : Array Class := #[k0, k1, k2, k3, k4, k5, k6, k7, k8, k9, k10, k11]
def interned : List (Array UInt16 × Addr) := []
def slotsUsed : Nat := 15
def theMethod : MethodId := ⟨1, 1⟩
def args0 : Array Value := #[.int 0, .int 5, .int 6]
def aboutOver (below : List Frame) : State where
  vm := { classes := classes, interned := interned.toArray }
  heap := heap
  slotsUsed := slotsUsed
  threads := #[{ frames := .invoking theMethod args0 :: below }]
def below0 : List Frame := [.native { method := ⟨0, 0⟩, args := #[] }]
def about1 : State := aboutOver below0
def p0 : Program := .bare "" "" ""
def e0 : Env := launch0.env 0 0 0
theorem w_frames : about1.frames = Frame.invoking theMethod args0 :: below0 := rfl
set_option maxRecDepth 65536 in
theorem w_args : argsFit about1.vm theMethod args0 = true := by decide +kernel
set_option maxRecDepth 65536 in
theorem w_heap : heapFits about1 = true := by decide +kernel
set_option maxRecDepth 65536 in
theorem w_runnable : about1.curStatus? = some .runnable := by decide +kernel
set_option maxRecDepth 65536 in
theorem w_alone : about1.alone = true := by decide +kernel
set_option maxRecDepth 65536 in
theorem w_named : about1.methodNamed? x = some theMethod := by decide +kernel
set_option maxRecDepth 65536 in
theorem w_hears : about1.hears theMethod below0 = true := by decide +kernel
set_option maxRecDepth 65536 in
theorem w_ripe : about1.ripe theMethod args0 below0 = true := by decide +kernel
theorem w_running : about1.status = .running := rfl
set_option maxRecDepth 65536 in
theorem w_room : about1.hasRoom e0.platform room_1 = true :=
  launch0.hasRoom_least _ room_1 (by decide +kernel) (by decide +kernel) (by decide +kernel) (by decide +kernel) (by decide +kernel) (by decide +kernel)
theorem allAtoms_all (ts : List Jvm.Cond) (a : Array Jvm.Value) (st : Jvm.State) : (allAtoms ts).before a st = ts.all (fun c => c.before a st) := by
  induction ts with
  | nil => rfl
  | cons c t ih =>
    show (Jvm.Cond.and c (allAtoms t)).before a st = _
    rw [Jvm.Cond.before_and, ih, List.all_cons]
def words1 : List Jvm.Cond := Jvm.Cond.code x code maxLocals ret :: tables_1
/-- a 'code' word, met by the world's own term for the bytes: nothing is compared byte by byte -/
theorem code_word {y : MethodName} {bytes : ByteArray} {mx : Nat} {rt : Option FieldType} {a : Array Value} {s : State} {m : MethodId} {meth : Method} {c : Code} (h1 : s.methodNamed? y = some m) (h2 : s.vm.method? m = some meth) (h3 : meth.code = some c) (h4 : c.code = bytes)
    (h5 : (c.maxLocals == mx && c.exceptionTable.isEmpty && decide (c.maxStack ≤ mostOperands) && decide (meth.sig.returnType = rt) && !meth.locks && decide (parseMethodDescriptor y.desc = some meth.sig)) = true) : (Jvm.Cond.code y bytes mx rt).before a s = true := by
  simp only [Bool.and_eq_true, beq_iff_eq, Bool.not_eq_true', decide_eq_true_eq] at h5
  obtain ⟨⟨⟨⟨⟨g1, g2⟩, g3⟩, g4⟩, g5⟩, g6⟩ := h5
  simp [Cond.before, Cond.holds, Cond.value, h1, h2, h3, h4, g1, g2, g3, g4, g5, g6]
def isCode : Jvm.Cond → Bool
  | .code _ _ _ _ => true
  | _ => false
theorem all_split {L : List Jvm.Cond} {P : Jvm.Cond → Bool} (h1 : L.all (fun c => isCode c || P c) = true) (h2 : ∀ c ∈ L.filter isCode, P c = true) : L.all P = true := by
  refine List.all_eq_true.mpr fun c hc => ?_
  have h := List.all_eq_true.mp h1 c hc
  rcases Bool.eq_false_or_eq_true (isCode c) with hi | hi
  · exact h2 c (List.mem_filter.mpr ⟨hc, hi⟩)
  · simpa [hi] using h
set_option maxRecDepth 65536 in
theorem w_c0 : (Jvm.Cond.code x code maxLocals ret).before args0 about1 = true := code_word (m := ⟨1, 1⟩) (meth := k1m1) (c := k1c1) (by decide +kernel) rfl rfl rfl (by decide +kernel)
set_option maxRecDepth 65536 in
theorem w_c1 : (Jvm.Cond.code ({ cls := "com/example/libclearance/libclearance/xpath/Comparison", name := "holds", desc := "(Z)Z" } : Jvm.MethodName) prog_88_method_7_code (2 : Nat) (Option.some Jvm.ClassFile.FieldType.boolean)).before args0 about1 = true := code_word (m := ⟨6, 1⟩) (meth := k6m1) (c := k6c1) (by decide +kernel) rfl rfl rfl (by decide +kernel)
set_option maxRecDepth 65536 in
theorem w_c2 : (Jvm.Cond.code ({ cls := "com/example/libclearance/libclearance/xpath/Comparison", name := "holds", desc := "(DD)Z" } : Jvm.MethodName) prog_88_method_6_code (6 : Nat) (Option.some Jvm.ClassFile.FieldType.boolean)).before args0 about1 = true := code_word (m := ⟨6, 0⟩) (meth := k6m0) (c := k6c0) (by decide +kernel) rfl rfl rfl (by decide +kernel)
def codes1 : List Jvm.Cond := [Jvm.Cond.code x code maxLocals ret, Jvm.Cond.code ({ cls := "com/example/libclearance/libclearance/xpath/Comparison", name := "holds", desc := "(Z)Z" } : Jvm.MethodName) prog_88_method_7_code (2 : Nat) (Option.some Jvm.ClassFile.FieldType.boolean), Jvm.Cond.code ({ cls := "com/example/libclearance/libclearance/xpath/Comparison", name := "holds", desc := "(DD)Z" } : Jvm.MethodName) prog_88_method_6_code (6 : Nat) (Option.some Jvm.ClassFile.FieldType.boolean)]
set_option maxRecDepth 65536 in
theorem codes_eq : words1.filter isCode = codes1 := rfl
theorem w_codes : ∀ c ∈ words1.filter isCode, c.before args0 about1 = true := by
  rw [codes_eq]
  intro c hc
  simp only [codes1, List.mem_cons, List.not_mem_nil, or_false] at hc
  rcases hc with rfl | rfl | rfl
  · exact w_c0
  · exact w_c1
  · exact w_c2
set_option maxRecDepth 65536 in
theorem w_t1 : words1.all (fun c => isCode c || c.before args0 about1) = true := by decide +kernel
theorem w_tables : (allAtoms (Jvm.Cond.code x code maxLocals ret :: tables_1)).before args0 about1 = true := by
  rw [allAtoms_all]
  show words1.all (fun c => c.before args0 about1) = true
  refine all_split ?_ w_codes
  rw [w_t1]
set_option maxRecDepth 65536 in
theorem w_case : (Jvm.Cond.and given_1 narrow_1).before args0 about1 = true := by decide +kernel
theorem w_applies : (headSpec (Jvm.Cond.code x code maxLocals ret :: tables_1) room_1).applies x e0.platform about1 = true :=
  (Spec.applies_iff w_frames).mpr ⟨w_running, w_runnable, w_alone, w_named, w_hears, w_ripe, w_room, w_tables⟩
theorem atStart : AtStart classFile x code maxLocals ret World_1 tables_1 room_1 Calls_1 rest_1 Pre_1 launch0 p0 e0 about1 theMethod args0 below0 :=
  ⟨lists_1, trivial, launch0.admits_env _ _ _, launch0.least_env, fairChoices_fair.cas, fairChoices_fair.clock, w_frames, w_args, w_heap, w_applies, trivial, trivial, w_case⟩
end start1
theorem witness_1 : WitnessClaimed_1 := ⟨start1.p0, start1.e0, start1.about1, start1.theMethod, start1.args0, start1.below0, start1.atStart⟩
end Jvm.Pilot.@@N@@
