import JvmDerived
import JvmDerived.Pilot.@@N@@Statement
import JvmDerived.Pilot.@@N@@Code
set_option linter.unusedVariables false
set_option linter.unusedSimpArgs false
namespace Jvm.Pilot.@@N@@
open Jvm Jvm.ClassFile Sem Op Lib Jvm.Free Jvm.Stand Jvm.LawKit Jvm.RoadKit Bundle Jvm.Pilot.@@N@@.Jvm.D
set_option maxRecDepth 4000
section OwnKit
/-- the goal of a walk: from S the run comes to a return that Q allows, and nothing old is touched -/
def own_Gl (p : Program) (e : Env) (below : List Frame) (s : State) (Q : Option Value → Heap → List Loc → Prop) (kc ks : Nat) (S : State) : Prop :=
  ∃ s₂ o, Steps p.tables e below S s₂ ∧ s₂.status = .running ∧ Ended s₂ below o ∧ ∃ v L, o = .returned v ∧ Q v s₂.heap L ∧ FrameEnd s o s₂ L kc ks
variable {p : Program} {l : Launch} {e : Env} {R : Room} {s : State} {m : MethodId} {args : Array Value} {below : List Frame} {meth : Method} {c : Code} {T : State} {locs : List Loc} {cells slots : Nat} {Z : State} {a0 : Array Value} {h : Heap} {Q : Option Value → Heap → List Loc → Prop} {kc ks : Nat} {pc pc' : Nat} {L L' : Array Slot} {S : List Value}
theorem own_Gl.go {S S' : State} (h : own_Gl p e below s Q kc ks S') (st : ∀ t, Steps p.tables e below S' t → Steps p.tables e below S t) : own_Gl p e below s Q kc ks S := by
  obtain ⟨s₂, o, h1, h2⟩ := h
  exact ⟨s₂, o, st _ h1, h2⟩
/-- what a method leaves that writes nothing and makes nothing -/
def own_Pure (w : Option Value) (h0 : Heap) (v : Option Value) (h : Heap) (L : List Loc) : Prop := v = w ∧ L = [] ∧ h = h0
theorem own_body {l : Launch} {Z : State} {y : MethodName} {bytes : ByteArray} {maxL : Nat} {ret : Option FieldType} {ws : List Jvm.Cond} {rm : Room} {as' : Array Value} {h0 : Heap} {Q : Option Value → Heap → List Loc → Prop} {L0 : Array Slot} {own : String}
    (hpl : plainFor y = true) (hyc : y.cls = own) (hef : ∀ m, entryFrame m as' maxL = mkF m 0 L0 [])
    (body : ∀ p e s m below meth c T, p.tables.exec = Jvm.exec → c.code = bytes → c.maxLocals = maxL → s.vm.findClass own = some m.cls → meth.name = y.name → meth.locks = false → meth.sig.returnType = ret → Z.Warmed39 s.vm → Stand p l e rm s m as' below meth c T [] 0 0 → T.heap = h0 →
      own_Gl p e below s Q rm.cells rm.slots (T.setTop (mkF m 0 L0 []))) :
    MetFree l y (head1 (Jvm.Cond.code y bytes maxL ret :: ws) rm) (fun a U => a = as' ∧ Z.Warmed39 U.vm ∧ U.heap = h0) (fun _ _ _ _ _ => True) (fun _ U o U' => ∃ v L, o = .returned v ∧ Q v U'.heap L ∧ FrameEnd U o U' L rm.cells rm.slots) := by
  refine MetFree.of_bodySF hpl hisR ?_
  intro p e s m args below meth c s₁ Bd hml0 hP hK
  obtain ⟨rfl, hZ, hh⟩ := hP
  have hown : s.vm.findClass y.cls = some m.cls := findClass_of_methodNamed Bd.named
  have hnm := (name_of_methodNamed Bd.named Bd.method).1
  have X0 : Stand p l e rm s m _ below meth c s₁ [] 0 0 := Stand.of_body Bd
  have e0 : s₁.heap = h0 := by rw [← hh, Bd.state]; rfl
  obtain ⟨s₂, o, h1, h2⟩ := body p e s m below meth c s₁ Bd.exec Bd.bytes hml0 (hyc ▸ hown) hnm Bd.notSynchronized Bd.returns hZ X0 e0
  exact ⟨s₂, o, castTop (hef m) h1, h2⟩
theorem own_ret (X : Stand p l e R s m args below meth c T locs cells slots) (hlk : meth.locks = false) {v : Option Value} (hv : meth.sig.returnType = none → v = none) (hQ : Q v T.heap locs) (hc : cells ≤ kc) (hs : slots ≤ ks) {S : State}
    (st : ∀ fs, (∀ (f : JFrame) (acts : List Action), f.method = m → f.locked = none → f.entered = [] → (doReturn e (T.setTop f) acts v).1 = T.setFrames fs) → Steps p.tables e below S (T.setFrames fs)) : own_Gl p e below s Q kc ks S := by
  obtain ⟨fs, hr, hrun, hended, hW, hsame⟩ := X.leave (v := v) hv hlk
  exact ⟨_, _, st fs hr, hrun, hended, v, locs, rfl, hQ, ⟨_, rfl⟩, hW, hsame.mono hc hs⟩
theorem g_retI (X : Stand p l e R s m args below meth c T locs cells slots) (hx : p.tables.exec = Jvm.exec) (hlk : meth.locks = false) {z : Int32} (hret : meth.sig.returnType = some .int) (hd : decode c.code pc = .ok (.ireturn, 1)) (hc : cells ≤ kc) (hs : slots ≤ ks) (hQ : Q (some (.int z)) T.heap locs) :
    own_Gl p e below s Q kc ks (T.setTop (mkF m pc L (.int z :: S))) :=
  own_ret X hlk (fun h => by rw [hret] at h; cases h) hQ hc hs fun fs hr => retOut X hx hret rfl (Or.inl ⟨rfl, Or.inl rfl, z, rfl⟩) hd hr
theorem g_retN (X : Stand p l e R s m args below meth c T locs cells slots) (hx : p.tables.exec = Jvm.exec) (hlk : meth.locks = false) {z z' : Int32} {t : FieldType} (hret : meth.sig.returnType = some t) (ht : t = .boolean ∨ t = .byte ∨ t = .char ∨ t = .short) (hz : nar t z = z') (hd : decode c.code pc = .ok (.ireturn, 1)) (hc : cells ≤ kc) (hs : slots ≤ ks) (hQ : Q (some (.int z')) T.heap locs) :
    own_Gl p e below s Q kc ks (T.setTop (mkF m pc L (.int z :: S))) := by
  subst hz
  exact own_ret X hlk (fun h => by rw [hret] at h; cases h) hQ hc hs fun fs hr => retN X hx hret ht hd hr
theorem g_retL (X : Stand p l e R s m args below meth c T locs cells slots) (hx : p.tables.exec = Jvm.exec) (hlk : meth.locks = false) {z : Int64} (hret : meth.sig.returnType = some .long) (hd : decode c.code pc = .ok (.lreturn, 1)) (hc : cells ≤ kc) (hs : slots ≤ ks) (hQ : Q (some (.long z)) T.heap locs) :
    own_Gl p e below s Q kc ks (T.setTop (mkF m pc L (.long z :: S))) :=
  own_ret X hlk (fun h => by rw [hret] at h; cases h) hQ hc hs fun fs hr => retOut X hx hret rfl (Or.inr (Or.inl ⟨rfl, rfl, z, rfl⟩)) hd hr
theorem g_retV (X : Stand p l e R s m args below meth c T locs cells slots) (hx : p.tables.exec = Jvm.exec) (hlk : meth.locks = false) (hret : meth.sig.returnType = none) (hd : decode c.code pc = .ok (.return_, 1)) (hc : cells ≤ kc) (hs : slots ≤ ks) (hQ : Q none T.heap locs) :
    own_Gl p e below s Q kc ks (T.setTop (mkF m pc L [])) :=
  own_ret X hlk (fun _ => rfl) hQ hc hs fun fs hr => X.returnOut hx hret hd hr
/-- a static call by the callee's contract -/
theorem g_callS (X : Stand p l e R s m args below meth c T locs cells slots) (hx : p.tables.exec = Jvm.exec) (hZ : Z.Warmed39 s.vm) {own : String} {index : Nat} {y : MethodName} {bytes : ByteArray} {maxL : Nat} {ret : Option FieldType} (hown : s.vm.findClass own = some m.cls)
    (w1 : (Jvm.Cond.methodLink own index y).before a0 Z = true) (w2 : (Jvm.Cond.static y).before a0 Z = true) (w3 : (Jvm.Cond.initialized y.cls).before a0 Z = true) (w4 : (Jvm.Cond.code y bytes maxL ret).before a0 Z = true) (hy : y.cls ≠ "java/lang/invoke/MethodHandle" ∧ y.cls ≠ "java/lang/invoke/VarHandle")
    {rm : Room} {as' : Array Value} {Qc : Option Value → Heap → List Loc → Prop}
    (hM : MetFree l y (head1 [Jvm.Cond.code y bytes maxL ret] rm) (fun a U => a = as' ∧ Z.Warmed39 U.vm ∧ U.heap = h) (fun _ _ _ _ _ => True) (fun _ U o U' => ∃ v L, o = .returned v ∧ Qc v U'.heap L ∧ FrameEnd U o U' L rm.cells rm.slots))
    (W : Nat) (hf : rm.frames + 1 ≤ R.frames) (hl : W + (maxL + 11) + rm.locals ≤ R.locals) (eT : T.heap = h) (hsize : L.size = c.maxLocals) (argsL rest : List Value) (hlen : ∀ sig, parseMethodDescriptor y.desc = some sig → argsL.length = sig.parameters.length)
    (hst : S = argsL.reverse ++ rest) (has : argsL.toArray = as') (hW : (rest.map fun v => v.category).sum ≤ W) (hd : decode c.code pc = .ok (.invokestatic index, 3)) (hp : pc + 3 = pc') {cells' slots' : Nat} (hcc : cells + rm.cells = cells') (hss : slots + rm.slots = slots') (hcl : cells' ≤ R.cells) (hsl : slots' ≤ R.slots)
    (k : ∀ (v : Option Value) (T' : State) (L' : List Loc), Stand p l e R s m args below meth c T' (locs ++ L') cells' slots' → Qc v T'.heap L' → own_Gl p e below s Q kc ks (T'.setTop (mkF m pc' L (v.toList ++ rest)))) :
    own_Gl p e below s Q kc ks (T.setTop (mkF m pc L S)) := by
  subst hp hst hcc hss
  obtain ⟨v, _, ⟨T', L', k', n'⟩, -, X', ⟨Lc, hQ, l', y', z'⟩, st⟩ := Jvm.LawKit.callS X hx (y := y) hown (mvT hZ w1) (mvT hZ w2) (mvT hZ w3) (mvT hZ w4) hy (backOf (W := W) hM hZ w4 w3 hf hl) (g := mkF m pc L (argsL.reverse ++ rest)) rfl hsize (argsL := argsL) (rest := rest) hlen rfl (by show 2 * 0 + _ ≤ _; omega) hd (fun _ _ => ⟨has, eT, hcl, hsl⟩)
  dsimp only [Pt.U, Pt.locs, Pt.cells, Pt.slots] at X' l' y' z' st hQ
  subst l' y' z'
  exact (k v T' Lc X' hQ).go st
/-- the same of a method that writes nothing -/
theorem g_callP (X : Stand p l e R s m args below meth c T locs cells slots) (hx : p.tables.exec = Jvm.exec) (hZ : Z.Warmed39 s.vm) {own : String} {index : Nat} {y : MethodName} {bytes : ByteArray} {maxL : Nat} {ret : Option FieldType} (hown : s.vm.findClass own = some m.cls)
    (w1 : (Jvm.Cond.methodLink own index y).before a0 Z = true) (w2 : (Jvm.Cond.static y).before a0 Z = true) (w3 : (Jvm.Cond.initialized y.cls).before a0 Z = true) (w4 : (Jvm.Cond.code y bytes maxL ret).before a0 Z = true) (hy : y.cls ≠ "java/lang/invoke/MethodHandle" ∧ y.cls ≠ "java/lang/invoke/VarHandle")
    {fr lo : Nat} {as' : Array Value} {w : Option Value}
    (hM : MetFree l y (head1 [Jvm.Cond.code y bytes maxL ret] ({ frames := fr, cells := 0, slots := 0, locals := lo } : Room)) (fun a U => a = as' ∧ Z.Warmed39 U.vm ∧ U.heap = h) (fun _ _ _ _ _ => True) (fun _ U o U' => ∃ v L, o = .returned v ∧ own_Pure w h v U'.heap L ∧ FrameEnd U o U' L ({ frames := fr, cells := 0, slots := 0, locals := lo } : Room).cells ({ frames := fr, cells := 0, slots := 0, locals := lo } : Room).slots))
    (W : Nat) (hf : fr + 1 ≤ R.frames) (hl : W + (maxL + 11) + lo ≤ R.locals) (eT : T.heap = h) (hsize : L.size = c.maxLocals) (argsL rest : List Value) (hlen : ∀ sig, parseMethodDescriptor y.desc = some sig → argsL.length = sig.parameters.length)
    (hst : S = argsL.reverse ++ rest) (has : argsL.toArray = as') (hW : (rest.map fun v => v.category).sum ≤ W) (hd : decode c.code pc = .ok (.invokestatic index, 3)) (hp : pc + 3 = pc') (hcl : cells ≤ R.cells) (hsl : slots ≤ R.slots)
    (k : ∀ (T' : State), Stand p l e R s m args below meth c T' locs cells slots → T'.heap = h → own_Gl p e below s Q kc ks (T'.setTop (mkF m pc' L (w.toList ++ rest)))) :
    own_Gl p e below s Q kc ks (T.setTop (mkF m pc L S)) := by
  refine g_callS X hx hZ hown w1 w2 w3 w4 hy hM W hf hl eT hsize argsL rest hlen hst has hW hd hp (cells' := cells) (slots' := slots) rfl rfl hcl hsl ?_
  intro v T' L' X' hQ
  obtain ⟨rfl, rfl, e'⟩ := hQ
  rw [List.append_nil] at X'
  exact k T' X' e'
theorem own_tltL {x y : Int64} (h : x < y) : ifCond.holds .lt (lcmpW x y) = true ∧ ifCond.holds .ge (lcmpW x y) = false ∧ ifCond.holds .gt (lcmpW y x) = true ∧ ifCond.holds .le (lcmpW y x) = false := by
  have h1 := (lw_lt x y).mpr h
  have h2 := (lw_gt y x).mpr h
  rw [if0, if0, if0, if0]
  exact ⟨(tlt h1).1, (tlt h1).2.1, (tlt h2).2.2.1, (tlt h2).2.2.2⟩
theorem own_fltL {x y : Int64} (h : ¬ x < y) : ifCond.holds .lt (lcmpW x y) = false ∧ ifCond.holds .ge (lcmpW x y) = true ∧ ifCond.holds .gt (lcmpW y x) = false ∧ ifCond.holds .le (lcmpW y x) = true := by
  have h1 := fun q => h ((lw_lt x y).mp q)
  have h2 := fun q => h ((lw_gt y x).mp q)
  rw [if0, if0, if0, if0]
  exact ⟨(flt h1).1, (flt h1).2.1, (flt h2).2.2.1, (flt h2).2.2.2⟩
theorem own_teqL {x y : Int64} (h : x = y) : ifCond.holds .eq (lcmpW x y) = true ∧ ifCond.holds .ne (lcmpW x y) = false := by
  have h1 := (lw_eq x y).mpr h
  rw [if0, if0]
  exact ⟨(teq h1).1, (teq h1).2⟩
theorem own_feqL {x y : Int64} (h : ¬ x = y) : ifCond.holds .eq (lcmpW x y) = false ∧ ifCond.holds .ne (lcmpW x y) = true := by
  have h1 := fun q => h ((lw_eq x y).mp q)
  rw [if0, if0]
  exact ⟨(feq h1).1, (feq h1).2⟩
theorem g_iloadN (h : At T m c below) (hx : p.tables.exec = Jvm.exec) {j : Fin 4} {v : Int32} (hd : decode c.code pc = .ok (.iload_n j, 1)) (hp : pc + 1 = pc') (hl : L[j.val]? = some (.val (.int v))) (hr : own_Gl p e below s Q kc ks (T.setTop (mkF m pc' L (.int v :: S)))) : own_Gl p e below s Q kc ks (T.setTop (mkF m pc L S)) := by
  subst hp; exact hr.go fun t k => XS.iloadN h hx rfl hd hl k
theorem g_lloadN (h : At T m c below) (hx : p.tables.exec = Jvm.exec) {j : Fin 4} {v : Int64} (hd : decode c.code pc = .ok (.lload_n j, 1)) (hp : pc + 1 = pc') (hl : L[j.val]? = some (.val (.long v))) (hr : own_Gl p e below s Q kc ks (T.setTop (mkF m pc' L (.long v :: S)))) : own_Gl p e below s Q kc ks (T.setTop (mkF m pc L S)) := by
  subst hp; exact hr.go fun t k => XS.lloadN h hx rfl hd hl k
theorem g_aloadN (h : At T m c below) (hx : p.tables.exec = Jvm.exec) {j : Fin 4} {v : Value} (hd : decode c.code pc = .ok (.aload_n j, 1)) (hp : pc + 1 = pc') (hl : L[j.val]? = some (.val v)) (hv : v.isRef = true) (hr : own_Gl p e below s Q kc ks (T.setTop (mkF m pc' L (v :: S)))) : own_Gl p e below s Q kc ks (T.setTop (mkF m pc L S)) := by
  subst hp; exact hr.go fun t k => XS.aloadN h hx rfl hd hl hv k
theorem g_istoreN (h : At T m c below) (hx : p.tables.exec = Jvm.exec) {j : Fin 4} {v : Int32} (hd : decode c.code pc = .ok (.istore_n j, 1)) (hp : pc + 1 = pc') (hl : storeLocals L j.val (.int v) = some L') (hr : own_Gl p e below s Q kc ks (T.setTop (mkF m pc' L' S))) : own_Gl p e below s Q kc ks (T.setTop (mkF m pc L (.int v :: S))) := by
  subst hp; exact hr.go fun t k => XS.istoreN h hx rfl hd rfl hl k
theorem g_lstoreN (h : At T m c below) (hx : p.tables.exec = Jvm.exec) {j : Fin 4} {v : Int64} (hd : decode c.code pc = .ok (.lstore_n j, 1)) (hp : pc + 1 = pc') (hl : storeLocals L j.val (.long v) = some L') (hr : own_Gl p e below s Q kc ks (T.setTop (mkF m pc' L' S))) : own_Gl p e below s Q kc ks (T.setTop (mkF m pc L (.long v :: S))) := by
  subst hp; exact hr.go fun t k => XS.lstoreN h hx rfl hd rfl hl k
theorem g_astoreN (h : At T m c below) (hx : p.tables.exec = Jvm.exec) {j : Fin 4} {v : Value} (hd : decode c.code pc = .ok (.astore_n j, 1)) (hp : pc + 1 = pc') (hv : v.isRef = true) (hl : storeLocals L j.val v = some L') (hr : own_Gl p e below s Q kc ks (T.setTop (mkF m pc' L' S))) : own_Gl p e below s Q kc ks (T.setTop (mkF m pc L (v :: S))) := by
  subst hp; exact hr.go fun t k => XS.astoreN h hx rfl hd rfl hv hl k
theorem g_iload (h : At T m c below) (hx : p.tables.exec = Jvm.exec) {j : Nat} {v : Int32} (hd : decode c.code pc = .ok (.iload j, 2)) (hp : pc + 2 = pc') (hl : L[j]? = some (.val (.int v))) (hr : own_Gl p e below s Q kc ks (T.setTop (mkF m pc' L (.int v :: S)))) : own_Gl p e below s Q kc ks (T.setTop (mkF m pc L S)) := by
  subst hp; exact hr.go fun t k => XS.iload h hx rfl hd hl k
theorem g_lload (h : At T m c below) (hx : p.tables.exec = Jvm.exec) {j : Nat} {v : Int64} (hd : decode c.code pc = .ok (.lload j, 2)) (hp : pc + 2 = pc') (hl : L[j]? = some (.val (.long v))) (hr : own_Gl p e below s Q kc ks (T.setTop (mkF m pc' L (.long v :: S)))) : own_Gl p e below s Q kc ks (T.setTop (mkF m pc L S)) := by
  subst hp; exact hr.go fun t k => XS.lload h hx rfl hd hl k
theorem g_aload (h : At T m c below) (hx : p.tables.exec = Jvm.exec) {j : Nat} {v : Value} (hd : decode c.code pc = .ok (.aload j, 2)) (hp : pc + 2 = pc') (hl : L[j]? = some (.val v)) (hv : v.isRef = true) (hr : own_Gl p e below s Q kc ks (T.setTop (mkF m pc' L (v :: S)))) : own_Gl p e below s Q kc ks (T.setTop (mkF m pc L S)) := by
  subst hp; exact hr.go fun t k => XS.aload h hx rfl hd hl hv k
theorem g_istore (h : At T m c below) (hx : p.tables.exec = Jvm.exec) {j : Nat} {v : Int32} (hd : decode c.code pc = .ok (.istore j, 2)) (hp : pc + 2 = pc') (hl : storeLocals L j (.int v) = some L') (hr : own_Gl p e below s Q kc ks (T.setTop (mkF m pc' L' S))) : own_Gl p e below s Q kc ks (T.setTop (mkF m pc L (.int v :: S))) := by
  subst hp; exact hr.go fun t k => XS.istore h hx rfl hd rfl hl k
theorem g_lstore (h : At T m c below) (hx : p.tables.exec = Jvm.exec) {j : Nat} {v : Int64} (hd : decode c.code pc = .ok (.lstore j, 2)) (hp : pc + 2 = pc') (hl : storeLocals L j (.long v) = some L') (hr : own_Gl p e below s Q kc ks (T.setTop (mkF m pc' L' S))) : own_Gl p e below s Q kc ks (T.setTop (mkF m pc L (.long v :: S))) := by
  subst hp; exact hr.go fun t k => XS.lstore h hx rfl hd rfl hl k
theorem g_astore (h : At T m c below) (hx : p.tables.exec = Jvm.exec) {j : Nat} {v : Value} (hd : decode c.code pc = .ok (.astore j, 2)) (hp : pc + 2 = pc') (hv : v.isRef = true) (hl : storeLocals L j v = some L') (hr : own_Gl p e below s Q kc ks (T.setTop (mkF m pc' L' S))) : own_Gl p e below s Q kc ks (T.setTop (mkF m pc L (v :: S))) := by
  subst hp; exact hr.go fun t k => XS.astore h hx rfl hd rfl hv hl k
theorem g_iconst (h : At T m c below) (hx : p.tables.exec = Jvm.exec) {i : Int} {z : Int32} (hd : decode c.code pc = .ok (.iconst i, 1)) (hp : pc + 1 = pc') (hz : Int32.ofInt i = z) (hr : own_Gl p e below s Q kc ks (T.setTop (mkF m pc' L (.int z :: S)))) : own_Gl p e below s Q kc ks (T.setTop (mkF m pc L S)) := by
  subst hp hz; exact hr.go fun t k => XS.iconst h hx rfl hd k
theorem g_bipush (h : At T m c below) (hx : p.tables.exec = Jvm.exec) {i : Int} {z : Int32} (hd : decode c.code pc = .ok (.bipush i, 2)) (hp : pc + 2 = pc') (hz : (Int8.ofInt i).toInt32 = z) (hr : own_Gl p e below s Q kc ks (T.setTop (mkF m pc' L (.int z :: S)))) : own_Gl p e below s Q kc ks (T.setTop (mkF m pc L S)) := by
  subst hp hz; exact hr.go fun t k => XS.bipush h hx rfl hd k
theorem g_sipush (h : At T m c below) (hx : p.tables.exec = Jvm.exec) {i : Int} {z : Int32} (hd : decode c.code pc = .ok (.sipush i, 3)) (hp : pc + 3 = pc') (hz : (Int16.ofInt i).toInt32 = z) (hr : own_Gl p e below s Q kc ks (T.setTop (mkF m pc' L (.int z :: S)))) : own_Gl p e below s Q kc ks (T.setTop (mkF m pc L S)) := by
  subst hp hz; exact hr.go fun t k => XS.sipush h hx rfl hd k
theorem g_lconst (h : At T m c below) (hx : p.tables.exec = Jvm.exec) {i : Fin 2} {z : Int64} (hd : decode c.code pc = .ok (.lconst i, 1)) (hp : pc + 1 = pc') (hz : Int64.ofNat i = z) (hr : own_Gl p e below s Q kc ks (T.setTop (mkF m pc' L (.long z :: S)))) : own_Gl p e below s Q kc ks (T.setTop (mkF m pc L S)) := by
  subst hp hz; exact hr.go fun t k => XS.lconst h hx rfl hd k
theorem g_aconstNull (h : At T m c below) (hx : p.tables.exec = Jvm.exec)  (hd : decode c.code pc = .ok (.aconst_null, 1)) (hp : pc + 1 = pc')  (hr : own_Gl p e below s Q kc ks (T.setTop (mkF m pc' L (.null :: S)))) : own_Gl p e below s Q kc ks (T.setTop (mkF m pc L S)) := by
  subst hp; exact hr.go fun t k => XS.aconstNull h hx rfl hd k
theorem g_iadd (h : At T m c below) (hx : p.tables.exec = Jvm.exec) {u v : Int32} (hd : decode c.code pc = .ok (.iadd, 1)) (hp : pc + 1 = pc')  (hr : own_Gl p e below s Q kc ks (T.setTop (mkF m pc' L (.int (u + v) :: S)))) : own_Gl p e below s Q kc ks (T.setTop (mkF m pc L (.int v :: .int u :: S))) := by
  subst hp; exact hr.go fun t k => XS.iadd h hx rfl hd rfl k
theorem g_ladd (h : At T m c below) (hx : p.tables.exec = Jvm.exec) {u v : Int64} (hd : decode c.code pc = .ok (.ladd, 1)) (hp : pc + 1 = pc')  (hr : own_Gl p e below s Q kc ks (T.setTop (mkF m pc' L (.long (u + v) :: S)))) : own_Gl p e below s Q kc ks (T.setTop (mkF m pc L (.long v :: .long u :: S))) := by
  subst hp; exact hr.go fun t k => XS.ladd h hx rfl hd rfl k
theorem g_isub (h : At T m c below) (hx : p.tables.exec = Jvm.exec) {u v : Int32} (hd : decode c.code pc = .ok (.isub, 1)) (hp : pc + 1 = pc')  (hr : own_Gl p e below s Q kc ks (T.setTop (mkF m pc' L (.int (u - v) :: S)))) : own_Gl p e below s Q kc ks (T.setTop (mkF m pc L (.int v :: .int u :: S))) := by
  subst hp; exact hr.go fun t k => XS.isub h hx rfl hd rfl k
theorem g_lsub (h : At T m c below) (hx : p.tables.exec = Jvm.exec) {u v : Int64} (hd : decode c.code pc = .ok (.lsub, 1)) (hp : pc + 1 = pc')  (hr : own_Gl p e below s Q kc ks (T.setTop (mkF m pc' L (.long (u - v) :: S)))) : own_Gl p e below s Q kc ks (T.setTop (mkF m pc L (.long v :: .long u :: S))) := by
  subst hp; exact hr.go fun t k => XS.lsub h hx rfl hd rfl k
theorem g_imul (h : At T m c below) (hx : p.tables.exec = Jvm.exec) {u v : Int32} (hd : decode c.code pc = .ok (.imul, 1)) (hp : pc + 1 = pc')  (hr : own_Gl p e below s Q kc ks (T.setTop (mkF m pc' L (.int (u * v) :: S)))) : own_Gl p e below s Q kc ks (T.setTop (mkF m pc L (.int v :: .int u :: S))) := by
  subst hp; exact hr.go fun t k => XS.imul h hx rfl hd rfl k
theorem g_lmul (h : At T m c below) (hx : p.tables.exec = Jvm.exec) {u v : Int64} (hd : decode c.code pc = .ok (.lmul, 1)) (hp : pc + 1 = pc')  (hr : own_Gl p e below s Q kc ks (T.setTop (mkF m pc' L (.long (u * v) :: S)))) : own_Gl p e below s Q kc ks (T.setTop (mkF m pc L (.long v :: .long u :: S))) := by
  subst hp; exact hr.go fun t k => XS.lmul h hx rfl hd rfl k
theorem g_iand (h : At T m c below) (hx : p.tables.exec = Jvm.exec) {u v : Int32} (hd : decode c.code pc = .ok (.iand, 1)) (hp : pc + 1 = pc')  (hr : own_Gl p e below s Q kc ks (T.setTop (mkF m pc' L (.int (u &&& v) :: S)))) : own_Gl p e below s Q kc ks (T.setTop (mkF m pc L (.int v :: .int u :: S))) := by
  subst hp; exact hr.go fun t k => XS.iand h hx rfl hd rfl k
theorem g_land (h : At T m c below) (hx : p.tables.exec = Jvm.exec) {u v : Int64} (hd : decode c.code pc = .ok (.land, 1)) (hp : pc + 1 = pc')  (hr : own_Gl p e below s Q kc ks (T.setTop (mkF m pc' L (.long (u &&& v) :: S)))) : own_Gl p e below s Q kc ks (T.setTop (mkF m pc L (.long v :: .long u :: S))) := by
  subst hp; exact hr.go fun t k => XS.land h hx rfl hd rfl k
theorem g_ior (h : At T m c below) (hx : p.tables.exec = Jvm.exec) {u v : Int32} (hd : decode c.code pc = .ok (.ior, 1)) (hp : pc + 1 = pc')  (hr : own_Gl p e below s Q kc ks (T.setTop (mkF m pc' L (.int (u ||| v) :: S)))) : own_Gl p e below s Q kc ks (T.setTop (mkF m pc L (.int v :: .int u :: S))) := by
  subst hp; exact hr.go fun t k => XS.ior h hx rfl hd rfl k
theorem g_lor (h : At T m c below) (hx : p.tables.exec = Jvm.exec) {u v : Int64} (hd : decode c.code pc = .ok (.lor, 1)) (hp : pc + 1 = pc')  (hr : own_Gl p e below s Q kc ks (T.setTop (mkF m pc' L (.long (u ||| v) :: S)))) : own_Gl p e below s Q kc ks (T.setTop (mkF m pc L (.long v :: .long u :: S))) := by
  subst hp; exact hr.go fun t k => XS.lor h hx rfl hd rfl k
theorem g_ixor (h : At T m c below) (hx : p.tables.exec = Jvm.exec) {u v : Int32} (hd : decode c.code pc = .ok (.ixor, 1)) (hp : pc + 1 = pc')  (hr : own_Gl p e below s Q kc ks (T.setTop (mkF m pc' L (.int (u ^^^ v) :: S)))) : own_Gl p e below s Q kc ks (T.setTop (mkF m pc L (.int v :: .int u :: S))) := by
  subst hp; exact hr.go fun t k => XS.ixor h hx rfl hd rfl k
theorem g_lxor (h : At T m c below) (hx : p.tables.exec = Jvm.exec) {u v : Int64} (hd : decode c.code pc = .ok (.lxor, 1)) (hp : pc + 1 = pc')  (hr : own_Gl p e below s Q kc ks (T.setTop (mkF m pc' L (.long (u ^^^ v) :: S)))) : own_Gl p e below s Q kc ks (T.setTop (mkF m pc L (.long v :: .long u :: S))) := by
  subst hp; exact hr.go fun t k => XS.lxor h hx rfl hd rfl k
theorem g_ishl (h : At T m c below) (hx : p.tables.exec = Jvm.exec) {u v : Int32} (hd : decode c.code pc = .ok (.ishl, 1)) (hp : pc + 1 = pc')  (hr : own_Gl p e below s Q kc ks (T.setTop (mkF m pc' L (.int (u <<< (v &&& 31)) :: S)))) : own_Gl p e below s Q kc ks (T.setTop (mkF m pc L (.int v :: .int u :: S))) := by
  subst hp; exact hr.go fun t k => XS.ishl h hx rfl hd rfl k
theorem g_ishr (h : At T m c below) (hx : p.tables.exec = Jvm.exec) {u v : Int32} (hd : decode c.code pc = .ok (.ishr, 1)) (hp : pc + 1 = pc')  (hr : own_Gl p e below s Q kc ks (T.setTop (mkF m pc' L (.int (u >>> (v &&& 31)) :: S)))) : own_Gl p e below s Q kc ks (T.setTop (mkF m pc L (.int v :: .int u :: S))) := by
  subst hp; exact hr.go fun t k => XS.ishr h hx rfl hd rfl k
theorem g_iushr (h : At T m c below) (hx : p.tables.exec = Jvm.exec) {u v : Int32} (hd : decode c.code pc = .ok (.iushr, 1)) (hp : pc + 1 = pc')  (hr : own_Gl p e below s Q kc ks (T.setTop (mkF m pc' L (.int ((u.toUInt32 >>> (v &&& 31).toUInt32).toInt32) :: S)))) : own_Gl p e below s Q kc ks (T.setTop (mkF m pc L (.int v :: .int u :: S))) := by
  subst hp; exact hr.go fun t k => XS.iushr h hx rfl hd rfl k
theorem g_lshl (h : At T m c below) (hx : p.tables.exec = Jvm.exec) {u : Int64} {v : Int32} (hd : decode c.code pc = .ok (.lshl, 1)) (hp : pc + 1 = pc')  (hr : own_Gl p e below s Q kc ks (T.setTop (mkF m pc' L (.long (u <<< (v &&& 0x3f).toInt64) :: S)))) : own_Gl p e below s Q kc ks (T.setTop (mkF m pc L (.int v :: .long u :: S))) := by
  subst hp; exact hr.go fun t k => XS.lshl h hx rfl hd rfl k
theorem g_lshr (h : At T m c below) (hx : p.tables.exec = Jvm.exec) {u : Int64} {v : Int32} (hd : decode c.code pc = .ok (.lshr, 1)) (hp : pc + 1 = pc')  (hr : own_Gl p e below s Q kc ks (T.setTop (mkF m pc' L (.long (u >>> (v &&& 0x3f).toInt64) :: S)))) : own_Gl p e below s Q kc ks (T.setTop (mkF m pc L (.int v :: .long u :: S))) := by
  subst hp; exact hr.go fun t k => XS.lshr h hx rfl hd rfl k
theorem g_lushr (h : At T m c below) (hx : p.tables.exec = Jvm.exec) {u : Int64} {v : Int32} (hd : decode c.code pc = .ok (.lushr, 1)) (hp : pc + 1 = pc')  (hr : own_Gl p e below s Q kc ks (T.setTop (mkF m pc' L (.long ((u.toUInt64 >>> (v &&& 0x3f).toInt64.toUInt64).toInt64) :: S)))) : own_Gl p e below s Q kc ks (T.setTop (mkF m pc L (.int v :: .long u :: S))) := by
  subst hp; exact hr.go fun t k => XS.lushr h hx rfl hd rfl k
theorem g_idiv (h : At T m c below) (hx : p.tables.exec = Jvm.exec) {u v : Int32} (hd : decode c.code pc = .ok (.idiv, 1)) (hp : pc + 1 = pc') (hy : v ≠ 0) (hr : own_Gl p e below s Q kc ks (T.setTop (mkF m pc' L (.int (u / v) :: S)))) : own_Gl p e below s Q kc ks (T.setTop (mkF m pc L (.int v :: .int u :: S))) := by
  subst hp; exact hr.go fun t k => XS.idiv h hx rfl hd rfl hy k
theorem g_ldiv (h : At T m c below) (hx : p.tables.exec = Jvm.exec) {u v : Int64} (hd : decode c.code pc = .ok (.ldiv, 1)) (hp : pc + 1 = pc') (hy : v ≠ 0) (hr : own_Gl p e below s Q kc ks (T.setTop (mkF m pc' L (.long (u / v) :: S)))) : own_Gl p e below s Q kc ks (T.setTop (mkF m pc L (.long v :: .long u :: S))) := by
  subst hp; exact hr.go fun t k => XS.ldiv h hx rfl hd rfl hy k
theorem g_irem (X : Stand p l e R s m args below meth c T locs cells slots) (hx : p.tables.exec = Jvm.exec) {u v : Int32} (hd : decode c.code pc = .ok (.irem, 1)) (hp : pc + 1 = pc') (hy : v ≠ 0) (hr : own_Gl p e below s Q kc ks (T.setTop (mkF m pc' L (.int (u % v) :: S)))) : own_Gl p e below s Q kc ks (T.setTop (mkF m pc L (.int v :: .int u :: S))) := by
  subst hp; exact hr.go fun t k => iremM X hx rfl hd rfl hy k
theorem g_lrem (h : At T m c below) (hx : p.tables.exec = Jvm.exec) {u v : Int64} (hd : decode c.code pc = .ok (.lrem, 1)) (hp : pc + 1 = pc') (hy : v ≠ 0) (hr : own_Gl p e below s Q kc ks (T.setTop (mkF m pc' L (.long (u % v) :: S)))) : own_Gl p e below s Q kc ks (T.setTop (mkF m pc L (.long v :: .long u :: S))) := by
  subst hp; exact hr.go fun t k => XS.lrem h hx rfl hd rfl hy (by rw [lrem_mod]; exact k)
theorem g_ineg (h : At T m c below) (hx : p.tables.exec = Jvm.exec) {u : Int32} (hd : decode c.code pc = .ok (.ineg, 1)) (hp : pc + 1 = pc')  (hr : own_Gl p e below s Q kc ks (T.setTop (mkF m pc' L (.int (-u) :: S)))) : own_Gl p e below s Q kc ks (T.setTop (mkF m pc L (.int u :: S))) := by
  subst hp; exact hr.go fun t k => XS.ineg h hx rfl hd rfl k
theorem g_lneg (h : At T m c below) (hx : p.tables.exec = Jvm.exec) {u : Int64} (hd : decode c.code pc = .ok (.lneg, 1)) (hp : pc + 1 = pc')  (hr : own_Gl p e below s Q kc ks (T.setTop (mkF m pc' L (.long (-u) :: S)))) : own_Gl p e below s Q kc ks (T.setTop (mkF m pc L (.long u :: S))) := by
  subst hp; exact hr.go fun t k => XS.lneg h hx rfl hd rfl k
theorem g_i2l (h : At T m c below) (hx : p.tables.exec = Jvm.exec) {u : Int32} (hd : decode c.code pc = .ok (.i2l, 1)) (hp : pc + 1 = pc')  (hr : own_Gl p e below s Q kc ks (T.setTop (mkF m pc' L (.long u.toInt64 :: S)))) : own_Gl p e below s Q kc ks (T.setTop (mkF m pc L (.int u :: S))) := by
  subst hp; exact hr.go fun t k => XS.i2l h hx rfl hd rfl k
theorem g_l2i (h : At T m c below) (hx : p.tables.exec = Jvm.exec) {u : Int64} (hd : decode c.code pc = .ok (.l2i, 1)) (hp : pc + 1 = pc')  (hr : own_Gl p e below s Q kc ks (T.setTop (mkF m pc' L (.int u.toInt32 :: S)))) : own_Gl p e below s Q kc ks (T.setTop (mkF m pc L (.long u :: S))) := by
  subst hp; exact hr.go fun t k => XS.l2i h hx rfl hd rfl k
theorem g_i2b (h : At T m c below) (hx : p.tables.exec = Jvm.exec) {u : Int32} (hd : decode c.code pc = .ok (.i2b, 1)) (hp : pc + 1 = pc')  (hr : own_Gl p e below s Q kc ks (T.setTop (mkF m pc' L (.int u.toInt8.toInt32 :: S)))) : own_Gl p e below s Q kc ks (T.setTop (mkF m pc L (.int u :: S))) := by
  subst hp; exact hr.go fun t k => XS.i2b h hx rfl hd rfl k
theorem g_i2s (h : At T m c below) (hx : p.tables.exec = Jvm.exec) {u : Int32} (hd : decode c.code pc = .ok (.i2s, 1)) (hp : pc + 1 = pc')  (hr : own_Gl p e below s Q kc ks (T.setTop (mkF m pc' L (.int u.toInt16.toInt32 :: S)))) : own_Gl p e below s Q kc ks (T.setTop (mkF m pc L (.int u :: S))) := by
  subst hp; exact hr.go fun t k => XS.i2s h hx rfl hd rfl k
theorem g_i2c (h : At T m c below) (hx : p.tables.exec = Jvm.exec) {u : Int32} (hd : decode c.code pc = .ok (.i2c, 1)) (hp : pc + 1 = pc')  (hr : own_Gl p e below s Q kc ks (T.setTop (mkF m pc' L (.int u.toUInt32.toUInt16.toUInt32.toInt32 :: S)))) : own_Gl p e below s Q kc ks (T.setTop (mkF m pc L (.int u :: S))) := by
  subst hp; exact hr.go fun t k => XS.i2c h hx rfl hd rfl k
theorem g_lcmp (h : At T m c below) (hx : p.tables.exec = Jvm.exec) {u v : Int64} (hd : decode c.code pc = .ok (.lcmp, 1)) (hp : pc + 1 = pc')  (hr : own_Gl p e below s Q kc ks (T.setTop (mkF m pc' L (.int (lcmpW u v) :: S)))) : own_Gl p e below s Q kc ks (T.setTop (mkF m pc L (.long v :: .long u :: S))) := by
  subst hp; exact hr.go fun t k => XS.lcmp h hx rfl hd rfl k
theorem g_dup (h : At T m c below) (hx : p.tables.exec = Jvm.exec) {v : Value} (hd : decode c.code pc = .ok (.dup, 1)) (hp : pc + 1 = pc') (hc : v.category = 1) (hr : own_Gl p e below s Q kc ks (T.setTop (mkF m pc' L (v :: v :: S)))) : own_Gl p e below s Q kc ks (T.setTop (mkF m pc L (v :: S))) := by
  subst hp; exact hr.go fun t k => XS.dup h hx rfl hd rfl hc k
theorem g_pop (h : At T m c below) (hx : p.tables.exec = Jvm.exec) {v : Value} (hd : decode c.code pc = .ok (.pop, 1)) (hp : pc + 1 = pc') (hc : v.category = 1) (hr : own_Gl p e below s Q kc ks (T.setTop (mkF m pc' L S))) : own_Gl p e below s Q kc ks (T.setTop (mkF m pc L (v :: S))) := by
  subst hp; exact hr.go fun t k => XS.pop h hx rfl hd rfl hc k
theorem g_dupX1 (h : At T m c below) (hx : p.tables.exec = Jvm.exec) {v w : Value} (hd : decode c.code pc = .ok (.dup_x1, 1)) (hp : pc + 1 = pc') (hc : v.category = 1) (hc' : w.category = 1) (hr : own_Gl p e below s Q kc ks (T.setTop (mkF m pc' L (v :: w :: v :: S)))) : own_Gl p e below s Q kc ks (T.setTop (mkF m pc L (v :: w :: S))) := by
  subst hp; exact hr.go fun t k => XS.dupX1 h hx rfl hd rfl hc hc' k
theorem g_dup2 (h : At T m c below) (hx : p.tables.exec = Jvm.exec) {v w : Value} (hd : decode c.code pc = .ok (.dup2, 1)) (hp : pc + 1 = pc') (hc : v.category = 1) (hc' : w.category = 1) (hr : own_Gl p e below s Q kc ks (T.setTop (mkF m pc' L (v :: w :: v :: w :: S)))) : own_Gl p e below s Q kc ks (T.setTop (mkF m pc L (v :: w :: S))) := by
  subst hp; exact hr.go fun t k => XT.dup2 h hx rfl hd rfl hc hc' k
theorem g_dup2L (h : At T m c below) (hx : p.tables.exec = Jvm.exec) {v : Int64} (hd : decode c.code pc = .ok (.dup2, 1)) (hp : pc + 1 = pc')  (hr : own_Gl p e below s Q kc ks (T.setTop (mkF m pc' L (.long v :: .long v :: S)))) : own_Gl p e below s Q kc ks (T.setTop (mkF m pc L (.long v :: S))) := by
  subst hp; exact hr.go fun t k => XT.dup2L h hx rfl hd rfl k
theorem g_pop2L (h : At T m c below) (hx : p.tables.exec = Jvm.exec) {v : Int64} (hd : decode c.code pc = .ok (.pop2, 1)) (hp : pc + 1 = pc') (hr : own_Gl p e below s Q kc ks (T.setTop (mkF m pc' L S))) : own_Gl p e below s Q kc ks (T.setTop (mkF m pc L (.long v :: S))) := by
  subst hp
  refine hr.go fun t k => ?_
  jvm_step h [h.top, hx, hd, Value.category]
  exact k
theorem g_iinc (h : At T m c below) (hx : p.tables.exec = Jvm.exec) {j : Nat} {i : Int} {v z : Int32} (hd : decode c.code pc = .ok (.iinc j i, 3)) (hp : pc + 3 = pc') (hz : Int32.ofInt i = z) (hl : L[j]? = some (.val (.int v))) (hl' : storeLocals L j (.int (v + z)) = some L') (hr : own_Gl p e below s Q kc ks (T.setTop (mkF m pc' L' S))) : own_Gl p e below s Q kc ks (T.setTop (mkF m pc L S)) := by
  subst hp; exact hr.go fun t k => XS.iinc h hx rfl hd hl (by rw [hz]; exact hl') k
theorem g_goto (h : At T m c below) (hx : p.tables.exec = Jvm.exec) {i : Int} (hd : decode c.code pc = .ok (.goto i, 3)) (ho : 0 ≤ (pc : Int) + i) (hp : ((pc : Int) + i).toNat = pc') (hr : own_Gl p e below s Q kc ks (T.setTop (mkF m pc' L S))) : own_Gl p e below s Q kc ks (T.setTop (mkF m pc L S)) := hr.go fun t k => XS.goto h hx rfl (pc0 := pc) rfl hd ho hp k
theorem g_ifY (h : At T m c below) (hx : p.tables.exec = Jvm.exec) {cd : ClassFile.Cond} {i : Int} {x : Int32} (hd : decode c.code pc = .ok (.ifCond cd i, 3)) (ho : 0 ≤ (pc : Int) + i) (hp : ((pc : Int) + i).toNat = pc') (hc : ifCond.holds cd x = true) (hr : own_Gl p e below s Q kc ks (T.setTop (mkF m pc' L S))) : own_Gl p e below s Q kc ks (T.setTop (mkF m pc L (.int x :: S))) := hr.go fun t k => XS.ifYes h hx rfl (pc0 := pc) rfl hd rfl hc ho hp k
theorem g_ifN (h : At T m c below) (hx : p.tables.exec = Jvm.exec) {cd : ClassFile.Cond} {i : Int} {x : Int32} (hd : decode c.code pc = .ok (.ifCond cd i, 3)) (hp : pc + 3 = pc') (hc : ifCond.holds cd x = false) (hr : own_Gl p e below s Q kc ks (T.setTop (mkF m pc' L S))) : own_Gl p e below s Q kc ks (T.setTop (mkF m pc L (.int x :: S))) := by
  subst hp; exact hr.go fun t k => XS.ifNo h hx rfl hd rfl hc k
theorem g_icY (h : At T m c below) (hx : p.tables.exec = Jvm.exec) {cd : ClassFile.Cond} {i : Int} {x y : Int32} (hd : decode c.code pc = .ok (.if_icmp cd i, 3)) (ho : 0 ≤ (pc : Int) + i) (hp : ((pc : Int) + i).toNat = pc') (hc : if_icmp.holds cd x y = true) (hr : own_Gl p e below s Q kc ks (T.setTop (mkF m pc' L S))) : own_Gl p e below s Q kc ks (T.setTop (mkF m pc L (.int y :: .int x :: S))) := hr.go fun t k => XS.icmpYes h hx rfl (pc0 := pc) rfl hd rfl hc ho hp k
theorem g_icN (h : At T m c below) (hx : p.tables.exec = Jvm.exec) {cd : ClassFile.Cond} {i : Int} {x y : Int32} (hd : decode c.code pc = .ok (.if_icmp cd i, 3)) (hp : pc + 3 = pc') (hc : if_icmp.holds cd x y = false) (hr : own_Gl p e below s Q kc ks (T.setTop (mkF m pc' L S))) : own_Gl p e below s Q kc ks (T.setTop (mkF m pc L (.int y :: .int x :: S))) := by
  subst hp; exact hr.go fun t k => XS.icmpNo h hx rfl hd rfl hc k
theorem g_ifnullY (h : At T m c below) (hx : p.tables.exec = Jvm.exec)  {i : Int} (hd : decode c.code pc = .ok (.ifnull i, 3)) (ho : 0 ≤ (pc : Int) + i) (hp : ((pc : Int) + i).toNat = pc') (hr : own_Gl p e below s Q kc ks (T.setTop (mkF m pc' L S))) : own_Gl p e below s Q kc ks (T.setTop (mkF m pc L (.null :: S))) := hr.go fun t k => XS.ifnullYes h hx rfl (pc0 := pc) rfl hd rfl ho hp k
theorem g_ifnullN (h : At T m c below) (hx : p.tables.exec = Jvm.exec) {b : Addr} {i : Int} (hd : decode c.code pc = .ok (.ifnull i, 3)) (hp : pc + 3 = pc') (hr : own_Gl p e below s Q kc ks (T.setTop (mkF m pc' L S))) : own_Gl p e below s Q kc ks (T.setTop (mkF m pc L (.ref b :: S))) := by
  subst hp; exact hr.go fun t k => XS.ifnullNo h hx rfl hd rfl k
theorem g_ifnonnullY (h : At T m c below) (hx : p.tables.exec = Jvm.exec) {b : Addr} {i : Int} (hd : decode c.code pc = .ok (.ifnonnull i, 3)) (ho : 0 ≤ (pc : Int) + i) (hp : ((pc : Int) + i).toNat = pc') (hr : own_Gl p e below s Q kc ks (T.setTop (mkF m pc' L S))) : own_Gl p e below s Q kc ks (T.setTop (mkF m pc L (.ref b :: S))) := hr.go fun t k => XS.ifnonnullYes h hx rfl (pc0 := pc) rfl hd rfl ho hp k
theorem g_ifnonnullN (h : At T m c below) (hx : p.tables.exec = Jvm.exec)  {i : Int} (hd : decode c.code pc = .ok (.ifnonnull i, 3)) (hp : pc + 3 = pc') (hr : own_Gl p e below s Q kc ks (T.setTop (mkF m pc' L S))) : own_Gl p e below s Q kc ks (T.setTop (mkF m pc L (.null :: S))) := by
  subst hp; exact hr.go fun t k => XS.ifnonnullNo h hx rfl hd rfl k
theorem g_ldc (X : Stand p l e R s m args below meth c T locs cells slots) (hx : p.tables.exec = Jvm.exec) (hZ : Z.Warmed39 s.vm) {own : String} {index : Nat} {v : Int32} (hown : s.vm.findClass own = some m.cls) (w : (Jvm.Cond.constant own index v).before a0 Z = true) (hd : decode c.code pc = .ok (.ldc index, 2)) (hp : pc + 2 = pc') (hr : own_Gl p e below s Q kc ks (T.setTop (mkF m pc' L (.int v :: S)))) : own_Gl p e below s Q kc ks (T.setTop (mkF m pc L S)) := by
  subst hp; exact hr.go (X.ldcInt hx hown (mvT hZ w) (g := mkF m pc L S) rfl hd)
theorem g_ldcw (X : Stand p l e R s m args below meth c T locs cells slots) (hx : p.tables.exec = Jvm.exec) (hZ : Z.Warmed39 s.vm) {own : String} {index : Nat} {v : Int32} (hown : s.vm.findClass own = some m.cls) (w : (Jvm.Cond.constant own index v).before a0 Z = true) (hd : decode c.code pc = .ok (.ldc_w index, 3)) (hp : pc + 3 = pc') (hr : own_Gl p e below s Q kc ks (T.setTop (mkF m pc' L (.int v :: S)))) : own_Gl p e below s Q kc ks (T.setTop (mkF m pc L S)) := by
  subst hp; exact hr.go (X.ldcwInt hx hown (mvT hZ w) (g := mkF m pc L S) rfl hd)
theorem g_ldc2 (X : Stand p l e R s m args below meth c T locs cells slots) (hx : p.tables.exec = Jvm.exec) (hZ : Z.Warmed39 s.vm) {own : String} {index : Nat} {v : Int64} (hown : s.vm.findClass own = some m.cls) (w : (Jvm.Cond.constantLong own index v).before a0 Z = true) (hd : decode c.code pc = .ok (.ldc2_w index, 3)) (hp : pc + 3 = pc') (hr : own_Gl p e below s Q kc ks (T.setTop (mkF m pc' L (.long v :: S)))) : own_Gl p e below s Q kc ks (T.setTop (mkF m pc L S)) := by
  subst hp; exact hr.go (X.ldc2Long hx hown (mvT hZ w) (g := mkF m pc L S) rfl hd)
end OwnKit

section OwnHeap
variable {p : Program} {l : Launch} {e : Env} {R : Room} {s : State} {m : MethodId} {args : Array Value} {below : List Frame} {meth : Method} {c : Code} {T : State} {locs : List Loc} {cells slots : Nat} {Z : State} {a0 : Array Value} {h : Heap} {Q : Option Value → Heap → List Loc → Prop} {kc ks : Nat} {pc pc' : Nat} {L L' : Array Slot} {S : List Value}
/-- an array of ints, bytes or booleans by what each place holds -/
def own_IA (Z : State) (h : Heap) (a : Addr) (ty : FieldType) (n : Nat) (f : Nat → Int32) : Prop := ∃ c : Cell, Arr Z h a c ty ∧ c.slots.size = n ∧ ∀ i, i < n → c.slots[i]? = some (.int (f i))
theorem own_IA.lt {a : Addr} {ty : FieldType} {n : Nat} {f : Nat → Int32} (V : own_IA Z h a ty n f) : a < h.size := by obtain ⟨c, A, -⟩ := V; exact A.lt
theorem own_IA.ext {h' : Heap} {a : Addr} {ty : FieldType} {n : Nat} {f : Nat → Int32} (V : own_IA Z h a ty n f) (E : Ext h h') : own_IA Z h' a ty n f := by obtain ⟨c, A, r⟩ := V; exact ⟨c, A.ext E, r⟩
theorem own_IA.other {h' : Heap} {a b : Addr} {ty : FieldType} {n sl : Nat} {v : Value} {f : Nat → Int32} (V : own_IA Z h b ty n f) (W : Wr h h' a sl v) (q : b ≠ a) : own_IA Z h' b ty n f := by obtain ⟨c, A, r⟩ := V; exact ⟨c, A.other W q, r⟩
theorem own_IA.keep {h' : Heap} {ws : List Addr} {a : Addr} {ty : FieldType} {n : Nat} {f : Nat → Int32} (V : own_IA Z h a ty n f) (K : Keep h h' ws) (q : a ∉ ws) : own_IA Z h' a ty n f := by obtain ⟨c, A, r⟩ := V; exact ⟨c, ⟨K.2.1 a c A.1 q, A.2⟩, r⟩
theorem own_IA.congr {a : Addr} {ty : FieldType} {n : Nat} {f g : Nat → Int32} (V : own_IA Z h a ty n f) (q : ∀ i, i < n → f i = g i) : own_IA Z h a ty n g := by obtain ⟨c, A, S, H⟩ := V; exact ⟨c, A, S, fun i hi => by rw [H i hi, q i hi]⟩
theorem own_clamp (j : Int32) : j.toNatClampNeg = j.toInt.toNat := rfl
theorem own_in {c : Cell} {n : Nat} (S : c.slots.size = n) {j : Int32} (hj : 0 ≤ j.toInt ∧ j.toInt < n) : ¬ (j < 0 ∨ c.slots.size ≤ j.toNatClampNeg) := by
  have k : (0 : Int32).toInt = 0 := by decide
  rw [Int32.lt_iff_toInt_lt, own_clamp, S, k]; omega
theorem own_IA.set {h' : Heap} {a : Addr} {ty : FieldType} {n : Nat} {x : Int32} {k : Nat} {f : Nat → Int32} (V : own_IA Z h a ty n f) (W : Wr h h' a k (.int x)) : own_IA Z h' a ty n (fun i => if i = k then x else f i) := by
  obtain ⟨c, A, S, H⟩ := V
  refine ⟨c.setSlot k (.int x), A.same W, by rw [sz_set]; exact S, fun i hi => ?_⟩
  show (c.slots.setIfInBounds k (.int x))[i]? = some (Value.int (if i = k then x else f i))
  by_cases q : i = k
  · subst q
    rw [Array.getElem?_setIfInBounds_self_of_lt (by omega), if_pos rfl]
  · rw [Array.getElem?_setIfInBounds_ne (fun z => q z.symm), H i hi, if_neg q]
theorem g_getF (X : Stand p l e R s m args below meth c T locs cells slots) (hx : p.tables.exec = Jvm.exec) (hZ : Z.Warmed39 s.vm) {own R0 O n d host : String} {index : Nat} (hown : s.vm.findClass own = some m.cls) (w : (Jvm.Cond.fieldLink own index R0 n d).before a0 Z = true ∨ (Jvm.Cond.fieldLinkNest own index R0 n d host).before a0 Z = true) (via : Via Z R0 O n d)
    (eT : T.heap = h) {a : Addr} {v : Value} (F : Fld Z h a O n d v) (hd : decode c.code pc = .ok (.getfield index, 3)) (hp : pc + 3 = pc') (k : ∀ T' : State, Stand p l e R s m args below meth c T' locs cells slots → T'.heap = h → own_Gl p e below s Q kc ks (T'.setTop (mkF m pc' L (v :: S)))) :
    own_Gl p e below s Q kc ks (T.setTop (mkF m pc L (.ref a :: S))) := by
  subst hp
  obtain ⟨T', X', e', st⟩ := getF X hx hZ hown w via eT F (g := mkF m pc L (.ref a :: S)) rfl rfl hd
  exact (k T' X' e').go st
theorem g_putF (X : Stand p l e R s m args below meth c T locs cells slots) (hx : p.tables.exec = Jvm.exec) (hZ : Z.Warmed39 s.vm) {own R0 O n d host C : String} {index kk : Nat} {ty : FieldType} (hown : s.vm.findClass own = some m.cls) (w : (Jvm.Cond.fieldLink own index R0 n d).before a0 Z = true ∨ (Jvm.Cond.fieldLinkNest own index R0 n d host).before a0 Z = true) (via : Via Z R0 O n d)
    (eT : T.heap = h) {a : Addr} {v old : Value} (F : Fld Z h a O n d old) (E : Exa Z h a C) (Ly : (Jvm.Cond.lays C O n d).before a0 Z = true ∨ ((Jvm.Cond.laysFinal C O n d).before a0 Z = true ∧ own = O ∧ meth.name = "<init>")) (wi : (Jvm.Cond.instantiable C kk).before a0 Z = true)
    (hty : parseFieldDescriptor d = some ty) (hn : narrow ty v = v) (hf : fits ty v = true) (hd : decode c.code pc = .ok (.putfield index, 3)) (hp : pc + 3 = pc')
    (k : ∀ (T' : State) (h' : Heap), Stand p l e R s m args below meth c T' (locs ++ [⟨a, Jvm.RoadKit.slotOf Z O n d⟩]) cells slots → T'.heap = h' → Wr h h' a (Jvm.RoadKit.slotOf Z O n d) v → own_Gl p e below s Q kc ks (T'.setTop (mkF m pc' L S))) :
    own_Gl p e below s Q kc ks (T.setTop (mkF m pc L (v :: .ref a :: S))) := by
  subst hp
  obtain ⟨T', h', X', e', W', st⟩ := putF X hx hZ hown w via eT F E Ly wi hty hn hf (g := mkF m pc L (v :: .ref a :: S)) rfl rfl hd
  exact (k T' h' X' e' W').go st
theorem g_putFN (X : Stand p l e R s m args below meth c T locs cells slots) (hx : p.tables.exec = Jvm.exec) (hZ : Z.Warmed39 s.vm) {own R0 O n d C : String} {index kk : Nat} {ty : FieldType} (hown : s.vm.findClass own = some m.cls) (w : (Jvm.Cond.fieldLink own index R0 n d).before a0 Z = true) (via : Via Z R0 O n d)
    (eT : T.heap = h) {a : Addr} {v v' old : Value} (F : Fld Z h a O n d old) (E : Exa Z h a C) (Ly : (Jvm.Cond.lays C O n d).before a0 Z = true ∨ ((Jvm.Cond.laysFinal C O n d).before a0 Z = true ∧ own = O ∧ meth.name = "<init>")) (wi : (Jvm.Cond.instantiable C kk).before a0 Z = true)
    (hty : parseFieldDescriptor d = some ty) (hn : narrow ty v = v') (hf : fits ty v' = true) (hd : decode c.code pc = .ok (.putfield index, 3)) (hp : pc + 3 = pc')
    (k : ∀ (T' : State) (h' : Heap), Stand p l e R s m args below meth c T' (locs ++ [⟨a, Jvm.RoadKit.slotOf Z O n d⟩]) cells slots → T'.heap = h' → Wr h h' a (Jvm.RoadKit.slotOf Z O n d) v' → own_Gl p e below s Q kc ks (T'.setTop (mkF m pc' L S))) :
    own_Gl p e below s Q kc ks (T.setTop (mkF m pc L (v :: .ref a :: S))) := by
  subst hp
  obtain ⟨T', h', X', e', W', st⟩ := putFN X hx hZ hown w via eT F E Ly wi hty hn hf (g := mkF m pc L (v :: .ref a :: S)) rfl rfl hd
  exact (k T' h' X' e' W').go st
theorem g_new (X : Stand p l e R s m args below meth c T locs cells slots) (hx : p.tables.exec = Jvm.exec) (hZ : Z.Warmed39 s.vm) {own C : String} {index n : Nat} (hown : s.vm.findClass own = some m.cls) (w : (Jvm.Cond.classLink own index C).before a0 Z = true) (wi : (Jvm.Cond.instantiable C n).before a0 Z = true) (wz : (Jvm.Cond.initialized C).before a0 Z = true) (eT : T.heap = h)
    (hd : decode c.code pc = .ok (.new index, 3)) (hp : pc + 3 = pc') {cells' slots' : Nat} (hcc : cells + 1 = cells') (hss : slots + n = slots') (hc : cells' ≤ R.cells) (hl : slots' ≤ R.slots)
    (k : ∀ (T' : State) (h' : Heap) (b : Addr), b = h.size → Stand p l e R s m args below meth c T' locs cells' slots' → T'.heap = h' → Ext h h' → Exa Z h' b C → (∀ {O nm d : String} {ty : FieldType}, Laid Z a0 C O nm d → parseFieldDescriptor d = some ty → Fld Z h' b O nm d (defaultValue ty)) → own_Gl p e below s Q kc ks (T'.setTop (mkF m pc' L (.ref b :: S)))) :
    own_Gl p e below s Q kc ks (T.setTop (mkF m pc L S)) := by
  subst hp hcc hss
  obtain ⟨T', h', X', e', E', A', D', -, st⟩ := newO X hx hZ hown w wi wz eT (g := mkF m pc L S) rfl hd hc hl
  exact (k T' h' _ rfl X' e' E' A' D').go st
theorem g_newarr (X : Stand p l e R s m args below meth c T locs cells slots) (hx : p.tables.exec = Jvm.exec) (hZ : Z.Warmed39 s.vm) {aty : ArrayType} {ty : FieldType} (hty : newarray.typeOf aty = ty) (hdv : defaultValue ty = .int 0) (w : (Jvm.Cond.arrayClass ty).before a0 Z = true) (eT : T.heap = h)
    (hd : decode c.code pc = .ok (.newarray aty, 2)) (hp : pc + 2 = pc') {z : Int32} {n : Nat} (hn : z.toInt = n) (cap : Nat) (hcap : n ≤ cap) (hb : cap * 8 ≤ 536870912) {cells' slots' : Nat} (hcc : cells + 1 = cells') (hss : slots + cap = slots') (hc : cells' ≤ R.cells) (hl : slots' ≤ R.slots)
    (k : ∀ (T' : State) (h' : Heap) (b : Addr), b = h.size → Stand p l e R s m args below meth c T' locs cells' slots' → T'.heap = h' → Ext h h' → own_IA Z h' b ty n (fun _ => 0) → own_Gl p e below s Q kc ks (T'.setTop (mkF m pc' L (.ref b :: S)))) :
    own_Gl p e below s Q kc ks (T.setTop (mkF m pc L (.int z :: S))) := by
  subst hp hcc hss hty
  have q : ¬ z < 0 := by
    have k0 : (0 : Int32).toInt = 0 := by decide
    rw [Int32.lt_iff_toInt_lt, k0]; omega
  have zn : z.toNatClampNeg = n := by rw [own_clamp]; omega
  obtain ⟨T', h', cA, X', e', E', A', st⟩ := newP X hx hZ w eT (g := mkF m pc L (.int z :: S)) rfl hd rfl q (cap := cap) (by omega) hb hc hl
  refine (k T' h' _ rfl X' e' E' ⟨_, A', by rw [sz_new, zn], fun i hi => ?_⟩).go st
  show (Array.replicate z.toNatClampNeg (defaultValue (newarray.typeOf aty)))[i]? = _
  rw [zn, hdv, Array.getElem?_replicate, if_pos hi]
theorem g_iastore (X : Stand p l e R s m args below meth c T locs cells slots) (hx : p.tables.exec = Jvm.exec) (hZ : Z.Warmed39 s.vm) (eT : T.heap = h) {a : Addr} {n : Nat} {f : Nat → Int32} {j x : Int32} (V : own_IA Z h a .int n f) (hj : 0 ≤ j.toInt ∧ j.toInt < n) (hd : decode c.code pc = .ok (.iastore, 1)) (hp : pc + 1 = pc')
    (k : ∀ (T' : State) (h' : Heap), Stand p l e R s m args below meth c T' (locs ++ [⟨a, j.toNatClampNeg⟩]) cells slots → T'.heap = h' → Wr h h' a j.toNatClampNeg (.int x) → own_IA Z h' a .int n (fun i => if i = j.toNatClampNeg then x else f i) → own_Gl p e below s Q kc ks (T'.setTop (mkF m pc' L S))) :
    own_Gl p e below s Q kc ks (T.setTop (mkF m pc L (.int x :: .int j :: .ref a :: S))) := by
  subst hp
  have V' := V
  obtain ⟨cl, A, Sz, H⟩ := V
  obtain ⟨T', h', X', e', W', st⟩ := stI X hx hZ eT A (own_in Sz hj) (g := mkF m pc L (.int x :: .int j :: .ref a :: S)) rfl rfl hd
  exact (k T' h' X' e' W' (V'.set W')).go st
theorem g_bastore (X : Stand p l e R s m args below meth c T locs cells slots) (hx : p.tables.exec = Jvm.exec) (hZ : Z.Warmed39 s.vm) (eT : T.heap = h) {a : Addr} {n : Nat} {f : Nat → Int32} {j x : Int32} (V : own_IA Z h a .byte n f) (hj : 0 ≤ j.toInt ∧ j.toInt < n) (hd : decode c.code pc = .ok (.bastore, 1)) (hp : pc + 1 = pc')
    (k : ∀ (T' : State) (h' : Heap), Stand p l e R s m args below meth c T' (locs ++ [⟨a, j.toNatClampNeg⟩]) cells slots → T'.heap = h' → Wr h h' a j.toNatClampNeg (.int x.toInt8.toInt32) → own_IA Z h' a .byte n (fun i => if i = j.toNatClampNeg then x.toInt8.toInt32 else f i) → own_Gl p e below s Q kc ks (T'.setTop (mkF m pc' L S))) :
    own_Gl p e below s Q kc ks (T.setTop (mkF m pc L (.int x :: .int j :: .ref a :: S))) := by
  subst hp
  have V' := V
  obtain ⟨cl, A, Sz, H⟩ := V
  obtain ⟨T', h', X', e', W', st⟩ := stB X hx hZ eT A (own_in Sz hj) (g := mkF m pc L (.int x :: .int j :: .ref a :: S)) rfl rfl hd
  exact (k T' h' X' e' W' (V'.set W')).go st
theorem g_zastore (X : Stand p l e R s m args below meth c T locs cells slots) (hx : p.tables.exec = Jvm.exec) (hZ : Z.Warmed39 s.vm) (eT : T.heap = h) {a : Addr} {n : Nat} {f : Nat → Int32} {j x x' : Int32} (V : own_IA Z h a .boolean n f) (hj : 0 ≤ j.toInt ∧ j.toInt < n) (hv : nar .boolean x = x') (hd : decode c.code pc = .ok (.bastore, 1)) (hp : pc + 1 = pc')
    (k : ∀ (T' : State) (h' : Heap), Stand p l e R s m args below meth c T' (locs ++ [⟨a, j.toNatClampNeg⟩]) cells slots → T'.heap = h' → Wr h h' a j.toNatClampNeg (.int x') → own_IA Z h' a .boolean n (fun i => if i = j.toNatClampNeg then x' else f i) → own_Gl p e below s Q kc ks (T'.setTop (mkF m pc' L S))) :
    own_Gl p e below s Q kc ks (T.setTop (mkF m pc L (.int x :: .int j :: .ref a :: S))) := by
  subst hp hv
  have V' := V
  obtain ⟨cl, A, Sz, H⟩ := V
  obtain ⟨T', h', X', e', W', st⟩ := stZ X hx hZ eT A (own_in Sz hj) (g := mkF m pc L (.int x :: .int j :: .ref a :: S)) rfl rfl hd
  exact (k T' h' X' e' W' (V'.set W')).go st
theorem own_at {a : Addr} {ty : FieldType} {n : Nat} {f : Nat → Int32} {c : Cell} (S : c.slots.size = n) (H : ∀ i, i < n → c.slots[i]? = some (.int (f i))) {j v : Int32} (hj : 0 ≤ j.toInt ∧ j.toInt < n) (hv : f j.toInt.toNat = v) : c.slots[j.toNatClampNeg]? = some (.int v) := by
  rw [own_clamp, H _ (by omega), hv]
theorem g_iaload (X : Stand p l e R s m args below meth c T locs cells slots) (hx : p.tables.exec = Jvm.exec) (hZ : Z.Warmed39 s.vm) (eT : T.heap = h) {a : Addr} {n : Nat} {f : Nat → Int32} {j v : Int32} (V : own_IA Z h a .int n f) (hj : 0 ≤ j.toInt ∧ j.toInt < n) (hv : f j.toInt.toNat = v) (hd : decode c.code pc = .ok (.iaload, 1)) (hp : pc + 1 = pc')
    (hr : own_Gl p e below s Q kc ks (T.setTop (mkF m pc' L (.int v :: S)))) : own_Gl p e below s Q kc ks (T.setTop (mkF m pc L (.int j :: .ref a :: S))) := by
  subst hp
  obtain ⟨cl, A, Sz, H⟩ := V
  exact hr.go fun t k => X.iaload hx (by rw [eT]; exact A.1) (State.isArrayOf_alike hZ.alike A.2.1) A.2.2 (own_in Sz hj) (own_at (a := a) (ty := .int) Sz H hj hv) (g := mkF m pc L (.int j :: .ref a :: S)) rfl rfl hd t k
theorem g_baload (X : Stand p l e R s m args below meth c T locs cells slots) (hx : p.tables.exec = Jvm.exec) (hZ : Z.Warmed39 s.vm) (eT : T.heap = h) {a : Addr} {n : Nat} {f : Nat → Int32} {j v : Int32} (V : own_IA Z h a .byte n f) (hj : 0 ≤ j.toInt ∧ j.toInt < n) (hv : f j.toInt.toNat = v) (hd : decode c.code pc = .ok (.baload, 1)) (hp : pc + 1 = pc')
    (hr : own_Gl p e below s Q kc ks (T.setTop (mkF m pc' L (.int v :: S)))) : own_Gl p e below s Q kc ks (T.setTop (mkF m pc L (.int j :: .ref a :: S))) := by
  subst hp
  obtain ⟨cl, A, Sz, H⟩ := V
  exact hr.go fun t k => X.baloadBytes hx (by rw [eT]; exact A.1) (State.isArrayOf_alike hZ.alike A.2.1) A.2.2 (own_in Sz hj) (own_at (a := a) (ty := .byte) Sz H hj hv) (g := mkF m pc L (.int j :: .ref a :: S)) rfl rfl hd t k
theorem g_zaload (X : Stand p l e R s m args below meth c T locs cells slots) (hx : p.tables.exec = Jvm.exec) (hZ : Z.Warmed39 s.vm) (eT : T.heap = h) {a : Addr} {n : Nat} {f : Nat → Int32} {j v : Int32} (V : own_IA Z h a .boolean n f) (hj : 0 ≤ j.toInt ∧ j.toInt < n) (hv : f j.toInt.toNat = v) (hd : decode c.code pc = .ok (.baload, 1)) (hp : pc + 1 = pc')
    (hr : own_Gl p e below s Q kc ks (T.setTop (mkF m pc' L (.int v :: S)))) : own_Gl p e below s Q kc ks (T.setTop (mkF m pc L (.int j :: .ref a :: S))) := by
  subst hp
  obtain ⟨cl, A, Sz, H⟩ := V
  exact hr.go fun t k => X.baloadBooleans hx (by rw [eT]; exact A.1) (State.isArrayOf_alike hZ.alike A.2.1) A.2.2 (own_in Sz hj) (own_at (a := a) (ty := .boolean) Sz H hj hv) (g := mkF m pc L (.int j :: .ref a :: S)) rfl rfl hd t k
theorem g_arraylength (X : Stand p l e R s m args below meth c T locs cells slots) (hx : p.tables.exec = Jvm.exec) (hZ : Z.Warmed39 s.vm) (eT : T.heap = h) {a : Addr} {ty : FieldType} {n : Nat} {f : Nat → Int32} {z : Int32} (V : own_IA Z h a ty n f) (hz : n.toInt32 = z) (hd : decode c.code pc = .ok (.arraylength, 1)) (hp : pc + 1 = pc')
    (hr : own_Gl p e below s Q kc ks (T.setTop (mkF m pc' L (.int z :: S)))) : own_Gl p e below s Q kc ks (T.setTop (mkF m pc L (.ref a :: S))) := by
  subst hp hz
  obtain ⟨cl, A, Sz, H⟩ := V
  subst Sz
  exact hr.go fun t k => X.arraylength hx (by rw [eT]; exact A.1) (State.isArrayOf_alike hZ.alike A.2.1) (g := mkF m pc L (.ref a :: S)) rfl rfl hd t k
theorem g_initO (X : Stand p l e R s m args below meth c T locs cells slots) (hx : p.tables.exec = Jvm.exec) (hZ : Z.Warmed39 s.vm) {own : String} {idx : Nat} (hown : s.vm.findClass own = some m.cls) (w1 : (Jvm.Cond.methodLink own idx Lib.objectInit).before a0 Z = true) (w2 : (Jvm.Cond.instanceMethod Lib.objectInit).before a0 Z = true)
    (w3 : (Jvm.Cond.code Lib.objectInit ⟨#[0xb1]⟩ 1 none).before a0 Z = true) (eT : T.heap = h) {a : Addr} (hsize : L.size = c.maxLocals) (hd : decode c.code pc = .ok (.invokespecial idx, 3)) (hp : pc + 3 = pc')
    (hf : 1 ≤ R.frames) (W : Nat) (hW : (S.map fun v => v.category).sum ≤ W) (hl : W + 12 ≤ R.locals) (k : ∀ T' : State, Stand p l e R s m args below meth c T' locs cells slots → T'.heap = h → own_Gl p e below s Q kc ks (T'.setTop (mkF m pc' L S))) :
    own_Gl p e below s Q kc ks (T.setTop (mkF m pc L (.ref a :: S))) := by
  subst hp
  obtain ⟨T', X', e', st⟩ := initO X hx hZ hown w1 w2 w3 eT (g := mkF m pc L (.ref a :: S)) rfl hsize rfl hd hf (W := W) (by show 2 * 0 + _ ≤ _; omega) hl
  exact (k T' X' e').go st
/-- a constructor by its contract -/
theorem g_callI (X : Stand p l e R s m args below meth c T locs cells slots) (hx : p.tables.exec = Jvm.exec) (hZ : Z.Warmed39 s.vm) {own : String} {index : Nat} {y : MethodName} {bytes : ByteArray} {maxL : Nat} (hy1 : y.name = "<init>") (hown : s.vm.findClass own = some m.cls)
    (w1 : (Jvm.Cond.methodLink own index y).before a0 Z = true) (w2 : (Jvm.Cond.instanceMethod y).before a0 Z = true) (w3 : (Jvm.Cond.initialized y.cls).before a0 Z = true) (w4 : (Jvm.Cond.code y bytes maxL none).before a0 Z = true) (hy : y.cls ≠ "java/lang/invoke/MethodHandle" ∧ y.cls ≠ "java/lang/invoke/VarHandle")
    {rm : Room} {as' : Array Value} {Qc : Option Value → Heap → List Loc → Prop}
    (hM : MetFree l y (head1 [Jvm.Cond.code y bytes maxL none] rm) (fun a U => a = as' ∧ Z.Warmed39 U.vm ∧ U.heap = h) (fun _ _ _ _ _ => True) (fun _ U o U' => ∃ v L, o = .returned v ∧ Qc v U'.heap L ∧ FrameEnd U o U' L rm.cells rm.slots))
    (W : Nat) (hf : rm.frames + 1 ≤ R.frames) (hl : W + (maxL + 11) + rm.locals ≤ R.locals) (eT : T.heap = h) (hsize : L.size = c.maxLocals) {a : Addr} (argsL rest : List Value) (hlen : ∀ sig, parseMethodDescriptor y.desc = some sig → argsL.length = sig.parameters.length)
    (hst : S = argsL.reverse ++ .ref a :: rest) (has : (Value.ref a :: argsL).toArray = as') (hW : (rest.map fun v => v.category).sum ≤ W) (hd : decode c.code pc = .ok (.invokespecial index, 3)) (hp : pc + 3 = pc') {cells' slots' : Nat} (hcc : cells + rm.cells = cells') (hss : slots + rm.slots = slots') (hcl : cells' ≤ R.cells) (hsl : slots' ≤ R.slots)
    (k : ∀ (v : Option Value) (T' : State) (L' : List Loc), Stand p l e R s m args below meth c T' (locs ++ L') cells' slots' → Qc v T'.heap L' → own_Gl p e below s Q kc ks (T'.setTop (mkF m pc' L (v.toList ++ rest)))) :
    own_Gl p e below s Q kc ks (T.setTop (mkF m pc L S)) := by
  subst hp hst hcc hss
  obtain ⟨v, _, ⟨T', L', k', n'⟩, -, X', ⟨Lc, hQ, l', y', z'⟩, st⟩ := X.specialBack hx (y := y) hy1 hown (mvT hZ w1) (mvT hZ w2) (mvT hZ w4) hy (backOf (W := W) hM hZ w4 w3 hf hl) (g := mkF m pc L (argsL.reverse ++ .ref a :: rest)) rfl hsize (Steps.refl _) (a := a) (argsL := argsL) (rest := rest) hlen rfl (by show 2 * 0 + _ ≤ _; omega) hd (fun _ _ => ⟨has, eT, hcl, hsl⟩)
  dsimp only [Pt.U, Pt.locs, Pt.cells, Pt.slots] at X' l' y' z' st hQ
  subst l' y' z'
  exact (k v T' Lc X' hQ).go fun t q => st.trans q
/-- an instance method by its contract -/
theorem g_callV (X : Stand p l e R s m args below meth c T locs cells slots) (hx : p.tables.exec = Jvm.exec) (hZ : Z.Warmed39 s.vm) {own C : String} {index : Nat} {y z : MethodName} {bytes : ByteArray} {maxL : Nat} {ret : Option FieldType} (hown : s.vm.findClass own = some m.cls)
    (w1 : (Jvm.Cond.methodLink own index y).before a0 Z = true) (w2 : (Jvm.Cond.declares y).before a0 Z = true) (nf : NotFace s y) (w5 : (Jvm.Cond.selects C y z).before a0 Z = true) (w6 : (Jvm.Cond.instanceMethod z).before a0 Z = true) (w3 : (Jvm.Cond.initialized z.cls).before a0 Z = true) (w4 : (Jvm.Cond.code z bytes maxL ret).before a0 Z = true) (hy : y.cls ≠ "java/lang/invoke/MethodHandle" ∧ y.cls ≠ "java/lang/invoke/VarHandle")
    {rm : Room} {as' : Array Value} {Qc : Option Value → Heap → List Loc → Prop}
    (hM : MetFree l z (head1 [Jvm.Cond.code z bytes maxL ret] rm) (fun a U => a = as' ∧ Z.Warmed39 U.vm ∧ U.heap = h) (fun _ _ _ _ _ => True) (fun _ U o U' => ∃ v L, o = .returned v ∧ Qc v U'.heap L ∧ FrameEnd U o U' L rm.cells rm.slots))
    (W : Nat) (hf : rm.frames + 1 ≤ R.frames) (hl : W + (maxL + 11) + rm.locals ≤ R.locals) (eT : T.heap = h) {a : Addr} (E : Exa Z h a C) (hsize : L.size = c.maxLocals) (argsL rest : List Value) (hlen : ∀ sig, parseMethodDescriptor y.desc = some sig → argsL.length = sig.parameters.length)
    (hst : S = argsL.reverse ++ .ref a :: rest) (has : (Value.ref a :: argsL).toArray = as') (hW : (rest.map fun v => v.category).sum ≤ W) (hd : decode c.code pc = .ok (.invokevirtual index, 3)) (hp : pc + 3 = pc') {cells' slots' : Nat} (hcc : cells + rm.cells = cells') (hss : slots + rm.slots = slots') (hcl : cells' ≤ R.cells) (hsl : slots' ≤ R.slots)
    (k : ∀ (v : Option Value) (T' : State) (L' : List Loc), Stand p l e R s m args below meth c T' (locs ++ L') cells' slots' → Qc v T'.heap L' → own_Gl p e below s Q kc ks (T'.setTop (mkF m pc' L (v.toList ++ rest)))) :
    own_Gl p e below s Q kc ks (T.setTop (mkF m pc L S)) := by
  subst hp hst hcc hss
  obtain ⟨cq, kq, qa, qb, qc⟩ := isOf hZ eT E
  obtain ⟨v, _, ⟨T', L', k', n'⟩, -, X', ⟨Lc, hQ, l', y', z'⟩, st⟩ := X.virtualBack hx (y := y) (z := z) hown (mvT hZ w1) (mvT hZ w2) nf (mvT hZ w5) (mvT hZ w6) hy (backOf (W := W) hM hZ w4 w3 hf hl) qa qc (g := mkF m pc L (argsL.reverse ++ .ref a :: rest)) rfl hsize (Steps.refl _) (argsL := argsL) (rest := rest) hlen rfl (by show 2 * 0 + _ ≤ _; omega) hd (fun _ _ => ⟨has, eT, hcl, hsl⟩)
  dsimp only [Pt.U, Pt.locs, Pt.cells, Pt.slots] at X' l' y' z' st hQ
  subst l' y' z'
  exact (k v T' Lc X' hQ).go fun t q => st.trans q
theorem own_nameL {n0 : Nat} (X : Stand p l e R s m args below meth c T locs cells slots) (N : Fr n0 locs) : ∃ lc, Fr n0 lc ∧ Stand p l e R s m args below meth c T lc cells slots := ⟨locs, N, X⟩
theorem own_nf {y : MethodName} {C : String} (hZ : Z.Warmed39 s.vm) (w5 : (Jvm.Cond.selects C y y).before a0 Z = true) : NotFace s y := notFace_of_selects (args := #[]) (mvT hZ w5)
end OwnHeap

section OwnRef
variable {p : Program} {l : Launch} {e : Env} {R : Room} {s : State} {m : MethodId} {args : Array Value} {below : List Frame} {meth : Method} {c : Code} {T : State} {locs : List Loc} {cells slots : Nat} {Z : State} {a0 : Array Value} {h : Heap} {Q : Option Value → Heap → List Loc → Prop} {kc ks : Nat} {pc pc' : Nat} {L L' : Array Slot} {S : List Value}
def own_AL (Z : State) (h : Heap) (a : Addr) (n : Nat) : Prop := ∃ (c : Cell) (ty : FieldType), Arr Z h a c ty ∧ c.slots.size = n
theorem own_AL.ext {h' : Heap} {a : Addr} {n : Nat} (V : own_AL Z h a n) (E : Ext h h') : own_AL Z h' a n := by obtain ⟨c, ty, A, r⟩ := V; exact ⟨c, ty, A.ext E, r⟩
/-- an Object[]: its length, what its first place holds -/
def own_RA (Z : State) (h : Heap) (a : Addr) (n : Nat) (r : Value) : Prop := ∃ c : Cell, Arr Z h a c (.object "java/lang/Object") ∧ c.slots.size = n ∧ c.slots[0]? = some r ∧ Ovr Z c.cls "java/lang/Object"
theorem own_RA.lt {a : Addr} {n : Nat} {r : Value} (V : own_RA Z h a n r) : a < h.size := by obtain ⟨c, A, -⟩ := V; exact A.lt
theorem own_RA.ext {h' : Heap} {a : Addr} {n : Nat} {r : Value} (V : own_RA Z h a n r) (E : Ext h h') : own_RA Z h' a n r := by obtain ⟨c, A, q⟩ := V; exact ⟨c, A.ext E, q⟩
theorem own_RA.other {h' : Heap} {a b : Addr} {n sl : Nat} {v r : Value} (V : own_RA Z h b n r) (W : Wr h h' a sl v) (q : b ≠ a) : own_RA Z h' b n r := by obtain ⟨c, A, z⟩ := V; exact ⟨c, A.other W q, z⟩
theorem own_RA.keep {h' : Heap} {ws : List Addr} {a : Addr} {n : Nat} {r : Value} (V : own_RA Z h a n r) (K : Keep h h' ws) (q : a ∉ ws) : own_RA Z h' a n r := by obtain ⟨c, A, z⟩ := V; exact ⟨c, ⟨K.2.1 a c A.1 q, A.2⟩, z⟩
theorem g_arrlenA (X : Stand p l e R s m args below meth c T locs cells slots) (hx : p.tables.exec = Jvm.exec) (hZ : Z.Warmed39 s.vm) (eT : T.heap = h) {a : Addr} {n : Nat} {z : Int32} (V : own_AL Z h a n) (hz : n.toInt32 = z) (hd : decode c.code pc = .ok (.arraylength, 1)) (hp : pc + 1 = pc')
    (hr : own_Gl p e below s Q kc ks (T.setTop (mkF m pc' L (.int z :: S)))) : own_Gl p e below s Q kc ks (T.setTop (mkF m pc L (.ref a :: S))) := by
  subst hp hz
  obtain ⟨cl, ty, A, Sz⟩ := V
  subst Sz
  exact hr.go fun t k => X.arraylength hx (by rw [eT]; exact A.1) (State.isArrayOf_alike hZ.alike A.2.1) (g := mkF m pc L (.ref a :: S)) rfl rfl hd t k
theorem g_newarrE (X : Stand p l e R s m args below meth c T locs cells slots) (hx : p.tables.exec = Jvm.exec) (hZ : Z.Warmed39 s.vm) {aty : ArrayType} {ty : FieldType} (hty : newarray.typeOf aty = ty) (hdv : defaultValue ty = .int 0) (w : (Jvm.Cond.arrayClass ty).before a0 Z = true) (eT : T.heap = h)
    (hd : decode c.code pc = .ok (.newarray aty, 2)) (hp : pc + 2 = pc') {z : Int32} {n : Nat} (hn : z.toInt = n) (cap : Nat) (hcap : n ≤ cap) (hb : cap * 8 ≤ 536870912) {cells' slots' : Nat} (hcc : cells + 1 = cells') (hss : slots + cap = slots') (hc : cells' ≤ R.cells) (hl : slots' ≤ R.slots) {nm : String} (had : "[" ++ ty.toString = nm)
    (k : ∀ (T' : State) (h' : Heap) (b : Addr), b = h.size → Stand p l e R s m args below meth c T' locs cells' slots' → T'.heap = h' → Ext h h' → own_IA Z h' b ty n (fun _ => 0) → Exa Z h' b nm → own_Gl p e below s Q kc ks (T'.setTop (mkF m pc' L (.ref b :: S)))) :
    own_Gl p e below s Q kc ks (T.setTop (mkF m pc L (.int z :: S))) := by
  subst hp hcc hss hty
  have q : ¬ z < 0 := by
    have k0 : (0 : Int32).toInt = 0 := by decide
    rw [Int32.lt_iff_toInt_lt, k0]; omega
  have zn : z.toNatClampNeg = n := by rw [own_clamp]; omega
  obtain ⟨T', h', cA, X', e', E', A', EX, st⟩ := newPE X hx hZ w eT (g := mkF m pc L (.int z :: S)) rfl hd rfl q (cap := cap) (by omega) hb hc hl had
  refine (k T' h' _ rfl X' e' E' ⟨_, A', by rw [sz_new, zn], fun i hi => ?_⟩ EX).go st
  show (Array.replicate z.toNatClampNeg (defaultValue (newarray.typeOf aty)))[i]? = _
  rw [zn, hdv, Array.getElem?_replicate, if_pos hi]
theorem g_newR (X : Stand p l e R s m args below meth c T locs cells slots) (hx : p.tables.exec = Jvm.exec) (hZ : Z.Warmed39 s.vm) {own : String} {index : Nat} (hown : s.vm.findClass own = some m.cls) (w1 : (Jvm.Cond.classLink own index "java/lang/Object").before a0 Z = true) (w2 : (Jvm.Cond.arrayOver (.object "java/lang/Object")).before a0 Z = true) (eT : T.heap = h)
    (hd : decode c.code pc = .ok (.anewarray index, 3)) (hp : pc + 3 = pc') {z : Int32} {n : Nat} (hn : z.toInt = n) (h0n : 0 < n) (cap : Nat) (hcap : n ≤ cap) (hb : cap * 8 ≤ 536870912) {cells' slots' : Nat} (hcc : cells + 1 = cells') (hss : slots + cap = slots') (hc : cells' ≤ R.cells) (hl : slots' ≤ R.slots)
    (k : ∀ (T' : State) (h' : Heap) (b : Addr), b = h.size → Stand p l e R s m args below meth c T' locs cells' slots' → T'.heap = h' → Ext h h' → own_RA Z h' b n .null → own_Gl p e below s Q kc ks (T'.setTop (mkF m pc' L (.ref b :: S)))) :
    own_Gl p e below s Q kc ks (T.setTop (mkF m pc L (.int z :: S))) := by
  subst hp hcc hss
  have q : ¬ z < 0 := by
    have k0 : (0 : Int32).toInt = 0 := by decide
    rw [Int32.lt_iff_toInt_lt, k0]; omega
  have zn : z.toNatClampNeg = n := by rw [own_clamp]; omega
  obtain ⟨T', h', cA, X', e', E', A', O', st⟩ := newR X hx hZ hown w1 w2 eT (g := mkF m pc L (.int z :: S)) rfl hd rfl q (cap := cap) (by omega) hb hc hl
  refine (k T' h' _ rfl X' e' E' ⟨_, A', by rw [sz_new, zn], ?_, O'⟩).go st
  show (Array.replicate z.toNatClampNeg (defaultValue (.object "java/lang/Object")))[0]? = _
  rw [zn, Array.getElem?_replicate, if_pos h0n]; rfl
theorem g_aastore (X : Stand p l e R s m args below meth c T locs cells slots) (hx : p.tables.exec = Jvm.exec) (hZ : Z.Warmed39 s.vm) (eT : T.heap = h) {a y : Addr} {n : Nat} {r : Value} {j : Int32} (V : own_RA Z h a n r) (hj : j.toInt = 0) (h0n : 0 < n) (I : Ins Z h y "java/lang/Object" true) (hd : decode c.code pc = .ok (.aastore, 1)) (hp : pc + 1 = pc')
    (k : ∀ (T' : State) (h' : Heap), Stand p l e R s m args below meth c T' (locs ++ [⟨a, j.toNatClampNeg⟩]) cells slots → T'.heap = h' → Wr h h' a j.toNatClampNeg (.ref y) → own_RA Z h' a n (.ref y) → own_Gl p e below s Q kc ks (T'.setTop (mkF m pc' L S))) :
    own_Gl p e below s Q kc ks (T.setTop (mkF m pc L (.ref y :: .int j :: .ref a :: S))) := by
  subst hp
  obtain ⟨cl, A, Sz, H, O⟩ := V
  obtain ⟨T', h', X', e', W', st⟩ := stR X hx hZ eT A (own_in Sz ⟨by omega, by omega⟩) rfl (Sto.of A O I) (g := mkF m pc L (.ref y :: .int j :: .ref a :: S)) rfl rfl hd
  have jz : j.toNatClampNeg = 0 := by rw [own_clamp]; omega
  refine (k T' h' X' e' W' ⟨cl.setSlot j.toNatClampNeg (.ref y), A.same W', by rw [sz_set]; exact Sz, ?_, O⟩).go st
  show (cl.slots.setIfInBounds j.toNatClampNeg (.ref y))[0]? = some (.ref y)
  rw [jz, Array.getElem?_setIfInBounds_self_of_lt (by omega)]
theorem g_aaload (X : Stand p l e R s m args below meth c T locs cells slots) (hx : p.tables.exec = Jvm.exec) (hZ : Z.Warmed39 s.vm) (eT : T.heap = h) {a : Addr} {n : Nat} {r : Value} {j : Int32} (V : own_RA Z h a n r) (hj : j.toInt = 0) (h0n : 0 < n) (hd : decode c.code pc = .ok (.aaload, 1)) (hp : pc + 1 = pc')
    (hr : own_Gl p e below s Q kc ks (T.setTop (mkF m pc' L (r :: S)))) : own_Gl p e below s Q kc ks (T.setTop (mkF m pc L (.int j :: .ref a :: S))) := by
  subst hp
  obtain ⟨cl, A, Sz, H, O⟩ := V
  have jz : j.toNatClampNeg = 0 := by rw [own_clamp]; omega
  exact hr.go fun t k => X.aaload hx (by rw [eT]; exact A.1) (State.isArrayOf_alike hZ.alike A.2.1) rfl A.2.2 (own_in Sz ⟨by omega, by omega⟩) (by rw [jz]; exact H) (g := mkF m pc L (.int j :: .ref a :: S)) rfl rfl hd t k
theorem g_cast (X : Stand p l e R s m args below meth c T locs cells slots) (hx : p.tables.exec = Jvm.exec) (hZ : Z.Warmed39 s.vm) {own K : String} {index : Nat} (hown : s.vm.findClass own = some m.cls) (w : (Jvm.Cond.classLink own index K).before a0 Z = true) (eT : T.heap = h) {a : Addr} (F : Ins Z h a K true) (hd : decode c.code pc = .ok (.checkcast index, 3)) (hp : pc + 3 = pc')
    (k : ∀ T' : State, Stand p l e R s m args below meth c T' locs cells slots → T'.heap = h → own_Gl p e below s Q kc ks (T'.setTop (mkF m pc' L (.ref a :: S)))) : own_Gl p e below s Q kc ks (T.setTop (mkF m pc L (.ref a :: S))) := by
  subst hp
  obtain ⟨T', X', e', st⟩ := castY X hx hZ hown w eT F (g := mkF m pc L (.ref a :: S)) rfl rfl hd
  exact (k T' X' e').go st
theorem g_getS (X : Stand p l e R s m args below meth c T locs cells slots) (hx : p.tables.exec = Jvm.exec) (hZ : Z.Warmed39 s.vm) {own R0 n d : String} {index : Nat} (hown : s.vm.findClass own = some m.cls) (w : (Jvm.Cond.fieldLink own index R0 n d).before a0 Z = true) (eT : T.heap = h) {v : Value} (F : Sta Z h R0 n d v) (hd : decode c.code pc = .ok (.getstatic index, 3)) (hp : pc + 3 = pc')
    (k : ∀ T' : State, Stand p l e R s m args below meth c T' locs cells slots → T'.heap = h → own_Gl p e below s Q kc ks (T'.setTop (mkF m pc' L (v :: S)))) : own_Gl p e below s Q kc ks (T.setTop (mkF m pc L S)) := by
  subst hp
  obtain ⟨T', X', e', st⟩ := getS2 (host := "") X hx hZ hown (Or.inl w) Via.refl eT F (g := mkF m pc L S) rfl hd
  exact (k T' X' e').go st
theorem g_acmpEqY (X : Stand p l e R s m args below meth c T locs cells slots) (hx : p.tables.exec = Jvm.exec) {a : Addr} {i : Int} (hd : decode c.code pc = .ok (.if_acmp .eq i, 3)) (ho : 0 ≤ (pc : Int) + i) (hp : ((pc : Int) + i).toNat = pc') (hr : own_Gl p e below s Q kc ks (T.setTop (mkF m pc' L S))) :
    own_Gl p e below s Q kc ks (T.setTop (mkF m pc L (.ref a :: .ref a :: S))) :=
  hr.go fun t k => Jvm.RoadKit.acmp (g := mkF m pc L (.ref a :: .ref a :: S)) X hx rfl (x := .ref a) (y := .ref a) rfl rfl (pc0 := pc) (same := true) rfl hd rfl (decide_eq_true rfl) ho hp.symm k
theorem g_retR (X : Stand p l e R s m args below meth c T locs cells slots) (hx : p.tables.exec = Jvm.exec) (hlk : meth.locks = false) {a : Addr} {t : FieldType} (hret : meth.sig.returnType = some t) (ht : t.isReference = true) (hn : narrow t (.ref a) = .ref a) (hd : decode c.code pc = .ok (.areturn, 1)) (hc : cells ≤ kc) (hs : slots ≤ ks) (hQ : Q (some (.ref a)) T.heap locs) :
    own_Gl p e below s Q kc ks (T.setTop (mkF m pc L (.ref a :: S))) :=
  own_ret X hlk (fun h => by rw [hret] at h; cases h) hQ hc hs fun fs hr => retOut X hx hret hn (Or.inr (Or.inr (Or.inr (Or.inr ⟨rfl, ht, rfl⟩)))) hd hr
/-- a method of an interface by the contract of the body that the receiver's class selects -/
theorem g_callIf (X : Stand p l e R s m args below meth c T locs cells slots) (hx : p.tables.exec = Jvm.exec) (hZ : Z.Warmed39 s.vm) {own C : String} {index count : Nat} {y z : MethodName} {bytes : ByteArray} {maxL : Nat} {ret : Option FieldType} (hown : s.vm.findClass own = some m.cls)
    (w1 : (Jvm.Cond.methodLink own index y).before a0 Z = true) (w2 : (Jvm.Cond.declares y).before a0 Z = true) (wf : (Jvm.Cond.interfaceMethod y.cls y.cls y.name y.desc).before args s = true) (w5 : (Jvm.Cond.selects C y z).before a0 Z = true) (w6 : (Jvm.Cond.instanceMethod z).before a0 Z = true) (wp : (Jvm.Cond.publicMethod z).before a0 Z = true) (wu : (Jvm.Cond.unhidden C y.name y.desc).before a0 Z = true) (wk : (Jvm.Cond.castable C y.cls).before a0 Z = true) (w3 : (Jvm.Cond.initialized z.cls).before a0 Z = true) (w4 : (Jvm.Cond.code z bytes maxL ret).before a0 Z = true) (hy : y.cls ≠ "java/lang/invoke/MethodHandle" ∧ y.cls ≠ "java/lang/invoke/VarHandle")
    {rm : Room} {as' : Array Value} {Qc : Option Value → Heap → List Loc → Prop}
    (hM : MetFree l z (head1 [Jvm.Cond.code z bytes maxL ret] rm) (fun a U => a = as' ∧ Z.Warmed39 U.vm ∧ U.heap = h) (fun _ _ _ _ _ => True) (fun _ U o U' => ∃ v L, o = .returned v ∧ Qc v U'.heap L ∧ FrameEnd U o U' L rm.cells rm.slots))
    (W : Nat) (hf : rm.frames + 1 ≤ R.frames) (hl : W + (maxL + 11) + rm.locals ≤ R.locals) (eT : T.heap = h) {a : Addr} (E : Exa Z h a C) (hsize : L.size = c.maxLocals) (argsL rest : List Value) (hlen : ∀ sig, parseMethodDescriptor y.desc = some sig → argsL.length = sig.parameters.length)
    (hst : S = argsL.reverse ++ .ref a :: rest) (has : (Value.ref a :: argsL).toArray = as') (hW : (rest.map fun v => v.category).sum ≤ W) (hd : decode c.code pc = .ok (.invokeinterface index count, 5)) (hp : pc + 5 = pc') {cells' slots' : Nat} (hcc : cells + rm.cells = cells') (hss : slots + rm.slots = slots') (hcl : cells' ≤ R.cells) (hsl : slots' ≤ R.slots)
    (k : ∀ (v : Option Value) (T' : State) (L' : List Loc), Stand p l e R s m args below meth c T' (locs ++ L') cells' slots' → Qc v T'.heap L' → own_Gl p e below s Q kc ks (T'.setTop (mkF m pc' L (v.toList ++ rest)))) :
    own_Gl p e below s Q kc ks (T.setTop (mkF m pc L S)) := by
  subst hp hst hcc hss
  obtain ⟨cq, kq, qa, qb, qc⟩ := isOf hZ eT E
  obtain ⟨v, _, ⟨T', L', k', n'⟩, -, X', ⟨Lc, hQ, l', y', z'⟩, st⟩ := X.interfaceBack hx (xi := y) (y := z) hown (mvT hZ w1) (mvT hZ w2) wf (mvT hZ w5) (mvT hZ w6) (mvT hZ wp) (mvT hZ wu) (mvT hZ wk) hy (backOf (W := W) hM hZ w4 w3 hf hl) qa qb qc (g := mkF m pc L (argsL.reverse ++ .ref a :: rest)) rfl hsize (Steps.refl _) (argsL := argsL) (rest := rest) hlen rfl (by show 2 * 0 + _ ≤ _; omega) hd (fun _ _ => ⟨has, eT, hcl, hsl⟩)
  dsimp only [Pt.U, Pt.locs, Pt.cells, Pt.slots] at X' l' y' z' st hQ
  subst l' y' z'
  exact (k v T' Lc X' hQ).go fun t q => st.trans q
/-- a private method by its contract -/
theorem g_callPr (X : Stand p l e R s m args below meth c T locs cells slots) (hx : p.tables.exec = Jvm.exec) (hZ : Z.Warmed39 s.vm) {own C : String} {index : Nat} {y : MethodName} {bytes : ByteArray} {maxL : Nat} {ret : Option FieldType} (hown : s.vm.findClass own = some m.cls)
    (w1 : (Jvm.Cond.methodLink own index y).before a0 Z = true) (hsel : (Jvm.Cond.selects y.cls y y).before args s = true) (w6 : (Jvm.Cond.instanceMethod y).before a0 Z = true) (wp : (Jvm.Cond.privateMethod y).before a0 Z = true) (w3 : (Jvm.Cond.initialized y.cls).before a0 Z = true) (w4 : (Jvm.Cond.code y bytes maxL ret).before a0 Z = true) (hy : y.cls ≠ "java/lang/invoke/MethodHandle" ∧ y.cls ≠ "java/lang/invoke/VarHandle")
    {rm : Room} {as' : Array Value} {Qc : Option Value → Heap → List Loc → Prop}
    (hM : MetFree l y (head1 [Jvm.Cond.code y bytes maxL ret] rm) (fun a U => a = as' ∧ Z.Warmed39 U.vm ∧ U.heap = h) (fun _ _ _ _ _ => True) (fun _ U o U' => ∃ v L, o = .returned v ∧ Qc v U'.heap L ∧ FrameEnd U o U' L rm.cells rm.slots))
    (W : Nat) (hf : rm.frames + 1 ≤ R.frames) (hl : W + (maxL + 11) + rm.locals ≤ R.locals) (eT : T.heap = h) {a : Addr} (E : Exa Z h a C) (hsize : L.size = c.maxLocals) (argsL rest : List Value) (hlen : ∀ sig, parseMethodDescriptor y.desc = some sig → argsL.length = sig.parameters.length)
    (hst : S = argsL.reverse ++ .ref a :: rest) (has : (Value.ref a :: argsL).toArray = as') (hW : (rest.map fun v => v.category).sum ≤ W) (hd : decode c.code pc = .ok (.invokevirtual index, 3)) (hp : pc + 3 = pc') {cells' slots' : Nat} (hcc : cells + rm.cells = cells') (hss : slots + rm.slots = slots') (hcl : cells' ≤ R.cells) (hsl : slots' ≤ R.slots)
    (k : ∀ (v : Option Value) (T' : State) (L' : List Loc), Stand p l e R s m args below meth c T' (locs ++ L') cells' slots' → Qc v T'.heap L' → own_Gl p e below s Q kc ks (T'.setTop (mkF m pc' L (v.toList ++ rest)))) :
    own_Gl p e below s Q kc ks (T.setTop (mkF m pc L S)) := by
  subst hp hst hcc hss
  obtain ⟨cq, q1, q2⟩ := E.cell
  obtain ⟨v, _, ⟨T', L', k', n'⟩, -, X', ⟨Lc, hQ, l', y', z'⟩, st⟩ := X.privateBack hx (y := y) hown (mvT hZ w1) (mvT hZ w6) hsel (Cond.privateMethod_at (mvP hZ wp (args := #[]))) (mvT hZ w4) hy (backOf (W := W) hM hZ w4 w3 hf hl) (g := mkF m pc L (argsL.reverse ++ .ref a :: rest)) rfl hsize (Steps.refl _) (a := a) (by rw [eT]; exact q1) q2 (argsL := argsL) (rest := rest) hlen rfl (by show 2 * 0 + _ ≤ _; omega) hd (fun _ _ => ⟨has, eT, hcl, hsl⟩)
  dsimp only [Pt.U, Pt.locs, Pt.cells, Pt.slots] at X' l' y' z' st hQ
  subst l' y' z'
  exact (k v T' Lc X' hQ).go fun t q => st.trans q
/-- a private method's own 'selects', by another word of its class -/
theorem own_selP {y yo : MethodName} {C : String} (hZ : Z.Warmed39 s.vm) (hc1 : yo.cls = C) (hc2 : y.cls = C) (wo : (Jvm.Cond.selects C yo yo).before a0 Z = true) (wi : (Jvm.Cond.instanceMethod y).before a0 Z = true) (wp : (Jvm.Cond.privateMethod y).before a0 Z = true) (hy : y.cls ≠ "java/lang/invoke/MethodHandle" ∧ y.cls ≠ "java/lang/invoke/VarHandle") : (Jvm.Cond.selects y.cls y y).before args s = true := by
  have so : (Jvm.Cond.selects C yo yo).before args s = true := mvT hZ wo
  obtain ⟨c2, r2, m2, q1, q2, q3, q4, kP, hkP, hkPi⟩ := Cond.selects_spec so
  have f1 := findClass_of_methodNamed q3
  rw [hc1] at f1
  exact selects_self_of_private (c := m2.cls) (k := kP) (by rw [hc2]; exact f1) hkP hkPi (Cond.privateMethod_at (mvP hZ wp (args := #[]))) (mvT hZ wi) hy
end OwnRef
def own_Q0 (n0 : Nat) (v : Option Value) (h : Heap) (L : List Loc) : Prop := v = some (.int 1) ∧ Fr n0 L
theorem own_len0 {args : Array Value} {t : Term} {Z : State} {a : Addr} {c : Cell} (ev : t.eval args Z none [] Z = some (.ref a)) (h : (Cond.eq (.length t) (.int (0 : Int32))).value args Z none Z [] = some true) (hc : Z.arrayAt? a = some c) : c.slots.size = 0 := by
  have ea : (Term.length t).eval args Z none [] Z = some (.int 0) := Cond.eq_int (n := 0) (by rw [Cond.holds, h]; rfl) rfl
  simp only [Term.eval, Option.bind_eq_bind, ev, Option.bind_some, hc] at ea
  split at ea
  · rename_i hlt
    have e2 : (c.slots.size.toInt32) = (0 : Int32) := by simpa using ea
    have e3 := congrArg Int32.toInt e2
    have e4 : (c.slots.size.toInt32).toInt = (c.slots.size : Int) := by
      show (Int32.ofNat c.slots.size).toInt = _
      exact Int32.toInt_ofNat_of_lt (by omega)
    rw [e4] at e3
    simp only [Int32.reduceToInt] at e3
    omega
  · cases ea
theorem own_static {args : Array Value} {Z : State} {C n d : String} {ty : FieldType} (w1 : (Cond.initialized C).before args Z = true) (w2 : (Cond.laysStatic C n d).before args Z = true) (w3 : (Cond.arrayOf (.static C n d) ty).before args Z = true) (w4 : (Cond.eq (.length (.static C n d)) (.int (0 : Int32))).before args Z = true) : ∃ a : Nat, Sta Z Z.heap C n d (.ref a) ∧ own_AL Z Z.heap a 0 := by
  have v3 := Cond.before_iff.mp w3
  obtain ⟨a, ev⟩ := arr_v v3
  obtain ⟨c, A⟩ := Arr.start ev v3
  exact ⟨a, Sta.start ev (Or.inr ⟨w1, w2⟩), c, ty, A, own_len0 ev (Cond.before_iff.mp w4) (IntBox.arrayAt_of A.1 A.2.1 A.2.2)⟩
def own_BF (Z : State) (h : Heap) (a : Addr) (f_pages : Addr) (f_capacity : Int64) (f_length : Int64) (f_pending : Int64) (f_lastPageBytes : Int32) : Prop := Exa Z h a "com/example/narrow_sieve/narrowsieve/format/BitBuffer" ∧ Fld Z h a "com/example/narrow_sieve/narrowsieve/format/BitBuffer" "pages" "Ljava/util/List;" (.ref f_pages) ∧ Fld Z h a "com/example/narrow_sieve/narrowsieve/format/BitBuffer" "capacity" "J" (.long f_capacity) ∧ Fld Z h a "com/example/narrow_sieve/narrowsieve/format/BitBuffer" "length" "J" (.long f_length) ∧ Fld Z h a "com/example/narrow_sieve/narrowsieve/format/BitBuffer" "pending" "J" (.long f_pending) ∧ Fld Z h a "com/example/narrow_sieve/narrowsieve/format/BitBuffer" "lastPageBytes" "I" (.int f_lastPageBytes)
def own_LI (Z : State) (h : Heap) (a : Addr) (f_elementData : Addr) (f_size : Int32) (f_modCount : Int32) : Prop := Exa Z h a "java/util/ArrayList" ∧ Fld Z h a "java/util/ArrayList" "elementData" "[Ljava/lang/Object;" (.ref f_elementData) ∧ Fld Z h a "java/util/ArrayList" "size" "I" (.int f_size) ∧ Fld Z h a "java/util/AbstractList" "modCount" "I" (.int f_modCount)
/-- a buffer that has no page yet -/
def own_SE (Z : State) (h : Heap) (n0 o d : Nat) (cap len : Int64) : Prop := ∃ (pg : Nat) (pe : Int64) (mc : Int32), own_BF Z h o pg cap len pe (0 : Int32) ∧ own_LI Z h pg d (0 : Int32) mc ∧ o < pg ∧ n0 ≤ o ∧ Old Z n0 h
/-- a buffer that has its first page -/
def own_SP (Z : State) (h : Heap) (n0 o : Nat) (cap len : Int64) (B : Nat) : Prop := ∃ (pg page arr : Nat) (pe : Int64) (lp mc : Int32) (f : Nat → Int32), own_BF Z h o pg cap len pe lp ∧ own_LI Z h pg arr (1 : Int32) mc ∧ own_RA Z h arr 10 (.ref page) ∧ own_IA Z h page .byte 65536 f ∧ Exa Z h page "[B" ∧ (o < pg ∧ pg < page ∧ page < arr) ∧ n0 ≤ o ∧ Old Z n0 h ∧ 0 ≤ lp.toInt ∧ lp.toInt ≤ B
theorem d22_0 : decode jdk_29_method_70_code 0 = .ok (.lload_n 0, 1) := by decide +kernel
theorem d22_1 : decode jdk_29_method_70_code 1 = .ok (.lload_n 2, 1) := by decide +kernel
theorem d22_2 : decode jdk_29_method_70_code 2 = .ok (.lcmp, 1) := by decide +kernel
theorem d22_3 : decode jdk_29_method_70_code 3 = .ok (.ifCond .gt 7, 3) := by decide +kernel
theorem d22_10 : decode jdk_29_method_70_code 10 = .ok (.lload_n 2, 1) := by decide +kernel
theorem d22_11 : decode jdk_29_method_70_code 11 = .ok (.lreturn, 1) := by decide +kernel
theorem d22_6 : decode jdk_29_method_70_code 6 = .ok (.lload_n 0, 1) := by decide +kernel
theorem d22_7 : decode jdk_29_method_70_code 7 = .ok (.goto 4, 3) := by decide +kernel
def f_min (x0 : Int64) (x1 : Int64) : Int64 := (if x1 < x0 then x1 else x0)
theorem ef_22 (m : MethodId) (x0 : Int64) (x1 : Int64) : entryFrame m #[(.long x0), (.long x1)] 4 = mkF m 0 #[.val (.long x0), .second, .val (.long x1), .second] [] := by first | (simp [entryFrame, mkF, argsToLocals, Value.category]; done) | rfl
set_option maxRecDepth 65536 in
set_option maxHeartbeats 40000000 in
theorem rm22 (l : Launch) (Z : State) (a0 : Array Value) (hw : ∀ d ∈ tables_1, d.before a0 Z = true) (ws : List Jvm.Cond) (x0 : Int64) (x1 : Int64) (h0 : Heap) :
    MetFree l (⟨"java/lang/Math", "min", "(JJ)J"⟩ : MethodName) (head1 (Jvm.Cond.code (⟨"java/lang/Math", "min", "(JJ)J"⟩ : MethodName) jdk_29_method_70_code 4 (some .long) :: ws) ({ frames := 0, cells := 0, slots := 0, locals := 0 } : Room)) (fun a U => a = #[(.long x0), (.long x1)] ∧ Z.Warmed39 U.vm ∧ U.heap = h0) (fun _ _ _ _ _ => True) (fun _ U o U' => ∃ v L, o = .returned v ∧ (own_Pure (some (.long (f_min x0 x1))) h0) v U'.heap L ∧ FrameEnd U o U' L ({ frames := 0, cells := 0, slots := 0, locals := 0 } : Room).cells ({ frames := 0, cells := 0, slots := 0, locals := 0 } : Room).slots) := by
  refine own_body (own := "java/lang/Math") (Jvm.Free.JP.mathPlain rfl (by decide +kernel)) rfl (fun m => ef_22 m x0 x1) ?_
  intro p e s m below meth c T0 hx hby hml hown hnm hlk hret hZ X0 e0
  refine g_lloadN X0.here hx (Jvm.hb hby d22_0) (pc' := 1) rfl rfl ?_
  refine g_lloadN X0.here hx (Jvm.hb hby d22_1) (pc' := 2) rfl rfl ?_
  refine g_lcmp X0.here hx (Jvm.hb hby d22_2) (pc' := 3) rfl ?_
  by_cases hc3_0 : x1 < x0
  · refine g_ifY X0.here hx (Jvm.hb hby d22_3) (by decide) (pc' := 10) (by decide) (own_tltL hc3_0).2.2.1 ?_
    refine g_lloadN X0.here hx (Jvm.hb hby d22_10) (pc' := 11) rfl rfl ?_
    exact g_retL X0 hx hlk hret (Jvm.hb hby d22_11) (Nat.zero_le _) (Nat.zero_le _) ⟨by simp only [f_min, if_pos hc3_0], rfl, e0⟩
  · refine g_ifN X0.here hx (Jvm.hb hby d22_3) (pc' := 6) rfl (own_fltL hc3_0).2.2.1 ?_
    refine g_lloadN X0.here hx (Jvm.hb hby d22_6) (pc' := 7) rfl rfl ?_
    refine g_goto X0.here hx (Jvm.hb hby d22_7) (by decide) (pc' := 11) (by decide) ?_
    exact g_retL X0 hx hlk hret (Jvm.hb hby d22_11) (Nat.zero_le _) (Nat.zero_le _) ⟨by simp only [f_min, if_neg hc3_0], rfl, e0⟩
theorem d16_0 : decode jdk_29_method_65_code 0 = .ok (.iload_n 0, 1) := by decide +kernel
theorem d16_1 : decode jdk_29_method_65_code 1 = .ok (.iload_n 1, 1) := by decide +kernel
theorem d16_2 : decode jdk_29_method_65_code 2 = .ok (.if_icmp .lt 7, 3) := by decide +kernel
theorem d16_9 : decode jdk_29_method_65_code 9 = .ok (.iload_n 1, 1) := by decide +kernel
theorem d16_10 : decode jdk_29_method_65_code 10 = .ok (.ireturn, 1) := by decide +kernel
theorem d16_5 : decode jdk_29_method_65_code 5 = .ok (.iload_n 0, 1) := by decide +kernel
theorem d16_6 : decode jdk_29_method_65_code 6 = .ok (.goto 4, 3) := by decide +kernel
def f_max (x0 : Int32) (x1 : Int32) : Int32 := (if x0 < x1 then x1 else x0)
theorem ef_16 (m : MethodId) (x0 : Int32) (x1 : Int32) : entryFrame m #[(.int x0), (.int x1)] 2 = mkF m 0 #[.val (.int x0), .val (.int x1)] [] := by first | (simp [entryFrame, mkF, argsToLocals, Value.category]; done) | rfl
set_option maxRecDepth 65536 in
set_option maxHeartbeats 40000000 in
theorem rm16 (l : Launch) (Z : State) (a0 : Array Value) (hw : ∀ d ∈ tables_1, d.before a0 Z = true) (ws : List Jvm.Cond) (x0 : Int32) (x1 : Int32) (h0 : Heap) :
    MetFree l (⟨"java/lang/Math", "max", "(II)I"⟩ : MethodName) (head1 (Jvm.Cond.code (⟨"java/lang/Math", "max", "(II)I"⟩ : MethodName) jdk_29_method_65_code 2 (some .int) :: ws) ({ frames := 0, cells := 0, slots := 0, locals := 0 } : Room)) (fun a U => a = #[(.int x0), (.int x1)] ∧ Z.Warmed39 U.vm ∧ U.heap = h0) (fun _ _ _ _ _ => True) (fun _ U o U' => ∃ v L, o = .returned v ∧ (own_Pure (some (.int (f_max x0 x1))) h0) v U'.heap L ∧ FrameEnd U o U' L ({ frames := 0, cells := 0, slots := 0, locals := 0 } : Room).cells ({ frames := 0, cells := 0, slots := 0, locals := 0 } : Room).slots) := by
  refine own_body (own := "java/lang/Math") (Jvm.Free.JP.mathPlain rfl (by decide +kernel)) rfl (fun m => ef_16 m x0 x1) ?_
  intro p e s m below meth c T0 hx hby hml hown hnm hlk hret hZ X0 e0
  refine g_iloadN X0.here hx (Jvm.hb hby d16_0) (pc' := 1) rfl rfl ?_
  refine g_iloadN X0.here hx (Jvm.hb hby d16_1) (pc' := 2) rfl rfl ?_
  by_cases hc2_0 : x0 < x1
  · refine g_icY X0.here hx (Jvm.hb hby d16_2) (by decide) (pc' := 9) (by decide) (tlt hc2_0).1 ?_
    refine g_iloadN X0.here hx (Jvm.hb hby d16_9) (pc' := 10) rfl rfl ?_
    exact g_retI X0 hx hlk hret (Jvm.hb hby d16_10) (Nat.zero_le _) (Nat.zero_le _) ⟨by simp only [f_max, if_pos hc2_0], rfl, e0⟩
  · refine g_icN X0.here hx (Jvm.hb hby d16_2) (pc' := 5) rfl (flt hc2_0).1 ?_
    refine g_iloadN X0.here hx (Jvm.hb hby d16_5) (pc' := 6) rfl rfl ?_
    refine g_goto X0.here hx (Jvm.hb hby d16_6) (by decide) (pc' := 10) (by decide) ?_
    exact g_retI X0 hx hlk hret (Jvm.hb hby d16_10) (Nat.zero_le _) (Nat.zero_le _) ⟨by simp only [f_max, if_neg hc2_0], rfl, e0⟩
theorem d11_0 : decode jdk_38_method_9_code 0 = .ok (.aload_n 0, 1) := by decide +kernel
theorem d11_1 : decode jdk_38_method_9_code 1 = .ok (.getfield 48, 3) := by decide +kernel
theorem d11_4 : decode jdk_38_method_9_code 4 = .ok (.ifCond .ne 7, 3) := by decide +kernel
theorem d11_7 : decode jdk_38_method_9_code 7 = .ok (.iconst 1, 1) := by decide +kernel
theorem d11_8 : decode jdk_38_method_9_code 8 = .ok (.goto 4, 3) := by decide +kernel
theorem d11_12 : decode jdk_38_method_9_code 12 = .ok (.ireturn, 1) := by decide +kernel
theorem d11_11 : decode jdk_38_method_9_code 11 = .ok (.iconst 0, 1) := by decide +kernel
def f_ie (w_size : Int32) : Int32 := (if w_size = (0 : Int32) then (1 : Int32) else (0 : Int32))
theorem pn_0 : plainName "java/util/ArrayList" = true := by first | (simp [plainName, overriddenIn]; done) | decide +kernel
theorem ef_11 (m : MethodId) (x0 : Addr) : entryFrame m #[(.ref x0)] 1 = mkF m 0 #[.val (.ref x0)] [] := by first | (simp [entryFrame, mkF, argsToLocals, Value.category]; done) | rfl
set_option maxRecDepth 65536 in
set_option maxHeartbeats 40000000 in
theorem rm11 (l : Launch) (Z : State) (a0 : Array Value) (hw : ∀ d ∈ tables_1, d.before a0 Z = true) (ws : List Jvm.Cond) (x0 : Addr) (w_size : Int32) (h0 : Heap) (F_size : Fld Z h0 x0 "java/util/ArrayList" "size" "I" (.int w_size)) :
    MetFree l (⟨"java/util/ArrayList", "isEmpty", "()Z"⟩ : MethodName) (head1 (Jvm.Cond.code (⟨"java/util/ArrayList", "isEmpty", "()Z"⟩ : MethodName) jdk_38_method_9_code 1 (some .boolean) :: ws) ({ frames := 0, cells := 0, slots := 0, locals := 0 } : Room)) (fun a U => a = #[(.ref x0)] ∧ Z.Warmed39 U.vm ∧ U.heap = h0) (fun _ _ _ _ _ => True) (fun _ U o U' => ∃ v L, o = .returned v ∧ (own_Pure (some (.int (f_ie w_size))) h0) v U'.heap L ∧ FrameEnd U o U' L ({ frames := 0, cells := 0, slots := 0, locals := 0 } : Room).cells ({ frames := 0, cells := 0, slots := 0, locals := 0 } : Room).slots) := by
  refine own_body (own := "java/util/ArrayList") (plainFor_of_name pn_0) rfl (fun m => ef_11 m x0) ?_
  intro p e s m below meth c T0 hx hby hml hown hnm hlk hret hZ X0 e0
  have w_78 := hw _ (List.mem_of_getElem? (i := 78) rfl)
  refine g_aloadN X0.here hx (Jvm.hb hby d11_0) (pc' := 1) rfl rfl rfl ?_
  refine g_getF X0 hx hZ hown (host := "") (Or.inl w_78) Via.refl e0 F_size (Jvm.hb hby d11_1) (pc' := 4) rfl ?_
  intro T1 X1 e1
  by_cases hc4_0 : w_size = (0 : Int32)
  · refine g_ifN X1.here hx (Jvm.hb hby d11_4) (pc' := 7) rfl ((if0 _ _).trans (teq hc4_0).2) ?_
    refine g_iconst X1.here hx (Jvm.hb hby d11_7) (pc' := 8) rfl (z := (1 : Int32)) rfl ?_
    refine g_goto X1.here hx (Jvm.hb hby d11_8) (by decide) (pc' := 12) (by decide) ?_
    exact g_retN X1 hx hlk (t := .boolean) hret (by simp) (z' := (1 : Int32)) rfl (Jvm.hb hby d11_12) (Nat.zero_le _) (Nat.zero_le _) ⟨by simp only [f_ie, if_pos hc4_0], rfl, e1⟩
  · refine g_ifY X1.here hx (Jvm.hb hby d11_4) (by decide) (pc' := 11) (by decide) ((if0 _ _).trans (feq hc4_0).2) ?_
    refine g_iconst X1.here hx (Jvm.hb hby d11_11) (pc' := 12) rfl (z := (0 : Int32)) rfl ?_
    exact g_retN X1 hx hlk (t := .boolean) hret (by simp) (z' := (0 : Int32)) rfl (Jvm.hb hby d11_12) (Nat.zero_le _) (Nat.zero_le _) ⟨by simp only [f_ie, if_neg hc4_0], rfl, e1⟩
theorem d17_0 : decode jdk_38_method_8_code 0 = .ok (.aload_n 0, 1) := by decide +kernel
theorem d17_1 : decode jdk_38_method_8_code 1 = .ok (.getfield 48, 3) := by decide +kernel
theorem d17_4 : decode jdk_38_method_8_code 4 = .ok (.ireturn, 1) := by decide +kernel
def f_sz (w_size : Int32) : Int32 := w_size
theorem ef_17 (m : MethodId) (x0 : Addr) : entryFrame m #[(.ref x0)] 1 = mkF m 0 #[.val (.ref x0)] [] := by first | (simp [entryFrame, mkF, argsToLocals, Value.category]; done) | rfl
set_option maxRecDepth 65536 in
set_option maxHeartbeats 40000000 in
theorem rm17 (l : Launch) (Z : State) (a0 : Array Value) (hw : ∀ d ∈ tables_1, d.before a0 Z = true) (ws : List Jvm.Cond) (x0 : Addr) (w_size : Int32) (h0 : Heap) (F_size : Fld Z h0 x0 "java/util/ArrayList" "size" "I" (.int w_size)) :
    MetFree l (⟨"java/util/ArrayList", "size", "()I"⟩ : MethodName) (head1 (Jvm.Cond.code (⟨"java/util/ArrayList", "size", "()I"⟩ : MethodName) jdk_38_method_8_code 1 (some .int) :: ws) ({ frames := 0, cells := 0, slots := 0, locals := 0 } : Room)) (fun a U => a = #[(.ref x0)] ∧ Z.Warmed39 U.vm ∧ U.heap = h0) (fun _ _ _ _ _ => True) (fun _ U o U' => ∃ v L, o = .returned v ∧ (own_Pure (some (.int (f_sz w_size))) h0) v U'.heap L ∧ FrameEnd U o U' L ({ frames := 0, cells := 0, slots := 0, locals := 0 } : Room).cells ({ frames := 0, cells := 0, slots := 0, locals := 0 } : Room).slots) := by
  refine own_body (own := "java/util/ArrayList") (plainFor_of_name pn_0) rfl (fun m => ef_17 m x0) ?_
  intro p e s m below meth c T0 hx hby hml hown hnm hlk hret hZ X0 e0
  have w_78 := hw _ (List.mem_of_getElem? (i := 78) rfl)
  refine g_aloadN X0.here hx (Jvm.hb hby d17_0) (pc' := 1) rfl rfl rfl ?_
  refine g_getF X0 hx hZ hown (host := "") (Or.inl w_78) Via.refl e0 F_size (Jvm.hb hby d17_1) (pc' := 4) rfl ?_
  intro T1 X1 e1
  exact g_retI X1 hx hlk hret (Jvm.hb hby d17_4) (Nat.zero_le _) (Nat.zero_le _) ⟨rfl, rfl, e1⟩
theorem d20_0 : decode jdk_41_method_11_code 0 = .ok (.iload_n 0, 1) := by decide +kernel
theorem d20_1 : decode jdk_41_method_11_code 1 = .ok (.ifCond .lt 8, 3) := by decide +kernel
theorem d20_4 : decode jdk_41_method_11_code 4 = .ok (.iload_n 0, 1) := by decide +kernel
theorem d20_5 : decode jdk_41_method_11_code 5 = .ok (.iload_n 1, 1) := by decide +kernel
theorem d20_6 : decode jdk_41_method_11_code 6 = .ok (.if_icmp .lt 10, 3) := by decide +kernel
theorem d20_16 : decode jdk_41_method_11_code 16 = .ok (.iload_n 0, 1) := by decide +kernel
theorem d20_17 : decode jdk_41_method_11_code 17 = .ok (.ireturn, 1) := by decide +kernel
theorem pn_1 : plainName "jdk/internal/util/Preconditions" = true := by first | (simp [plainName, overriddenIn]; done) | decide +kernel
theorem ef_20 (m : MethodId) (x0 : Int32) (x1 : Int32) : entryFrame m #[(.int x0), (.int x1), .null] 3 = mkF m 0 #[.val (.int x0), .val (.int x1), .val .null] [] := by first | (simp [entryFrame, mkF, argsToLocals, Value.category]; done) | rfl
set_option maxRecDepth 65536 in
set_option maxHeartbeats 40000000 in
theorem rm20 (l : Launch) (Z : State) (a0 : Array Value) (hw : ∀ d ∈ tables_1, d.before a0 Z = true) (ws : List Jvm.Cond) (x0 x1 : Int32) (h0 : Heap) (h1 : ¬ x0 < (0 : Int32)) (h2 : x0 < x1) :
    MetFree l (⟨"jdk/internal/util/Preconditions", "checkIndex", "(IILjava/util/function/BiFunction;)I"⟩ : MethodName) (head1 (Jvm.Cond.code (⟨"jdk/internal/util/Preconditions", "checkIndex", "(IILjava/util/function/BiFunction;)I"⟩ : MethodName) jdk_41_method_11_code 3 (some .int) :: ws) ({ frames := 0, cells := 0, slots := 0, locals := 0 } : Room)) (fun a U => a = #[(.int x0), (.int x1), .null] ∧ Z.Warmed39 U.vm ∧ U.heap = h0) (fun _ _ _ _ _ => True) (fun _ U o U' => ∃ v L, o = .returned v ∧ (own_Pure (some (.int x0)) h0) v U'.heap L ∧ FrameEnd U o U' L ({ frames := 0, cells := 0, slots := 0, locals := 0 } : Room).cells ({ frames := 0, cells := 0, slots := 0, locals := 0 } : Room).slots) := by
  refine own_body (own := "jdk/internal/util/Preconditions") (plainFor_of_name pn_1) rfl (fun m => ef_20 m x0 x1) ?_
  intro p e s m below meth c T0 hx hby hml hown hnm hlk hret hZ X0 e0
  refine g_iloadN X0.here hx (Jvm.hb hby d20_0) (pc' := 1) rfl rfl ?_
  refine g_ifN X0.here hx (Jvm.hb hby d20_1) (pc' := 4) rfl ((if0 _ _).trans (flt h1).1) ?_
  refine g_iloadN X0.here hx (Jvm.hb hby d20_4) (pc' := 5) rfl rfl ?_
  refine g_iloadN X0.here hx (Jvm.hb hby d20_5) (pc' := 6) rfl rfl ?_
  refine g_icY X0.here hx (Jvm.hb hby d20_6) (by decide) (pc' := 16) (by decide) (tlt h2).1 ?_
  refine g_iloadN X0.here hx (Jvm.hb hby d20_16) (pc' := 17) rfl rfl ?_
  exact g_retI X0 hx hlk hret (Jvm.hb hby d20_17) (Nat.zero_le _) (Nat.zero_le _) ⟨rfl, rfl, e0⟩
theorem d19_0 : decode jdk_31_method_17_code 0 = .ok (.iload_n 0, 1) := by decide +kernel
theorem d19_1 : decode jdk_31_method_17_code 1 = .ok (.iload_n 1, 1) := by decide +kernel
theorem d19_2 : decode jdk_31_method_17_code 2 = .ok (.aconst_null, 1) := by decide +kernel
theorem d19_3 : decode jdk_31_method_17_code 3 = .ok (.invokestatic 105, 3) := by decide +kernel
theorem pd_0 : parseMethodDescriptor "(IILjava/util/function/BiFunction;)I" = some ⟨[.int, .int, (.object "java/util/function/BiFunction")], some .int⟩ := by decide +kernel
theorem d19_6 : decode jdk_31_method_17_code 6 = .ok (.ireturn, 1) := by decide +kernel
theorem pn_2 : plainName "java/util/Objects" = true := by first | (simp [plainName, overriddenIn]; done) | decide +kernel
theorem ef_19 (m : MethodId) (x0 : Int32) (x1 : Int32) : entryFrame m #[(.int x0), (.int x1)] 2 = mkF m 0 #[.val (.int x0), .val (.int x1)] [] := by first | (simp [entryFrame, mkF, argsToLocals, Value.category]; done) | rfl
set_option maxRecDepth 65536 in
set_option maxHeartbeats 40000000 in
theorem rm19 (l : Launch) (Z : State) (a0 : Array Value) (hw : ∀ d ∈ tables_1, d.before a0 Z = true) (ws : List Jvm.Cond) (x0 x1 : Int32) (h0 : Heap) (h1 : ¬ x0 < (0 : Int32)) (h2 : x0 < x1) :
    MetFree l (⟨"java/util/Objects", "checkIndex", "(II)I"⟩ : MethodName) (head1 (Jvm.Cond.code (⟨"java/util/Objects", "checkIndex", "(II)I"⟩ : MethodName) jdk_31_method_17_code 2 (some .int) :: ws) ({ frames := 1, cells := 0, slots := 0, locals := 14 } : Room)) (fun a U => a = #[(.int x0), (.int x1)] ∧ Z.Warmed39 U.vm ∧ U.heap = h0) (fun _ _ _ _ _ => True) (fun _ U o U' => ∃ v L, o = .returned v ∧ (own_Pure (some (.int x0)) h0) v U'.heap L ∧ FrameEnd U o U' L ({ frames := 1, cells := 0, slots := 0, locals := 14 } : Room).cells ({ frames := 1, cells := 0, slots := 0, locals := 14 } : Room).slots) := by
  refine own_body (own := "java/util/Objects") (plainFor_of_name pn_2) rfl (fun m => ef_19 m x0 x1) ?_
  intro p e s m below meth c T0 hx hby hml hown hnm hlk hret hZ X0 e0
  have w_136 := hw _ (List.mem_of_getElem? (i := 136) rfl)
  have w_137 := hw _ (List.mem_of_getElem? (i := 137) rfl)
  have w_138 := hw _ (List.mem_of_getElem? (i := 138) rfl)
  have w_139 := hw _ (List.mem_of_getElem? (i := 139) rfl)
  refine g_iloadN X0.here hx (Jvm.hb hby d19_0) (pc' := 1) rfl rfl ?_
  refine g_iloadN X0.here hx (Jvm.hb hby d19_1) (pc' := 2) rfl rfl ?_
  refine g_aconstNull X0.here hx (Jvm.hb hby d19_2) (pc' := 3) rfl ?_
  refine g_callP X0 hx hZ hown w_136 w_137 w_138 w_139 (by decide) (rm20 l Z a0 hw [] x0 x1 h0 h1 h2) 0 (by decide) (by decide) e0 (by rw [hml]; rfl) [(.int x0), (.int x1), .null] [] (lenOf pd_0 rfl) rfl rfl (Nat.le_of_eq rfl) (Jvm.hb hby d19_3) (pc' := 6) rfl (Nat.zero_le _) (Nat.zero_le _) ?_
  intro T1 X1 e1
  show own_Gl p e below s (own_Pure (some (.int x0)) h0) ({ frames := 1, cells := 0, slots := 0, locals := 14 } : Room).cells ({ frames := 1, cells := 0, slots := 0, locals := 14 } : Room).slots (T1.setTop (mkF m 6 #[.val (.int x0), .val (.int x1)] [(.int x0)]))
  exact g_retI X1 hx hlk hret (Jvm.hb hby d19_6) (Nat.zero_le _) (Nat.zero_le _) ⟨rfl, rfl, e1⟩
theorem d21_0 : decode jdk_38_method_18_code 0 = .ok (.aload_n 0, 1) := by decide +kernel
theorem d21_1 : decode jdk_38_method_18_code 1 = .ok (.getfield 9, 3) := by decide +kernel
theorem d21_4 : decode jdk_38_method_18_code 4 = .ok (.iload_n 1, 1) := by decide +kernel
theorem d21_5 : decode jdk_38_method_18_code 5 = .ok (.aaload, 1) := by decide +kernel
theorem d21_6 : decode jdk_38_method_18_code 6 = .ok (.areturn, 1) := by decide +kernel
theorem ef_21 (m : MethodId) (x0 : Addr) (x1 : Int32) : entryFrame m #[(.ref x0), (.int x1)] 2 = mkF m 0 #[.val (.ref x0), .val (.int x1)] [] := by first | (simp [entryFrame, mkF, argsToLocals, Value.category]; done) | rfl
set_option maxRecDepth 65536 in
set_option maxHeartbeats 40000000 in
theorem rm21 (l : Launch) (Z : State) (a0 : Array Value) (hw : ∀ d ∈ tables_1, d.before a0 Z = true) (ws : List Jvm.Cond) (x0 : Addr) (x1 : Int32) (arr page : Addr) (h0 : Heap) (F1 : Fld Z h0 x0 "java/util/ArrayList" "elementData" "[Ljava/lang/Object;" (.ref arr)) (V1 : own_RA Z h0 arr 10 (.ref page)) (hj : x1.toInt = 0) :
    MetFree l (⟨"java/util/ArrayList", "elementData", "(I)Ljava/lang/Object;"⟩ : MethodName) (head1 (Jvm.Cond.code (⟨"java/util/ArrayList", "elementData", "(I)Ljava/lang/Object;"⟩ : MethodName) jdk_38_method_18_code 2 (some (.object "java/lang/Object")) :: ws) ({ frames := 0, cells := 0, slots := 0, locals := 0 } : Room)) (fun a U => a = #[(.ref x0), (.int x1)] ∧ Z.Warmed39 U.vm ∧ U.heap = h0) (fun _ _ _ _ _ => True) (fun _ U o U' => ∃ v L, o = .returned v ∧ (own_Pure (some (.ref page)) h0) v U'.heap L ∧ FrameEnd U o U' L ({ frames := 0, cells := 0, slots := 0, locals := 0 } : Room).cells ({ frames := 0, cells := 0, slots := 0, locals := 0 } : Room).slots) := by
  refine own_body (own := "java/util/ArrayList") (plainFor_of_name pn_0) rfl (fun m => ef_21 m x0 x1) ?_
  intro p e s m below meth c T0 hx hby hml hown hnm hlk hret hZ X0 e0
  have w_33 := hw _ (List.mem_of_getElem? (i := 33) rfl)
  refine g_aloadN X0.here hx (Jvm.hb hby d21_0) (pc' := 1) rfl rfl rfl ?_
  refine g_getF X0 hx hZ hown (host := "") (Or.inl w_33) Via.refl e0 F1 (Jvm.hb hby d21_1) (pc' := 4) rfl ?_
  intro T1 X1 e1
  refine g_iloadN X1.here hx (Jvm.hb hby d21_4) (pc' := 5) rfl rfl ?_
  refine g_aaload X1 hx hZ e1 V1 hj (by decide) (Jvm.hb hby d21_5) (pc' := 6) rfl ?_
  exact g_retR X1 hx hlk hret rfl rfl (Jvm.hb hby d21_6) (Nat.zero_le _) (Nat.zero_le _) ⟨rfl, rfl, e1⟩
theorem d18_0 : decode jdk_38_method_20_code 0 = .ok (.iload_n 1, 1) := by decide +kernel
theorem d18_1 : decode jdk_38_method_20_code 1 = .ok (.aload_n 0, 1) := by decide +kernel
theorem d18_2 : decode jdk_38_method_20_code 2 = .ok (.getfield 48, 3) := by decide +kernel
theorem d18_5 : decode jdk_38_method_20_code 5 = .ok (.invokestatic 118, 3) := by decide +kernel
theorem pd_1 : parseMethodDescriptor "(II)I" = some ⟨[.int, .int], some .int⟩ := by decide +kernel
theorem d18_8 : decode jdk_38_method_20_code 8 = .ok (.pop, 1) := by decide +kernel
theorem d18_9 : decode jdk_38_method_20_code 9 = .ok (.aload_n 0, 1) := by decide +kernel
theorem d18_10 : decode jdk_38_method_20_code 10 = .ok (.iload_n 1, 1) := by decide +kernel
theorem d18_11 : decode jdk_38_method_20_code 11 = .ok (.invokevirtual 123, 3) := by decide +kernel
theorem pd_2 : parseMethodDescriptor "(I)Ljava/lang/Object;" = some ⟨[.int], some (.object "java/lang/Object")⟩ := by decide +kernel
theorem d18_14 : decode jdk_38_method_20_code 14 = .ok (.areturn, 1) := by decide +kernel
theorem ef_18 (m : MethodId) (x0 : Addr) (x1 : Int32) : entryFrame m #[(.ref x0), (.int x1)] 2 = mkF m 0 #[.val (.ref x0), .val (.int x1)] [] := by first | (simp [entryFrame, mkF, argsToLocals, Value.category]; done) | rfl
set_option maxRecDepth 65536 in
set_option maxHeartbeats 40000000 in
theorem rm18 (l : Launch) (Z : State) (a0 : Array Value) (hw : ∀ d ∈ tables_1, d.before a0 Z = true) (ws : List Jvm.Cond) (x0 : Addr) (x1 : Int32) (arr page : Addr) (h0 : Heap) (E1 : Exa Z h0 x0 "java/util/ArrayList") (F1 : Fld Z h0 x0 "java/util/ArrayList" "elementData" "[Ljava/lang/Object;" (.ref arr)) (F2 : Fld Z h0 x0 "java/util/ArrayList" "size" "I" (.int (1 : Int32))) (V1 : own_RA Z h0 arr 10 (.ref page)) (hj : x1.toInt = 0) :
    MetFree l (⟨"java/util/ArrayList", "get", "(I)Ljava/lang/Object;"⟩ : MethodName) (head1 (Jvm.Cond.code (⟨"java/util/ArrayList", "get", "(I)Ljava/lang/Object;"⟩ : MethodName) jdk_38_method_20_code 2 (some (.object "java/lang/Object")) :: ws) ({ frames := 2, cells := 0, slots := 0, locals := 27 } : Room)) (fun a U => a = #[(.ref x0), (.int x1)] ∧ Z.Warmed39 U.vm ∧ U.heap = h0) (fun _ _ _ _ _ => True) (fun _ U o U' => ∃ v L, o = .returned v ∧ (own_Pure (some (.ref page)) h0) v U'.heap L ∧ FrameEnd U o U' L ({ frames := 2, cells := 0, slots := 0, locals := 27 } : Room).cells ({ frames := 2, cells := 0, slots := 0, locals := 27 } : Room).slots) := by
  refine own_body (own := "java/util/ArrayList") (plainFor_of_name pn_0) rfl (fun m => ef_18 m x0 x1) ?_
  intro p e s m below meth c T0 hx hby hml hown hnm hlk hret hZ X0 e0
  have w_13 := hw _ (List.mem_of_getElem? (i := 13) rfl)
  have w_78 := hw _ (List.mem_of_getElem? (i := 78) rfl)
  have w_132 := hw _ (List.mem_of_getElem? (i := 132) rfl)
  have w_133 := hw _ (List.mem_of_getElem? (i := 133) rfl)
  have w_134 := hw _ (List.mem_of_getElem? (i := 134) rfl)
  have w_135 := hw _ (List.mem_of_getElem? (i := 135) rfl)
  have w_140 := hw _ (List.mem_of_getElem? (i := 140) rfl)
  have w_141 := hw _ (List.mem_of_getElem? (i := 141) rfl)
  have w_142 := hw _ (List.mem_of_getElem? (i := 142) rfl)
  have w_143 := hw _ (List.mem_of_getElem? (i := 143) rfl)
  have w_144 := hw _ (List.mem_of_getElem? (i := 144) rfl)
  refine g_iloadN X0.here hx (Jvm.hb hby d18_0) (pc' := 1) rfl rfl ?_
  refine g_aloadN X0.here hx (Jvm.hb hby d18_1) (pc' := 2) rfl rfl rfl ?_
  refine g_getF X0 hx hZ hown (host := "") (Or.inl w_78) Via.refl e0 F2 (Jvm.hb hby d18_2) (pc' := 5) rfl ?_
  intro T1 X1 e1
  refine g_callP X1 hx hZ hown w_132 w_133 w_134 w_135 (by decide) (rm19 l Z a0 hw [] x1 (1 : Int32) h0 (by rw [Int32.lt_iff_toInt_lt]; simp only [Int32.reduceToInt]; omega) (by rw [Int32.lt_iff_toInt_lt]; simp only [Int32.reduceToInt]; omega)) 0 (by decide) (by decide) e1 (by rw [hml]; rfl) [(.int x1), (.int (1 : Int32))] [] (lenOf pd_1 rfl) rfl rfl (Nat.le_of_eq rfl) (Jvm.hb hby d18_5) (pc' := 8) rfl (Nat.zero_le _) (Nat.zero_le _) ?_
  intro T2 X2 e2
  show own_Gl p e below s (own_Pure (some (.ref page)) h0) ({ frames := 2, cells := 0, slots := 0, locals := 27 } : Room).cells ({ frames := 2, cells := 0, slots := 0, locals := 27 } : Room).slots (T2.setTop (mkF m 8 #[.val (.ref x0), .val (.int x1)] [(.int x1)]))
  refine g_pop X2.here hx (Jvm.hb hby d18_8) (pc' := 9) rfl rfl ?_
  refine g_aloadN X2.here hx (Jvm.hb hby d18_9) (pc' := 10) rfl rfl rfl ?_
  refine g_iloadN X2.here hx (Jvm.hb hby d18_10) (pc' := 11) rfl rfl ?_
  refine g_callV X2 hx hZ hown w_140 w_141 (own_nf hZ w_143) w_143 w_142 w_13 w_144 (by decide) (rm21 l Z a0 hw [] x0 x1 arr page h0 F1 V1 hj) 0 (by decide) (by decide) e2 E1 (by rw [hml]; rfl) [(.int x1)] [] (lenOf pd_2 rfl) rfl rfl (Nat.le_of_eq rfl) (Jvm.hb hby d18_11) (pc' := 14) rfl (cells' := 0) (slots' := 0) rfl rfl (by decide) (by decide) ?_
  intro v3 T3 L3 X3 hQ3
  obtain ⟨rfl, rfl, e3⟩ := hQ3
  rw [List.append_nil] at X3
  show own_Gl p e below s (own_Pure (some (.ref page)) h0) ({ frames := 2, cells := 0, slots := 0, locals := 27 } : Room).cells ({ frames := 2, cells := 0, slots := 0, locals := 27 } : Room).slots (T3.setTop (mkF m 14 #[.val (.ref x0), .val (.int x1)] [(.ref page)]))
  exact g_retR X3 hx hlk hret rfl rfl (Jvm.hb hby d18_14) (Nat.zero_le _) (Nat.zero_le _) ⟨rfl, rfl, e3⟩
theorem d5_0 : decode jdk_22_method_1_code 0 = .ok (.aload_n 0, 1) := by decide +kernel
theorem d5_1 : decode jdk_22_method_1_code 1 = .ok (.invokespecial 1, 3) := by decide +kernel
theorem d5_4 : decode jdk_22_method_1_code 4 = .ok (.return_, 1) := by decide +kernel
theorem pn_3 : plainName "java/util/AbstractCollection" = true := by first | (simp [plainName, overriddenIn]; done) | decide +kernel
theorem ef_5 (m : MethodId) (x0 : Addr) : entryFrame m #[(.ref x0)] 1 = mkF m 0 #[.val (.ref x0)] [] := by first | (simp [entryFrame, mkF, argsToLocals, Value.category]; done) | rfl
set_option maxRecDepth 65536 in
set_option maxHeartbeats 40000000 in
theorem rm5 (l : Launch) (Z : State) (a0 : Array Value) (hw : ∀ d ∈ tables_1, d.before a0 Z = true) (ws : List Jvm.Cond) (x0 : Addr) (h0 : Heap) :
    MetFree l (⟨"java/util/AbstractCollection", "<init>", "()V"⟩ : MethodName) (head1 (Jvm.Cond.code (⟨"java/util/AbstractCollection", "<init>", "()V"⟩ : MethodName) jdk_22_method_1_code 1 none :: ws) ({ frames := 1, cells := 0, slots := 0, locals := 12 } : Room)) (fun a U => a = #[(.ref x0)] ∧ Z.Warmed39 U.vm ∧ U.heap = h0) (fun _ _ _ _ _ => True) (fun _ U o U' => ∃ v L, o = .returned v ∧ (own_Pure none h0) v U'.heap L ∧ FrameEnd U o U' L ({ frames := 1, cells := 0, slots := 0, locals := 12 } : Room).cells ({ frames := 1, cells := 0, slots := 0, locals := 12 } : Room).slots) := by
  refine own_body (own := "java/util/AbstractCollection") (plainFor_of_name pn_3) rfl (fun m => ef_5 m x0) ?_
  intro p e s m below meth c T0 hx hby hml hown hnm hlk hret hZ X0 e0
  have w_9 := hw _ (List.mem_of_getElem? (i := 9) rfl)
  have w_10 := hw _ (List.mem_of_getElem? (i := 10) rfl)
  have w_29 := hw _ (List.mem_of_getElem? (i := 29) rfl)
  refine g_aloadN X0.here hx (Jvm.hb hby d5_0) (pc' := 1) rfl rfl rfl ?_
  refine g_initO X0 hx hZ hown w_29 w_9 w_10 e0 (by rw [hml]; rfl) (Jvm.hb hby d5_1) (pc' := 4) rfl (by decide) 0 (by decide) (by decide) ?_
  intro T1 X1 e1
  exact g_retV X1 hx hlk hret (Jvm.hb hby d5_4) (Nat.zero_le _) (Nat.zero_le _) ⟨rfl, rfl, e1⟩
def own_Q4 (Z : State) (n0 : Nat) (x0 : Addr) (h0 : Heap) (v : Option Value) (h : Heap) (L : List Loc) : Prop := v = none ∧ Fr n0 L ∧ Keep h0 h [x0] ∧ Exa Z h x0 "java/util/ArrayList" ∧ Fld Z h x0 "java/util/ArrayList" "elementData" "[Ljava/lang/Object;" .null ∧ Fld Z h x0 "java/util/ArrayList" "size" "I" (.int (0 : Int32)) ∧ Fld Z h x0 "java/util/AbstractList" "modCount" "I" (.int (0 : Int32))
theorem d4_0 : decode jdk_39_method_1_code 0 = .ok (.aload_n 0, 1) := by decide +kernel
theorem d4_1 : decode jdk_39_method_1_code 1 = .ok (.invokespecial 1, 3) := by decide +kernel
theorem pd_3 : parseMethodDescriptor "()V" = some ⟨[], none⟩ := by decide +kernel
theorem d4_4 : decode jdk_39_method_1_code 4 = .ok (.aload_n 0, 1) := by decide +kernel
theorem d4_5 : decode jdk_39_method_1_code 5 = .ok (.iconst 0, 1) := by decide +kernel
theorem d4_6 : decode jdk_39_method_1_code 6 = .ok (.putfield 7, 3) := by decide +kernel
theorem d4_9 : decode jdk_39_method_1_code 9 = .ok (.return_, 1) := by decide +kernel
theorem pn_4 : plainName "java/util/AbstractList" = true := by first | (simp [plainName, overriddenIn]; done) | decide +kernel
theorem ef_4 (m : MethodId) (x0 : Addr) : entryFrame m #[(.ref x0)] 1 = mkF m 0 #[.val (.ref x0)] [] := by first | (simp [entryFrame, mkF, argsToLocals, Value.category]; done) | rfl
set_option maxRecDepth 65536 in
set_option maxHeartbeats 40000000 in
theorem rm4 (l : Launch) (Z : State) (a0 : Array Value) (hw : ∀ d ∈ tables_1, d.before a0 Z = true) (ws : List Jvm.Cond) (x0 : Addr) (h0 : Heap) (n0 : Nat) (Z0 : n0 ≤ h0.size) (g0 : n0 ≤ x0) (E0 : Exa Z h0 x0 "java/util/ArrayList") (F_elementData : Fld Z h0 x0 "java/util/ArrayList" "elementData" "[Ljava/lang/Object;" .null) (F_size : Fld Z h0 x0 "java/util/ArrayList" "size" "I" (.int (0 : Int32))) (F_modCount : Fld Z h0 x0 "java/util/AbstractList" "modCount" "I" (.int (0 : Int32))) :
    MetFree l (⟨"java/util/AbstractList", "<init>", "()V"⟩ : MethodName) (head1 (Jvm.Cond.code (⟨"java/util/AbstractList", "<init>", "()V"⟩ : MethodName) jdk_39_method_1_code 1 none :: ws) ({ frames := 2, cells := 0, slots := 0, locals := 24 } : Room)) (fun a U => a = #[(.ref x0)] ∧ Z.Warmed39 U.vm ∧ U.heap = h0) (fun _ _ _ _ _ => True) (fun _ U o U' => ∃ v L, o = .returned v ∧ (own_Q4 Z n0 x0 h0) v U'.heap L ∧ FrameEnd U o U' L ({ frames := 2, cells := 0, slots := 0, locals := 24 } : Room).cells ({ frames := 2, cells := 0, slots := 0, locals := 24 } : Room).slots) := by
  refine own_body (own := "java/util/AbstractList") (plainFor_of_name pn_4) rfl (fun m => ef_4 m x0) ?_
  intro p e s m below meth c T0 hx hby hml hown hnm hlk hret hZ X0 e0
  have w_12 := hw _ (List.mem_of_getElem? (i := 12) rfl)
  have w_23 := hw _ (List.mem_of_getElem? (i := 23) rfl)
  have w_24 := hw _ (List.mem_of_getElem? (i := 24) rfl)
  have w_27 := hw _ (List.mem_of_getElem? (i := 27) rfl)
  have w_28 := hw _ (List.mem_of_getElem? (i := 28) rfl)
  have w_30 := hw _ (List.mem_of_getElem? (i := 30) rfl)
  have w_31 := hw _ (List.mem_of_getElem? (i := 31) rfl)
  have w_34 := hw _ (List.mem_of_getElem? (i := 34) rfl)
  have w_79 := hw _ (List.mem_of_getElem? (i := 79) rfl)
  have N0 := Fr.nil n0
  refine g_aloadN X0.here hx (Jvm.hb hby d4_0) (pc' := 1) rfl rfl rfl ?_
  refine g_callI X0 hx hZ rfl hown w_23 w_24 w_27 w_28 (by decide) (rm5 l Z a0 hw [] x0 h0) 0 (by decide) (by decide) e0 (by rw [hml]; rfl) [] [] (lenOf pd_3 rfl) rfl rfl (Nat.le_of_eq rfl) (Jvm.hb hby d4_1) (pc' := 4) rfl (cells' := 0) (slots' := 0) rfl rfl (by decide) (by decide) ?_
  intro v1 T1 L1 X1 hQ1
  obtain ⟨rfl, rfl, e1⟩ := hQ1
  rw [List.append_nil] at X1
  show own_Gl p e below s (own_Q4 Z n0 x0 h0) ({ frames := 2, cells := 0, slots := 0, locals := 24 } : Room).cells ({ frames := 2, cells := 0, slots := 0, locals := 24 } : Room).slots (T1.setTop (mkF m 4 #[.val (.ref x0)] []))
  refine g_aloadN X1.here hx (Jvm.hb hby d4_4) (pc' := 5) rfl rfl rfl ?_
  refine g_iconst X1.here hx (Jvm.hb hby d4_5) (pc' := 6) rfl (z := (0 : Int32)) rfl ?_
  refine g_putF X1 hx hZ hown (host := "") (Or.inl w_30) Via.refl e1 F_modCount E0 (Or.inl w_31) w_12 (ty := .int) (by decide) rfl rfl (Jvm.hb hby d4_6) (pc' := 9) rfl ?_
  intro T2 hh2 X2 e2 W2
  have Fw2 := F_modCount.same W2
  have N2 := Fr.snoc X2 N0 g0
  have Z3 : n0 ≤ hh2.size := (by rw [W2.size]; exact Z0)
  have z4 : h0.size ≤ hh2.size := (by rw [W2.size]; exact (Nat.le_refl _))
  have F5 := (E0.wr W2)
  have F6 := (F_elementData.other W2 (Or.inr (slot_ne (Or.inl w_34) (Or.inl w_31) (by decide) (t := (.array (.object "java/lang/Object"))) (t' := .int) (by decide) (by decide))))
  have F7 := (F_size.other W2 (Or.inr (slot_ne (Or.inl w_79) (Or.inl w_31) (by decide) (t := .int) (t' := .int) (by decide) (by decide))))
  have KK := ((Keep.refl h0 [x0]).wr W2 (Or.inl (List.mem_of_getElem? (i := 0) rfl)))
  exact g_retV X2 hx hlk hret (Jvm.hb hby d4_9) (Nat.zero_le _) (Nat.zero_le _) (by rw [e2]; exact ⟨rfl, N2, KK, F5, F6, F7, Fw2⟩)
def own_Q3 (Z : State) (n0 : Nat) (x0 d : Addr) (h0 : Heap) (v : Option Value) (h : Heap) (L : List Loc) : Prop := v = none ∧ Fr n0 L ∧ Keep h0 h [x0] ∧ own_LI Z h x0 d (0 : Int32) (0 : Int32)
theorem d3_0 : decode jdk_38_method_2_code 0 = .ok (.aload_n 0, 1) := by decide +kernel
theorem d3_1 : decode jdk_38_method_2_code 1 = .ok (.invokespecial 1, 3) := by decide +kernel
theorem d3_4 : decode jdk_38_method_2_code 4 = .ok (.aload_n 0, 1) := by decide +kernel
theorem d3_5 : decode jdk_38_method_2_code 5 = .ok (.getstatic 39, 3) := by decide +kernel
theorem d3_8 : decode jdk_38_method_2_code 8 = .ok (.putfield 9, 3) := by decide +kernel
theorem d3_11 : decode jdk_38_method_2_code 11 = .ok (.return_, 1) := by decide +kernel
theorem ef_3 (m : MethodId) (x0 : Addr) : entryFrame m #[(.ref x0)] 1 = mkF m 0 #[.val (.ref x0)] [] := by first | (simp [entryFrame, mkF, argsToLocals, Value.category]; done) | rfl
set_option maxRecDepth 65536 in
set_option maxHeartbeats 40000000 in
theorem rm3 (l : Launch) (Z : State) (a0 : Array Value) (hw : ∀ d ∈ tables_1, d.before a0 Z = true) (ws : List Jvm.Cond) (x0 d : Addr) (h0 : Heap) (n0 : Nat) (Z0 : n0 ≤ h0.size) (g0 : n0 ≤ x0) (E0 : Exa Z h0 x0 "java/util/ArrayList") (F_elementData : Fld Z h0 x0 "java/util/ArrayList" "elementData" "[Ljava/lang/Object;" .null) (F_size : Fld Z h0 x0 "java/util/ArrayList" "size" "I" (.int (0 : Int32))) (F_modCount : Fld Z h0 x0 "java/util/AbstractList" "modCount" "I" (.int (0 : Int32))) (O0 : Old Z n0 h0) (S0 : Sta Z Z.heap "java/util/ArrayList" "DEFAULTCAPACITY_EMPTY_ELEMENTDATA" "[Ljava/lang/Object;" (.ref d)) :
    MetFree l (⟨"java/util/ArrayList", "<init>", "()V"⟩ : MethodName) (head1 (Jvm.Cond.code (⟨"java/util/ArrayList", "<init>", "()V"⟩ : MethodName) jdk_38_method_2_code 1 none :: ws) ({ frames := 3, cells := 0, slots := 0, locals := 36 } : Room)) (fun a U => a = #[(.ref x0)] ∧ Z.Warmed39 U.vm ∧ U.heap = h0) (fun _ _ _ _ _ => True) (fun _ U o U' => ∃ v L, o = .returned v ∧ (own_Q3 Z n0 x0 d h0) v U'.heap L ∧ FrameEnd U o U' L ({ frames := 3, cells := 0, slots := 0, locals := 36 } : Room).cells ({ frames := 3, cells := 0, slots := 0, locals := 36 } : Room).slots) := by
  refine own_body (own := "java/util/ArrayList") (plainFor_of_name pn_0) rfl (fun m => ef_3 m x0) ?_
  intro p e s m below meth c T0 hx hby hml hown hnm hlk hret hZ X0 e0
  have w_12 := hw _ (List.mem_of_getElem? (i := 12) rfl)
  have w_17 := hw _ (List.mem_of_getElem? (i := 17) rfl)
  have w_18 := hw _ (List.mem_of_getElem? (i := 18) rfl)
  have w_21 := hw _ (List.mem_of_getElem? (i := 21) rfl)
  have w_22 := hw _ (List.mem_of_getElem? (i := 22) rfl)
  have w_31 := hw _ (List.mem_of_getElem? (i := 31) rfl)
  have w_32 := hw _ (List.mem_of_getElem? (i := 32) rfl)
  have w_33 := hw _ (List.mem_of_getElem? (i := 33) rfl)
  have w_34 := hw _ (List.mem_of_getElem? (i := 34) rfl)
  have w_79 := hw _ (List.mem_of_getElem? (i := 79) rfl)
  have N0 := Fr.nil n0
  refine g_aloadN X0.here hx (Jvm.hb hby d3_0) (pc' := 1) rfl rfl rfl ?_
  refine g_callI X0 hx hZ rfl hown w_17 w_18 w_21 w_22 (by decide) (rm4 l Z a0 hw [] x0 h0 n0 Z0 g0 E0 F_elementData F_size F_modCount) 0 (by decide) (by decide) e0 (by rw [hml]; rfl) [] [] (lenOf pd_3 rfl) rfl rfl (Nat.le_of_eq rfl) (Jvm.hb hby d3_1) (pc' := 4) rfl (cells' := 0) (slots' := 0) rfl rfl (by decide) (by decide) ?_
  intro v1 T1 L1 X1 hQ1
  obtain ⟨rfl, Nq1, K1, Eq1, Fa1, Fb1, Fc1⟩ := hQ1
  have N1 := Fr.app N0 Nq1
  have Z2 : n0 ≤ T1.heap.size := Nat.le_trans Z0 K1.1
  have z3 : h0.size ≤ T1.heap.size := Nat.le_trans (Nat.le_refl _) K1.1
  show own_Gl p e below s (own_Q3 Z n0 x0 d h0) ({ frames := 3, cells := 0, slots := 0, locals := 36 } : Room).cells ({ frames := 3, cells := 0, slots := 0, locals := 36 } : Room).slots (T1.setTop (mkF m 4 #[.val (.ref x0)] []))
  refine g_aloadN X1.here hx (Jvm.hb hby d3_4) (pc' := 5) rfl rfl rfl ?_
  have F4 := (O0.keep K1 (allS g0 all0))
  refine g_getS X1 hx hZ hown w_32 rfl (Sta.ext F4.2 S0) (Jvm.hb hby d3_5) (pc' := 8) rfl ?_
  intro T5 X5 e5
  refine g_putF X5 hx hZ hown (host := "") (Or.inl w_33) Via.refl e5 Fa1 Eq1 (Or.inl w_34) w_12 (ty := (.array (.object "java/lang/Object"))) (by decide) rfl rfl (Jvm.hb hby d3_8) (pc' := 11) rfl ?_
  intro T6 hh6 X6 e6 W6
  have Fw6 := Fa1.same W6
  have N6 := Fr.snoc X6 N1 g0
  have Z7 : n0 ≤ hh6.size := (by rw [W6.size]; exact Z2)
  have z8 : h0.size ≤ hh6.size := (by rw [W6.size]; exact z3)
  have F9 := (Eq1.wr W6)
  have F10 := (Fb1.other W6 (Or.inr (slot_ne (Or.inl w_79) (Or.inl w_34) (by decide) (t := .int) (t' := (.array (.object "java/lang/Object"))) (by decide) (by decide))))
  have F11 := (Fc1.other W6 (Or.inr (slot_ne (Or.inl w_31) (Or.inl w_34) (by decide) (t := .int) (t' := (.array (.object "java/lang/Object"))) (by decide) (by decide))))
  have KK := (((Keep.refl h0 [x0]).trans K1 (allS (Or.inl (List.mem_of_getElem? (i := 0) rfl)) all0)).wr W6 (Or.inl (List.mem_of_getElem? (i := 0) rfl)))
  exact g_retV X6 hx hlk hret (Jvm.hb hby d3_11) (Nat.zero_le _) (Nat.zero_le _) (by rw [e6]; exact ⟨rfl, N6, KK, ⟨F9, Fw6, F10, F11⟩⟩)
def own_Q1 (Z : State) (n0 : Nat) (x0 d : Nat) (x1 : Int64) (h0 : Heap) (v : Option Value) (h : Heap) (L : List Loc) : Prop := v = none ∧ Fr n0 L ∧ own_SE Z h n0 x0 d x1 (0 : Int64)
theorem d1_0 : decode prog_4_method_1_code 0 = .ok (.aload_n 0, 1) := by decide +kernel
theorem d1_1 : decode prog_4_method_1_code 1 = .ok (.invokespecial 1, 3) := by decide +kernel
theorem d1_4 : decode prog_4_method_1_code 4 = .ok (.aload_n 0, 1) := by decide +kernel
theorem d1_5 : decode prog_4_method_1_code 5 = .ok (.new 7, 3) := by decide +kernel
theorem d1_8 : decode prog_4_method_1_code 8 = .ok (.dup, 1) := by decide +kernel
theorem d1_9 : decode prog_4_method_1_code 9 = .ok (.invokespecial 9, 3) := by decide +kernel
theorem d1_12 : decode prog_4_method_1_code 12 = .ok (.putfield 10, 3) := by decide +kernel
theorem d1_15 : decode prog_4_method_1_code 15 = .ok (.aload_n 0, 1) := by decide +kernel
theorem d1_16 : decode prog_4_method_1_code 16 = .ok (.lload_n 1, 1) := by decide +kernel
theorem d1_17 : decode prog_4_method_1_code 17 = .ok (.putfield 16, 3) := by decide +kernel
theorem d1_20 : decode prog_4_method_1_code 20 = .ok (.return_, 1) := by decide +kernel
theorem pn_5 : plainName "com/example/narrow_sieve/narrowsieve/format/BitBuffer" = true := by first | (simp [plainName, overriddenIn]; done) | decide +kernel
theorem ef_1 (m : MethodId) (x0 : Addr) (x1 : Int64) : entryFrame m #[(.ref x0), (.long x1)] 3 = mkF m 0 #[.val (.ref x0), .val (.long x1), .second] [] := by first | (simp [entryFrame, mkF, argsToLocals, Value.category]; done) | rfl
set_option maxRecDepth 65536 in
set_option maxHeartbeats 40000000 in
theorem rm1 (l : Launch) (Z : State) (a0 : Array Value) (hw : ∀ d ∈ tables_1, d.before a0 Z = true) (ws : List Jvm.Cond) (x0 : Nat) (x1 : Int64) (d : Nat) (h0 : Heap) (n0 : Nat) (Z0 : n0 ≤ h0.size) (g0 : n0 ≤ x0) (E0 : Exa Z h0 x0 "com/example/narrow_sieve/narrowsieve/format/BitBuffer") (F_pages : Fld Z h0 x0 "com/example/narrow_sieve/narrowsieve/format/BitBuffer" "pages" "Ljava/util/List;" .null) (F_capacity : Fld Z h0 x0 "com/example/narrow_sieve/narrowsieve/format/BitBuffer" "capacity" "J" (.long (0 : Int64))) (F_length : Fld Z h0 x0 "com/example/narrow_sieve/narrowsieve/format/BitBuffer" "length" "J" (.long (0 : Int64))) (F_pending : Fld Z h0 x0 "com/example/narrow_sieve/narrowsieve/format/BitBuffer" "pending" "J" (.long (0 : Int64))) (F_lastPageBytes : Fld Z h0 x0 "com/example/narrow_sieve/narrowsieve/format/BitBuffer" "lastPageBytes" "I" (.int (0 : Int32))) (O0 : Old Z n0 h0) (S0 : Sta Z Z.heap "java/util/ArrayList" "DEFAULTCAPACITY_EMPTY_ELEMENTDATA" "[Ljava/lang/Object;" (.ref d)) :
    MetFree l (⟨"com/example/narrow_sieve/narrowsieve/format/BitBuffer", "<init>", "(J)V"⟩ : MethodName) (head1 (Jvm.Cond.code (⟨"com/example/narrow_sieve/narrowsieve/format/BitBuffer", "<init>", "(J)V"⟩ : MethodName) prog_4_method_1_code 3 none :: ws) ({ frames := 4, cells := 1, slots := 3, locals := 50 } : Room)) (fun a U => a = #[(.ref x0), (.long x1)] ∧ Z.Warmed39 U.vm ∧ U.heap = h0) (fun _ _ _ _ _ => True) (fun _ U o U' => ∃ v L, o = .returned v ∧ (own_Q1 Z n0 x0 d x1 h0) v U'.heap L ∧ FrameEnd U o U' L ({ frames := 4, cells := 1, slots := 3, locals := 50 } : Room).cells ({ frames := 4, cells := 1, slots := 3, locals := 50 } : Room).slots) := by
  refine own_body (own := "com/example/narrow_sieve/narrowsieve/format/BitBuffer") (plainFor_of_name pn_5) rfl (fun m => ef_1 m x0 x1) ?_
  intro p e s m below meth c T0 hx hby hml hown hnm hlk hret hZ X0 e0
  have w_3 := hw _ (List.mem_of_getElem? (i := 3) rfl)
  have w_8 := hw _ (List.mem_of_getElem? (i := 8) rfl)
  have w_9 := hw _ (List.mem_of_getElem? (i := 9) rfl)
  have w_10 := hw _ (List.mem_of_getElem? (i := 10) rfl)
  have w_11 := hw _ (List.mem_of_getElem? (i := 11) rfl)
  have w_12 := hw _ (List.mem_of_getElem? (i := 12) rfl)
  have w_13 := hw _ (List.mem_of_getElem? (i := 13) rfl)
  have w_14 := hw _ (List.mem_of_getElem? (i := 14) rfl)
  have w_15 := hw _ (List.mem_of_getElem? (i := 15) rfl)
  have w_16 := hw _ (List.mem_of_getElem? (i := 16) rfl)
  have w_31 := hw _ (List.mem_of_getElem? (i := 31) rfl)
  have w_34 := hw _ (List.mem_of_getElem? (i := 34) rfl)
  have w_35 := hw _ (List.mem_of_getElem? (i := 35) rfl)
  have w_36 := hw _ (List.mem_of_getElem? (i := 36) rfl)
  have w_37 := hw _ (List.mem_of_getElem? (i := 37) rfl)
  have w_38 := hw _ (List.mem_of_getElem? (i := 38) rfl)
  have w_45 := hw _ (List.mem_of_getElem? (i := 45) rfl)
  have w_53 := hw _ (List.mem_of_getElem? (i := 53) rfl)
  have w_79 := hw _ (List.mem_of_getElem? (i := 79) rfl)
  have w_115 := hw _ (List.mem_of_getElem? (i := 115) rfl)
  have N0 := Fr.nil n0
  refine g_aloadN X0.here hx (Jvm.hb hby d1_0) (pc' := 1) rfl rfl rfl ?_
  refine g_initO X0 hx hZ hown w_8 w_9 w_10 e0 (by rw [hml]; rfl) (Jvm.hb hby d1_1) (pc' := 4) rfl (by decide) 0 (by decide) (by decide) ?_
  intro T1 X1 e1
  refine g_aloadN X1.here hx (Jvm.hb hby d1_4) (pc' := 5) rfl rfl rfl ?_
  refine g_new X1 hx hZ hown w_11 w_12 w_13 e1 (Jvm.hb hby d1_5) (pc' := 8) rfl (cells' := 1) (slots' := 3) rfl rfl (by decide) (by decide) ?_
  intro T2 hh2 ad2 gb2 X2 e2 E2 A2 D2
  have g_ad2 : n0 ≤ ad2 := by rw [gb2]; exact Z0
  have sz_ad2 : h0.size ≤ ad2 := by rw [gb2]; exact (Nat.le_refl _)
  have lt_x0_ad2 : @LT.lt Nat _ x0 ad2 := by rw [gb2]; exact E0.lt
  have ne_x0_ad2 : x0 ≠ ad2 := Nat.ne_of_lt lt_x0_ad2
  have Z3 : n0 ≤ hh2.size := Nat.le_trans Z0 E2.1
  have z4 : h0.size ≤ hh2.size := Nat.le_trans (Nat.le_refl _) E2.1
  have F2_modCount : Fld Z hh2 ad2 "java/util/AbstractList" "modCount" "I" (.int (0 : Int32)) := D2 (Or.inl w_31) (ty := .int) (by decide)
  have F2_elementData : Fld Z hh2 ad2 "java/util/ArrayList" "elementData" "[Ljava/lang/Object;" .null := D2 (Or.inl w_34) (ty := (.array (.object "java/lang/Object"))) (by decide)
  have F2_size : Fld Z hh2 ad2 "java/util/ArrayList" "size" "I" (.int (0 : Int32)) := D2 (Or.inl w_79) (ty := .int) (by decide)
  refine g_dup X2.here hx (Jvm.hb hby d1_8) (pc' := 9) rfl rfl ?_
  have F5 := (O0.ext E2)
  refine g_callI X2 hx hZ rfl hown w_14 w_15 w_13 w_16 (by decide) (rm3 l Z a0 hw [] ad2 d hh2 n0 Z3 g_ad2 A2 F2_elementData F2_size F2_modCount F5 S0) 2 (by decide) (by decide) e2 (by rw [hml]; rfl) [] [(.ref ad2), (.ref x0)] (lenOf pd_3 rfl) rfl rfl (Nat.le_of_eq rfl) (Jvm.hb hby d1_9) (pc' := 12) rfl (cells' := 1) (slots' := 3) rfl rfl (by decide) (by decide) ?_
  intro v6 T6 L6 X6 hQ6
  obtain ⟨rfl, Nq6, K6, Lq6⟩ := hQ6
  have N6 := Fr.app N0 Nq6
  have Z7 : n0 ≤ T6.heap.size := Nat.le_trans Z3 K6.1
  have z8 : h0.size ≤ T6.heap.size := Nat.le_trans z4 K6.1
  obtain ⟨EB9, FB9_elementData, FB9_size, FB9_modCount⟩ := Lq6
  show own_Gl p e below s (own_Q1 Z n0 x0 d x1 h0) ({ frames := 4, cells := 1, slots := 3, locals := 50 } : Room).cells ({ frames := 4, cells := 1, slots := 3, locals := 50 } : Room).slots (T6.setTop (mkF m 12 #[.val (.ref x0), .val (.long x1), .second] [(.ref ad2), (.ref x0)]))
  have F10 := ((F_pages.ext E2).keep K6 (ninS ne_x0_ad2 nin0))
  have F11 := ((E0.ext E2).keep K6)
  refine g_putF X6 hx hZ hown (host := "") (Or.inl w_35) Via.refl rfl F10 F11 (Or.inr ⟨w_36, rfl, hnm⟩) w_3 (ty := (.object "java/util/List")) (by decide) rfl rfl (Jvm.hb hby d1_12) (pc' := 15) rfl ?_
  intro T12 hh12 X12 e12 W12
  have Fw12 := F10.same W12
  have N12 := Fr.snoc X12 N6 g0
  have Z13 : n0 ≤ hh12.size := (by rw [W12.size]; exact Z7)
  have z14 : h0.size ≤ hh12.size := (by rw [W12.size]; exact z8)
  refine g_aloadN X12.here hx (Jvm.hb hby d1_15) (pc' := 16) rfl rfl rfl ?_
  refine g_lloadN X12.here hx (Jvm.hb hby d1_16) (pc' := 17) rfl rfl ?_
  have F15 := (((F_capacity.ext E2).keep K6 (ninS ne_x0_ad2 nin0)).other W12 (Or.inr (slot_ne (Or.inr w_38) (Or.inr w_36) (by decide) (t := .long) (t' := (.object "java/util/List")) (by decide) (by decide))))
  have F16 := (F11.wr W12)
  refine g_putF X12 hx hZ hown (host := "") (Or.inl w_37) Via.refl e12 F15 F16 (Or.inr ⟨w_38, rfl, hnm⟩) w_3 (ty := .long) (by decide) rfl rfl (Jvm.hb hby d1_17) (pc' := 20) rfl ?_
  intro T17 hh17 X17 e17 W17
  have Fw17 := F15.same W17
  have N17 := Fr.snoc X17 N12 g0
  have Z18 : n0 ≤ hh17.size := (by rw [W17.size]; exact Z13)
  have z19 : h0.size ≤ hh17.size := (by rw [W17.size]; exact z14)
  have F20 := (F16.wr W17)
  have F21 := (Fw12.other W17 (Or.inr (slot_ne (Or.inr w_36) (Or.inr w_38) (by decide) (t := (.object "java/util/List")) (t' := .long) (by decide) (by decide))))
  have F22 := ((((F_length.ext E2).keep K6 (ninS ne_x0_ad2 nin0)).other W12 (Or.inr (slot_ne (Or.inl w_45) (Or.inr w_36) (by decide) (t := .long) (t' := (.object "java/util/List")) (by decide) (by decide)))).other W17 (Or.inr (slot_ne (Or.inl w_45) (Or.inr w_38) (by decide) (t := .long) (t' := .long) (by decide) (by decide))))
  have F23 := ((((F_pending.ext E2).keep K6 (ninS ne_x0_ad2 nin0)).other W12 (Or.inr (slot_ne (Or.inl w_53) (Or.inr w_36) (by decide) (t := .long) (t' := (.object "java/util/List")) (by decide) (by decide)))).other W17 (Or.inr (slot_ne (Or.inl w_53) (Or.inr w_38) (by decide) (t := .long) (t' := .long) (by decide) (by decide))))
  have F24 := ((((F_lastPageBytes.ext E2).keep K6 (ninS ne_x0_ad2 nin0)).other W12 (Or.inr (slot_ne (Or.inl w_115) (Or.inr w_36) (by decide) (t := .int) (t' := (.object "java/util/List")) (by decide) (by decide)))).other W17 (Or.inr (slot_ne (Or.inl w_115) (Or.inr w_38) (by decide) (t := .int) (t' := .long) (by decide) (by decide))))
  have F25 := ((EB9.wr W12).wr W17)
  have F26 := ((FB9_elementData.other W12 (Or.inl (Ne.symm ne_x0_ad2))).other W17 (Or.inl (Ne.symm ne_x0_ad2)))
  have F27 := ((FB9_size.other W12 (Or.inl (Ne.symm ne_x0_ad2))).other W17 (Or.inl (Ne.symm ne_x0_ad2)))
  have F28 := ((FB9_modCount.other W12 (Or.inl (Ne.symm ne_x0_ad2))).other W17 (Or.inl (Ne.symm ne_x0_ad2)))
  have F29 := (((F5.keep K6 (allS g_ad2 all0)).wr W12 g0).wr W17 g0)
  exact g_retV X17 hx hlk hret (Jvm.hb hby d1_20) (by decide) (by decide) (by rw [e17]; exact ⟨rfl, N17, ad2, (0 : Int64), (0 : Int32), ⟨F20, F21, Fw17, F22, F23, F24⟩, ⟨F25, F26, F27, F28⟩, lt_x0_ad2, g0, F29⟩)
def own_QG (Z : State) (n0 x0 : Nat) (mc : Int32) (h0 : Heap) (v : Option Value) (h : Heap) (L : List Loc) : Prop := ∃ arr : Nat, v = some (.ref arr) ∧ Fr n0 L ∧ Keep h0 h [x0] ∧ own_LI Z h x0 arr (0 : Int32) mc ∧ own_RA Z h arr 10 .null ∧ @LE.le Nat _ h0.size arr
theorem d15_0 : decode jdk_38_method_6_code 0 = .ok (.aload_n 0, 1) := by decide +kernel
theorem d15_1 : decode jdk_38_method_6_code 1 = .ok (.getfield 9, 3) := by decide +kernel
theorem d15_4 : decode jdk_38_method_6_code 4 = .ok (.arraylength, 1) := by decide +kernel
theorem d15_5 : decode jdk_38_method_6_code 5 = .ok (.istore_n 2, 1) := by decide +kernel
theorem d15_6 : decode jdk_38_method_6_code 6 = .ok (.iload_n 2, 1) := by decide +kernel
theorem d15_7 : decode jdk_38_method_6_code 7 = .ok (.ifCond .gt 13, 3) := by decide +kernel
theorem d15_10 : decode jdk_38_method_6_code 10 = .ok (.aload_n 0, 1) := by decide +kernel
theorem d15_11 : decode jdk_38_method_6_code 11 = .ok (.getfield 9, 3) := by decide +kernel
theorem d15_14 : decode jdk_38_method_6_code 14 = .ok (.getstatic 39, 3) := by decide +kernel
theorem d15_17 : decode jdk_38_method_6_code 17 = .ok (.if_acmp .eq 28, 3) := by decide +kernel
theorem d15_45 : decode jdk_38_method_6_code 45 = .ok (.aload_n 0, 1) := by decide +kernel
theorem d15_46 : decode jdk_38_method_6_code 46 = .ok (.bipush 10, 2) := by decide +kernel
theorem d15_48 : decode jdk_38_method_6_code 48 = .ok (.iload_n 1, 1) := by decide +kernel
theorem d15_49 : decode jdk_38_method_6_code 49 = .ok (.invokestatic 79, 3) := by decide +kernel
theorem d15_52 : decode jdk_38_method_6_code 52 = .ok (.anewarray 7, 3) := by decide +kernel
theorem d15_55 : decode jdk_38_method_6_code 55 = .ok (.dup_x1, 1) := by decide +kernel
theorem d15_56 : decode jdk_38_method_6_code 56 = .ok (.putfield 9, 3) := by decide +kernel
theorem d15_59 : decode jdk_38_method_6_code 59 = .ok (.areturn, 1) := by decide +kernel
theorem ef_15 (m : MethodId) (x0 : Addr) (x1 : Int32) : entryFrame m #[(.ref x0), (.int x1)] 4 = mkF m 0 #[.val (.ref x0), .val (.int x1), .unset, .unset] [] := by first | (simp [entryFrame, mkF, argsToLocals, Value.category]; done) | rfl
set_option maxRecDepth 65536 in
set_option maxHeartbeats 40000000 in
theorem rm15 (l : Launch) (Z : State) (a0 : Array Value) (hw : ∀ d ∈ tables_1, d.before a0 Z = true) (ws : List Jvm.Cond) (x0 d : Nat) (mc : Int32) (h0 : Heap) (n0 : Nat) (Z0 : n0 ≤ h0.size) (g0 : n0 ≤ x0) (L0 : own_LI Z h0 x0 d (0 : Int32) mc) (O0 : Old Z n0 h0) (S0 : Sta Z Z.heap "java/util/ArrayList" "DEFAULTCAPACITY_EMPTY_ELEMENTDATA" "[Ljava/lang/Object;" (.ref d)) (A0 : own_AL Z Z.heap d 0) :
    MetFree l (⟨"java/util/ArrayList", "grow", "(I)[Ljava/lang/Object;"⟩ : MethodName) (head1 (Jvm.Cond.code (⟨"java/util/ArrayList", "grow", "(I)[Ljava/lang/Object;"⟩ : MethodName) jdk_38_method_6_code 4 (some (.array (.object "java/lang/Object"))) :: ws) ({ frames := 1, cells := 1, slots := 10, locals := 14 } : Room)) (fun a U => a = #[(.ref x0), (.int (1 : Int32))] ∧ Z.Warmed39 U.vm ∧ U.heap = h0) (fun _ _ _ _ _ => True) (fun _ U o U' => ∃ v L, o = .returned v ∧ (own_QG Z n0 x0 mc h0) v U'.heap L ∧ FrameEnd U o U' L ({ frames := 1, cells := 1, slots := 10, locals := 14 } : Room).cells ({ frames := 1, cells := 1, slots := 10, locals := 14 } : Room).slots) := by
  refine own_body (own := "java/util/ArrayList") (plainFor_of_name pn_0) rfl (fun m => ef_15 m x0 (1 : Int32)) ?_
  intro p e s m below meth c T0 hx hby hml hown hnm hlk hret hZ X0 e0
  have w_12 := hw _ (List.mem_of_getElem? (i := 12) rfl)
  have w_31 := hw _ (List.mem_of_getElem? (i := 31) rfl)
  have w_32 := hw _ (List.mem_of_getElem? (i := 32) rfl)
  have w_33 := hw _ (List.mem_of_getElem? (i := 33) rfl)
  have w_34 := hw _ (List.mem_of_getElem? (i := 34) rfl)
  have w_79 := hw _ (List.mem_of_getElem? (i := 79) rfl)
  have w_107 := hw _ (List.mem_of_getElem? (i := 107) rfl)
  have w_108 := hw _ (List.mem_of_getElem? (i := 108) rfl)
  have w_109 := hw _ (List.mem_of_getElem? (i := 109) rfl)
  have w_110 := hw _ (List.mem_of_getElem? (i := 110) rfl)
  have w_111 := hw _ (List.mem_of_getElem? (i := 111) rfl)
  have w_112 := hw _ (List.mem_of_getElem? (i := 112) rfl)
  have N0 := Fr.nil n0
  obtain ⟨EB1, FB1_elementData, FB1_size, FB1_modCount⟩ := L0
  refine g_aloadN X0.here hx (Jvm.hb hby d15_0) (pc' := 1) rfl rfl rfl ?_
  refine g_getF X0 hx hZ hown (host := "") (Or.inl w_33) Via.refl e0 FB1_elementData (Jvm.hb hby d15_1) (pc' := 4) rfl ?_
  intro T2 X2 e2
  refine g_arrlenA X2 hx hZ e2 (A0.ext O0.2) (z := (0 : Int32)) rfl (Jvm.hb hby d15_4) (pc' := 5) rfl ?_
  refine g_istoreN X2.here hx (Jvm.hb hby d15_5) (pc' := 6) rfl (L' := #[.val (.ref x0), .val (.int (1 : Int32)), .val (.int (0 : Int32)), .unset]) rfl ?_
  refine g_iloadN X2.here hx (Jvm.hb hby d15_6) (pc' := 7) rfl rfl ?_
  refine g_ifN X2.here hx (Jvm.hb hby d15_7) (pc' := 10) rfl ((if0 _ _).trans (flt (by decide)).2.2.1) ?_
  refine g_aloadN X2.here hx (Jvm.hb hby d15_10) (pc' := 11) rfl rfl rfl ?_
  refine g_getF X2 hx hZ hown (host := "") (Or.inl w_33) Via.refl e2 FB1_elementData (Jvm.hb hby d15_11) (pc' := 14) rfl ?_
  intro T3 X3 e3
  refine g_getS X3 hx hZ hown w_32 e3 (Sta.ext O0.2 S0) (Jvm.hb hby d15_14) (pc' := 17) rfl ?_
  intro T4 X4 e4
  refine g_acmpEqY X4 hx (Jvm.hb hby d15_17) (by decide) (pc' := 45) (by decide) ?_
  refine g_aloadN X4.here hx (Jvm.hb hby d15_45) (pc' := 46) rfl rfl rfl ?_
  refine g_bipush X4.here hx (Jvm.hb hby d15_46) (pc' := 48) rfl (z := (10 : Int32)) rfl ?_
  refine g_iloadN X4.here hx (Jvm.hb hby d15_48) (pc' := 49) rfl rfl ?_
  refine g_callP X4 hx hZ hown w_107 w_108 w_109 w_110 (by decide) (rm16 l Z a0 hw [] (10 : Int32) (1 : Int32) h0) 1 (by decide) (by decide) e4 (by rw [hml]; rfl) [(.int (10 : Int32)), (.int (1 : Int32))] [(.ref x0)] (lenOf pd_1 rfl) rfl rfl (Nat.le_of_eq rfl) (Jvm.hb hby d15_49) (pc' := 52) rfl (Nat.zero_le _) (Nat.zero_le _) ?_
  intro T5 X5 e5
  show own_Gl p e below s (own_QG Z n0 x0 mc h0) ({ frames := 1, cells := 1, slots := 10, locals := 14 } : Room).cells ({ frames := 1, cells := 1, slots := 10, locals := 14 } : Room).slots (T5.setTop (mkF m 52 #[.val (.ref x0), .val (.int (1 : Int32)), .val (.int (0 : Int32)), .unset] [(.int (f_max (10 : Int32) (1 : Int32))), (.ref x0)]))
  rw [show (f_max (10 : Int32) (1 : Int32)) = (10 : Int32) from rfl]
  refine g_newR X5 hx hZ hown w_111 w_112 e5 (Jvm.hb hby d15_52) (pc' := 55) rfl (n := 10) (by decide) (by decide) 10 (by decide) (by decide) (cells' := 1) (slots' := 10) rfl rfl (by decide) (by decide) ?_
  intro T6 hh6 ad6 gb6 X6 e6 E6 V6
  have g_ad6 : n0 ≤ ad6 := by rw [gb6]; exact Z0
  have sz_ad6 : h0.size ≤ ad6 := by rw [gb6]; exact (Nat.le_refl _)
  have lt_x0_ad6 : @LT.lt Nat _ x0 ad6 := by rw [gb6]; exact EB1.lt
  have ne_x0_ad6 : x0 ≠ ad6 := Nat.ne_of_lt lt_x0_ad6
  have Z7 : n0 ≤ hh6.size := Nat.le_trans Z0 E6.1
  have z8 : h0.size ≤ hh6.size := Nat.le_trans (Nat.le_refl _) E6.1
  refine g_dupX1 X6.here hx (Jvm.hb hby d15_55) (pc' := 56) rfl rfl rfl ?_
  have F9 := (FB1_elementData.ext E6)
  have F10 := (EB1.ext E6)
  refine g_putF X6 hx hZ hown (host := "") (Or.inl w_33) Via.refl e6 F9 F10 (Or.inl w_34) w_12 (ty := (.array (.object "java/lang/Object"))) (by decide) rfl rfl (Jvm.hb hby d15_56) (pc' := 59) rfl ?_
  intro T11 hh11 X11 e11 W11
  have Fw11 := F9.same W11
  have N11 := Fr.snoc X11 N0 g0
  have Z12 : n0 ≤ hh11.size := (by rw [W11.size]; exact Z7)
  have z13 : h0.size ≤ hh11.size := (by rw [W11.size]; exact z8)
  have F14 := (F10.wr W11)
  have F15 := ((FB1_size.ext E6).other W11 (Or.inr (slot_ne (Or.inl w_79) (Or.inl w_34) (by decide) (t := .int) (t' := (.array (.object "java/lang/Object"))) (by decide) (by decide))))
  have F16 := ((FB1_modCount.ext E6).other W11 (Or.inr (slot_ne (Or.inl w_31) (Or.inl w_34) (by decide) (t := .int) (t' := (.array (.object "java/lang/Object"))) (by decide) (by decide))))
  have F17 := (V6.other W11 (Ne.symm ne_x0_ad6))
  have KK := (((Keep.refl h0 [x0]).ext E6).wr W11 (Or.inl (List.mem_of_getElem? (i := 0) rfl)))
  exact g_retR X11 hx hlk hret rfl rfl (Jvm.hb hby d15_59) (by decide) (by decide) (by rw [e11]; exact ⟨ad6, rfl, N11, KK, ⟨F14, Fw11, F15, F16⟩, F17, sz_ad6⟩)
theorem d14_0 : decode jdk_38_method_7_code 0 = .ok (.aload_n 0, 1) := by decide +kernel
theorem d14_1 : decode jdk_38_method_7_code 1 = .ok (.aload_n 0, 1) := by decide +kernel
theorem d14_2 : decode jdk_38_method_7_code 2 = .ok (.getfield 48, 3) := by decide +kernel
theorem d14_5 : decode jdk_38_method_7_code 5 = .ok (.iconst 1, 1) := by decide +kernel
theorem d14_6 : decode jdk_38_method_7_code 6 = .ok (.iadd, 1) := by decide +kernel
theorem d14_7 : decode jdk_38_method_7_code 7 = .ok (.invokevirtual 69, 3) := by decide +kernel
theorem pd_4 : parseMethodDescriptor "(I)[Ljava/lang/Object;" = some ⟨[.int], some (.array (.object "java/lang/Object"))⟩ := by decide +kernel
theorem d14_10 : decode jdk_38_method_7_code 10 = .ok (.areturn, 1) := by decide +kernel
theorem ef_14 (m : MethodId) (x0 : Addr) : entryFrame m #[(.ref x0)] 1 = mkF m 0 #[.val (.ref x0)] [] := by first | (simp [entryFrame, mkF, argsToLocals, Value.category]; done) | rfl
set_option maxRecDepth 65536 in
set_option maxHeartbeats 40000000 in
theorem rm14 (l : Launch) (Z : State) (a0 : Array Value) (hw : ∀ d ∈ tables_1, d.before a0 Z = true) (ws : List Jvm.Cond) (x0 d : Nat) (mc : Int32) (h0 : Heap) (n0 : Nat) (Z0 : n0 ≤ h0.size) (g0 : n0 ≤ x0) (L0 : own_LI Z h0 x0 d (0 : Int32) mc) (O0 : Old Z n0 h0) (S0 : Sta Z Z.heap "java/util/ArrayList" "DEFAULTCAPACITY_EMPTY_ELEMENTDATA" "[Ljava/lang/Object;" (.ref d)) (A0 : own_AL Z Z.heap d 0) :
    MetFree l (⟨"java/util/ArrayList", "grow", "()[Ljava/lang/Object;"⟩ : MethodName) (head1 (Jvm.Cond.code (⟨"java/util/ArrayList", "grow", "()[Ljava/lang/Object;"⟩ : MethodName) jdk_38_method_7_code 1 (some (.array (.object "java/lang/Object"))) :: ws) ({ frames := 2, cells := 1, slots := 10, locals := 29 } : Room)) (fun a U => a = #[(.ref x0)] ∧ Z.Warmed39 U.vm ∧ U.heap = h0) (fun _ _ _ _ _ => True) (fun _ U o U' => ∃ v L, o = .returned v ∧ (own_QG Z n0 x0 mc h0) v U'.heap L ∧ FrameEnd U o U' L ({ frames := 2, cells := 1, slots := 10, locals := 29 } : Room).cells ({ frames := 2, cells := 1, slots := 10, locals := 29 } : Room).slots) := by
  refine own_body (own := "java/util/ArrayList") (plainFor_of_name pn_0) rfl (fun m => ef_14 m x0) ?_
  intro p e s m below meth c T0 hx hby hml hown hnm hlk hret hZ X0 e0
  have w_13 := hw _ (List.mem_of_getElem? (i := 13) rfl)
  have w_78 := hw _ (List.mem_of_getElem? (i := 78) rfl)
  have w_102 := hw _ (List.mem_of_getElem? (i := 102) rfl)
  have w_103 := hw _ (List.mem_of_getElem? (i := 103) rfl)
  have w_104 := hw _ (List.mem_of_getElem? (i := 104) rfl)
  have w_105 := hw _ (List.mem_of_getElem? (i := 105) rfl)
  have w_106 := hw _ (List.mem_of_getElem? (i := 106) rfl)
  have N0 := Fr.nil n0
  obtain ⟨EB1, FB1_elementData, FB1_size, FB1_modCount⟩ := id L0
  refine g_aloadN X0.here hx (Jvm.hb hby d14_0) (pc' := 1) rfl rfl rfl ?_
  refine g_aloadN X0.here hx (Jvm.hb hby d14_1) (pc' := 2) rfl rfl rfl ?_
  refine g_getF X0 hx hZ hown (host := "") (Or.inl w_78) Via.refl e0 FB1_size (Jvm.hb hby d14_2) (pc' := 5) rfl ?_
  intro T2 X2 e2
  refine g_iconst X2.here hx (Jvm.hb hby d14_5) (pc' := 6) rfl (z := (1 : Int32)) rfl ?_
  refine g_iadd X2.here hx (Jvm.hb hby d14_6) (pc' := 7) rfl ?_
  rw [show ((0 : Int32) + (1 : Int32)) = (1 : Int32) from rfl]
  refine g_callPr X2 hx hZ hown w_102 (mvT hZ w_105) w_103 w_104 w_13 w_106 (by decide) (rm15 l Z a0 hw [] x0 d mc h0 n0 Z0 g0 L0 O0 S0 A0) 0 (by decide) (by decide) e2 EB1 (by rw [hml]; rfl) [(.int (1 : Int32))] [] (lenOf pd_4 rfl) rfl rfl (Nat.le_of_eq rfl) (Jvm.hb hby d14_7) (pc' := 10) rfl (cells' := 1) (slots' := 10) rfl rfl (by decide) (by decide) ?_
  intro v3 T3 L3 X3 hQ3
  obtain ⟨arr, rfl, Nq3, K3, Lq, Rq, szq⟩ := hQ3
  have N3 := Fr.app N0 Nq3
  show own_Gl p e below s (own_QG Z n0 x0 mc h0) ({ frames := 2, cells := 1, slots := 10, locals := 29 } : Room).cells ({ frames := 2, cells := 1, slots := 10, locals := 29 } : Room).slots (T3.setTop (mkF m 10 #[.val (.ref x0)] [(.ref arr)]))
  exact g_retR X3 hx hlk hret rfl rfl (Jvm.hb hby d14_10) (by decide) (by decide) ⟨arr, rfl, N3, K3, Lq, Rq, szq⟩
def own_QA (Z : State) (n0 x0 x1 : Nat) (w : Option Value) (mc : Int32) (h0 : Heap) (v : Option Value) (h : Heap) (L : List Loc) : Prop := v = w ∧ Fr n0 L ∧ Keep h0 h [x0] ∧ ∃ arr : Nat, own_LI Z h x0 arr (1 : Int32) mc ∧ own_RA Z h arr 10 (.ref x1) ∧ @LE.le Nat _ h0.size arr
theorem d13_0 : decode jdk_38_method_24_code 0 = .ok (.iload_n 3, 1) := by decide +kernel
theorem d13_1 : decode jdk_38_method_24_code 1 = .ok (.aload_n 2, 1) := by decide +kernel
theorem d13_2 : decode jdk_38_method_24_code 2 = .ok (.arraylength, 1) := by decide +kernel
theorem d13_3 : decode jdk_38_method_24_code 3 = .ok (.if_icmp .ne 8, 3) := by decide +kernel
theorem d13_6 : decode jdk_38_method_24_code 6 = .ok (.aload_n 0, 1) := by decide +kernel
theorem d13_7 : decode jdk_38_method_24_code 7 = .ok (.invokevirtual 129, 3) := by decide +kernel
theorem pd_5 : parseMethodDescriptor "()[Ljava/lang/Object;" = some ⟨[], some (.array (.object "java/lang/Object"))⟩ := by decide +kernel
theorem d13_10 : decode jdk_38_method_24_code 10 = .ok (.astore_n 2, 1) := by decide +kernel
theorem d13_11 : decode jdk_38_method_24_code 11 = .ok (.aload_n 2, 1) := by decide +kernel
theorem d13_12 : decode jdk_38_method_24_code 12 = .ok (.iload_n 3, 1) := by decide +kernel
theorem d13_13 : decode jdk_38_method_24_code 13 = .ok (.aload_n 1, 1) := by decide +kernel
theorem d13_14 : decode jdk_38_method_24_code 14 = .ok (.aastore, 1) := by decide +kernel
theorem d13_15 : decode jdk_38_method_24_code 15 = .ok (.aload_n 0, 1) := by decide +kernel
theorem d13_16 : decode jdk_38_method_24_code 16 = .ok (.iload_n 3, 1) := by decide +kernel
theorem d13_17 : decode jdk_38_method_24_code 17 = .ok (.iconst 1, 1) := by decide +kernel
theorem d13_18 : decode jdk_38_method_24_code 18 = .ok (.iadd, 1) := by decide +kernel
theorem d13_19 : decode jdk_38_method_24_code 19 = .ok (.putfield 48, 3) := by decide +kernel
theorem d13_22 : decode jdk_38_method_24_code 22 = .ok (.return_, 1) := by decide +kernel
theorem ef_13 (m : MethodId) (x0 : Addr) (x1 : Addr) (x2 : Addr) (x3 : Int32) : entryFrame m #[(.ref x0), (.ref x1), (.ref x2), (.int x3)] 4 = mkF m 0 #[.val (.ref x0), .val (.ref x1), .val (.ref x2), .val (.int x3)] [] := by first | (simp [entryFrame, mkF, argsToLocals, Value.category]; done) | rfl
set_option maxRecDepth 65536 in
set_option maxHeartbeats 40000000 in
theorem rm13 (l : Launch) (Z : State) (a0 : Array Value) (hw : ∀ d ∈ tables_1, d.before a0 Z = true) (ws : List Jvm.Cond) (x0 x1 d : Nat) (mc : Int32) (h0 : Heap) (n0 : Nat) (Z0 : n0 ≤ h0.size) (g0 : n0 ≤ x0) (L0 : own_LI Z h0 x0 d (0 : Int32) mc) (O0 : Old Z n0 h0) (S0 : Sta Z Z.heap "java/util/ArrayList" "DEFAULTCAPACITY_EMPTY_ELEMENTDATA" "[Ljava/lang/Object;" (.ref d)) (A0 : own_AL Z Z.heap d 0) (I1 : Exa Z h0 x1 "[B") (ne1 : x1 ≠ x0) :
    MetFree l (⟨"java/util/ArrayList", "add", "(Ljava/lang/Object;[Ljava/lang/Object;I)V"⟩ : MethodName) (head1 (Jvm.Cond.code (⟨"java/util/ArrayList", "add", "(Ljava/lang/Object;[Ljava/lang/Object;I)V"⟩ : MethodName) jdk_38_method_24_code 4 none :: ws) ({ frames := 3, cells := 1, slots := 10, locals := 41 } : Room)) (fun a U => a = #[(.ref x0), (.ref x1), (.ref d), (.int (0 : Int32))] ∧ Z.Warmed39 U.vm ∧ U.heap = h0) (fun _ _ _ _ _ => True) (fun _ U o U' => ∃ v L, o = .returned v ∧ (own_QA Z n0 x0 x1 none mc h0) v U'.heap L ∧ FrameEnd U o U' L ({ frames := 3, cells := 1, slots := 10, locals := 41 } : Room).cells ({ frames := 3, cells := 1, slots := 10, locals := 41 } : Room).slots) := by
  refine own_body (own := "java/util/ArrayList") (plainFor_of_name pn_0) rfl (fun m => ef_13 m x0 x1 d (0 : Int32)) ?_
  intro p e s m below meth c T0 hx hby hml hown hnm hlk hret hZ X0 e0
  have w_12 := hw _ (List.mem_of_getElem? (i := 12) rfl)
  have w_13 := hw _ (List.mem_of_getElem? (i := 13) rfl)
  have w_31 := hw _ (List.mem_of_getElem? (i := 31) rfl)
  have w_34 := hw _ (List.mem_of_getElem? (i := 34) rfl)
  have w_78 := hw _ (List.mem_of_getElem? (i := 78) rfl)
  have w_79 := hw _ (List.mem_of_getElem? (i := 79) rfl)
  have w_97 := hw _ (List.mem_of_getElem? (i := 97) rfl)
  have w_98 := hw _ (List.mem_of_getElem? (i := 98) rfl)
  have w_99 := hw _ (List.mem_of_getElem? (i := 99) rfl)
  have w_100 := hw _ (List.mem_of_getElem? (i := 100) rfl)
  have w_101 := hw _ (List.mem_of_getElem? (i := 101) rfl)
  have w_113 := hw _ (List.mem_of_getElem? (i := 113) rfl)
  have N0 := Fr.nil n0
  obtain ⟨EB1, FB1_elementData, FB1_size, FB1_modCount⟩ := id L0
  refine g_iloadN X0.here hx (Jvm.hb hby d13_0) (pc' := 1) rfl rfl ?_
  refine g_aloadN X0.here hx (Jvm.hb hby d13_1) (pc' := 2) rfl rfl rfl ?_
  refine g_arrlenA X0 hx hZ e0 (A0.ext O0.2) (z := (0 : Int32)) rfl (Jvm.hb hby d13_2) (pc' := 3) rfl ?_
  refine g_icN X0.here hx (Jvm.hb hby d13_3) (pc' := 6) rfl (teq (by decide)).2 ?_
  refine g_aloadN X0.here hx (Jvm.hb hby d13_6) (pc' := 7) rfl rfl rfl ?_
  refine g_callPr X0 hx hZ hown w_97 (mvT hZ w_100) w_98 w_99 w_13 w_101 (by decide) (rm14 l Z a0 hw [] x0 d mc h0 n0 Z0 g0 L0 O0 S0 A0) 0 (by decide) (by decide) e0 EB1 (by rw [hml]; rfl) [] [] (lenOf pd_5 rfl) rfl rfl (Nat.le_of_eq rfl) (Jvm.hb hby d13_7) (pc' := 10) rfl (cells' := 1) (slots' := 10) rfl rfl (by decide) (by decide) ?_
  intro v2 T2 L2 X2 hQ2
  obtain ⟨arr, rfl, Nq2, K2, Lq, Rq, szq⟩ := hQ2
  have N2 := Fr.app N0 Nq2
  have Z3 : n0 ≤ T2.heap.size := Nat.le_trans Z0 K2.1
  have z4 : h0.size ≤ T2.heap.size := Nat.le_trans (Nat.le_refl _) K2.1
  have sz_arr : h0.size ≤ arr := szq
  have g_arr : n0 ≤ arr := Nat.le_trans Z0 szq
  have ne_x0_arr : x0 ≠ arr := Nat.ne_of_lt (Nat.lt_of_lt_of_le L0.1.lt szq)
  obtain ⟨EB5, FB5_elementData, FB5_size, FB5_modCount⟩ := Lq
  show own_Gl p e below s (own_QA Z n0 x0 x1 none mc h0) ({ frames := 3, cells := 1, slots := 10, locals := 41 } : Room).cells ({ frames := 3, cells := 1, slots := 10, locals := 41 } : Room).slots (T2.setTop (mkF m 10 #[.val (.ref x0), .val (.ref x1), .val (.ref d), .val (.int (0 : Int32))] [(.ref arr)]))
  refine g_astoreN X2.here hx (Jvm.hb hby d13_10) (pc' := 11) rfl rfl (L' := #[.val (.ref x0), .val (.ref x1), .val (.ref arr), .val (.int (0 : Int32))]) rfl ?_
  refine g_aloadN X2.here hx (Jvm.hb hby d13_11) (pc' := 12) rfl rfl rfl ?_
  refine g_iloadN X2.here hx (Jvm.hb hby d13_12) (pc' := 13) rfl rfl ?_
  refine g_aloadN X2.here hx (Jvm.hb hby d13_13) (pc' := 14) rfl rfl rfl ?_
  have F6 := (I1.keep K2)
  refine g_aastore X2 hx hZ rfl Rq (by decide) (by decide) (Ins.of_exa F6 w_113) (Jvm.hb hby d13_14) (pc' := 15) rfl ?_
  intro T7 hh7 X7 e7 W7 V7
  have N7 := Fr.snoc X7 N2 g_arr
  have Z8 : n0 ≤ hh7.size := (by rw [W7.size]; exact Z3)
  have z9 : h0.size ≤ hh7.size := (by rw [W7.size]; exact z4)
  refine g_aloadN X7.here hx (Jvm.hb hby d13_15) (pc' := 16) rfl rfl rfl ?_
  refine g_iloadN X7.here hx (Jvm.hb hby d13_16) (pc' := 17) rfl rfl ?_
  refine g_iconst X7.here hx (Jvm.hb hby d13_17) (pc' := 18) rfl (z := (1 : Int32)) rfl ?_
  refine g_iadd X7.here hx (Jvm.hb hby d13_18) (pc' := 19) rfl ?_
  rw [show ((0 : Int32) + (1 : Int32)) = (1 : Int32) from rfl]
  have F10 := (FB5_size.other W7 (Or.inl ne_x0_arr))
  have F11 := (EB5.wr W7)
  refine g_putF X7 hx hZ hown (host := "") (Or.inl w_78) Via.refl e7 F10 F11 (Or.inl w_79) w_12 (ty := .int) (by decide) rfl rfl (Jvm.hb hby d13_19) (pc' := 22) rfl ?_
  intro T12 hh12 X12 e12 W12
  have Fw12 := F10.same W12
  have N12 := Fr.snoc X12 N7 g0
  have Z13 : n0 ≤ hh12.size := (by rw [W12.size]; exact Z8)
  have z14 : h0.size ≤ hh12.size := (by rw [W12.size]; exact z9)
  have F15 := (F11.wr W12)
  have F16 := ((FB5_elementData.other W7 (Or.inl ne_x0_arr)).other W12 (Or.inr (slot_ne (Or.inl w_34) (Or.inl w_79) (by decide) (t := (.array (.object "java/lang/Object"))) (t' := .int) (by decide) (by decide))))
  have F17 := ((FB5_modCount.other W7 (Or.inl ne_x0_arr)).other W12 (Or.inr (slot_ne (Or.inl w_31) (Or.inl w_79) (by decide) (t := .int) (t' := .int) (by decide) (by decide))))
  have F18 := (V7.other W12 (Ne.symm ne_x0_arr))
  have KK := ((((Keep.refl h0 [x0]).trans K2 (allS (Or.inl (List.mem_of_getElem? (i := 0) rfl)) all0)).wr W7 (Or.inr sz_arr)).wr W12 (Or.inl (List.mem_of_getElem? (i := 0) rfl)))
  exact g_retV X12 hx hlk hret (Jvm.hb hby d13_22) (by decide) (by decide) (by rw [e12]; exact ⟨rfl, N12, KK, arr, ⟨F15, F16, Fw12, F17⟩, F18, szq⟩)
theorem d12_0 : decode jdk_38_method_25_code 0 = .ok (.aload_n 0, 1) := by decide +kernel
theorem d12_1 : decode jdk_38_method_25_code 1 = .ok (.dup, 1) := by decide +kernel
theorem d12_2 : decode jdk_38_method_25_code 2 = .ok (.getfield 63, 3) := by decide +kernel
theorem d12_5 : decode jdk_38_method_25_code 5 = .ok (.iconst 1, 1) := by decide +kernel
theorem d12_6 : decode jdk_38_method_25_code 6 = .ok (.iadd, 1) := by decide +kernel
theorem d12_7 : decode jdk_38_method_25_code 7 = .ok (.putfield 63, 3) := by decide +kernel
theorem d12_10 : decode jdk_38_method_25_code 10 = .ok (.aload_n 0, 1) := by decide +kernel
theorem d12_11 : decode jdk_38_method_25_code 11 = .ok (.aload_n 1, 1) := by decide +kernel
theorem d12_12 : decode jdk_38_method_25_code 12 = .ok (.aload_n 0, 1) := by decide +kernel
theorem d12_13 : decode jdk_38_method_25_code 13 = .ok (.getfield 9, 3) := by decide +kernel
theorem d12_16 : decode jdk_38_method_25_code 16 = .ok (.aload_n 0, 1) := by decide +kernel
theorem d12_17 : decode jdk_38_method_25_code 17 = .ok (.getfield 48, 3) := by decide +kernel
theorem d12_20 : decode jdk_38_method_25_code 20 = .ok (.invokevirtual 131, 3) := by decide +kernel
theorem pd_6 : parseMethodDescriptor "(Ljava/lang/Object;[Ljava/lang/Object;I)V" = some ⟨[(.object "java/lang/Object"), (.array (.object "java/lang/Object")), .int], none⟩ := by decide +kernel
theorem d12_23 : decode jdk_38_method_25_code 23 = .ok (.iconst 1, 1) := by decide +kernel
theorem d12_24 : decode jdk_38_method_25_code 24 = .ok (.ireturn, 1) := by decide +kernel
theorem ef_12 (m : MethodId) (x0 : Addr) (x1 : Addr) : entryFrame m #[(.ref x0), (.ref x1)] 2 = mkF m 0 #[.val (.ref x0), .val (.ref x1)] [] := by first | (simp [entryFrame, mkF, argsToLocals, Value.category]; done) | rfl
set_option maxRecDepth 65536 in
set_option maxHeartbeats 40000000 in
theorem rm12 (l : Launch) (Z : State) (a0 : Array Value) (hw : ∀ d ∈ tables_1, d.before a0 Z = true) (ws : List Jvm.Cond) (x0 x1 d : Nat) (mc : Int32) (h0 : Heap) (n0 : Nat) (Z0 : n0 ≤ h0.size) (g0 : n0 ≤ x0) (L0 : own_LI Z h0 x0 d (0 : Int32) mc) (O0 : Old Z n0 h0) (S0 : Sta Z Z.heap "java/util/ArrayList" "DEFAULTCAPACITY_EMPTY_ELEMENTDATA" "[Ljava/lang/Object;" (.ref d)) (A0 : own_AL Z Z.heap d 0) (I1 : Exa Z h0 x1 "[B") (ne1 : x1 ≠ x0) :
    MetFree l (⟨"java/util/ArrayList", "add", "(Ljava/lang/Object;)Z"⟩ : MethodName) (head1 (Jvm.Cond.code (⟨"java/util/ArrayList", "add", "(Ljava/lang/Object;)Z"⟩ : MethodName) jdk_38_method_25_code 2 (some .boolean) :: ws) ({ frames := 4, cells := 1, slots := 10, locals := 56 } : Room)) (fun a U => a = #[(.ref x0), (.ref x1)] ∧ Z.Warmed39 U.vm ∧ U.heap = h0) (fun _ _ _ _ _ => True) (fun _ U o U' => ∃ v L, o = .returned v ∧ (own_QA Z n0 x0 x1 (some (.int (1 : Int32))) (mc + (1 : Int32)) h0) v U'.heap L ∧ FrameEnd U o U' L ({ frames := 4, cells := 1, slots := 10, locals := 56 } : Room).cells ({ frames := 4, cells := 1, slots := 10, locals := 56 } : Room).slots) := by
  refine own_body (own := "java/util/ArrayList") (plainFor_of_name pn_0) rfl (fun m => ef_12 m x0 x1) ?_
  intro p e s m below meth c T0 hx hby hml hown hnm hlk hret hZ X0 e0
  have w_12 := hw _ (List.mem_of_getElem? (i := 12) rfl)
  have w_13 := hw _ (List.mem_of_getElem? (i := 13) rfl)
  have w_31 := hw _ (List.mem_of_getElem? (i := 31) rfl)
  have w_33 := hw _ (List.mem_of_getElem? (i := 33) rfl)
  have w_34 := hw _ (List.mem_of_getElem? (i := 34) rfl)
  have w_78 := hw _ (List.mem_of_getElem? (i := 78) rfl)
  have w_79 := hw _ (List.mem_of_getElem? (i := 79) rfl)
  have w_90 := hw _ (List.mem_of_getElem? (i := 90) rfl)
  have w_91 := hw _ (List.mem_of_getElem? (i := 91) rfl)
  have w_92 := hw _ (List.mem_of_getElem? (i := 92) rfl)
  have w_93 := hw _ (List.mem_of_getElem? (i := 93) rfl)
  have w_94 := hw _ (List.mem_of_getElem? (i := 94) rfl)
  have w_95 := hw _ (List.mem_of_getElem? (i := 95) rfl)
  have w_96 := hw _ (List.mem_of_getElem? (i := 96) rfl)
  have N0 := Fr.nil n0
  obtain ⟨EB1, FB1_elementData, FB1_size, FB1_modCount⟩ := id L0
  refine g_aloadN X0.here hx (Jvm.hb hby d12_0) (pc' := 1) rfl rfl rfl ?_
  refine g_dup X0.here hx (Jvm.hb hby d12_1) (pc' := 2) rfl rfl ?_
  refine g_getF X0 hx hZ hown (host := "") (Or.inl w_90) (Via.of w_91) e0 FB1_modCount (Jvm.hb hby d12_2) (pc' := 5) rfl ?_
  intro T2 X2 e2
  refine g_iconst X2.here hx (Jvm.hb hby d12_5) (pc' := 6) rfl (z := (1 : Int32)) rfl ?_
  refine g_iadd X2.here hx (Jvm.hb hby d12_6) (pc' := 7) rfl ?_
  refine g_putF X2 hx hZ hown (host := "") (Or.inl w_90) (Via.of w_91) e2 FB1_modCount EB1 (Or.inl w_31) w_12 (ty := .int) (by decide) rfl rfl (Jvm.hb hby d12_7) (pc' := 10) rfl ?_
  intro T3 hh3 X3 e3 W3
  have Fw3 := FB1_modCount.same W3
  have N3 := Fr.snoc X3 N0 g0
  have Z4 : n0 ≤ hh3.size := (by rw [W3.size]; exact Z0)
  have z5 : h0.size ≤ hh3.size := (by rw [W3.size]; exact (Nat.le_refl _))
  refine g_aloadN X3.here hx (Jvm.hb hby d12_10) (pc' := 11) rfl rfl rfl ?_
  refine g_aloadN X3.here hx (Jvm.hb hby d12_11) (pc' := 12) rfl rfl rfl ?_
  refine g_aloadN X3.here hx (Jvm.hb hby d12_12) (pc' := 13) rfl rfl rfl ?_
  have F6 := (FB1_elementData.other W3 (Or.inr (slot_ne (Or.inl w_34) (Or.inl w_31) (by decide) (t := (.array (.object "java/lang/Object"))) (t' := .int) (by decide) (by decide))))
  refine g_getF X3 hx hZ hown (host := "") (Or.inl w_33) Via.refl e3 F6 (Jvm.hb hby d12_13) (pc' := 16) rfl ?_
  intro T7 X7 e7
  refine g_aloadN X7.here hx (Jvm.hb hby d12_16) (pc' := 17) rfl rfl rfl ?_
  have F8 := (FB1_size.other W3 (Or.inr (slot_ne (Or.inl w_79) (Or.inl w_31) (by decide) (t := .int) (t' := .int) (by decide) (by decide))))
  refine g_getF X7 hx hZ hown (host := "") (Or.inl w_78) Via.refl e7 F8 (Jvm.hb hby d12_17) (pc' := 20) rfl ?_
  intro T9 X9 e9
  have F10 := (EB1.wr W3)
  have F11 := (O0.wr W3 g0)
  have F12 := (I1.wr W3)
  have KA := ((Keep.refl h0 [x0]).wr W3 (Or.inl (List.mem_of_getElem? (i := 0) rfl)))
  refine g_callPr X9 hx hZ hown w_92 (mvT hZ w_95) w_93 w_94 w_13 w_96 (by decide) (rm13 l Z a0 hw [] x0 x1 d (mc + (1 : Int32)) hh3 n0 Z4 g0 ⟨F10, F6, F8, Fw3⟩ F11 S0 A0 F12 ne1) 0 (by decide) (by decide) e9 F10 (by rw [hml]; rfl) [(.ref x1), (.ref d), (.int (0 : Int32))] [] (lenOf pd_6 rfl) rfl rfl (Nat.le_of_eq rfl) (Jvm.hb hby d12_20) (pc' := 23) rfl (cells' := 1) (slots' := 10) rfl rfl (by decide) (by decide) ?_
  intro v13 T13 L13 X13 hQ13
  obtain ⟨rfl, Nq13, K13, arr, Lq, Rq, szq⟩ := hQ13
  have N13 := Fr.app N3 Nq13
  have KB := KA.trans K13 (allS (Or.inl (List.mem_of_getElem? (i := 0) rfl)) all0)
  show own_Gl p e below s (own_QA Z n0 x0 x1 (some (.int (1 : Int32))) (mc + (1 : Int32)) h0) ({ frames := 4, cells := 1, slots := 10, locals := 56 } : Room).cells ({ frames := 4, cells := 1, slots := 10, locals := 56 } : Room).slots (T13.setTop (mkF m 23 #[.val (.ref x0), .val (.ref x1)] []))
  refine g_iconst X13.here hx (Jvm.hb hby d12_23) (pc' := 24) rfl (z := (1 : Int32)) rfl ?_
  exact g_retN X13 hx hlk (t := .boolean) hret (by simp) (z' := (1 : Int32)) rfl (Jvm.hb hby d12_24) (by decide) (by decide) ⟨rfl, N13, KB, arr, Lq, Rq, Nat.le_trans KA.1 szq⟩
def own_QP (Z : State) (n0 o : Nat) (cap len : Int64) (B : Nat) (v : Option Value) (h : Heap) (L : List Loc) : Prop := v = none ∧ Fr n0 L ∧ own_SP Z h n0 o cap len B
theorem d10_0 : decode prog_4_method_7_code 0 = .ok (.aload_n 0, 1) := by decide +kernel
theorem d10_1 : decode prog_4_method_7_code 1 = .ok (.getfield 10, 3) := by decide +kernel
theorem d10_4 : decode prog_4_method_7_code 4 = .ok (.invokeinterface 84 1, 5) := by decide +kernel
theorem pd_7 : parseMethodDescriptor "()Z" = some ⟨[], some .boolean⟩ := by decide +kernel
theorem d10_9 : decode prog_4_method_7_code 9 = .ok (.ifCond .ne 12, 3) := by decide +kernel
theorem d10_12 : decode prog_4_method_7_code 12 = .ok (.aload_n 0, 1) := by decide +kernel
theorem d10_13 : decode prog_4_method_7_code 13 = .ok (.getfield 71, 3) := by decide +kernel
theorem d10_16 : decode prog_4_method_7_code 16 = .ok (.ldc 77, 2) := by decide +kernel
theorem d10_18 : decode prog_4_method_7_code 18 = .ok (.if_icmp .ne 22, 3) := by decide +kernel
theorem d10_40 : decode prog_4_method_7_code 40 = .ok (.aload_n 0, 1) := by decide +kernel
theorem d10_41 : decode prog_4_method_7_code 41 = .ok (.getfield 10, 3) := by decide +kernel
theorem d10_44 : decode prog_4_method_7_code 44 = .ok (.aload_n 0, 1) := by decide +kernel
theorem d10_45 : decode prog_4_method_7_code 45 = .ok (.getfield 10, 3) := by decide +kernel
theorem d10_48 : decode prog_4_method_7_code 48 = .ok (.invokeinterface 59 1, 5) := by decide +kernel
theorem pd_8 : parseMethodDescriptor "()I" = some ⟨[], some .int⟩ := by decide +kernel
theorem d10_53 : decode prog_4_method_7_code 53 = .ok (.iconst 1, 1) := by decide +kernel
theorem d10_54 : decode prog_4_method_7_code 54 = .ok (.isub, 1) := by decide +kernel
theorem d10_55 : decode prog_4_method_7_code 55 = .ok (.invokeinterface 65 2, 5) := by decide +kernel
theorem d10_60 : decode prog_4_method_7_code 60 = .ok (.checkcast 69, 3) := by decide +kernel
theorem d10_63 : decode prog_4_method_7_code 63 = .ok (.aload_n 0, 1) := by decide +kernel
theorem d10_64 : decode prog_4_method_7_code 64 = .ok (.dup, 1) := by decide +kernel
theorem d10_65 : decode prog_4_method_7_code 65 = .ok (.getfield 71, 3) := by decide +kernel
theorem d10_68 : decode prog_4_method_7_code 68 = .ok (.dup_x1, 1) := by decide +kernel
theorem d10_69 : decode prog_4_method_7_code 69 = .ok (.iconst 1, 1) := by decide +kernel
theorem d10_70 : decode prog_4_method_7_code 70 = .ok (.iadd, 1) := by decide +kernel
theorem d10_71 : decode prog_4_method_7_code 71 = .ok (.putfield 71, 3) := by decide +kernel
theorem d10_74 : decode prog_4_method_7_code 74 = .ok (.iload_n 1, 1) := by decide +kernel
theorem d10_75 : decode prog_4_method_7_code 75 = .ok (.bastore, 1) := by decide +kernel
theorem d10_76 : decode prog_4_method_7_code 76 = .ok (.return_, 1) := by decide +kernel
theorem ef_10 (m : MethodId) (x0 : Addr) (x1 : Int32) : entryFrame m #[(.ref x0), (.int x1)] 2 = mkF m 0 #[.val (.ref x0), .val (.int x1)] [] := by first | (simp [entryFrame, mkF, argsToLocals, Value.category]; done) | rfl
set_option maxRecDepth 65536 in
set_option maxHeartbeats 40000000 in
theorem rmPutP (l : Launch) (Z : State) (a0 : Array Value) (hw : ∀ d ∈ tables_1, d.before a0 Z = true) (ws : List Jvm.Cond) (x0 : Nat) (x1 : Int32) (cap len : Int64) (B : Nat) (h0 : Heap) (n0 : Nat) (Z0 : n0 ≤ h0.size) (P0 : own_SP Z h0 n0 x0 cap len B) (hB : B ≤ 60000) :
    MetFree l (⟨"com/example/narrow_sieve/narrowsieve/format/BitBuffer", "put", "(B)V"⟩ : MethodName) (head1 (Jvm.Cond.code (⟨"com/example/narrow_sieve/narrowsieve/format/BitBuffer", "put", "(B)V"⟩ : MethodName) prog_4_method_7_code 2 none :: ws) ({ frames := 5, cells := 0, slots := 0, locals := 69 } : Room)) (fun a U => a = #[(.ref x0), (.int x1)] ∧ Z.Warmed39 U.vm ∧ U.heap = h0) (fun _ _ _ _ _ => True) (fun _ U o U' => ∃ v L, o = .returned v ∧ (own_QP Z n0 x0 cap len (B + 1)) v U'.heap L ∧ FrameEnd U o U' L ({ frames := 5, cells := 0, slots := 0, locals := 69 } : Room).cells ({ frames := 5, cells := 0, slots := 0, locals := 69 } : Room).slots) := by
  refine own_body (own := "com/example/narrow_sieve/narrowsieve/format/BitBuffer") (plainFor_of_name pn_5) rfl (fun m => ef_10 m x0 x1) ?_
  intro p e s m below meth c T0 hx hby hml hown hnm hlk hret hZ X0 e0
  have w_3 := hw _ (List.mem_of_getElem? (i := 3) rfl)
  have w_13 := hw _ (List.mem_of_getElem? (i := 13) rfl)
  have w_35 := hw _ (List.mem_of_getElem? (i := 35) rfl)
  have w_36 := hw _ (List.mem_of_getElem? (i := 36) rfl)
  have w_38 := hw _ (List.mem_of_getElem? (i := 38) rfl)
  have w_45 := hw _ (List.mem_of_getElem? (i := 45) rfl)
  have w_53 := hw _ (List.mem_of_getElem? (i := 53) rfl)
  have w_69 := hw _ (List.mem_of_getElem? (i := 69) rfl)
  have w_70 := hw _ (List.mem_of_getElem? (i := 70) rfl)
  have w_71 := hw _ (List.mem_of_getElem? (i := 71) rfl)
  have w_72 := hw _ (List.mem_of_getElem? (i := 72) rfl)
  have w_73 := hw _ (List.mem_of_getElem? (i := 73) rfl)
  have w_74 := hw _ (List.mem_of_getElem? (i := 74) rfl)
  have w_75 := hw _ (List.mem_of_getElem? (i := 75) rfl)
  have w_76 := hw _ (List.mem_of_getElem? (i := 76) rfl)
  have w_77 := hw _ (List.mem_of_getElem? (i := 77) rfl)
  have w_80 := hw _ (List.mem_of_getElem? (i := 80) rfl)
  have w_114 := hw _ (List.mem_of_getElem? (i := 114) rfl)
  have w_115 := hw _ (List.mem_of_getElem? (i := 115) rfl)
  have w_116 := hw _ (List.mem_of_getElem? (i := 116) rfl)
  have w_117 := hw _ (List.mem_of_getElem? (i := 117) rfl)
  have w_118 := hw _ (List.mem_of_getElem? (i := 118) rfl)
  have w_119 := hw _ (List.mem_of_getElem? (i := 119) rfl)
  have w_120 := hw _ (List.mem_of_getElem? (i := 120) rfl)
  have w_121 := hw _ (List.mem_of_getElem? (i := 121) rfl)
  have w_122 := hw _ (List.mem_of_getElem? (i := 122) rfl)
  have w_123 := hw _ (List.mem_of_getElem? (i := 123) rfl)
  have w_124 := hw _ (List.mem_of_getElem? (i := 124) rfl)
  have w_125 := hw _ (List.mem_of_getElem? (i := 125) rfl)
  have w_126 := hw _ (List.mem_of_getElem? (i := 126) rfl)
  have w_127 := hw _ (List.mem_of_getElem? (i := 127) rfl)
  have w_128 := hw _ (List.mem_of_getElem? (i := 128) rfl)
  have w_129 := hw _ (List.mem_of_getElem? (i := 129) rfl)
  have w_130 := hw _ (List.mem_of_getElem? (i := 130) rfl)
  have w_131 := hw _ (List.mem_of_getElem? (i := 131) rfl)
  have w_145 := hw _ (List.mem_of_getElem? (i := 145) rfl)
  have N0 := Fr.nil n0
  obtain ⟨pgQ1, pageQ1, arrQ1, peQ1, lpQ1, mcQ1, fQ1, BfQ1, LiQ1, RaQ1, IaQ1, ExQ1, ⟨oaQ1, obQ1, ocQ1⟩, gOQ1, OlQ1, l0Q1, l1Q1⟩ := P0
  obtain ⟨EB2, FB2_pages, FB2_capacity, FB2_length, FB2_pending, FB2_lastPageBytes⟩ := BfQ1
  obtain ⟨EB3, FB3_elementData, FB3_size, FB3_modCount⟩ := LiQ1
  have gAQ1 : n0 ≤ pgQ1 ∧ n0 ≤ pageQ1 ∧ n0 ≤ arrQ1 := by omega
  have lt6 : lpQ1.toInt < ((65536 : Nat) : Int) := by omega
  have lp1 : (lpQ1 + (1 : Int32)).toInt = lpQ1.toInt + 1 := by
    have e := c_iadd lpQ1 1
    have r := rng32 (lpQ1 + 1)
    simp only [Int32.reduceToInt] at e
    omega
  refine g_aloadN X0.here hx (Jvm.hb hby d10_0) (pc' := 1) rfl rfl rfl ?_
  refine g_getF X0 hx hZ hown (host := "") (Or.inl w_35) Via.refl e0 FB2_pages (Jvm.hb hby d10_1) (pc' := 4) rfl ?_
  intro T4 X4 e4
  refine g_callIf X4 hx hZ (z := (⟨"java/util/ArrayList", "isEmpty", "()Z"⟩ : MethodName)) hown w_69 w_70 (mvT hZ w_71) w_72 w_73 w_74 w_75 w_76 w_13 w_77 (by decide) (rm11 l Z a0 hw [] pgQ1 (1 : Int32) h0 FB3_size) 0 (by decide) (by decide) e4 EB3 (by rw [hml]; rfl) [] [] (lenOf pd_7 rfl) rfl rfl (Nat.le_of_eq rfl) (Jvm.hb hby d10_4) (pc' := 9) rfl (cells' := 0) (slots' := 0) rfl rfl (by decide) (by decide) ?_
  intro v5 T5 L5 X5 hQ5
  obtain ⟨rfl, rfl, e5⟩ := hQ5
  rw [List.append_nil] at X5
  show own_Gl p e below s (own_QP Z n0 x0 cap len (B + 1)) ({ frames := 5, cells := 0, slots := 0, locals := 69 } : Room).cells ({ frames := 5, cells := 0, slots := 0, locals := 69 } : Room).slots (T5.setTop (mkF m 9 #[.val (.ref x0), .val (.int x1)] [(.int (f_ie (1 : Int32)))]))
  rw [show (f_ie (1 : Int32)) = (0 : Int32) from rfl]
  refine g_ifN X5.here hx (Jvm.hb hby d10_9) (pc' := 12) rfl ((if0 _ _).trans (teq (by decide)).2) ?_
  refine g_aloadN X5.here hx (Jvm.hb hby d10_12) (pc' := 13) rfl rfl rfl ?_
  refine g_getF X5 hx hZ hown (host := "") (Or.inl w_114) Via.refl e5 FB2_lastPageBytes (Jvm.hb hby d10_13) (pc' := 16) rfl ?_
  intro T6 X6 e6
  refine g_ldc X6 hx hZ hown w_80 (Jvm.hb hby d10_16) (pc' := 18) rfl ?_
  refine g_icY X6.here hx (Jvm.hb hby d10_18) (by decide) (pc' := 40) (by decide) (feq (fun q => by have := congrArg Int32.toInt q; simp only [Int32.reduceToInt] at this; omega)).2 ?_
  refine g_aloadN X6.here hx (Jvm.hb hby d10_40) (pc' := 41) rfl rfl rfl ?_
  refine g_getF X6 hx hZ hown (host := "") (Or.inl w_35) Via.refl e6 FB2_pages (Jvm.hb hby d10_41) (pc' := 44) rfl ?_
  intro T7 X7 e7
  refine g_aloadN X7.here hx (Jvm.hb hby d10_44) (pc' := 45) rfl rfl rfl ?_
  refine g_getF X7 hx hZ hown (host := "") (Or.inl w_35) Via.refl e7 FB2_pages (Jvm.hb hby d10_45) (pc' := 48) rfl ?_
  intro T8 X8 e8
  refine g_callIf X8 hx hZ (z := (⟨"java/util/ArrayList", "size", "()I"⟩ : MethodName)) hown w_116 w_117 (mvT hZ w_118) w_119 w_120 w_121 w_122 w_76 w_13 w_123 (by decide) (rm17 l Z a0 hw [] pgQ1 (1 : Int32) h0 FB3_size) 1 (by decide) (by decide) e8 EB3 (by rw [hml]; rfl) [] [(.ref pgQ1)] (lenOf pd_8 rfl) rfl rfl (Nat.le_of_eq rfl) (Jvm.hb hby d10_48) (pc' := 53) rfl (cells' := 0) (slots' := 0) rfl rfl (by decide) (by decide) ?_
  intro v9 T9 L9 X9 hQ9
  obtain ⟨rfl, rfl, e9⟩ := hQ9
  rw [List.append_nil] at X9
  show own_Gl p e below s (own_QP Z n0 x0 cap len (B + 1)) ({ frames := 5, cells := 0, slots := 0, locals := 69 } : Room).cells ({ frames := 5, cells := 0, slots := 0, locals := 69 } : Room).slots (T9.setTop (mkF m 53 #[.val (.ref x0), .val (.int x1)] [(.int (f_sz (1 : Int32))), (.ref pgQ1)]))
  rw [show (f_sz (1 : Int32)) = (1 : Int32) from rfl]
  refine g_iconst X9.here hx (Jvm.hb hby d10_53) (pc' := 54) rfl (z := (1 : Int32)) rfl ?_
  refine g_isub X9.here hx (Jvm.hb hby d10_54) (pc' := 55) rfl ?_
  rw [show ((1 : Int32) - (1 : Int32)) = (0 : Int32) from rfl]
  refine g_callIf X9 hx hZ (z := (⟨"java/util/ArrayList", "get", "(I)Ljava/lang/Object;"⟩ : MethodName)) hown w_124 w_125 (mvT hZ w_126) w_127 w_128 w_129 w_130 w_76 w_13 w_131 (by decide) (rm18 l Z a0 hw [] pgQ1 (0 : Int32) arrQ1 pageQ1 h0 EB3 FB3_elementData FB3_size RaQ1 (by decide)) 0 (by decide) (by decide) e9 EB3 (by rw [hml]; rfl) [(.int (0 : Int32))] [] (lenOf pd_2 rfl) rfl rfl (Nat.le_of_eq rfl) (Jvm.hb hby d10_55) (pc' := 60) rfl (cells' := 0) (slots' := 0) rfl rfl (by decide) (by decide) ?_
  intro v10 T10 L10 X10 hQ10
  obtain ⟨rfl, rfl, e10⟩ := hQ10
  rw [List.append_nil] at X10
  show own_Gl p e below s (own_QP Z n0 x0 cap len (B + 1)) ({ frames := 5, cells := 0, slots := 0, locals := 69 } : Room).cells ({ frames := 5, cells := 0, slots := 0, locals := 69 } : Room).slots (T10.setTop (mkF m 60 #[.val (.ref x0), .val (.int x1)] [(.ref pageQ1)]))
  refine g_cast X10 hx hZ hown w_145 e10 (Ins.self ExQ1) (Jvm.hb hby d10_60) (pc' := 63) rfl ?_
  intro T11 X11 e11
  refine g_aloadN X11.here hx (Jvm.hb hby d10_63) (pc' := 64) rfl rfl rfl ?_
  refine g_dup X11.here hx (Jvm.hb hby d10_64) (pc' := 65) rfl rfl ?_
  refine g_getF X11 hx hZ hown (host := "") (Or.inl w_114) Via.refl e11 FB2_lastPageBytes (Jvm.hb hby d10_65) (pc' := 68) rfl ?_
  intro T12 X12 e12
  refine g_dupX1 X12.here hx (Jvm.hb hby d10_68) (pc' := 69) rfl rfl rfl ?_
  refine g_iconst X12.here hx (Jvm.hb hby d10_69) (pc' := 70) rfl (z := (1 : Int32)) rfl ?_
  refine g_iadd X12.here hx (Jvm.hb hby d10_70) (pc' := 71) rfl ?_
  refine g_putF X12 hx hZ hown (host := "") (Or.inl w_114) Via.refl e12 FB2_lastPageBytes EB2 (Or.inl w_115) w_3 (ty := .int) (by decide) rfl rfl (Jvm.hb hby d10_71) (pc' := 74) rfl ?_
  intro T13 hh13 X13 e13 W13
  have Fw13 := FB2_lastPageBytes.same W13
  have N13 := Fr.snoc X13 N0 gOQ1
  have Z14 : n0 ≤ hh13.size := (by rw [W13.size]; exact Z0)
  have z15 : h0.size ≤ hh13.size := (by rw [W13.size]; exact (Nat.le_refl _))
  refine g_iloadN X13.here hx (Jvm.hb hby d10_74) (pc' := 75) rfl rfl ?_
  have F16 := (IaQ1.other W13 (Ne.symm (Nat.ne_of_lt (by omega))))
  refine g_bastore X13 hx hZ e13 F16 ⟨l0Q1, lt6⟩ (Jvm.hb hby d10_75) (pc' := 76) rfl ?_
  intro T17 hh17 X17 e17 W17 V17
  have N17 := Fr.snoc X17 N13 gAQ1.2.1
  have Z18 : n0 ≤ hh17.size := (by rw [W17.size]; exact Z14)
  have z19 : h0.size ≤ hh17.size := (by rw [W17.size]; exact z15)
  have F20 := ((EB2.wr W13).wr W17)
  have F21 := ((FB2_pages.other W13 (Or.inr (slot_ne (Or.inr w_36) (Or.inl w_115) (by decide) (t := (.object "java/util/List")) (t' := .int) (by decide) (by decide)))).other W17 (Or.inl (Nat.ne_of_lt (by omega))))
  have F22 := ((FB2_capacity.other W13 (Or.inr (slot_ne (Or.inr w_38) (Or.inl w_115) (by decide) (t := .long) (t' := .int) (by decide) (by decide)))).other W17 (Or.inl (Nat.ne_of_lt (by omega))))
  have F23 := ((FB2_length.other W13 (Or.inr (slot_ne (Or.inl w_45) (Or.inl w_115) (by decide) (t := .long) (t' := .int) (by decide) (by decide)))).other W17 (Or.inl (Nat.ne_of_lt (by omega))))
  have F24 := ((FB2_pending.other W13 (Or.inr (slot_ne (Or.inl w_53) (Or.inl w_115) (by decide) (t := .long) (t' := .int) (by decide) (by decide)))).other W17 (Or.inl (Nat.ne_of_lt (by omega))))
  have F25 := (Fw13.other W17 (Or.inl (Nat.ne_of_lt (by omega))))
  have F26 := ((EB3.wr W13).wr W17)
  have F27 := ((FB3_elementData.other W13 (Or.inl (Ne.symm (Nat.ne_of_lt (by omega))))).other W17 (Or.inl (Nat.ne_of_lt (by omega))))
  have F28 := ((FB3_size.other W13 (Or.inl (Ne.symm (Nat.ne_of_lt (by omega))))).other W17 (Or.inl (Nat.ne_of_lt (by omega))))
  have F29 := ((FB3_modCount.other W13 (Or.inl (Ne.symm (Nat.ne_of_lt (by omega))))).other W17 (Or.inl (Nat.ne_of_lt (by omega))))
  have F30 := ((RaQ1.other W13 (Ne.symm (Nat.ne_of_lt (by omega)))).other W17 (Ne.symm (Nat.ne_of_lt (by omega))))
  have F31 := ((ExQ1.wr W13).wr W17)
  have F32 := ((OlQ1.wr W13 gOQ1).wr W17 gAQ1.2.1)
  exact g_retV X17 hx hlk hret (Jvm.hb hby d10_76) (Nat.zero_le _) (Nat.zero_le _) (by rw [e17]; exact ⟨rfl, N17, ⟨pgQ1, pageQ1, arrQ1, _, _, _, _, ⟨F20, F21, F22, F23, F24, F25⟩, ⟨F26, F27, F28, F29⟩, F30, V17, F31, ⟨oaQ1, obQ1, ocQ1⟩, gOQ1, F32, (by rw [lp1]; omega), (by rw [lp1]; omega)⟩⟩)
theorem d10_21 : decode prog_4_method_7_code 21 = .ok (.aload_n 0, 1) := by decide +kernel
theorem d10_22 : decode prog_4_method_7_code 22 = .ok (.getfield 10, 3) := by decide +kernel
theorem d10_25 : decode prog_4_method_7_code 25 = .ok (.ldc 77, 2) := by decide +kernel
theorem d10_27 : decode prog_4_method_7_code 27 = .ok (.newarray .byte, 2) := by decide +kernel
theorem d10_29 : decode prog_4_method_7_code 29 = .ok (.invokeinterface 87 2, 5) := by decide +kernel
theorem pd_9 : parseMethodDescriptor "(Ljava/lang/Object;)Z" = some ⟨[(.object "java/lang/Object")], some .boolean⟩ := by decide +kernel
theorem d10_34 : decode prog_4_method_7_code 34 = .ok (.pop, 1) := by decide +kernel
theorem d10_35 : decode prog_4_method_7_code 35 = .ok (.aload_n 0, 1) := by decide +kernel
theorem d10_36 : decode prog_4_method_7_code 36 = .ok (.iconst 0, 1) := by decide +kernel
theorem d10_37 : decode prog_4_method_7_code 37 = .ok (.putfield 71, 3) := by decide +kernel
set_option maxRecDepth 65536 in
set_option maxHeartbeats 40000000 in
theorem rmPutE (l : Launch) (Z : State) (a0 : Array Value) (hw : ∀ d ∈ tables_1, d.before a0 Z = true) (ws : List Jvm.Cond) (x0 : Nat) (x1 : Int32) (d : Nat) (cap len : Int64) (h0 : Heap) (n0 : Nat) (Z0 : n0 ≤ h0.size) (P0 : own_SE Z h0 n0 x0 d cap len) (S0 : Sta Z Z.heap "java/util/ArrayList" "DEFAULTCAPACITY_EMPTY_ELEMENTDATA" "[Ljava/lang/Object;" (.ref d)) (A0 : own_AL Z Z.heap d 0) :
    MetFree l (⟨"com/example/narrow_sieve/narrowsieve/format/BitBuffer", "put", "(B)V"⟩ : MethodName) (head1 (Jvm.Cond.code (⟨"com/example/narrow_sieve/narrowsieve/format/BitBuffer", "put", "(B)V"⟩ : MethodName) prog_4_method_7_code 2 none :: ws) ({ frames := 5, cells := 2, slots := 65546, locals := 69 } : Room)) (fun a U => a = #[(.ref x0), (.int x1)] ∧ Z.Warmed39 U.vm ∧ U.heap = h0) (fun _ _ _ _ _ => True) (fun _ U o U' => ∃ v L, o = .returned v ∧ (own_QP Z n0 x0 cap len 1) v U'.heap L ∧ FrameEnd U o U' L ({ frames := 5, cells := 2, slots := 65546, locals := 69 } : Room).cells ({ frames := 5, cells := 2, slots := 65546, locals := 69 } : Room).slots) := by
  refine own_body (own := "com/example/narrow_sieve/narrowsieve/format/BitBuffer") (plainFor_of_name pn_5) rfl (fun m => ef_10 m x0 x1) ?_
  intro p e s m below meth c T0 hx hby hml hown hnm hlk hret hZ X0 e0
  have w_3 := hw _ (List.mem_of_getElem? (i := 3) rfl)
  have w_13 := hw _ (List.mem_of_getElem? (i := 13) rfl)
  have w_35 := hw _ (List.mem_of_getElem? (i := 35) rfl)
  have w_36 := hw _ (List.mem_of_getElem? (i := 36) rfl)
  have w_38 := hw _ (List.mem_of_getElem? (i := 38) rfl)
  have w_45 := hw _ (List.mem_of_getElem? (i := 45) rfl)
  have w_53 := hw _ (List.mem_of_getElem? (i := 53) rfl)
  have w_69 := hw _ (List.mem_of_getElem? (i := 69) rfl)
  have w_70 := hw _ (List.mem_of_getElem? (i := 70) rfl)
  have w_71 := hw _ (List.mem_of_getElem? (i := 71) rfl)
  have w_72 := hw _ (List.mem_of_getElem? (i := 72) rfl)
  have w_73 := hw _ (List.mem_of_getElem? (i := 73) rfl)
  have w_74 := hw _ (List.mem_of_getElem? (i := 74) rfl)
  have w_75 := hw _ (List.mem_of_getElem? (i := 75) rfl)
  have w_76 := hw _ (List.mem_of_getElem? (i := 76) rfl)
  have w_77 := hw _ (List.mem_of_getElem? (i := 77) rfl)
  have w_80 := hw _ (List.mem_of_getElem? (i := 80) rfl)
  have w_81 := hw _ (List.mem_of_getElem? (i := 81) rfl)
  have w_82 := hw _ (List.mem_of_getElem? (i := 82) rfl)
  have w_83 := hw _ (List.mem_of_getElem? (i := 83) rfl)
  have w_84 := hw _ (List.mem_of_getElem? (i := 84) rfl)
  have w_85 := hw _ (List.mem_of_getElem? (i := 85) rfl)
  have w_86 := hw _ (List.mem_of_getElem? (i := 86) rfl)
  have w_87 := hw _ (List.mem_of_getElem? (i := 87) rfl)
  have w_88 := hw _ (List.mem_of_getElem? (i := 88) rfl)
  have w_89 := hw _ (List.mem_of_getElem? (i := 89) rfl)
  have w_114 := hw _ (List.mem_of_getElem? (i := 114) rfl)
  have w_115 := hw _ (List.mem_of_getElem? (i := 115) rfl)
  have w_116 := hw _ (List.mem_of_getElem? (i := 116) rfl)
  have w_117 := hw _ (List.mem_of_getElem? (i := 117) rfl)
  have w_118 := hw _ (List.mem_of_getElem? (i := 118) rfl)
  have w_119 := hw _ (List.mem_of_getElem? (i := 119) rfl)
  have w_120 := hw _ (List.mem_of_getElem? (i := 120) rfl)
  have w_121 := hw _ (List.mem_of_getElem? (i := 121) rfl)
  have w_122 := hw _ (List.mem_of_getElem? (i := 122) rfl)
  have w_123 := hw _ (List.mem_of_getElem? (i := 123) rfl)
  have w_124 := hw _ (List.mem_of_getElem? (i := 124) rfl)
  have w_125 := hw _ (List.mem_of_getElem? (i := 125) rfl)
  have w_126 := hw _ (List.mem_of_getElem? (i := 126) rfl)
  have w_127 := hw _ (List.mem_of_getElem? (i := 127) rfl)
  have w_128 := hw _ (List.mem_of_getElem? (i := 128) rfl)
  have w_129 := hw _ (List.mem_of_getElem? (i := 129) rfl)
  have w_130 := hw _ (List.mem_of_getElem? (i := 130) rfl)
  have w_131 := hw _ (List.mem_of_getElem? (i := 131) rfl)
  have w_145 := hw _ (List.mem_of_getElem? (i := 145) rfl)
  have N0 := Fr.nil n0
  obtain ⟨pg, peQ1, mcQ1, BfQ1, LiQ1, lt_o_pg, gOQ1, OlQ1⟩ := P0
  obtain ⟨EB2, FB2_pages, FB2_capacity, FB2_length, FB2_pending, FB2_lastPageBytes⟩ := BfQ1
  obtain ⟨EB3, FB3_elementData, FB3_size, FB3_modCount⟩ := LiQ1
  have gpg : n0 ≤ pg := Nat.le_trans gOQ1 (Nat.le_of_lt lt_o_pg)
  refine g_aloadN X0.here hx (Jvm.hb hby d10_0) (pc' := 1) rfl rfl rfl ?_
  refine g_getF X0 hx hZ hown (host := "") (Or.inl w_35) Via.refl e0 FB2_pages (Jvm.hb hby d10_1) (pc' := 4) rfl ?_
  intro T4 X4 e4
  refine g_callIf X4 hx hZ (z := (⟨"java/util/ArrayList", "isEmpty", "()Z"⟩ : MethodName)) hown w_69 w_70 (mvT hZ w_71) w_72 w_73 w_74 w_75 w_76 w_13 w_77 (by decide) (rm11 l Z a0 hw [] pg (0 : Int32) h0 FB3_size) 0 (by decide) (by decide) e4 EB3 (by rw [hml]; rfl) [] [] (lenOf pd_7 rfl) rfl rfl (Nat.le_of_eq rfl) (Jvm.hb hby d10_4) (pc' := 9) rfl (cells' := 0) (slots' := 0) rfl rfl (by decide) (by decide) ?_
  intro v5 T5 L5 X5 hQ5
  obtain ⟨rfl, rfl, e5⟩ := hQ5
  rw [List.append_nil] at X5
  show own_Gl p e below s (own_QP Z n0 x0 cap len 1) ({ frames := 5, cells := 2, slots := 65546, locals := 69 } : Room).cells ({ frames := 5, cells := 2, slots := 65546, locals := 69 } : Room).slots (T5.setTop (mkF m 9 #[.val (.ref x0), .val (.int x1)] [(.int (f_ie (0 : Int32)))]))
  rw [show (f_ie (0 : Int32)) = (1 : Int32) from rfl]
  refine g_ifY X5.here hx (Jvm.hb hby d10_9) (by decide) (pc' := 21) (by decide) ((if0 _ _).trans (feq (by decide)).2) ?_
  refine g_aloadN X5.here hx (Jvm.hb hby d10_21) (pc' := 22) rfl rfl rfl ?_
  refine g_getF X5 hx hZ hown (host := "") (Or.inl w_35) Via.refl e5 FB2_pages (Jvm.hb hby d10_22) (pc' := 25) rfl ?_
  intro T6 X6 e6
  refine g_ldc X6 hx hZ hown w_80 (Jvm.hb hby d10_25) (pc' := 27) rfl ?_
  refine g_newarrE X6 hx hZ (ty := .byte) rfl rfl w_81 e6 (Jvm.hb hby d10_27) (pc' := 29) rfl (n := 65536) (by decide) 65536 (by decide) (by decide) (cells' := 1) (slots' := 65536) rfl rfl (by decide) (by decide) (nm := "[B") rfl ?_
  intro T7 hh7 ad7 gb7 X7 e7 E7 V7 EX7
  have g_ad7 : n0 ≤ ad7 := by rw [gb7]; exact Z0
  have sz_ad7 : h0.size ≤ ad7 := by rw [gb7]; exact (Nat.le_refl _)
  have lt_x0_ad7 : @LT.lt Nat _ x0 ad7 := by rw [gb7]; exact EB2.lt
  have ne_x0_ad7 : x0 ≠ ad7 := Nat.ne_of_lt lt_x0_ad7
  have lt_pg_ad7 : @LT.lt Nat _ pg ad7 := by rw [gb7]; exact EB3.lt
  have ne_pg_ad7 : pg ≠ ad7 := Nat.ne_of_lt lt_pg_ad7
  have Z8 : n0 ≤ hh7.size := Nat.le_trans Z0 E7.1
  have z9 : h0.size ≤ hh7.size := Nat.le_trans (Nat.le_refl _) E7.1
  have F10 := (EB3.ext E7)
  have F11 := (FB3_elementData.ext E7)
  have F12 := (FB3_size.ext E7)
  have F13 := (FB3_modCount.ext E7)
  have F14 := (OlQ1.ext E7)
  refine g_callIf X7 hx hZ (z := (⟨"java/util/ArrayList", "add", "(Ljava/lang/Object;)Z"⟩ : MethodName)) hown w_82 w_83 (mvT hZ w_84) w_85 w_86 w_87 w_88 w_76 w_13 w_89 (by decide) (rm12 l Z a0 hw [] pg ad7 d mcQ1 hh7 n0 Z8 gpg ⟨F10, F11, F12, F13⟩ F14 S0 A0 EX7 (Ne.symm ne_pg_ad7)) 0 (by decide) (by decide) e7 F10 (by rw [hml]; rfl) [(.ref ad7)] [] (lenOf pd_9 rfl) rfl rfl (Nat.le_of_eq rfl) (Jvm.hb hby d10_29) (pc' := 34) rfl (cells' := 2) (slots' := 65546) rfl rfl (by decide) (by decide) ?_
  intro v15 T15 L15 X15 hQ15
  obtain ⟨rfl, Nq15, K15, arr, Lq, Rq, szq⟩ := hQ15
  have N15 := Fr.app N0 Nq15
  have lt_page_arr : @LT.lt Nat _ ad7 arr := Nat.lt_of_lt_of_le V7.lt szq
  have Z16 : n0 ≤ T15.heap.size := Nat.le_trans Z8 K15.1
  have z17 : h0.size ≤ T15.heap.size := Nat.le_trans z9 K15.1
  have odq : x0 < pg ∧ pg < ad7 ∧ ad7 < arr := ⟨lt_o_pg, lt_pg_ad7, lt_page_arr⟩
  obtain ⟨EB18, FB18_elementData, FB18_size, FB18_modCount⟩ := Lq
  have gx0 := gOQ1
  obtain ⟨q1, q2, q3⟩ := id odq
  have gA15 : n0 ≤ pg ∧ n0 ≤ ad7 ∧ n0 ≤ arr := by omega
  show own_Gl p e below s (own_QP Z n0 x0 cap len 1) ({ frames := 5, cells := 2, slots := 65546, locals := 69 } : Room).cells ({ frames := 5, cells := 2, slots := 65546, locals := 69 } : Room).slots (T15.setTop (mkF m 34 #[.val (.ref x0), .val (.int x1)] [(.int (1 : Int32))]))
  refine g_pop X15.here hx (Jvm.hb hby d10_34) (pc' := 35) rfl rfl ?_
  refine g_aloadN X15.here hx (Jvm.hb hby d10_35) (pc' := 36) rfl rfl rfl ?_
  refine g_iconst X15.here hx (Jvm.hb hby d10_36) (pc' := 37) rfl (z := (0 : Int32)) rfl ?_
  have F19 := ((FB2_lastPageBytes.ext E7).keep K15 (ninS (Nat.ne_of_lt (by omega)) nin0))
  have F20 := ((EB2.ext E7).keep K15)
  refine g_putF X15 hx hZ hown (host := "") (Or.inl w_114) Via.refl rfl F19 F20 (Or.inl w_115) w_3 (ty := .int) (by decide) rfl rfl (Jvm.hb hby d10_37) (pc' := 40) rfl ?_
  intro T21 hh21 X21 e21 W21
  have Fw21 := F19.same W21
  have N21 := Fr.snoc X21 N15 gOQ1
  have Z22 : n0 ≤ hh21.size := (by rw [W21.size]; exact Z16)
  have z23 : h0.size ≤ hh21.size := (by rw [W21.size]; exact z17)
  refine g_aloadN X21.here hx (Jvm.hb hby d10_40) (pc' := 41) rfl rfl rfl ?_
  have F24 := (((FB2_pages.ext E7).keep K15 (ninS (Nat.ne_of_lt (by omega)) nin0)).other W21 (Or.inr (slot_ne (Or.inr w_36) (Or.inl w_115) (by decide) (t := (.object "java/util/List")) (t' := .int) (by decide) (by decide))))
  refine g_getF X21 hx hZ hown (host := "") (Or.inl w_35) Via.refl e21 F24 (Jvm.hb hby d10_41) (pc' := 44) rfl ?_
  intro T25 X25 e25
  refine g_aloadN X25.here hx (Jvm.hb hby d10_44) (pc' := 45) rfl rfl rfl ?_
  refine g_getF X25 hx hZ hown (host := "") (Or.inl w_35) Via.refl e25 F24 (Jvm.hb hby d10_45) (pc' := 48) rfl ?_
  intro T26 X26 e26
  have F27 := (FB18_size.other W21 (Or.inl (Ne.symm (Nat.ne_of_lt (by omega)))))
  have F28 := (EB18.wr W21)
  refine g_callIf X26 hx hZ (z := (⟨"java/util/ArrayList", "size", "()I"⟩ : MethodName)) hown w_116 w_117 (mvT hZ w_118) w_119 w_120 w_121 w_122 w_76 w_13 w_123 (by decide) (rm17 l Z a0 hw [] pg (1 : Int32) hh21 F27) 1 (by decide) (by decide) e26 F28 (by rw [hml]; rfl) [] [(.ref pg)] (lenOf pd_8 rfl) rfl rfl (Nat.le_of_eq rfl) (Jvm.hb hby d10_48) (pc' := 53) rfl (cells' := 2) (slots' := 65546) rfl rfl (by decide) (by decide) ?_
  intro v29 T29 L29 X29 hQ29
  obtain ⟨rfl, rfl, e29⟩ := hQ29
  rw [List.append_nil] at X29
  show own_Gl p e below s (own_QP Z n0 x0 cap len 1) ({ frames := 5, cells := 2, slots := 65546, locals := 69 } : Room).cells ({ frames := 5, cells := 2, slots := 65546, locals := 69 } : Room).slots (T29.setTop (mkF m 53 #[.val (.ref x0), .val (.int x1)] [(.int (f_sz (1 : Int32))), (.ref pg)]))
  rw [show (f_sz (1 : Int32)) = (1 : Int32) from rfl]
  refine g_iconst X29.here hx (Jvm.hb hby d10_53) (pc' := 54) rfl (z := (1 : Int32)) rfl ?_
  refine g_isub X29.here hx (Jvm.hb hby d10_54) (pc' := 55) rfl ?_
  rw [show ((1 : Int32) - (1 : Int32)) = (0 : Int32) from rfl]
  have F30 := (FB18_elementData.other W21 (Or.inl (Ne.symm (Nat.ne_of_lt (by omega)))))
  have F31 := (Rq.other W21 (Ne.symm (Nat.ne_of_lt (by omega))))
  refine g_callIf X29 hx hZ (z := (⟨"java/util/ArrayList", "get", "(I)Ljava/lang/Object;"⟩ : MethodName)) hown w_124 w_125 (mvT hZ w_126) w_127 w_128 w_129 w_130 w_76 w_13 w_131 (by decide) (rm18 l Z a0 hw [] pg (0 : Int32) arr ad7 hh21 F28 F30 F27 F31 (by decide)) 0 (by decide) (by decide) e29 F28 (by rw [hml]; rfl) [(.int (0 : Int32))] [] (lenOf pd_2 rfl) rfl rfl (Nat.le_of_eq rfl) (Jvm.hb hby d10_55) (pc' := 60) rfl (cells' := 2) (slots' := 65546) rfl rfl (by decide) (by decide) ?_
  intro v32 T32 L32 X32 hQ32
  obtain ⟨rfl, rfl, e32⟩ := hQ32
  rw [List.append_nil] at X32
  show own_Gl p e below s (own_QP Z n0 x0 cap len 1) ({ frames := 5, cells := 2, slots := 65546, locals := 69 } : Room).cells ({ frames := 5, cells := 2, slots := 65546, locals := 69 } : Room).slots (T32.setTop (mkF m 60 #[.val (.ref x0), .val (.int x1)] [(.ref ad7)]))
  have F33 := ((EX7.keep K15).wr W21)
  refine g_cast X32 hx hZ hown w_145 e32 (Ins.self F33) (Jvm.hb hby d10_60) (pc' := 63) rfl ?_
  intro T34 X34 e34
  refine g_aloadN X34.here hx (Jvm.hb hby d10_63) (pc' := 64) rfl rfl rfl ?_
  refine g_dup X34.here hx (Jvm.hb hby d10_64) (pc' := 65) rfl rfl ?_
  refine g_getF X34 hx hZ hown (host := "") (Or.inl w_114) Via.refl e34 Fw21 (Jvm.hb hby d10_65) (pc' := 68) rfl ?_
  intro T35 X35 e35
  refine g_dupX1 X35.here hx (Jvm.hb hby d10_68) (pc' := 69) rfl rfl rfl ?_
  refine g_iconst X35.here hx (Jvm.hb hby d10_69) (pc' := 70) rfl (z := (1 : Int32)) rfl ?_
  refine g_iadd X35.here hx (Jvm.hb hby d10_70) (pc' := 71) rfl ?_
  have F36 := (F20.wr W21)
  refine g_putF X35 hx hZ hown (host := "") (Or.inl w_114) Via.refl e35 Fw21 F36 (Or.inl w_115) w_3 (ty := .int) (by decide) rfl rfl (Jvm.hb hby d10_71) (pc' := 74) rfl ?_
  intro T37 hh37 X37 e37 W37
  have Fw37 := Fw21.same W37
  have N37 := Fr.snoc X37 N21 gOQ1
  have Z38 : n0 ≤ hh37.size := (by rw [W37.size]; exact Z22)
  have z39 : h0.size ≤ hh37.size := (by rw [W37.size]; exact z23)
  refine g_iloadN X37.here hx (Jvm.hb hby d10_74) (pc' := 75) rfl rfl ?_
  have F40 := (((V7.keep K15 (ninS (Ne.symm (Nat.ne_of_lt (by omega))) nin0)).other W21 (Ne.symm (Nat.ne_of_lt (by omega)))).other W37 (Ne.symm (Nat.ne_of_lt (by omega))))
  refine g_bastore X37 hx hZ e37 F40 ⟨(by decide), (by decide)⟩ (Jvm.hb hby d10_75) (pc' := 76) rfl ?_
  intro T41 hh41 X41 e41 W41 V41
  have N41 := Fr.snoc X41 N37 gA15.2.1
  have Z42 : n0 ≤ hh41.size := (by rw [W41.size]; exact Z38)
  have z43 : h0.size ≤ hh41.size := (by rw [W41.size]; exact z39)
  have F44 := ((F36.wr W37).wr W41)
  have F45 := ((F24.other W37 (Or.inr (slot_ne (Or.inr w_36) (Or.inl w_115) (by decide) (t := (.object "java/util/List")) (t' := .int) (by decide) (by decide)))).other W41 (Or.inl (Nat.ne_of_lt (by omega))))
  have F46 := (((((FB2_capacity.ext E7).keep K15 (ninS (Nat.ne_of_lt (by omega)) nin0)).other W21 (Or.inr (slot_ne (Or.inr w_38) (Or.inl w_115) (by decide) (t := .long) (t' := .int) (by decide) (by decide)))).other W37 (Or.inr (slot_ne (Or.inr w_38) (Or.inl w_115) (by decide) (t := .long) (t' := .int) (by decide) (by decide)))).other W41 (Or.inl (Nat.ne_of_lt (by omega))))
  have F47 := (((((FB2_length.ext E7).keep K15 (ninS (Nat.ne_of_lt (by omega)) nin0)).other W21 (Or.inr (slot_ne (Or.inl w_45) (Or.inl w_115) (by decide) (t := .long) (t' := .int) (by decide) (by decide)))).other W37 (Or.inr (slot_ne (Or.inl w_45) (Or.inl w_115) (by decide) (t := .long) (t' := .int) (by decide) (by decide)))).other W41 (Or.inl (Nat.ne_of_lt (by omega))))
  have F48 := (((((FB2_pending.ext E7).keep K15 (ninS (Nat.ne_of_lt (by omega)) nin0)).other W21 (Or.inr (slot_ne (Or.inl w_53) (Or.inl w_115) (by decide) (t := .long) (t' := .int) (by decide) (by decide)))).other W37 (Or.inr (slot_ne (Or.inl w_53) (Or.inl w_115) (by decide) (t := .long) (t' := .int) (by decide) (by decide)))).other W41 (Or.inl (Nat.ne_of_lt (by omega))))
  have F49 := (Fw37.other W41 (Or.inl (Nat.ne_of_lt (by omega))))
  have F50 := ((F28.wr W37).wr W41)
  have F51 := ((F30.other W37 (Or.inl (Ne.symm (Nat.ne_of_lt (by omega))))).other W41 (Or.inl (Nat.ne_of_lt (by omega))))
  have F52 := ((F27.other W37 (Or.inl (Ne.symm (Nat.ne_of_lt (by omega))))).other W41 (Or.inl (Nat.ne_of_lt (by omega))))
  have F53 := (((FB18_modCount.other W21 (Or.inl (Ne.symm (Nat.ne_of_lt (by omega))))).other W37 (Or.inl (Ne.symm (Nat.ne_of_lt (by omega))))).other W41 (Or.inl (Nat.ne_of_lt (by omega))))
  have F54 := ((F31.other W37 (Ne.symm (Nat.ne_of_lt (by omega)))).other W41 (Ne.symm (Nat.ne_of_lt (by omega))))
  have F55 := ((F33.wr W37).wr W41)
  have F56 := ((((F14.keep K15 (allS gA15.1 all0)).wr W21 gOQ1).wr W37 gOQ1).wr W41 gA15.2.1)
  exact g_retV X41 hx hlk hret (Jvm.hb hby d10_76) (by decide) (by decide) (by rw [e41]; exact ⟨rfl, N41, ⟨pg, ad7, arr, _, _, _, _, ⟨F44, F45, F46, F47, F48, F49⟩, ⟨F50, F51, F52, F53⟩, F54, V41, F55, odq, gOQ1, F56, (by decide), (by decide)⟩⟩)
def own_QE (Z : State) (n0 o d : Nat) (cap len : Int64) (v : Option Value) (h : Heap) (L : List Loc) : Prop := v = none ∧ Fr n0 L ∧ own_SE Z h n0 o d cap len
theorem own_dec8 (iv : Int32) (k : Nat) (h : 8 * ((k + 1 : Nat) : Int) ≤ iv.toInt ∧ iv.toInt < 8 * ((k + 1 : Nat) : Int) + 8) : 8 * (k : Int) ≤ (iv + (-8 : Int32)).toInt ∧ (iv + (-8 : Int32)).toInt < 8 * (k : Int) + 8 := by
  have e8 := c_iadd iv (-8)
  have r8 := rng32 (iv + (-8))
  have r9 := rng32 iv
  have k8 : (-8 : Int32).toInt = -8 := by decide
  rw [k8] at e8
  omega
theorem own_dec9 (iv : Int32) (h8 : ¬ iv < (8 : Int32)) (h : 0 ≤ iv.toInt ∧ iv.toInt ≤ 63) : 8 * ((iv.toInt / 8 - 1).toNat : Int) ≤ (iv + (-8 : Int32)).toInt ∧ (iv + (-8 : Int32)).toInt < 8 * ((iv.toInt / 8 - 1).toNat : Int) + 8 := by
  have e8 := c_iadd iv (-8)
  have r8 := rng32 (iv + (-8))
  have r9 := rng32 iv
  have k8 : (-8 : Int32).toInt = -8 := by decide
  rw [k8] at e8
  rw [Int32.lt_iff_toInt_lt] at h8
  simp only [Int32.reduceToInt] at h8
  omega
theorem own_k8 (z : Int) (h : 0 ≤ z ∧ z ≤ 63) : 8 * ((z / 8).toNat : Int) ≤ z ∧ z < 8 * ((z / 8).toNat : Int) + 8 := by omega
theorem own_k7 (z : Int) (B : Nat) (h : 0 ≤ z ∧ z ≤ 63) : B + (z / 8).toNat ≤ B + 7 := by omega
theorem own_k6 (z : Int) (h : 0 ≤ z ∧ z ≤ 63) : 1 + (z / 8 - 1).toNat ≤ 7 := by omega
theorem own_sw (C k B : Nat) (h : C + (k + 1) ≤ B) : C + 1 + k ≤ B := by omega
theorem own_c6 (C k B B0 : Nat) (h : C + (k + 1) ≤ B + 7) (h0 : B ≤ 50000) : C ≤ 60000 := by omega
theorem own_z8 (iv : Int32) (h : 8 * ((0 : Nat) : Int) ≤ iv.toInt ∧ iv.toInt < 8 * ((0 : Nat) : Int) + 8) : iv < (8 : Int32) := by
  rw [Int32.lt_iff_toInt_lt]; simp only [Int32.reduceToInt]; omega
theorem own_s8 (iv : Int32) (k : Nat) (h : 8 * ((k + 1 : Nat) : Int) ≤ iv.toInt ∧ iv.toInt < 8 * ((k + 1 : Nat) : Int) + 8) : ¬ iv < (8 : Int32) := by
  rw [Int32.lt_iff_toInt_lt]; simp only [Int32.reduceToInt]; omega
theorem own_leB (z : Int) (C B : Nat) (h : z ≤ (C : Int)) (h2 : C + 0 ≤ B) : z ≤ (B : Int) := by omega
theorem own_zsz {Z : State} {h : Heap} {n0 o : Nat} {cap len : Int64} {B : Nat} (q : own_SP Z h n0 o cap len B) : n0 ≤ h.size := by
  obtain ⟨_, _, _, _, _, _, _, _, _, _, _, _, _, _, Oq, _⟩ := q; rw [← Oq.1]; exact Oq.2.1
theorem own_SP.wide {Z : State} {h : Heap} {n0 o : Nat} {cap len : Int64} {B C : Nat} (q : own_SP Z h n0 o cap len B) (h2 : B + 0 ≤ C) : own_SP Z h n0 o cap len C := by
  obtain ⟨y1, y2, y3, y4, y5, y6, y7, y8, y9, z1, z2, z3, z4, z5, z6, z7, z8⟩ := q
  exact ⟨y1, y2, y3, y4, y5, y6, y7, y8, y9, z1, z2, z3, z4, z5, z6, z7, own_leB _ _ _ z8 h2⟩
theorem d7_0 : decode prog_4_method_4_code 0 = .ok (.aload_n 0, 1) := by decide +kernel
theorem d7_1 : decode prog_4_method_4_code 1 = .ok (.getfield 20, 3) := by decide +kernel
theorem d7_4 : decode prog_4_method_4_code 4 = .ok (.iload_n 3, 1) := by decide +kernel
theorem d7_5 : decode prog_4_method_4_code 5 = .ok (.i2l, 1) := by decide +kernel
theorem d7_6 : decode prog_4_method_4_code 6 = .ok (.ladd, 1) := by decide +kernel
theorem d7_7 : decode prog_4_method_4_code 7 = .ok (.aload_n 0, 1) := by decide +kernel
theorem d7_8 : decode prog_4_method_4_code 8 = .ok (.getfield 16, 3) := by decide +kernel
theorem d7_11 : decode prog_4_method_4_code 11 = .ok (.lcmp, 1) := by decide +kernel
theorem d7_12 : decode prog_4_method_4_code 12 = .ok (.ifCond .le 15, 3) := by decide +kernel
theorem d7_15 : decode prog_4_method_4_code 15 = .ok (.aload_n 0, 1) := by decide +kernel
theorem d7_16 : decode prog_4_method_4_code 16 = .ok (.dup, 1) := by decide +kernel
theorem d7_17 : decode prog_4_method_4_code 17 = .ok (.getfield 20, 3) := by decide +kernel
theorem d7_20 : decode prog_4_method_4_code 20 = .ok (.iload_n 3, 1) := by decide +kernel
theorem d7_21 : decode prog_4_method_4_code 21 = .ok (.i2l, 1) := by decide +kernel
theorem d7_22 : decode prog_4_method_4_code 22 = .ok (.ladd, 1) := by decide +kernel
theorem d7_23 : decode prog_4_method_4_code 23 = .ok (.putfield 20, 3) := by decide +kernel
theorem d7_26 : decode prog_4_method_4_code 26 = .ok (.return_, 1) := by decide +kernel
theorem ef_7 (m : MethodId) (x0 : Addr) (x1 : Int64) (x2 : Int32) : entryFrame m #[(.ref x0), (.long x1), (.int x2)] 5 = mkF m 0 #[.val (.ref x0), .val (.long x1), .second, .val (.int x2), .unset] [] := by first | (simp [entryFrame, mkF, argsToLocals, Value.category]; done) | rfl
set_option maxRecDepth 65536 in
set_option maxHeartbeats 40000000 in
theorem rmApXE (l : Launch) (Z : State) (a0 : Array Value) (hw : ∀ d ∈ tables_1, d.before a0 Z = true) (ws : List Jvm.Cond) (x0 : Nat) (x1 : Int64) (x2 : Int32) (d : Nat) (cap len : Int64) (h0 : Heap) (n0 : Nat) (Z0 : n0 ≤ h0.size) (P0 : own_SE Z h0 n0 x0 d cap len) (hX : cap < (len + x2.toInt64)) :
    MetFree l (⟨"com/example/narrow_sieve/narrowsieve/format/BitBuffer", "append", "(JI)V"⟩ : MethodName) (head1 (Jvm.Cond.code (⟨"com/example/narrow_sieve/narrowsieve/format/BitBuffer", "append", "(JI)V"⟩ : MethodName) prog_4_method_4_code 5 none :: ws) ({ frames := 0, cells := 0, slots := 0, locals := 0 } : Room)) (fun a U => a = #[(.ref x0), (.long x1), (.int x2)] ∧ Z.Warmed39 U.vm ∧ U.heap = h0) (fun _ _ _ _ _ => True) (fun _ U o U' => ∃ v L, o = .returned v ∧ (own_QE Z n0 x0 d cap (len + x2.toInt64)) v U'.heap L ∧ FrameEnd U o U' L ({ frames := 0, cells := 0, slots := 0, locals := 0 } : Room).cells ({ frames := 0, cells := 0, slots := 0, locals := 0 } : Room).slots) := by
  refine own_body (own := "com/example/narrow_sieve/narrowsieve/format/BitBuffer") (plainFor_of_name pn_5) rfl (fun m => ef_7 m x0 x1 x2) ?_
  intro p e s m below meth c T0 hx hby hml hown hnm hlk hret hZ X0 e0
  have w_3 := hw _ (List.mem_of_getElem? (i := 3) rfl)
  have w_36 := hw _ (List.mem_of_getElem? (i := 36) rfl)
  have w_37 := hw _ (List.mem_of_getElem? (i := 37) rfl)
  have w_38 := hw _ (List.mem_of_getElem? (i := 38) rfl)
  have w_44 := hw _ (List.mem_of_getElem? (i := 44) rfl)
  have w_45 := hw _ (List.mem_of_getElem? (i := 45) rfl)
  have w_53 := hw _ (List.mem_of_getElem? (i := 53) rfl)
  have w_115 := hw _ (List.mem_of_getElem? (i := 115) rfl)
  have N0 := Fr.nil n0
  obtain ⟨pg, peQ1, mcQ1, BfQ1, LiQ1, lt_o_pg, gOQ1, OlQ1⟩ := P0
  obtain ⟨EB2, FB2_pages, FB2_capacity, FB2_length, FB2_pending, FB2_lastPageBytes⟩ := BfQ1
  obtain ⟨EB3, FB3_elementData, FB3_size, FB3_modCount⟩ := LiQ1
  have gpg : n0 ≤ pg := Nat.le_trans gOQ1 (Nat.le_of_lt lt_o_pg)
  refine g_aloadN X0.here hx (Jvm.hb hby d7_0) (pc' := 1) rfl rfl rfl ?_
  refine g_getF X0 hx hZ hown (host := "") (Or.inl w_44) Via.refl e0 FB2_length (Jvm.hb hby d7_1) (pc' := 4) rfl ?_
  intro T4 X4 e4
  refine g_iloadN X4.here hx (Jvm.hb hby d7_4) (pc' := 5) rfl rfl ?_
  refine g_i2l X4.here hx (Jvm.hb hby d7_5) (pc' := 6) rfl ?_
  refine g_ladd X4.here hx (Jvm.hb hby d7_6) (pc' := 7) rfl ?_
  refine g_aloadN X4.here hx (Jvm.hb hby d7_7) (pc' := 8) rfl rfl rfl ?_
  refine g_getF X4 hx hZ hown (host := "") (Or.inl w_37) Via.refl e4 FB2_capacity (Jvm.hb hby d7_8) (pc' := 11) rfl ?_
  intro T5 X5 e5
  refine g_lcmp X5.here hx (Jvm.hb hby d7_11) (pc' := 12) rfl ?_
  refine g_ifN X5.here hx (Jvm.hb hby d7_12) (pc' := 15) rfl (own_tltL hX).2.2.2 ?_
  refine g_aloadN X5.here hx (Jvm.hb hby d7_15) (pc' := 16) rfl rfl rfl ?_
  refine g_dup X5.here hx (Jvm.hb hby d7_16) (pc' := 17) rfl rfl ?_
  refine g_getF X5 hx hZ hown (host := "") (Or.inl w_44) Via.refl e5 FB2_length (Jvm.hb hby d7_17) (pc' := 20) rfl ?_
  intro T6 X6 e6
  refine g_iloadN X6.here hx (Jvm.hb hby d7_20) (pc' := 21) rfl rfl ?_
  refine g_i2l X6.here hx (Jvm.hb hby d7_21) (pc' := 22) rfl ?_
  refine g_ladd X6.here hx (Jvm.hb hby d7_22) (pc' := 23) rfl ?_
  refine g_putF X6 hx hZ hown (host := "") (Or.inl w_44) Via.refl e6 FB2_length EB2 (Or.inl w_45) w_3 (ty := .long) (by decide) rfl rfl (Jvm.hb hby d7_23) (pc' := 26) rfl ?_
  intro T7 hh7 X7 e7 W7
  have Fw7 := FB2_length.same W7
  have N7 := Fr.snoc X7 N0 gOQ1
  have Z8 : n0 ≤ hh7.size := (by rw [W7.size]; exact Z0)
  have z9 : h0.size ≤ hh7.size := (by rw [W7.size]; exact (Nat.le_refl _))
  have F10 := (EB2.wr W7)
  have F11 := (FB2_pages.other W7 (Or.inr (slot_ne (Or.inr w_36) (Or.inl w_45) (by decide) (t := (.object "java/util/List")) (t' := .long) (by decide) (by decide))))
  have F12 := (FB2_capacity.other W7 (Or.inr (slot_ne (Or.inr w_38) (Or.inl w_45) (by decide) (t := .long) (t' := .long) (by decide) (by decide))))
  have F13 := (FB2_pending.other W7 (Or.inr (slot_ne (Or.inl w_53) (Or.inl w_45) (by decide) (t := .long) (t' := .long) (by decide) (by decide))))
  have F14 := (FB2_lastPageBytes.other W7 (Or.inr (slot_ne (Or.inl w_115) (Or.inl w_45) (by decide) (t := .int) (t' := .long) (by decide) (by decide))))
  have F15 := (EB3.wr W7)
  have F16 := (FB3_elementData.other W7 (Or.inl (Ne.symm (Nat.ne_of_lt lt_o_pg))))
  have F17 := (FB3_size.other W7 (Or.inl (Ne.symm (Nat.ne_of_lt lt_o_pg))))
  have F18 := (FB3_modCount.other W7 (Or.inl (Ne.symm (Nat.ne_of_lt lt_o_pg))))
  have F19 := (OlQ1.wr W7 gOQ1)
  exact g_retV X7 hx hlk hret (Jvm.hb hby d7_26) (Nat.zero_le _) (Nat.zero_le _) (by rw [e7]; exact ⟨rfl, N7, ⟨pg, _, _, ⟨F10, F11, F12, Fw7, F13, F14⟩, ⟨F15, F16, F17, F18⟩, lt_o_pg, gOQ1, F19⟩⟩)
set_option maxRecDepth 65536 in
set_option maxHeartbeats 40000000 in
theorem rmApXP (l : Launch) (Z : State) (a0 : Array Value) (hw : ∀ d ∈ tables_1, d.before a0 Z = true) (ws : List Jvm.Cond) (x0 : Nat) (x1 : Int64) (x2 : Int32) (cap len : Int64) (B : Nat) (h0 : Heap) (n0 : Nat) (Z0 : n0 ≤ h0.size) (P0 : own_SP Z h0 n0 x0 cap len B) (hX : cap < (len + x2.toInt64)) :
    MetFree l (⟨"com/example/narrow_sieve/narrowsieve/format/BitBuffer", "append", "(JI)V"⟩ : MethodName) (head1 (Jvm.Cond.code (⟨"com/example/narrow_sieve/narrowsieve/format/BitBuffer", "append", "(JI)V"⟩ : MethodName) prog_4_method_4_code 5 none :: ws) ({ frames := 0, cells := 0, slots := 0, locals := 0 } : Room)) (fun a U => a = #[(.ref x0), (.long x1), (.int x2)] ∧ Z.Warmed39 U.vm ∧ U.heap = h0) (fun _ _ _ _ _ => True) (fun _ U o U' => ∃ v L, o = .returned v ∧ (own_QP Z n0 x0 cap (len + x2.toInt64) B) v U'.heap L ∧ FrameEnd U o U' L ({ frames := 0, cells := 0, slots := 0, locals := 0 } : Room).cells ({ frames := 0, cells := 0, slots := 0, locals := 0 } : Room).slots) := by
  refine own_body (own := "com/example/narrow_sieve/narrowsieve/format/BitBuffer") (plainFor_of_name pn_5) rfl (fun m => ef_7 m x0 x1 x2) ?_
  intro p e s m below meth c T0 hx hby hml hown hnm hlk hret hZ X0 e0
  have w_3 := hw _ (List.mem_of_getElem? (i := 3) rfl)
  have w_36 := hw _ (List.mem_of_getElem? (i := 36) rfl)
  have w_37 := hw _ (List.mem_of_getElem? (i := 37) rfl)
  have w_38 := hw _ (List.mem_of_getElem? (i := 38) rfl)
  have w_44 := hw _ (List.mem_of_getElem? (i := 44) rfl)
  have w_45 := hw _ (List.mem_of_getElem? (i := 45) rfl)
  have w_53 := hw _ (List.mem_of_getElem? (i := 53) rfl)
  have w_115 := hw _ (List.mem_of_getElem? (i := 115) rfl)
  have N0 := Fr.nil n0
  obtain ⟨pgQ1, pageQ1, arrQ1, peQ1, lpQ1, mcQ1, fQ1, BfQ1, LiQ1, RaQ1, IaQ1, ExQ1, ⟨oaQ1, obQ1, ocQ1⟩, gOQ1, OlQ1, l0Q1, l1Q1⟩ := P0
  obtain ⟨EB2, FB2_pages, FB2_capacity, FB2_length, FB2_pending, FB2_lastPageBytes⟩ := BfQ1
  obtain ⟨EB3, FB3_elementData, FB3_size, FB3_modCount⟩ := LiQ1
  have gAQ1 : n0 ≤ pgQ1 ∧ n0 ≤ pageQ1 ∧ n0 ≤ arrQ1 := by omega
  refine g_aloadN X0.here hx (Jvm.hb hby d7_0) (pc' := 1) rfl rfl rfl ?_
  refine g_getF X0 hx hZ hown (host := "") (Or.inl w_44) Via.refl e0 FB2_length (Jvm.hb hby d7_1) (pc' := 4) rfl ?_
  intro T4 X4 e4
  refine g_iloadN X4.here hx (Jvm.hb hby d7_4) (pc' := 5) rfl rfl ?_
  refine g_i2l X4.here hx (Jvm.hb hby d7_5) (pc' := 6) rfl ?_
  refine g_ladd X4.here hx (Jvm.hb hby d7_6) (pc' := 7) rfl ?_
  refine g_aloadN X4.here hx (Jvm.hb hby d7_7) (pc' := 8) rfl rfl rfl ?_
  refine g_getF X4 hx hZ hown (host := "") (Or.inl w_37) Via.refl e4 FB2_capacity (Jvm.hb hby d7_8) (pc' := 11) rfl ?_
  intro T5 X5 e5
  refine g_lcmp X5.here hx (Jvm.hb hby d7_11) (pc' := 12) rfl ?_
  refine g_ifN X5.here hx (Jvm.hb hby d7_12) (pc' := 15) rfl (own_tltL hX).2.2.2 ?_
  refine g_aloadN X5.here hx (Jvm.hb hby d7_15) (pc' := 16) rfl rfl rfl ?_
  refine g_dup X5.here hx (Jvm.hb hby d7_16) (pc' := 17) rfl rfl ?_
  refine g_getF X5 hx hZ hown (host := "") (Or.inl w_44) Via.refl e5 FB2_length (Jvm.hb hby d7_17) (pc' := 20) rfl ?_
  intro T6 X6 e6
  refine g_iloadN X6.here hx (Jvm.hb hby d7_20) (pc' := 21) rfl rfl ?_
  refine g_i2l X6.here hx (Jvm.hb hby d7_21) (pc' := 22) rfl ?_
  refine g_ladd X6.here hx (Jvm.hb hby d7_22) (pc' := 23) rfl ?_
  refine g_putF X6 hx hZ hown (host := "") (Or.inl w_44) Via.refl e6 FB2_length EB2 (Or.inl w_45) w_3 (ty := .long) (by decide) rfl rfl (Jvm.hb hby d7_23) (pc' := 26) rfl ?_
  intro T7 hh7 X7 e7 W7
  have Fw7 := FB2_length.same W7
  have N7 := Fr.snoc X7 N0 gOQ1
  have Z8 : n0 ≤ hh7.size := (by rw [W7.size]; exact Z0)
  have z9 : h0.size ≤ hh7.size := (by rw [W7.size]; exact (Nat.le_refl _))
  have F10 := (EB2.wr W7)
  have F11 := (FB2_pages.other W7 (Or.inr (slot_ne (Or.inr w_36) (Or.inl w_45) (by decide) (t := (.object "java/util/List")) (t' := .long) (by decide) (by decide))))
  have F12 := (FB2_capacity.other W7 (Or.inr (slot_ne (Or.inr w_38) (Or.inl w_45) (by decide) (t := .long) (t' := .long) (by decide) (by decide))))
  have F13 := (FB2_pending.other W7 (Or.inr (slot_ne (Or.inl w_53) (Or.inl w_45) (by decide) (t := .long) (t' := .long) (by decide) (by decide))))
  have F14 := (FB2_lastPageBytes.other W7 (Or.inr (slot_ne (Or.inl w_115) (Or.inl w_45) (by decide) (t := .int) (t' := .long) (by decide) (by decide))))
  have F15 := (EB3.wr W7)
  have F16 := (FB3_elementData.other W7 (Or.inl (Ne.symm (Nat.ne_of_lt (by omega)))))
  have F17 := (FB3_size.other W7 (Or.inl (Ne.symm (Nat.ne_of_lt (by omega)))))
  have F18 := (FB3_modCount.other W7 (Or.inl (Ne.symm (Nat.ne_of_lt (by omega)))))
  have F19 := (RaQ1.other W7 (Ne.symm (Nat.ne_of_lt (by omega))))
  have F20 := (IaQ1.other W7 (Ne.symm (Nat.ne_of_lt (by omega))))
  have F21 := (ExQ1.wr W7)
  have F22 := (OlQ1.wr W7 gOQ1)
  exact g_retV X7 hx hlk hret (Jvm.hb hby d7_26) (Nat.zero_le _) (Nat.zero_le _) (by rw [e7]; exact ⟨rfl, N7, ⟨pgQ1, pageQ1, arrQ1, _, _, _, _, ⟨F10, F11, F12, Fw7, F13, F14⟩, ⟨F15, F16, F17, F18⟩, F19, F20, F21, ⟨oaQ1, obQ1, ocQ1⟩, gOQ1, F22, l0Q1, l1Q1⟩⟩)
theorem d7_27 : decode prog_4_method_4_code 27 = .ok (.aload_n 0, 1) := by decide +kernel
theorem d7_28 : decode prog_4_method_4_code 28 = .ok (.getfield 20, 3) := by decide +kernel
theorem d7_31 : decode prog_4_method_4_code 31 = .ok (.ldc2_w 25, 3) := by decide +kernel
theorem d7_34 : decode prog_4_method_4_code 34 = .ok (.lrem, 1) := by decide +kernel
theorem d7_35 : decode prog_4_method_4_code 35 = .ok (.l2i, 1) := by decide +kernel
theorem d7_36 : decode prog_4_method_4_code 36 = .ok (.iload_n 3, 1) := by decide +kernel
theorem d7_37 : decode prog_4_method_4_code 37 = .ok (.iadd, 1) := by decide +kernel
theorem d7_38 : decode prog_4_method_4_code 38 = .ok (.istore 4, 2) := by decide +kernel
theorem d7_40 : decode prog_4_method_4_code 40 = .ok (.aload_n 0, 1) := by decide +kernel
theorem d7_41 : decode prog_4_method_4_code 41 = .ok (.dup, 1) := by decide +kernel
theorem d7_42 : decode prog_4_method_4_code 42 = .ok (.getfield 27, 3) := by decide +kernel
theorem d7_45 : decode prog_4_method_4_code 45 = .ok (.lload_n 1, 1) := by decide +kernel
theorem d7_46 : decode prog_4_method_4_code 46 = .ok (.aload_n 0, 1) := by decide +kernel
theorem d7_47 : decode prog_4_method_4_code 47 = .ok (.getfield 20, 3) := by decide +kernel
theorem d7_50 : decode prog_4_method_4_code 50 = .ok (.ldc2_w 25, 3) := by decide +kernel
theorem d7_53 : decode prog_4_method_4_code 53 = .ok (.lrem, 1) := by decide +kernel
theorem d7_54 : decode prog_4_method_4_code 54 = .ok (.l2i, 1) := by decide +kernel
theorem d7_55 : decode prog_4_method_4_code 55 = .ok (.lshl, 1) := by decide +kernel
theorem d7_56 : decode prog_4_method_4_code 56 = .ok (.lor, 1) := by decide +kernel
theorem d7_57 : decode prog_4_method_4_code 57 = .ok (.putfield 27, 3) := by decide +kernel
theorem d7_60 : decode prog_4_method_4_code 60 = .ok (.aload_n 0, 1) := by decide +kernel
theorem d7_61 : decode prog_4_method_4_code 61 = .ok (.dup, 1) := by decide +kernel
theorem d7_62 : decode prog_4_method_4_code 62 = .ok (.getfield 20, 3) := by decide +kernel
theorem d7_65 : decode prog_4_method_4_code 65 = .ok (.iload_n 3, 1) := by decide +kernel
theorem d7_66 : decode prog_4_method_4_code 66 = .ok (.i2l, 1) := by decide +kernel
theorem d7_67 : decode prog_4_method_4_code 67 = .ok (.ladd, 1) := by decide +kernel
theorem d7_68 : decode prog_4_method_4_code 68 = .ok (.putfield 20, 3) := by decide +kernel
theorem d7_71 : decode prog_4_method_4_code 71 = .ok (.iload 4, 2) := by decide +kernel
theorem d7_73 : decode prog_4_method_4_code 73 = .ok (.bipush 8, 2) := by decide +kernel
theorem d7_75 : decode prog_4_method_4_code 75 = .ok (.if_icmp .lt 30, 3) := by decide +kernel
theorem d7_105 : decode prog_4_method_4_code 105 = .ok (.return_, 1) := by decide +kernel
set_option maxRecDepth 65536 in
set_option maxHeartbeats 40000000 in
theorem rmApEE (l : Launch) (Z : State) (a0 : Array Value) (hw : ∀ d ∈ tables_1, d.before a0 Z = true) (ws : List Jvm.Cond) (x0 : Nat) (x1 : Int64) (x2 : Int32) (d : Nat) (cap len : Int64) (h0 : Heap) (n0 : Nat) (Z0 : n0 ≤ h0.size) (P0 : own_SE Z h0 n0 x0 d cap len) (hX : ¬ cap < (len + x2.toInt64)) (hb : ((len % (8 : Int64)).toInt32 + x2) < (8 : Int32)) :
    MetFree l (⟨"com/example/narrow_sieve/narrowsieve/format/BitBuffer", "append", "(JI)V"⟩ : MethodName) (head1 (Jvm.Cond.code (⟨"com/example/narrow_sieve/narrowsieve/format/BitBuffer", "append", "(JI)V"⟩ : MethodName) prog_4_method_4_code 5 none :: ws) ({ frames := 0, cells := 0, slots := 0, locals := 0 } : Room)) (fun a U => a = #[(.ref x0), (.long x1), (.int x2)] ∧ Z.Warmed39 U.vm ∧ U.heap = h0) (fun _ _ _ _ _ => True) (fun _ U o U' => ∃ v L, o = .returned v ∧ (own_QE Z n0 x0 d cap (len + x2.toInt64)) v U'.heap L ∧ FrameEnd U o U' L ({ frames := 0, cells := 0, slots := 0, locals := 0 } : Room).cells ({ frames := 0, cells := 0, slots := 0, locals := 0 } : Room).slots) := by
  refine own_body (own := "com/example/narrow_sieve/narrowsieve/format/BitBuffer") (plainFor_of_name pn_5) rfl (fun m => ef_7 m x0 x1 x2) ?_
  intro p e s m below meth c T0 hx hby hml hown hnm hlk hret hZ X0 e0
  have w_3 := hw _ (List.mem_of_getElem? (i := 3) rfl)
  have w_36 := hw _ (List.mem_of_getElem? (i := 36) rfl)
  have w_37 := hw _ (List.mem_of_getElem? (i := 37) rfl)
  have w_38 := hw _ (List.mem_of_getElem? (i := 38) rfl)
  have w_44 := hw _ (List.mem_of_getElem? (i := 44) rfl)
  have w_45 := hw _ (List.mem_of_getElem? (i := 45) rfl)
  have w_46 := hw _ (List.mem_of_getElem? (i := 46) rfl)
  have w_52 := hw _ (List.mem_of_getElem? (i := 52) rfl)
  have w_53 := hw _ (List.mem_of_getElem? (i := 53) rfl)
  have w_115 := hw _ (List.mem_of_getElem? (i := 115) rfl)
  have N0 := Fr.nil n0
  obtain ⟨pg, peQ1, mcQ1, BfQ1, LiQ1, lt_o_pg, gOQ1, OlQ1⟩ := P0
  obtain ⟨EB2, FB2_pages, FB2_capacity, FB2_length, FB2_pending, FB2_lastPageBytes⟩ := BfQ1
  obtain ⟨EB3, FB3_elementData, FB3_size, FB3_modCount⟩ := LiQ1
  have gpg : n0 ≤ pg := Nat.le_trans gOQ1 (Nat.le_of_lt lt_o_pg)
  refine g_aloadN X0.here hx (Jvm.hb hby d7_0) (pc' := 1) rfl rfl rfl ?_
  refine g_getF X0 hx hZ hown (host := "") (Or.inl w_44) Via.refl e0 FB2_length (Jvm.hb hby d7_1) (pc' := 4) rfl ?_
  intro T4 X4 e4
  refine g_iloadN X4.here hx (Jvm.hb hby d7_4) (pc' := 5) rfl rfl ?_
  refine g_i2l X4.here hx (Jvm.hb hby d7_5) (pc' := 6) rfl ?_
  refine g_ladd X4.here hx (Jvm.hb hby d7_6) (pc' := 7) rfl ?_
  refine g_aloadN X4.here hx (Jvm.hb hby d7_7) (pc' := 8) rfl rfl rfl ?_
  refine g_getF X4 hx hZ hown (host := "") (Or.inl w_37) Via.refl e4 FB2_capacity (Jvm.hb hby d7_8) (pc' := 11) rfl ?_
  intro T5 X5 e5
  refine g_lcmp X5.here hx (Jvm.hb hby d7_11) (pc' := 12) rfl ?_
  refine g_ifY X5.here hx (Jvm.hb hby d7_12) (by decide) (pc' := 27) (by decide) (own_fltL hX).2.2.2 ?_
  refine g_aloadN X5.here hx (Jvm.hb hby d7_27) (pc' := 28) rfl rfl rfl ?_
  refine g_getF X5 hx hZ hown (host := "") (Or.inl w_44) Via.refl e5 FB2_length (Jvm.hb hby d7_28) (pc' := 31) rfl ?_
  intro T6 X6 e6
  refine g_ldc2 X6 hx hZ hown w_46 (Jvm.hb hby d7_31) (pc' := 34) rfl ?_
  refine g_lrem X6.here hx (Jvm.hb hby d7_34) (pc' := 35) rfl (by decide) ?_
  refine g_l2i X6.here hx (Jvm.hb hby d7_35) (pc' := 36) rfl ?_
  refine g_iloadN X6.here hx (Jvm.hb hby d7_36) (pc' := 37) rfl rfl ?_
  refine g_iadd X6.here hx (Jvm.hb hby d7_37) (pc' := 38) rfl ?_
  refine g_istore X6.here hx (Jvm.hb hby d7_38) (pc' := 40) rfl (L' := #[.val (.ref x0), .val (.long x1), .second, .val (.int x2), .val (.int (((len % (8 : Int64)).toInt32) + x2))]) rfl ?_
  refine g_aloadN X6.here hx (Jvm.hb hby d7_40) (pc' := 41) rfl rfl rfl ?_
  refine g_dup X6.here hx (Jvm.hb hby d7_41) (pc' := 42) rfl rfl ?_
  refine g_getF X6 hx hZ hown (host := "") (Or.inl w_52) Via.refl e6 FB2_pending (Jvm.hb hby d7_42) (pc' := 45) rfl ?_
  intro T7 X7 e7
  refine g_lloadN X7.here hx (Jvm.hb hby d7_45) (pc' := 46) rfl rfl ?_
  refine g_aloadN X7.here hx (Jvm.hb hby d7_46) (pc' := 47) rfl rfl rfl ?_
  refine g_getF X7 hx hZ hown (host := "") (Or.inl w_44) Via.refl e7 FB2_length (Jvm.hb hby d7_47) (pc' := 50) rfl ?_
  intro T8 X8 e8
  refine g_ldc2 X8 hx hZ hown w_46 (Jvm.hb hby d7_50) (pc' := 53) rfl ?_
  refine g_lrem X8.here hx (Jvm.hb hby d7_53) (pc' := 54) rfl (by decide) ?_
  refine g_l2i X8.here hx (Jvm.hb hby d7_54) (pc' := 55) rfl ?_
  refine g_lshl X8.here hx (Jvm.hb hby d7_55) (pc' := 56) rfl ?_
  refine g_lor X8.here hx (Jvm.hb hby d7_56) (pc' := 57) rfl ?_
  refine g_putF X8 hx hZ hown (host := "") (Or.inl w_52) Via.refl e8 FB2_pending EB2 (Or.inl w_53) w_3 (ty := .long) (by decide) rfl rfl (Jvm.hb hby d7_57) (pc' := 60) rfl ?_
  intro T9 hh9 X9 e9 W9
  have Fw9 := FB2_pending.same W9
  have N9 := Fr.snoc X9 N0 gOQ1
  have Z10 : n0 ≤ hh9.size := (by rw [W9.size]; exact Z0)
  have z11 : h0.size ≤ hh9.size := (by rw [W9.size]; exact (Nat.le_refl _))
  refine g_aloadN X9.here hx (Jvm.hb hby d7_60) (pc' := 61) rfl rfl rfl ?_
  refine g_dup X9.here hx (Jvm.hb hby d7_61) (pc' := 62) rfl rfl ?_
  have F12 := (FB2_length.other W9 (Or.inr (slot_ne (Or.inl w_45) (Or.inl w_53) (by decide) (t := .long) (t' := .long) (by decide) (by decide))))
  refine g_getF X9 hx hZ hown (host := "") (Or.inl w_44) Via.refl e9 F12 (Jvm.hb hby d7_62) (pc' := 65) rfl ?_
  intro T13 X13 e13
  refine g_iloadN X13.here hx (Jvm.hb hby d7_65) (pc' := 66) rfl rfl ?_
  refine g_i2l X13.here hx (Jvm.hb hby d7_66) (pc' := 67) rfl ?_
  refine g_ladd X13.here hx (Jvm.hb hby d7_67) (pc' := 68) rfl ?_
  have F14 := (EB2.wr W9)
  refine g_putF X13 hx hZ hown (host := "") (Or.inl w_44) Via.refl e13 F12 F14 (Or.inl w_45) w_3 (ty := .long) (by decide) rfl rfl (Jvm.hb hby d7_68) (pc' := 71) rfl ?_
  intro T15 hh15 X15 e15 W15
  have Fw15 := F12.same W15
  have N15 := Fr.snoc X15 N9 gOQ1
  have Z16 : n0 ≤ hh15.size := (by rw [W15.size]; exact Z10)
  have z17 : h0.size ≤ hh15.size := (by rw [W15.size]; exact z11)
  refine g_iload X15.here hx (Jvm.hb hby d7_71) (pc' := 73) rfl rfl ?_
  refine g_bipush X15.here hx (Jvm.hb hby d7_73) (pc' := 75) rfl (z := (8 : Int32)) rfl ?_
  refine g_icY X15.here hx (Jvm.hb hby d7_75) (by decide) (pc' := 105) (by decide) (tlt hb).1 ?_
  have F18 := (F14.wr W15)
  have F19 := ((FB2_pages.other W9 (Or.inr (slot_ne (Or.inr w_36) (Or.inl w_53) (by decide) (t := (.object "java/util/List")) (t' := .long) (by decide) (by decide)))).other W15 (Or.inr (slot_ne (Or.inr w_36) (Or.inl w_45) (by decide) (t := (.object "java/util/List")) (t' := .long) (by decide) (by decide))))
  have F20 := ((FB2_capacity.other W9 (Or.inr (slot_ne (Or.inr w_38) (Or.inl w_53) (by decide) (t := .long) (t' := .long) (by decide) (by decide)))).other W15 (Or.inr (slot_ne (Or.inr w_38) (Or.inl w_45) (by decide) (t := .long) (t' := .long) (by decide) (by decide))))
  have F21 := (Fw9.other W15 (Or.inr (slot_ne (Or.inl w_53) (Or.inl w_45) (by decide) (t := .long) (t' := .long) (by decide) (by decide))))
  have F22 := ((FB2_lastPageBytes.other W9 (Or.inr (slot_ne (Or.inl w_115) (Or.inl w_53) (by decide) (t := .int) (t' := .long) (by decide) (by decide)))).other W15 (Or.inr (slot_ne (Or.inl w_115) (Or.inl w_45) (by decide) (t := .int) (t' := .long) (by decide) (by decide))))
  have F23 := ((EB3.wr W9).wr W15)
  have F24 := ((FB3_elementData.other W9 (Or.inl (Ne.symm (Nat.ne_of_lt lt_o_pg)))).other W15 (Or.inl (Ne.symm (Nat.ne_of_lt lt_o_pg))))
  have F25 := ((FB3_size.other W9 (Or.inl (Ne.symm (Nat.ne_of_lt lt_o_pg)))).other W15 (Or.inl (Ne.symm (Nat.ne_of_lt lt_o_pg))))
  have F26 := ((FB3_modCount.other W9 (Or.inl (Ne.symm (Nat.ne_of_lt lt_o_pg)))).other W15 (Or.inl (Ne.symm (Nat.ne_of_lt lt_o_pg))))
  have F27 := ((OlQ1.wr W9 gOQ1).wr W15 gOQ1)
  exact g_retV X15 hx hlk hret (Jvm.hb hby d7_105) (Nat.zero_le _) (Nat.zero_le _) (by rw [e15]; exact ⟨rfl, N15, ⟨pg, _, _, ⟨F18, F19, F20, Fw15, F21, F22⟩, ⟨F23, F24, F25, F26⟩, lt_o_pg, gOQ1, F27⟩⟩)
theorem d7_78 : decode prog_4_method_4_code 78 = .ok (.aload_n 0, 1) := by decide +kernel
theorem d7_79 : decode prog_4_method_4_code 79 = .ok (.aload_n 0, 1) := by decide +kernel
theorem d7_80 : decode prog_4_method_4_code 80 = .ok (.getfield 27, 3) := by decide +kernel
theorem d7_83 : decode prog_4_method_4_code 83 = .ok (.l2i, 1) := by decide +kernel
theorem d7_84 : decode prog_4_method_4_code 84 = .ok (.i2b, 1) := by decide +kernel
theorem d7_85 : decode prog_4_method_4_code 85 = .ok (.invokevirtual 30, 3) := by decide +kernel
theorem pd_10 : parseMethodDescriptor "(B)V" = some ⟨[.byte], none⟩ := by decide +kernel
theorem d7_88 : decode prog_4_method_4_code 88 = .ok (.aload_n 0, 1) := by decide +kernel
theorem d7_89 : decode prog_4_method_4_code 89 = .ok (.dup, 1) := by decide +kernel
theorem d7_90 : decode prog_4_method_4_code 90 = .ok (.getfield 27, 3) := by decide +kernel
theorem d7_93 : decode prog_4_method_4_code 93 = .ok (.bipush 8, 2) := by decide +kernel
theorem d7_95 : decode prog_4_method_4_code 95 = .ok (.lushr, 1) := by decide +kernel
theorem d7_96 : decode prog_4_method_4_code 96 = .ok (.putfield 27, 3) := by decide +kernel
theorem d7_99 : decode prog_4_method_4_code 99 = .ok (.iinc 4 (-8), 3) := by decide +kernel
theorem d7_102 : decode prog_4_method_4_code 102 = .ok (.goto (-31), 3) := by decide +kernel
set_option maxRecDepth 65536 in
set_option maxHeartbeats 40000000 in
theorem rmApEP (l : Launch) (Z : State) (a0 : Array Value) (hw : ∀ d ∈ tables_1, d.before a0 Z = true) (ws : List Jvm.Cond) (x0 : Nat) (x1 : Int64) (x2 : Int32) (d : Nat) (cap len : Int64) (h0 : Heap) (n0 : Nat) (Z0 : n0 ≤ h0.size) (P0 : own_SE Z h0 n0 x0 d cap len) (hX : ¬ cap < (len + x2.toInt64)) (hb : ¬ ((len % (8 : Int64)).toInt32 + x2) < (8 : Int32)) (hbits : 0 ≤ ((len % (8 : Int64)).toInt32 + x2).toInt ∧ ((len % (8 : Int64)).toInt32 + x2).toInt ≤ 63) (S0 : Sta Z Z.heap "java/util/ArrayList" "DEFAULTCAPACITY_EMPTY_ELEMENTDATA" "[Ljava/lang/Object;" (.ref d)) (A0 : own_AL Z Z.heap d 0) :
    MetFree l (⟨"com/example/narrow_sieve/narrowsieve/format/BitBuffer", "append", "(JI)V"⟩ : MethodName) (head1 (Jvm.Cond.code (⟨"com/example/narrow_sieve/narrowsieve/format/BitBuffer", "append", "(JI)V"⟩ : MethodName) prog_4_method_4_code 5 none :: ws) ({ frames := 6, cells := 2, slots := 65546, locals := 82 } : Room)) (fun a U => a = #[(.ref x0), (.long x1), (.int x2)] ∧ Z.Warmed39 U.vm ∧ U.heap = h0) (fun _ _ _ _ _ => True) (fun _ U o U' => ∃ v L, o = .returned v ∧ (own_QP Z n0 x0 cap (len + x2.toInt64) 7) v U'.heap L ∧ FrameEnd U o U' L ({ frames := 6, cells := 2, slots := 65546, locals := 82 } : Room).cells ({ frames := 6, cells := 2, slots := 65546, locals := 82 } : Room).slots) := by
  refine own_body (own := "com/example/narrow_sieve/narrowsieve/format/BitBuffer") (plainFor_of_name pn_5) rfl (fun m => ef_7 m x0 x1 x2) ?_
  intro p e s m below meth c T0 hx hby hml hown hnm hlk hret hZ X0 e0
  have w_3 := hw _ (List.mem_of_getElem? (i := 3) rfl)
  have w_4 := hw _ (List.mem_of_getElem? (i := 4) rfl)
  have w_36 := hw _ (List.mem_of_getElem? (i := 36) rfl)
  have w_37 := hw _ (List.mem_of_getElem? (i := 37) rfl)
  have w_38 := hw _ (List.mem_of_getElem? (i := 38) rfl)
  have w_42 := hw _ (List.mem_of_getElem? (i := 42) rfl)
  have w_44 := hw _ (List.mem_of_getElem? (i := 44) rfl)
  have w_45 := hw _ (List.mem_of_getElem? (i := 45) rfl)
  have w_46 := hw _ (List.mem_of_getElem? (i := 46) rfl)
  have w_52 := hw _ (List.mem_of_getElem? (i := 52) rfl)
  have w_53 := hw _ (List.mem_of_getElem? (i := 53) rfl)
  have w_65 := hw _ (List.mem_of_getElem? (i := 65) rfl)
  have w_66 := hw _ (List.mem_of_getElem? (i := 66) rfl)
  have w_67 := hw _ (List.mem_of_getElem? (i := 67) rfl)
  have w_68 := hw _ (List.mem_of_getElem? (i := 68) rfl)
  have w_115 := hw _ (List.mem_of_getElem? (i := 115) rfl)
  have N0 := Fr.nil n0
  have lp : ∀ (k : Nat), ∀ (Tk1 : State), ∀ (hk1 : Heap), ∀ (lck1 : List Loc), ∀ (Xk1 : Stand p l e ({ frames := 6, cells := 2, slots := 65546, locals := 82 } : Room) s m #[(.ref x0), (.long x1), (.int x2)] below meth c Tk1 lck1 2 65546), ∀ (ek1 : Tk1.heap = hk1), ∀ (Nk1 : Fr n0 lck1), ∀ (Zk1 : n0 ≤ hk1.size), ∀ (C3 : Nat), ∀ (hS : own_SP Z hk1 n0 x0 cap (len + x2.toInt64) C3), ∀ (iv : Int32), ∀ (hiv : 8 * k ≤ iv.toInt ∧ iv.toInt < 8 * k + 8), ∀ (hC : C3 + k ≤ 7), own_Gl p e below s (own_QP Z n0 x0 cap (len + x2.toInt64) 7) ({ frames := 6, cells := 2, slots := 65546, locals := 82 } : Room).cells ({ frames := 6, cells := 2, slots := 65546, locals := 82 } : Room).slots (Tk1.setTop (mkF m 71 #[.val (.ref x0), .val (.long x1), .second, .val (.int x2), .val (.int iv)] [])) := by
    intro k
    induction k with
    | zero =>
      intro Tk1 hk1 lck1 Xk1 ek1 Nk1 Zk1 C3 hS iv hiv hC
      refine g_iload Xk1.here hx (Jvm.hb hby d7_71) (pc' := 73) rfl rfl ?_
      refine g_bipush Xk1.here hx (Jvm.hb hby d7_73) (pc' := 75) rfl (z := (8 : Int32)) rfl ?_
      refine g_icY Xk1.here hx (Jvm.hb hby d7_75) (by decide) (pc' := 105) (by decide) (tlt (own_z8 iv hiv)).1 ?_
      exact g_retV Xk1 hx hlk hret (Jvm.hb hby d7_105) (by decide) (by decide) (by rw [ek1]; exact ⟨rfl, Nk1, hS.wide hC⟩)
    | succ k ih =>
      intro Tk1 hk1 lck1 Xk1 ek1 Nk1 Zk1 C3 hS iv hiv hC
      refine g_iload Xk1.here hx (Jvm.hb hby d7_71) (pc' := 73) rfl rfl ?_
      refine g_bipush Xk1.here hx (Jvm.hb hby d7_73) (pc' := 75) rfl (z := (8 : Int32)) rfl ?_
      refine g_icN Xk1.here hx (Jvm.hb hby d7_75) (pc' := 78) rfl (flt (own_s8 iv k hiv)).1 ?_
      refine g_aloadN Xk1.here hx (Jvm.hb hby d7_78) (pc' := 79) rfl rfl rfl ?_
      refine g_aloadN Xk1.here hx (Jvm.hb hby d7_79) (pc' := 80) rfl rfl rfl ?_
      obtain ⟨pgQ2, pageQ2, arrQ2, peQ2, lpQ2, mcQ2, fQ2, BfQ2, LiQ2, RaQ2, IaQ2, ExQ2, ⟨oaQ2, obQ2, ocQ2⟩, gOQ2, OlQ2, l0Q2, l1Q2⟩ := id hS
      obtain ⟨EB3, FB3_pages, FB3_capacity, FB3_length, FB3_pending, FB3_lastPageBytes⟩ := BfQ2
      obtain ⟨EB4, FB4_elementData, FB4_size, FB4_modCount⟩ := LiQ2
      have gAQ2 : n0 ≤ pgQ2 ∧ n0 ≤ pageQ2 ∧ n0 ≤ arrQ2 := by omega
      refine g_getF Xk1 hx hZ hown (host := "") (Or.inl w_52) Via.refl ek1 FB3_pending (Jvm.hb hby d7_80) (pc' := 83) rfl ?_
      intro T5 X5 e5
      refine g_l2i X5.here hx (Jvm.hb hby d7_83) (pc' := 84) rfl ?_
      refine g_i2b X5.here hx (Jvm.hb hby d7_84) (pc' := 85) rfl ?_
      refine g_callPr X5 hx hZ hown w_65 (own_selP (yo := (⟨"com/example/narrow_sieve/narrowsieve/format/BitBuffer", "byteLength", "()J"⟩ : MethodName)) hZ rfl rfl w_42 w_66 w_67 (by decide)) w_66 w_67 w_4 w_68 (by decide) (rmPutP l Z a0 hw [] x0 ((peQ2.toInt32).toInt8.toInt32) cap (len + x2.toInt64) C3 hk1 n0 Zk1 hS (own_c6 C3 k 0 0 hC (by decide))) 0 (by decide) (by decide) e5 EB3 (by rw [hml]; rfl) [(.int ((peQ2.toInt32).toInt8.toInt32))] [] (lenOf pd_10 rfl) rfl rfl (Nat.le_of_eq rfl) (Jvm.hb hby d7_85) (pc' := 88) rfl (cells' := 2) (slots' := 65546) rfl rfl (by decide) (by decide) ?_
      intro v6 T6 L6 X6 hQ6
      obtain ⟨rfl, Nq6, hS6⟩ := hQ6
      have N6 := Fr.app Nk1 Nq6
      have Zh6 : n0 ≤ T6.heap.size := own_zsz hS6
      obtain ⟨pgQ7, pageQ7, arrQ7, peQ7, lpQ7, mcQ7, fQ7, BfQ7, LiQ7, RaQ7, IaQ7, ExQ7, ⟨oaQ7, obQ7, ocQ7⟩, gOQ7, OlQ7, l0Q7, l1Q7⟩ := hS6
      obtain ⟨EB8, FB8_pages, FB8_capacity, FB8_length, FB8_pending, FB8_lastPageBytes⟩ := BfQ7
      obtain ⟨EB9, FB9_elementData, FB9_size, FB9_modCount⟩ := LiQ7
      have gAQ7 : n0 ≤ pgQ7 ∧ n0 ≤ pageQ7 ∧ n0 ≤ arrQ7 := by omega
      show own_Gl p e below s (own_QP Z n0 x0 cap (len + x2.toInt64) 7) ({ frames := 6, cells := 2, slots := 65546, locals := 82 } : Room).cells ({ frames := 6, cells := 2, slots := 65546, locals := 82 } : Room).slots (T6.setTop (mkF m 88 #[.val (.ref x0), .val (.long x1), .second, .val (.int x2), .val (.int iv)] []))
      refine g_aloadN X6.here hx (Jvm.hb hby d7_88) (pc' := 89) rfl rfl rfl ?_
      refine g_dup X6.here hx (Jvm.hb hby d7_89) (pc' := 90) rfl rfl ?_
      refine g_getF X6 hx hZ hown (host := "") (Or.inl w_52) Via.refl rfl FB8_pending (Jvm.hb hby d7_90) (pc' := 93) rfl ?_
      intro T10 X10 e10
      refine g_bipush X10.here hx (Jvm.hb hby d7_93) (pc' := 95) rfl (z := (8 : Int32)) rfl ?_
      refine g_lushr X10.here hx (Jvm.hb hby d7_95) (pc' := 96) rfl ?_
      refine g_putF X10 hx hZ hown (host := "") (Or.inl w_52) Via.refl e10 FB8_pending EB8 (Or.inl w_53) w_3 (ty := .long) (by decide) rfl rfl (Jvm.hb hby d7_96) (pc' := 99) rfl ?_
      intro T11 hh11 X11 e11 W11
      have Fw11 := FB8_pending.same W11
      have N11 := Fr.snoc X11 N6 gOQ7
      have Z12 : n0 ≤ hh11.size := (by rw [W11.size]; exact Zh6)
      refine g_iinc X11.here hx (Jvm.hb hby d7_99) (pc' := 102) rfl (z := (-8 : Int32)) rfl rfl (L' := #[.val (.ref x0), .val (.long x1), .second, .val (.int x2), .val (.int (iv + (-8 : Int32)))]) rfl ?_
      refine g_goto X11.here hx (Jvm.hb hby d7_102) (by decide) (pc' := 71) (by decide) ?_
      have F13 := (EB8.wr W11)
      have F14 := (FB8_pages.other W11 (Or.inr (slot_ne (Or.inr w_36) (Or.inl w_53) (by decide) (t := (.object "java/util/List")) (t' := .long) (by decide) (by decide))))
      have F15 := (FB8_capacity.other W11 (Or.inr (slot_ne (Or.inr w_38) (Or.inl w_53) (by decide) (t := .long) (t' := .long) (by decide) (by decide))))
      have F16 := (FB8_length.other W11 (Or.inr (slot_ne (Or.inl w_45) (Or.inl w_53) (by decide) (t := .long) (t' := .long) (by decide) (by decide))))
      have F17 := (FB8_lastPageBytes.other W11 (Or.inr (slot_ne (Or.inl w_115) (Or.inl w_53) (by decide) (t := .int) (t' := .long) (by decide) (by decide))))
      have F18 := (EB9.wr W11)
      have F19 := (FB9_elementData.other W11 (Or.inl (Ne.symm (Nat.ne_of_lt (by omega)))))
      have F20 := (FB9_size.other W11 (Or.inl (Ne.symm (Nat.ne_of_lt (by omega)))))
      have F21 := (FB9_modCount.other W11 (Or.inl (Ne.symm (Nat.ne_of_lt (by omega)))))
      have F22 := (RaQ7.other W11 (Ne.symm (Nat.ne_of_lt (by omega))))
      have F23 := (IaQ7.other W11 (Ne.symm (Nat.ne_of_lt (by omega))))
      have F24 := (ExQ7.wr W11)
      have F25 := (OlQ7.wr W11 gOQ7)
      exact ih T11 hh11 _ X11 e11 N11 Z12 (C3 + 1) ⟨pgQ7, pageQ7, arrQ7, _, _, _, _, ⟨F13, F14, F15, F16, Fw11, F17⟩, ⟨F18, F19, F20, F21⟩, F22, F23, F24, ⟨oaQ7, obQ7, ocQ7⟩, gOQ7, F25, l0Q7, l1Q7⟩ _ (own_dec8 iv k hiv) (own_sw _ _ _ hC)
  obtain ⟨pg, peQ26, mcQ26, BfQ26, LiQ26, lt_o_pg, gOQ26, OlQ26⟩ := P0
  obtain ⟨EB27, FB27_pages, FB27_capacity, FB27_length, FB27_pending, FB27_lastPageBytes⟩ := BfQ26
  obtain ⟨EB28, FB28_elementData, FB28_size, FB28_modCount⟩ := LiQ26
  have gpg : n0 ≤ pg := Nat.le_trans gOQ26 (Nat.le_of_lt lt_o_pg)
  refine g_aloadN X0.here hx (Jvm.hb hby d7_0) (pc' := 1) rfl rfl rfl ?_
  refine g_getF X0 hx hZ hown (host := "") (Or.inl w_44) Via.refl e0 FB27_length (Jvm.hb hby d7_1) (pc' := 4) rfl ?_
  intro T29 X29 e29
  refine g_iloadN X29.here hx (Jvm.hb hby d7_4) (pc' := 5) rfl rfl ?_
  refine g_i2l X29.here hx (Jvm.hb hby d7_5) (pc' := 6) rfl ?_
  refine g_ladd X29.here hx (Jvm.hb hby d7_6) (pc' := 7) rfl ?_
  refine g_aloadN X29.here hx (Jvm.hb hby d7_7) (pc' := 8) rfl rfl rfl ?_
  refine g_getF X29 hx hZ hown (host := "") (Or.inl w_37) Via.refl e29 FB27_capacity (Jvm.hb hby d7_8) (pc' := 11) rfl ?_
  intro T30 X30 e30
  refine g_lcmp X30.here hx (Jvm.hb hby d7_11) (pc' := 12) rfl ?_
  refine g_ifY X30.here hx (Jvm.hb hby d7_12) (by decide) (pc' := 27) (by decide) (own_fltL hX).2.2.2 ?_
  refine g_aloadN X30.here hx (Jvm.hb hby d7_27) (pc' := 28) rfl rfl rfl ?_
  refine g_getF X30 hx hZ hown (host := "") (Or.inl w_44) Via.refl e30 FB27_length (Jvm.hb hby d7_28) (pc' := 31) rfl ?_
  intro T31 X31 e31
  refine g_ldc2 X31 hx hZ hown w_46 (Jvm.hb hby d7_31) (pc' := 34) rfl ?_
  refine g_lrem X31.here hx (Jvm.hb hby d7_34) (pc' := 35) rfl (by decide) ?_
  refine g_l2i X31.here hx (Jvm.hb hby d7_35) (pc' := 36) rfl ?_
  refine g_iloadN X31.here hx (Jvm.hb hby d7_36) (pc' := 37) rfl rfl ?_
  refine g_iadd X31.here hx (Jvm.hb hby d7_37) (pc' := 38) rfl ?_
  refine g_istore X31.here hx (Jvm.hb hby d7_38) (pc' := 40) rfl (L' := #[.val (.ref x0), .val (.long x1), .second, .val (.int x2), .val (.int (((len % (8 : Int64)).toInt32) + x2))]) rfl ?_
  refine g_aloadN X31.here hx (Jvm.hb hby d7_40) (pc' := 41) rfl rfl rfl ?_
  refine g_dup X31.here hx (Jvm.hb hby d7_41) (pc' := 42) rfl rfl ?_
  refine g_getF X31 hx hZ hown (host := "") (Or.inl w_52) Via.refl e31 FB27_pending (Jvm.hb hby d7_42) (pc' := 45) rfl ?_
  intro T32 X32 e32
  refine g_lloadN X32.here hx (Jvm.hb hby d7_45) (pc' := 46) rfl rfl ?_
  refine g_aloadN X32.here hx (Jvm.hb hby d7_46) (pc' := 47) rfl rfl rfl ?_
  refine g_getF X32 hx hZ hown (host := "") (Or.inl w_44) Via.refl e32 FB27_length (Jvm.hb hby d7_47) (pc' := 50) rfl ?_
  intro T33 X33 e33
  refine g_ldc2 X33 hx hZ hown w_46 (Jvm.hb hby d7_50) (pc' := 53) rfl ?_
  refine g_lrem X33.here hx (Jvm.hb hby d7_53) (pc' := 54) rfl (by decide) ?_
  refine g_l2i X33.here hx (Jvm.hb hby d7_54) (pc' := 55) rfl ?_
  refine g_lshl X33.here hx (Jvm.hb hby d7_55) (pc' := 56) rfl ?_
  refine g_lor X33.here hx (Jvm.hb hby d7_56) (pc' := 57) rfl ?_
  refine g_putF X33 hx hZ hown (host := "") (Or.inl w_52) Via.refl e33 FB27_pending EB27 (Or.inl w_53) w_3 (ty := .long) (by decide) rfl rfl (Jvm.hb hby d7_57) (pc' := 60) rfl ?_
  intro T34 hh34 X34 e34 W34
  have Fw34 := FB27_pending.same W34
  have N34 := Fr.snoc X34 N0 gOQ26
  have Z35 : n0 ≤ hh34.size := (by rw [W34.size]; exact Z0)
  have z36 : h0.size ≤ hh34.size := (by rw [W34.size]; exact (Nat.le_refl _))
  refine g_aloadN X34.here hx (Jvm.hb hby d7_60) (pc' := 61) rfl rfl rfl ?_
  refine g_dup X34.here hx (Jvm.hb hby d7_61) (pc' := 62) rfl rfl ?_
  have F37 := (FB27_length.other W34 (Or.inr (slot_ne (Or.inl w_45) (Or.inl w_53) (by decide) (t := .long) (t' := .long) (by decide) (by decide))))
  refine g_getF X34 hx hZ hown (host := "") (Or.inl w_44) Via.refl e34 F37 (Jvm.hb hby d7_62) (pc' := 65) rfl ?_
  intro T38 X38 e38
  refine g_iloadN X38.here hx (Jvm.hb hby d7_65) (pc' := 66) rfl rfl ?_
  refine g_i2l X38.here hx (Jvm.hb hby d7_66) (pc' := 67) rfl ?_
  refine g_ladd X38.here hx (Jvm.hb hby d7_67) (pc' := 68) rfl ?_
  have F39 := (EB27.wr W34)
  refine g_putF X38 hx hZ hown (host := "") (Or.inl w_44) Via.refl e38 F37 F39 (Or.inl w_45) w_3 (ty := .long) (by decide) rfl rfl (Jvm.hb hby d7_68) (pc' := 71) rfl ?_
  intro T40 hh40 X40 e40 W40
  have Fw40 := F37.same W40
  have N40 := Fr.snoc X40 N34 gOQ26
  have Z41 : n0 ≤ hh40.size := (by rw [W40.size]; exact Z35)
  have z42 : h0.size ≤ hh40.size := (by rw [W40.size]; exact z36)
  refine g_iload X40.here hx (Jvm.hb hby d7_71) (pc' := 73) rfl rfl ?_
  refine g_bipush X40.here hx (Jvm.hb hby d7_73) (pc' := 75) rfl (z := (8 : Int32)) rfl ?_
  refine g_icN X40.here hx (Jvm.hb hby d7_75) (pc' := 78) rfl (flt hb).1 ?_
  refine g_aloadN X40.here hx (Jvm.hb hby d7_78) (pc' := 79) rfl rfl rfl ?_
  refine g_aloadN X40.here hx (Jvm.hb hby d7_79) (pc' := 80) rfl rfl rfl ?_
  have F43 := (Fw34.other W40 (Or.inr (slot_ne (Or.inl w_53) (Or.inl w_45) (by decide) (t := .long) (t' := .long) (by decide) (by decide))))
  refine g_getF X40 hx hZ hown (host := "") (Or.inl w_52) Via.refl e40 F43 (Jvm.hb hby d7_80) (pc' := 83) rfl ?_
  intro T44 X44 e44
  refine g_l2i X44.here hx (Jvm.hb hby d7_83) (pc' := 84) rfl ?_
  refine g_i2b X44.here hx (Jvm.hb hby d7_84) (pc' := 85) rfl ?_
  have F45 := (F39.wr W40)
  have F46 := ((FB27_pages.other W34 (Or.inr (slot_ne (Or.inr w_36) (Or.inl w_53) (by decide) (t := (.object "java/util/List")) (t' := .long) (by decide) (by decide)))).other W40 (Or.inr (slot_ne (Or.inr w_36) (Or.inl w_45) (by decide) (t := (.object "java/util/List")) (t' := .long) (by decide) (by decide))))
  have F47 := ((FB27_capacity.other W34 (Or.inr (slot_ne (Or.inr w_38) (Or.inl w_53) (by decide) (t := .long) (t' := .long) (by decide) (by decide)))).other W40 (Or.inr (slot_ne (Or.inr w_38) (Or.inl w_45) (by decide) (t := .long) (t' := .long) (by decide) (by decide))))
  have F48 := ((FB27_lastPageBytes.other W34 (Or.inr (slot_ne (Or.inl w_115) (Or.inl w_53) (by decide) (t := .int) (t' := .long) (by decide) (by decide)))).other W40 (Or.inr (slot_ne (Or.inl w_115) (Or.inl w_45) (by decide) (t := .int) (t' := .long) (by decide) (by decide))))
  have F49 := ((EB28.wr W34).wr W40)
  have F50 := ((FB28_elementData.other W34 (Or.inl (Ne.symm (Nat.ne_of_lt lt_o_pg)))).other W40 (Or.inl (Ne.symm (Nat.ne_of_lt lt_o_pg))))
  have F51 := ((FB28_size.other W34 (Or.inl (Ne.symm (Nat.ne_of_lt lt_o_pg)))).other W40 (Or.inl (Ne.symm (Nat.ne_of_lt lt_o_pg))))
  have F52 := ((FB28_modCount.other W34 (Or.inl (Ne.symm (Nat.ne_of_lt lt_o_pg)))).other W40 (Or.inl (Ne.symm (Nat.ne_of_lt lt_o_pg))))
  have F53 := ((OlQ26.wr W34 gOQ26).wr W40 gOQ26)
  refine g_callPr X44 hx hZ hown w_65 (own_selP (yo := (⟨"com/example/narrow_sieve/narrowsieve/format/BitBuffer", "byteLength", "()J"⟩ : MethodName)) hZ rfl rfl w_42 w_66 w_67 (by decide)) w_66 w_67 w_4 w_68 (by decide) (rmPutE l Z a0 hw [] x0 (((peQ26 ||| (x1 <<< (((len % (8 : Int64)).toInt32) &&& 0x3f).toInt64)).toInt32).toInt8.toInt32) d cap (len + x2.toInt64) hh40 n0 Z41 ⟨pg, _, _, ⟨F45, F46, F47, Fw40, F43, F48⟩, ⟨F49, F50, F51, F52⟩, lt_o_pg, gOQ26, F53⟩ S0 A0) 0 (by decide) (by decide) e44 F45 (by rw [hml]; rfl) [(.int (((peQ26 ||| (x1 <<< (((len % (8 : Int64)).toInt32) &&& 0x3f).toInt64)).toInt32).toInt8.toInt32))] [] (lenOf pd_10 rfl) rfl rfl (Nat.le_of_eq rfl) (Jvm.hb hby d7_85) (pc' := 88) rfl (cells' := 2) (slots' := 65546) rfl rfl (by decide) (by decide) ?_
  intro v54 T54 L54 X54 hQ54
  obtain ⟨rfl, Nq54, hS54⟩ := hQ54
  have N54 := Fr.app N40 Nq54
  have Zh54 : n0 ≤ T54.heap.size := own_zsz hS54
  obtain ⟨pgQ55, pageQ55, arrQ55, peQ55, lpQ55, mcQ55, fQ55, BfQ55, LiQ55, RaQ55, IaQ55, ExQ55, ⟨oaQ55, obQ55, ocQ55⟩, gOQ55, OlQ55, l0Q55, l1Q55⟩ := hS54
  obtain ⟨EB56, FB56_pages, FB56_capacity, FB56_length, FB56_pending, FB56_lastPageBytes⟩ := BfQ55
  obtain ⟨EB57, FB57_elementData, FB57_size, FB57_modCount⟩ := LiQ55
  have gAQ55 : n0 ≤ pgQ55 ∧ n0 ≤ pageQ55 ∧ n0 ≤ arrQ55 := by omega
  show own_Gl p e below s (own_QP Z n0 x0 cap (len + x2.toInt64) 7) ({ frames := 6, cells := 2, slots := 65546, locals := 82 } : Room).cells ({ frames := 6, cells := 2, slots := 65546, locals := 82 } : Room).slots (T54.setTop (mkF m 88 #[.val (.ref x0), .val (.long x1), .second, .val (.int x2), .val (.int (((len % (8 : Int64)).toInt32) + x2))] []))
  refine g_aloadN X54.here hx (Jvm.hb hby d7_88) (pc' := 89) rfl rfl rfl ?_
  refine g_dup X54.here hx (Jvm.hb hby d7_89) (pc' := 90) rfl rfl ?_
  refine g_getF X54 hx hZ hown (host := "") (Or.inl w_52) Via.refl rfl FB56_pending (Jvm.hb hby d7_90) (pc' := 93) rfl ?_
  intro T58 X58 e58
  refine g_bipush X58.here hx (Jvm.hb hby d7_93) (pc' := 95) rfl (z := (8 : Int32)) rfl ?_
  refine g_lushr X58.here hx (Jvm.hb hby d7_95) (pc' := 96) rfl ?_
  refine g_putF X58 hx hZ hown (host := "") (Or.inl w_52) Via.refl e58 FB56_pending EB56 (Or.inl w_53) w_3 (ty := .long) (by decide) rfl rfl (Jvm.hb hby d7_96) (pc' := 99) rfl ?_
  intro T59 hh59 X59 e59 W59
  have Fw59 := FB56_pending.same W59
  have N59 := Fr.snoc X59 N54 gOQ55
  have Z60 : n0 ≤ hh59.size := (by rw [W59.size]; exact Zh54)
  refine g_iinc X59.here hx (Jvm.hb hby d7_99) (pc' := 102) rfl (z := (-8 : Int32)) rfl rfl (L' := #[.val (.ref x0), .val (.long x1), .second, .val (.int x2), .val (.int ((((len % (8 : Int64)).toInt32) + x2) + (-8 : Int32)))]) rfl ?_
  refine g_goto X59.here hx (Jvm.hb hby d7_102) (by decide) (pc' := 71) (by decide) ?_
  have F61 := (EB56.wr W59)
  have F62 := (FB56_pages.other W59 (Or.inr (slot_ne (Or.inr w_36) (Or.inl w_53) (by decide) (t := (.object "java/util/List")) (t' := .long) (by decide) (by decide))))
  have F63 := (FB56_capacity.other W59 (Or.inr (slot_ne (Or.inr w_38) (Or.inl w_53) (by decide) (t := .long) (t' := .long) (by decide) (by decide))))
  have F64 := (FB56_length.other W59 (Or.inr (slot_ne (Or.inl w_45) (Or.inl w_53) (by decide) (t := .long) (t' := .long) (by decide) (by decide))))
  have F65 := (FB56_lastPageBytes.other W59 (Or.inr (slot_ne (Or.inl w_115) (Or.inl w_53) (by decide) (t := .int) (t' := .long) (by decide) (by decide))))
  have F66 := (EB57.wr W59)
  have F67 := (FB57_elementData.other W59 (Or.inl (Ne.symm (Nat.ne_of_lt (by omega)))))
  have F68 := (FB57_size.other W59 (Or.inl (Ne.symm (Nat.ne_of_lt (by omega)))))
  have F69 := (FB57_modCount.other W59 (Or.inl (Ne.symm (Nat.ne_of_lt (by omega)))))
  have F70 := (RaQ55.other W59 (Ne.symm (Nat.ne_of_lt (by omega))))
  have F71 := (IaQ55.other W59 (Ne.symm (Nat.ne_of_lt (by omega))))
  have F72 := (ExQ55.wr W59)
  have F73 := (OlQ55.wr W59 gOQ55)
  exact lp (((len % (8 : Int64)).toInt32 + x2).toInt / 8 - 1).toNat T59 hh59 _ X59 e59 N59 Z60 1 ⟨pgQ55, pageQ55, arrQ55, _, _, _, _, ⟨F61, F62, F63, F64, Fw59, F65⟩, ⟨F66, F67, F68, F69⟩, F70, F71, F72, ⟨oaQ55, obQ55, ocQ55⟩, gOQ55, F73, l0Q55, l1Q55⟩ _ (own_dec9 _ hb hbits) (own_k6 _ hbits)
set_option maxRecDepth 65536 in
set_option maxHeartbeats 40000000 in
theorem rmApPP (l : Launch) (Z : State) (a0 : Array Value) (hw : ∀ d ∈ tables_1, d.before a0 Z = true) (ws : List Jvm.Cond) (x0 : Nat) (x1 : Int64) (x2 : Int32) (cap len : Int64) (B : Nat) (h0 : Heap) (n0 : Nat) (Z0 : n0 ≤ h0.size) (P0 : own_SP Z h0 n0 x0 cap len B) (hX : ¬ cap < (len + x2.toInt64)) (hbits : 0 ≤ ((len % (8 : Int64)).toInt32 + x2).toInt ∧ ((len % (8 : Int64)).toInt32 + x2).toInt ≤ 63) (hB : B ≤ 50000) :
    MetFree l (⟨"com/example/narrow_sieve/narrowsieve/format/BitBuffer", "append", "(JI)V"⟩ : MethodName) (head1 (Jvm.Cond.code (⟨"com/example/narrow_sieve/narrowsieve/format/BitBuffer", "append", "(JI)V"⟩ : MethodName) prog_4_method_4_code 5 none :: ws) ({ frames := 6, cells := 0, slots := 0, locals := 82 } : Room)) (fun a U => a = #[(.ref x0), (.long x1), (.int x2)] ∧ Z.Warmed39 U.vm ∧ U.heap = h0) (fun _ _ _ _ _ => True) (fun _ U o U' => ∃ v L, o = .returned v ∧ (own_QP Z n0 x0 cap (len + x2.toInt64) (B + 7)) v U'.heap L ∧ FrameEnd U o U' L ({ frames := 6, cells := 0, slots := 0, locals := 82 } : Room).cells ({ frames := 6, cells := 0, slots := 0, locals := 82 } : Room).slots) := by
  refine own_body (own := "com/example/narrow_sieve/narrowsieve/format/BitBuffer") (plainFor_of_name pn_5) rfl (fun m => ef_7 m x0 x1 x2) ?_
  intro p e s m below meth c T0 hx hby hml hown hnm hlk hret hZ X0 e0
  have w_3 := hw _ (List.mem_of_getElem? (i := 3) rfl)
  have w_4 := hw _ (List.mem_of_getElem? (i := 4) rfl)
  have w_36 := hw _ (List.mem_of_getElem? (i := 36) rfl)
  have w_37 := hw _ (List.mem_of_getElem? (i := 37) rfl)
  have w_38 := hw _ (List.mem_of_getElem? (i := 38) rfl)
  have w_42 := hw _ (List.mem_of_getElem? (i := 42) rfl)
  have w_44 := hw _ (List.mem_of_getElem? (i := 44) rfl)
  have w_45 := hw _ (List.mem_of_getElem? (i := 45) rfl)
  have w_46 := hw _ (List.mem_of_getElem? (i := 46) rfl)
  have w_52 := hw _ (List.mem_of_getElem? (i := 52) rfl)
  have w_53 := hw _ (List.mem_of_getElem? (i := 53) rfl)
  have w_65 := hw _ (List.mem_of_getElem? (i := 65) rfl)
  have w_66 := hw _ (List.mem_of_getElem? (i := 66) rfl)
  have w_67 := hw _ (List.mem_of_getElem? (i := 67) rfl)
  have w_68 := hw _ (List.mem_of_getElem? (i := 68) rfl)
  have w_115 := hw _ (List.mem_of_getElem? (i := 115) rfl)
  have N0 := Fr.nil n0
  have lp : ∀ (k : Nat), ∀ (Tk1 : State), ∀ (hk1 : Heap), ∀ (lck1 : List Loc), ∀ (Xk1 : Stand p l e ({ frames := 6, cells := 0, slots := 0, locals := 82 } : Room) s m #[(.ref x0), (.long x1), (.int x2)] below meth c Tk1 lck1 0 0), ∀ (ek1 : Tk1.heap = hk1), ∀ (Nk1 : Fr n0 lck1), ∀ (Zk1 : n0 ≤ hk1.size), ∀ (C3 : Nat), ∀ (hS : own_SP Z hk1 n0 x0 cap (len + x2.toInt64) C3), ∀ (iv : Int32), ∀ (hiv : 8 * k ≤ iv.toInt ∧ iv.toInt < 8 * k + 8), ∀ (hC : C3 + k ≤ (B + 7)), own_Gl p e below s (own_QP Z n0 x0 cap (len + x2.toInt64) (B + 7)) ({ frames := 6, cells := 0, slots := 0, locals := 82 } : Room).cells ({ frames := 6, cells := 0, slots := 0, locals := 82 } : Room).slots (Tk1.setTop (mkF m 71 #[.val (.ref x0), .val (.long x1), .second, .val (.int x2), .val (.int iv)] [])) := by
    intro k
    induction k with
    | zero =>
      intro Tk1 hk1 lck1 Xk1 ek1 Nk1 Zk1 C3 hS iv hiv hC
      refine g_iload Xk1.here hx (Jvm.hb hby d7_71) (pc' := 73) rfl rfl ?_
      refine g_bipush Xk1.here hx (Jvm.hb hby d7_73) (pc' := 75) rfl (z := (8 : Int32)) rfl ?_
      refine g_icY Xk1.here hx (Jvm.hb hby d7_75) (by decide) (pc' := 105) (by decide) (tlt (own_z8 iv hiv)).1 ?_
      exact g_retV Xk1 hx hlk hret (Jvm.hb hby d7_105) (Nat.zero_le _) (Nat.zero_le _) (by rw [ek1]; exact ⟨rfl, Nk1, hS.wide hC⟩)
    | succ k ih =>
      intro Tk1 hk1 lck1 Xk1 ek1 Nk1 Zk1 C3 hS iv hiv hC
      refine g_iload Xk1.here hx (Jvm.hb hby d7_71) (pc' := 73) rfl rfl ?_
      refine g_bipush Xk1.here hx (Jvm.hb hby d7_73) (pc' := 75) rfl (z := (8 : Int32)) rfl ?_
      refine g_icN Xk1.here hx (Jvm.hb hby d7_75) (pc' := 78) rfl (flt (own_s8 iv k hiv)).1 ?_
      refine g_aloadN Xk1.here hx (Jvm.hb hby d7_78) (pc' := 79) rfl rfl rfl ?_
      refine g_aloadN Xk1.here hx (Jvm.hb hby d7_79) (pc' := 80) rfl rfl rfl ?_
      obtain ⟨pgQ2, pageQ2, arrQ2, peQ2, lpQ2, mcQ2, fQ2, BfQ2, LiQ2, RaQ2, IaQ2, ExQ2, ⟨oaQ2, obQ2, ocQ2⟩, gOQ2, OlQ2, l0Q2, l1Q2⟩ := id hS
      obtain ⟨EB3, FB3_pages, FB3_capacity, FB3_length, FB3_pending, FB3_lastPageBytes⟩ := BfQ2
      obtain ⟨EB4, FB4_elementData, FB4_size, FB4_modCount⟩ := LiQ2
      have gAQ2 : n0 ≤ pgQ2 ∧ n0 ≤ pageQ2 ∧ n0 ≤ arrQ2 := by omega
      refine g_getF Xk1 hx hZ hown (host := "") (Or.inl w_52) Via.refl ek1 FB3_pending (Jvm.hb hby d7_80) (pc' := 83) rfl ?_
      intro T5 X5 e5
      refine g_l2i X5.here hx (Jvm.hb hby d7_83) (pc' := 84) rfl ?_
      refine g_i2b X5.here hx (Jvm.hb hby d7_84) (pc' := 85) rfl ?_
      refine g_callPr X5 hx hZ hown w_65 (own_selP (yo := (⟨"com/example/narrow_sieve/narrowsieve/format/BitBuffer", "byteLength", "()J"⟩ : MethodName)) hZ rfl rfl w_42 w_66 w_67 (by decide)) w_66 w_67 w_4 w_68 (by decide) (rmPutP l Z a0 hw [] x0 ((peQ2.toInt32).toInt8.toInt32) cap (len + x2.toInt64) C3 hk1 n0 Zk1 hS (own_c6 C3 k B 0 hC hB)) 0 (by decide) (by decide) e5 EB3 (by rw [hml]; rfl) [(.int ((peQ2.toInt32).toInt8.toInt32))] [] (lenOf pd_10 rfl) rfl rfl (Nat.le_of_eq rfl) (Jvm.hb hby d7_85) (pc' := 88) rfl (cells' := 0) (slots' := 0) rfl rfl (by decide) (by decide) ?_
      intro v6 T6 L6 X6 hQ6
      obtain ⟨rfl, Nq6, hS6⟩ := hQ6
      have N6 := Fr.app Nk1 Nq6
      have Zh6 : n0 ≤ T6.heap.size := own_zsz hS6
      obtain ⟨pgQ7, pageQ7, arrQ7, peQ7, lpQ7, mcQ7, fQ7, BfQ7, LiQ7, RaQ7, IaQ7, ExQ7, ⟨oaQ7, obQ7, ocQ7⟩, gOQ7, OlQ7, l0Q7, l1Q7⟩ := hS6
      obtain ⟨EB8, FB8_pages, FB8_capacity, FB8_length, FB8_pending, FB8_lastPageBytes⟩ := BfQ7
      obtain ⟨EB9, FB9_elementData, FB9_size, FB9_modCount⟩ := LiQ7
      have gAQ7 : n0 ≤ pgQ7 ∧ n0 ≤ pageQ7 ∧ n0 ≤ arrQ7 := by omega
      show own_Gl p e below s (own_QP Z n0 x0 cap (len + x2.toInt64) (B + 7)) ({ frames := 6, cells := 0, slots := 0, locals := 82 } : Room).cells ({ frames := 6, cells := 0, slots := 0, locals := 82 } : Room).slots (T6.setTop (mkF m 88 #[.val (.ref x0), .val (.long x1), .second, .val (.int x2), .val (.int iv)] []))
      refine g_aloadN X6.here hx (Jvm.hb hby d7_88) (pc' := 89) rfl rfl rfl ?_
      refine g_dup X6.here hx (Jvm.hb hby d7_89) (pc' := 90) rfl rfl ?_
      refine g_getF X6 hx hZ hown (host := "") (Or.inl w_52) Via.refl rfl FB8_pending (Jvm.hb hby d7_90) (pc' := 93) rfl ?_
      intro T10 X10 e10
      refine g_bipush X10.here hx (Jvm.hb hby d7_93) (pc' := 95) rfl (z := (8 : Int32)) rfl ?_
      refine g_lushr X10.here hx (Jvm.hb hby d7_95) (pc' := 96) rfl ?_
      refine g_putF X10 hx hZ hown (host := "") (Or.inl w_52) Via.refl e10 FB8_pending EB8 (Or.inl w_53) w_3 (ty := .long) (by decide) rfl rfl (Jvm.hb hby d7_96) (pc' := 99) rfl ?_
      intro T11 hh11 X11 e11 W11
      have Fw11 := FB8_pending.same W11
      have N11 := Fr.snoc X11 N6 gOQ7
      have Z12 : n0 ≤ hh11.size := (by rw [W11.size]; exact Zh6)
      refine g_iinc X11.here hx (Jvm.hb hby d7_99) (pc' := 102) rfl (z := (-8 : Int32)) rfl rfl (L' := #[.val (.ref x0), .val (.long x1), .second, .val (.int x2), .val (.int (iv + (-8 : Int32)))]) rfl ?_
      refine g_goto X11.here hx (Jvm.hb hby d7_102) (by decide) (pc' := 71) (by decide) ?_
      have F13 := (EB8.wr W11)
      have F14 := (FB8_pages.other W11 (Or.inr (slot_ne (Or.inr w_36) (Or.inl w_53) (by decide) (t := (.object "java/util/List")) (t' := .long) (by decide) (by decide))))
      have F15 := (FB8_capacity.other W11 (Or.inr (slot_ne (Or.inr w_38) (Or.inl w_53) (by decide) (t := .long) (t' := .long) (by decide) (by decide))))
      have F16 := (FB8_length.other W11 (Or.inr (slot_ne (Or.inl w_45) (Or.inl w_53) (by decide) (t := .long) (t' := .long) (by decide) (by decide))))
      have F17 := (FB8_lastPageBytes.other W11 (Or.inr (slot_ne (Or.inl w_115) (Or.inl w_53) (by decide) (t := .int) (t' := .long) (by decide) (by decide))))
      have F18 := (EB9.wr W11)
      have F19 := (FB9_elementData.other W11 (Or.inl (Ne.symm (Nat.ne_of_lt (by omega)))))
      have F20 := (FB9_size.other W11 (Or.inl (Ne.symm (Nat.ne_of_lt (by omega)))))
      have F21 := (FB9_modCount.other W11 (Or.inl (Ne.symm (Nat.ne_of_lt (by omega)))))
      have F22 := (RaQ7.other W11 (Ne.symm (Nat.ne_of_lt (by omega))))
      have F23 := (IaQ7.other W11 (Ne.symm (Nat.ne_of_lt (by omega))))
      have F24 := (ExQ7.wr W11)
      have F25 := (OlQ7.wr W11 gOQ7)
      exact ih T11 hh11 _ X11 e11 N11 Z12 (C3 + 1) ⟨pgQ7, pageQ7, arrQ7, _, _, _, _, ⟨F13, F14, F15, F16, Fw11, F17⟩, ⟨F18, F19, F20, F21⟩, F22, F23, F24, ⟨oaQ7, obQ7, ocQ7⟩, gOQ7, F25, l0Q7, l1Q7⟩ _ (own_dec8 iv k hiv) (own_sw _ _ _ hC)
  obtain ⟨pgQ26, pageQ26, arrQ26, peQ26, lpQ26, mcQ26, fQ26, BfQ26, LiQ26, RaQ26, IaQ26, ExQ26, ⟨oaQ26, obQ26, ocQ26⟩, gOQ26, OlQ26, l0Q26, l1Q26⟩ := P0
  obtain ⟨EB27, FB27_pages, FB27_capacity, FB27_length, FB27_pending, FB27_lastPageBytes⟩ := BfQ26
  obtain ⟨EB28, FB28_elementData, FB28_size, FB28_modCount⟩ := LiQ26
  have gAQ26 : n0 ≤ pgQ26 ∧ n0 ≤ pageQ26 ∧ n0 ≤ arrQ26 := by omega
  refine g_aloadN X0.here hx (Jvm.hb hby d7_0) (pc' := 1) rfl rfl rfl ?_
  refine g_getF X0 hx hZ hown (host := "") (Or.inl w_44) Via.refl e0 FB27_length (Jvm.hb hby d7_1) (pc' := 4) rfl ?_
  intro T29 X29 e29
  refine g_iloadN X29.here hx (Jvm.hb hby d7_4) (pc' := 5) rfl rfl ?_
  refine g_i2l X29.here hx (Jvm.hb hby d7_5) (pc' := 6) rfl ?_
  refine g_ladd X29.here hx (Jvm.hb hby d7_6) (pc' := 7) rfl ?_
  refine g_aloadN X29.here hx (Jvm.hb hby d7_7) (pc' := 8) rfl rfl rfl ?_
  refine g_getF X29 hx hZ hown (host := "") (Or.inl w_37) Via.refl e29 FB27_capacity (Jvm.hb hby d7_8) (pc' := 11) rfl ?_
  intro T30 X30 e30
  refine g_lcmp X30.here hx (Jvm.hb hby d7_11) (pc' := 12) rfl ?_
  refine g_ifY X30.here hx (Jvm.hb hby d7_12) (by decide) (pc' := 27) (by decide) (own_fltL hX).2.2.2 ?_
  refine g_aloadN X30.here hx (Jvm.hb hby d7_27) (pc' := 28) rfl rfl rfl ?_
  refine g_getF X30 hx hZ hown (host := "") (Or.inl w_44) Via.refl e30 FB27_length (Jvm.hb hby d7_28) (pc' := 31) rfl ?_
  intro T31 X31 e31
  refine g_ldc2 X31 hx hZ hown w_46 (Jvm.hb hby d7_31) (pc' := 34) rfl ?_
  refine g_lrem X31.here hx (Jvm.hb hby d7_34) (pc' := 35) rfl (by decide) ?_
  refine g_l2i X31.here hx (Jvm.hb hby d7_35) (pc' := 36) rfl ?_
  refine g_iloadN X31.here hx (Jvm.hb hby d7_36) (pc' := 37) rfl rfl ?_
  refine g_iadd X31.here hx (Jvm.hb hby d7_37) (pc' := 38) rfl ?_
  refine g_istore X31.here hx (Jvm.hb hby d7_38) (pc' := 40) rfl (L' := #[.val (.ref x0), .val (.long x1), .second, .val (.int x2), .val (.int (((len % (8 : Int64)).toInt32) + x2))]) rfl ?_
  refine g_aloadN X31.here hx (Jvm.hb hby d7_40) (pc' := 41) rfl rfl rfl ?_
  refine g_dup X31.here hx (Jvm.hb hby d7_41) (pc' := 42) rfl rfl ?_
  refine g_getF X31 hx hZ hown (host := "") (Or.inl w_52) Via.refl e31 FB27_pending (Jvm.hb hby d7_42) (pc' := 45) rfl ?_
  intro T32 X32 e32
  refine g_lloadN X32.here hx (Jvm.hb hby d7_45) (pc' := 46) rfl rfl ?_
  refine g_aloadN X32.here hx (Jvm.hb hby d7_46) (pc' := 47) rfl rfl rfl ?_
  refine g_getF X32 hx hZ hown (host := "") (Or.inl w_44) Via.refl e32 FB27_length (Jvm.hb hby d7_47) (pc' := 50) rfl ?_
  intro T33 X33 e33
  refine g_ldc2 X33 hx hZ hown w_46 (Jvm.hb hby d7_50) (pc' := 53) rfl ?_
  refine g_lrem X33.here hx (Jvm.hb hby d7_53) (pc' := 54) rfl (by decide) ?_
  refine g_l2i X33.here hx (Jvm.hb hby d7_54) (pc' := 55) rfl ?_
  refine g_lshl X33.here hx (Jvm.hb hby d7_55) (pc' := 56) rfl ?_
  refine g_lor X33.here hx (Jvm.hb hby d7_56) (pc' := 57) rfl ?_
  refine g_putF X33 hx hZ hown (host := "") (Or.inl w_52) Via.refl e33 FB27_pending EB27 (Or.inl w_53) w_3 (ty := .long) (by decide) rfl rfl (Jvm.hb hby d7_57) (pc' := 60) rfl ?_
  intro T34 hh34 X34 e34 W34
  have Fw34 := FB27_pending.same W34
  have N34 := Fr.snoc X34 N0 gOQ26
  have Z35 : n0 ≤ hh34.size := (by rw [W34.size]; exact Z0)
  have z36 : h0.size ≤ hh34.size := (by rw [W34.size]; exact (Nat.le_refl _))
  refine g_aloadN X34.here hx (Jvm.hb hby d7_60) (pc' := 61) rfl rfl rfl ?_
  refine g_dup X34.here hx (Jvm.hb hby d7_61) (pc' := 62) rfl rfl ?_
  have F37 := (FB27_length.other W34 (Or.inr (slot_ne (Or.inl w_45) (Or.inl w_53) (by decide) (t := .long) (t' := .long) (by decide) (by decide))))
  refine g_getF X34 hx hZ hown (host := "") (Or.inl w_44) Via.refl e34 F37 (Jvm.hb hby d7_62) (pc' := 65) rfl ?_
  intro T38 X38 e38
  refine g_iloadN X38.here hx (Jvm.hb hby d7_65) (pc' := 66) rfl rfl ?_
  refine g_i2l X38.here hx (Jvm.hb hby d7_66) (pc' := 67) rfl ?_
  refine g_ladd X38.here hx (Jvm.hb hby d7_67) (pc' := 68) rfl ?_
  have F39 := (EB27.wr W34)
  refine g_putF X38 hx hZ hown (host := "") (Or.inl w_44) Via.refl e38 F37 F39 (Or.inl w_45) w_3 (ty := .long) (by decide) rfl rfl (Jvm.hb hby d7_68) (pc' := 71) rfl ?_
  intro T40 hh40 X40 e40 W40
  have Fw40 := F37.same W40
  have N40 := Fr.snoc X40 N34 gOQ26
  have Z41 : n0 ≤ hh40.size := (by rw [W40.size]; exact Z35)
  have z42 : h0.size ≤ hh40.size := (by rw [W40.size]; exact z36)
  have F43 := (F39.wr W40)
  have F44 := ((FB27_pages.other W34 (Or.inr (slot_ne (Or.inr w_36) (Or.inl w_53) (by decide) (t := (.object "java/util/List")) (t' := .long) (by decide) (by decide)))).other W40 (Or.inr (slot_ne (Or.inr w_36) (Or.inl w_45) (by decide) (t := (.object "java/util/List")) (t' := .long) (by decide) (by decide))))
  have F45 := ((FB27_capacity.other W34 (Or.inr (slot_ne (Or.inr w_38) (Or.inl w_53) (by decide) (t := .long) (t' := .long) (by decide) (by decide)))).other W40 (Or.inr (slot_ne (Or.inr w_38) (Or.inl w_45) (by decide) (t := .long) (t' := .long) (by decide) (by decide))))
  have F46 := (Fw34.other W40 (Or.inr (slot_ne (Or.inl w_53) (Or.inl w_45) (by decide) (t := .long) (t' := .long) (by decide) (by decide))))
  have F47 := ((FB27_lastPageBytes.other W34 (Or.inr (slot_ne (Or.inl w_115) (Or.inl w_53) (by decide) (t := .int) (t' := .long) (by decide) (by decide)))).other W40 (Or.inr (slot_ne (Or.inl w_115) (Or.inl w_45) (by decide) (t := .int) (t' := .long) (by decide) (by decide))))
  have F48 := ((EB28.wr W34).wr W40)
  have F49 := ((FB28_elementData.other W34 (Or.inl (Ne.symm (Nat.ne_of_lt (by omega))))).other W40 (Or.inl (Ne.symm (Nat.ne_of_lt (by omega)))))
  have F50 := ((FB28_size.other W34 (Or.inl (Ne.symm (Nat.ne_of_lt (by omega))))).other W40 (Or.inl (Ne.symm (Nat.ne_of_lt (by omega)))))
  have F51 := ((FB28_modCount.other W34 (Or.inl (Ne.symm (Nat.ne_of_lt (by omega))))).other W40 (Or.inl (Ne.symm (Nat.ne_of_lt (by omega)))))
  have F52 := ((RaQ26.other W34 (Ne.symm (Nat.ne_of_lt (by omega)))).other W40 (Ne.symm (Nat.ne_of_lt (by omega))))
  have F53 := ((IaQ26.other W34 (Ne.symm (Nat.ne_of_lt (by omega)))).other W40 (Ne.symm (Nat.ne_of_lt (by omega))))
  have F54 := ((ExQ26.wr W34).wr W40)
  have F55 := ((OlQ26.wr W34 gOQ26).wr W40 gOQ26)
  exact lp (((len % (8 : Int64)).toInt32 + x2).toInt / 8).toNat T40 hh40 _ X40 e40 N40 Z41 B ⟨pgQ26, pageQ26, arrQ26, _, _, _, _, ⟨F43, F44, F45, Fw40, F46, F47⟩, ⟨F48, F49, F50, F51⟩, F52, F53, F54, ⟨oaQ26, obQ26, ocQ26⟩, gOQ26, F55, l0Q26, l1Q26⟩ _ (own_k8 _ hbits) (own_k7 _ _ hbits)
theorem own_SE.exa {Z : State} {h : Heap} {n0 o d : Nat} {cap len : Int64} (q : own_SE Z h n0 o d cap len) : Exa Z h o "com/example/narrow_sieve/narrowsieve/format/BitBuffer" := by
  obtain ⟨_, _, _, b, _⟩ := q; exact b.1
theorem own_SE.fc {Z : State} {h : Heap} {n0 o d : Nat} {cap len : Int64} (q : own_SE Z h n0 o d cap len) : Fld Z h o "com/example/narrow_sieve/narrowsieve/format/BitBuffer" "capacity" "J" (.long cap) := by
  obtain ⟨_, _, _, b, _⟩ := q; exact b.2.2.1
theorem own_SE.fl {Z : State} {h : Heap} {n0 o d : Nat} {cap len : Int64} (q : own_SE Z h n0 o d cap len) : Fld Z h o "com/example/narrow_sieve/narrowsieve/format/BitBuffer" "length" "J" (.long len) := by
  obtain ⟨_, _, _, b, _⟩ := q; exact b.2.2.2.1
theorem own_SE.sz {Z : State} {h : Heap} {n0 o d : Nat} {cap len : Int64} (q : own_SE Z h n0 o d cap len) : n0 ≤ h.size := by
  obtain ⟨_, _, _, _, _, _, _, Oq⟩ := q; rw [← Oq.1]; exact Oq.2.1
theorem own_SP.exa {Z : State} {h : Heap} {n0 o : Nat} {cap len : Int64} {B : Nat} (q : own_SP Z h n0 o cap len B) : Exa Z h o "com/example/narrow_sieve/narrowsieve/format/BitBuffer" := by
  obtain ⟨_, _, _, _, _, _, _, b, _⟩ := q; exact b.1
theorem own_SP.fc {Z : State} {h : Heap} {n0 o : Nat} {cap len : Int64} {B : Nat} (q : own_SP Z h n0 o cap len B) : Fld Z h o "com/example/narrow_sieve/narrowsieve/format/BitBuffer" "capacity" "J" (.long cap) := by
  obtain ⟨_, _, _, _, _, _, _, b, _⟩ := q; exact b.2.2.1
theorem own_SP.fl {Z : State} {h : Heap} {n0 o : Nat} {cap len : Int64} {B : Nat} (q : own_SP Z h n0 o cap len B) : Fld Z h o "com/example/narrow_sieve/narrowsieve/format/BitBuffer" "length" "J" (.long len) := by
  obtain ⟨_, _, _, _, _, _, _, b, _⟩ := q; exact b.2.2.2.1
/-- the width of one turn -/
theorem own_zw (lf : Int64) (w : Int32) (hw : (f_min lf (56 : Int64)).toInt32 = w) (h : (0 : Int64) < lf) : 1 ≤ w.toInt ∧ w.toInt ≤ 56 ∧ w.toInt ≤ lf.toInt ∧ (lf.toInt ≤ 56 → w.toInt = lf.toInt) ∧ (56 ≤ lf.toInt → w.toInt = 56) := by
  have e := c_l2i (f_min lf (56 : Int64))
  have r := rng32 w
  rw [hw] at e
  rw [Int64.lt_iff_toInt_lt] at h
  have c : (f_min lf (56 : Int64)).toInt = if (56 : Int) < lf.toInt then 56 else lf.toInt := by
    rw [f_min]
    by_cases q : (56 : Int64) < lf
    · rw [if_pos q]; rw [Int64.lt_iff_toInt_lt] at q; simp only [Int64.reduceToInt] at q ⊢; rw [if_pos q]
    · rw [if_neg q]; rw [Int64.lt_iff_toInt_lt] at q; simp only [Int64.reduceToInt] at q; rw [if_neg q]
  simp only [Int64.reduceToInt] at h
  rw [c] at e
  split at e <;> omega
theorem own_ladd (a b : Int64) (h : -9223372036854775808 ≤ a.toInt + b.toInt ∧ a.toInt + b.toInt < 9223372036854775808) : (a + b).toInt = a.toInt + b.toInt := by
  have e := c_ladd a b
  have r := rng64 (a + b)
  omega
theorem own_lsub (a b : Int64) (h : -9223372036854775808 ≤ a.toInt - b.toInt ∧ a.toInt - b.toInt < 9223372036854775808) : (a - b).toInt = a.toInt - b.toInt := by
  have e := c_lsub a b
  have r := rng64 (a - b)
  omega
theorem own_lrem8 (len : Int64) (h : 0 ≤ len.toInt) : (len % (8 : Int64)).toInt = len.toInt % 8 := by
  have k8 : (8 : Int64).toInt = 8 := by decide
  rw [Int64.toInt_mod, k8, Int.tmod_eq_emod_of_nonneg h]
theorem own_bits (len : Int64) (w : Int32) (hl : 0 ≤ len.toInt) (hw : 0 ≤ w.toInt ∧ w.toInt ≤ 56) : ((len % (8 : Int64)).toInt32 + w).toInt = len.toInt % 8 + w.toInt := by
  have e := c_iadd (len % (8 : Int64)).toInt32 w
  have e2 := c_l2i (len % (8 : Int64))
  have r := rng32 ((len % (8 : Int64)).toInt32 + w)
  have r2 := rng32 (len % (8 : Int64)).toInt32
  rw [own_lrem8 len hl] at e2
  omega
theorem own_bits2 (len : Int64) (w : Int32) (hl : 0 ≤ len.toInt) (hw : 0 ≤ w.toInt ∧ w.toInt ≤ 56) : 0 ≤ ((len % (8 : Int64)).toInt32 + w).toInt ∧ ((len % (8 : Int64)).toInt32 + w).toInt ≤ 63 := by
  have e := own_bits len w hl hw
  omega
theorem own_bits8 (len : Int64) (w : Int32) (hl : 0 ≤ len.toInt) (hw : 0 ≤ w.toInt ∧ w.toInt ≤ 56) : ((len % (8 : Int64)).toInt32 + w) < (8 : Int32) ↔ len.toInt % 8 + w.toInt < 8 := by
  have e := own_bits len w hl hw
  rw [Int32.lt_iff_toInt_lt, e]; simp only [Int32.reduceToInt]
/-- the loop's measure -/
def own_ZI (cap len x1 ln lf : Int64) (k : Nat) : Prop := 0 ≤ lf.toInt ∧ lf.toInt ≤ 56 * (k : Int) ∧ 0 ≤ ln.toInt ∧ ln.toInt + lf.toInt = (len + x1).toInt ∧ (len + x1).toInt ≤ cap.toInt
theorem own_ZI.start {cap len x1 : Int64} (hX : ¬ cap < len + x1) (hz : 0 ≤ x1.toInt ∧ x1.toInt ≤ 56 * 10 ∧ 0 ≤ len.toInt ∧ len.toInt ≤ 4611686018427387904) : own_ZI cap len x1 len x1 10 := by
  have e := own_ladd len x1 (by omega)
  rw [Int64.lt_iff_toInt_lt] at hX
  unfold own_ZI
  omega
theorem own_ZI.over {cap len x1 ln lf : Int64} {k : Nat} (h : own_ZI cap len x1 ln lf k) (h0 : ¬ (0 : Int64) < lf) : ln = len + x1 := by
  rw [Int64.lt_iff_toInt_lt] at h0
  simp only [Int64.reduceToInt] at h0
  unfold own_ZI at h
  apply Int64.toInt_inj.mp
  omega
theorem own_ZI.none {cap len x1 ln lf : Int64} (h : own_ZI cap len x1 ln lf 0) : ¬ (0 : Int64) < lf := by
  rw [Int64.lt_iff_toInt_lt]
  simp only [Int64.reduceToInt]
  unfold own_ZI at h
  omega
theorem own_ZI.fits {cap len x1 ln lf : Int64} {k : Nat} {w : Int32} (h : own_ZI cap len x1 ln lf k) (hw : 1 ≤ w.toInt ∧ w.toInt ≤ 56 ∧ w.toInt ≤ lf.toInt ∧ (lf.toInt ≤ 56 → w.toInt = lf.toInt) ∧ (56 ≤ lf.toInt → w.toInt = 56)) : ¬ cap < ln + w.toInt64 := by
  have e := own_ladd ln w.toInt64
  have r := rng64 cap
  rw [c_i2l] at e
  rw [Int64.lt_iff_toInt_lt]
  unfold own_ZI at h
  omega
theorem own_ZI.next {cap len x1 ln lf : Int64} {k : Nat} {w : Int32} (h : own_ZI cap len x1 ln lf (k + 1)) (hw : 1 ≤ w.toInt ∧ w.toInt ≤ 56 ∧ w.toInt ≤ lf.toInt ∧ (lf.toInt ≤ 56 → w.toInt = lf.toInt) ∧ (56 ≤ lf.toInt → w.toInt = 56)) : own_ZI cap len x1 (ln + w.toInt64) (lf - w.toInt64) k := by
  have e := own_ladd ln w.toInt64
  have e2 := own_lsub lf w.toInt64
  have r := rng64 cap
  have r2 := rng64 lf
  rw [c_i2l] at e e2
  unfold own_ZI at h ⊢
  omega
theorem own_ZI.pos {cap len x1 ln lf : Int64} {k : Nat} (h : own_ZI cap len x1 ln lf k) : 0 ≤ ln.toInt := h.2.2.1
theorem own_w56 {lf : Int64} {w : Int32} (hw : 1 ≤ w.toInt ∧ w.toInt ≤ 56 ∧ w.toInt ≤ lf.toInt ∧ (lf.toInt ≤ 56 → w.toInt = lf.toInt) ∧ (56 ≤ lf.toInt → w.toInt = 56)) : 0 ≤ w.toInt ∧ w.toInt ≤ 56 := ⟨by omega, hw.2.1⟩
theorem own_zC (C k B : Nat) (h : C + 7 * (k + 1) ≤ B) : C + 7 + 7 * k ≤ B := by omega
theorem own_zB (C k B : Nat) (h : C + 7 * k ≤ B) (h2 : B ≤ 50000) : C ≤ 50000 := by omega
theorem own_zW (C k B : Nat) (h : C + 7 * k ≤ B) : C + 0 ≤ B := by omega
theorem own_zE1 {len lf : Int64} {w : Int32} (hl : 0 ≤ len.toInt) (hb : len.toInt % 8 + lf.toInt < 8) (hw : 1 ≤ w.toInt ∧ w.toInt ≤ 56 ∧ w.toInt ≤ lf.toInt ∧ (lf.toInt ≤ 56 → w.toInt = lf.toInt) ∧ (56 ≤ lf.toInt → w.toInt = 56)) : ((len % (8 : Int64)).toInt32 + w) < (8 : Int32) := by
  rw [own_bits8 len w hl (own_w56 hw)]; omega
theorem own_zE2 {len lf : Int64} {w : Int32} (hl : 0 ≤ len.toInt) (hb : ¬ len.toInt % 8 + lf.toInt < 8) (hw : 1 ≤ w.toInt ∧ w.toInt ≤ 56 ∧ w.toInt ≤ lf.toInt ∧ (lf.toInt ≤ 56 → w.toInt = lf.toInt) ∧ (56 ≤ lf.toInt → w.toInt = 56)) : ¬ ((len % (8 : Int64)).toInt32 + w) < (8 : Int32) := by
  rw [own_bits8 len w hl (own_w56 hw)]; omega
theorem own_zE3 {len lf : Int64} (hl : 0 ≤ len.toInt) (hb : ¬ len.toInt % 8 + lf.toInt < 8) : (0 : Int64) < lf := by
  rw [Int64.lt_iff_toInt_lt]; simp only [Int64.reduceToInt]; omega
theorem own_zE4 {cap len x1 : Int64} {w : Int32} (h : own_ZI cap len x1 len x1 10) (hb : len.toInt % 8 + x1.toInt < 8) (hw : 1 ≤ w.toInt ∧ w.toInt ≤ 56 ∧ w.toInt ≤ x1.toInt ∧ (x1.toInt ≤ 56 → w.toInt = x1.toInt) ∧ (56 ≤ x1.toInt → w.toInt = 56)) : ¬ (0 : Int64) < x1 - w.toInt64 := by
  have e2 := own_lsub x1 w.toInt64
  rw [c_i2l] at e2
  rw [Int64.lt_iff_toInt_lt]; simp only [Int64.reduceToInt]
  unfold own_ZI at h
  omega
theorem d9_0 : decode prog_4_method_5_code 0 = .ok (.lload_n 1, 1) := by decide +kernel
theorem d9_1 : decode prog_4_method_5_code 1 = .ok (.lstore_n 3, 1) := by decide +kernel
theorem d9_2 : decode prog_4_method_5_code 2 = .ok (.aload_n 0, 1) := by decide +kernel
theorem d9_3 : decode prog_4_method_5_code 3 = .ok (.getfield 20, 3) := by decide +kernel
theorem d9_6 : decode prog_4_method_5_code 6 = .ok (.lload_n 3, 1) := by decide +kernel
theorem d9_7 : decode prog_4_method_5_code 7 = .ok (.ladd, 1) := by decide +kernel
theorem d9_8 : decode prog_4_method_5_code 8 = .ok (.aload_n 0, 1) := by decide +kernel
theorem d9_9 : decode prog_4_method_5_code 9 = .ok (.getfield 16, 3) := by decide +kernel
theorem d9_12 : decode prog_4_method_5_code 12 = .ok (.lcmp, 1) := by decide +kernel
theorem d9_13 : decode prog_4_method_5_code 13 = .ok (.ifCond .le 14, 3) := by decide +kernel
theorem d9_16 : decode prog_4_method_5_code 16 = .ok (.aload_n 0, 1) := by decide +kernel
theorem d9_17 : decode prog_4_method_5_code 17 = .ok (.dup, 1) := by decide +kernel
theorem d9_18 : decode prog_4_method_5_code 18 = .ok (.getfield 20, 3) := by decide +kernel
theorem d9_21 : decode prog_4_method_5_code 21 = .ok (.lload_n 3, 1) := by decide +kernel
theorem d9_22 : decode prog_4_method_5_code 22 = .ok (.ladd, 1) := by decide +kernel
theorem d9_23 : decode prog_4_method_5_code 23 = .ok (.putfield 20, 3) := by decide +kernel
theorem d9_26 : decode prog_4_method_5_code 26 = .ok (.return_, 1) := by decide +kernel
theorem ef_9 (m : MethodId) (x0 : Addr) (x1 : Int64) : entryFrame m #[(.ref x0), (.long x1)] 6 = mkF m 0 #[.val (.ref x0), .val (.long x1), .second, .unset, .unset, .unset] [] := by first | (simp [entryFrame, mkF, argsToLocals, Value.category]; done) | rfl
set_option maxRecDepth 65536 in
set_option maxHeartbeats 40000000 in
theorem rmZsXE (l : Launch) (Z : State) (a0 : Array Value) (hw : ∀ d ∈ tables_1, d.before a0 Z = true) (ws : List Jvm.Cond) (x0 : Nat) (x1 : Int64) (d : Nat) (cap len : Int64) (h0 : Heap) (n0 : Nat) (Z0 : n0 ≤ h0.size) (P0 : own_SE Z h0 n0 x0 d cap len) (hX : cap < (len + x1)) :
    MetFree l (⟨"com/example/narrow_sieve/narrowsieve/format/BitBuffer", "appendZeros", "(J)V"⟩ : MethodName) (head1 (Jvm.Cond.code (⟨"com/example/narrow_sieve/narrowsieve/format/BitBuffer", "appendZeros", "(J)V"⟩ : MethodName) prog_4_method_5_code 6 none :: ws) ({ frames := 0, cells := 0, slots := 0, locals := 0 } : Room)) (fun a U => a = #[(.ref x0), (.long x1)] ∧ Z.Warmed39 U.vm ∧ U.heap = h0) (fun _ _ _ _ _ => True) (fun _ U o U' => ∃ v L, o = .returned v ∧ (own_QE Z n0 x0 d cap (len + x1)) v U'.heap L ∧ FrameEnd U o U' L ({ frames := 0, cells := 0, slots := 0, locals := 0 } : Room).cells ({ frames := 0, cells := 0, slots := 0, locals := 0 } : Room).slots) := by
  refine own_body (own := "com/example/narrow_sieve/narrowsieve/format/BitBuffer") (plainFor_of_name pn_5) rfl (fun m => ef_9 m x0 x1) ?_
  intro p e s m below meth c T0 hx hby hml hown hnm hlk hret hZ X0 e0
  have w_3 := hw _ (List.mem_of_getElem? (i := 3) rfl)
  have w_36 := hw _ (List.mem_of_getElem? (i := 36) rfl)
  have w_37 := hw _ (List.mem_of_getElem? (i := 37) rfl)
  have w_38 := hw _ (List.mem_of_getElem? (i := 38) rfl)
  have w_44 := hw _ (List.mem_of_getElem? (i := 44) rfl)
  have w_45 := hw _ (List.mem_of_getElem? (i := 45) rfl)
  have w_53 := hw _ (List.mem_of_getElem? (i := 53) rfl)
  have w_115 := hw _ (List.mem_of_getElem? (i := 115) rfl)
  have N0 := Fr.nil n0
  obtain ⟨pg, peQ1, mcQ1, BfQ1, LiQ1, lt_o_pg, gOQ1, OlQ1⟩ := P0
  obtain ⟨EB2, FB2_pages, FB2_capacity, FB2_length, FB2_pending, FB2_lastPageBytes⟩ := BfQ1
  obtain ⟨EB3, FB3_elementData, FB3_size, FB3_modCount⟩ := LiQ1
  have gpg : n0 ≤ pg := Nat.le_trans gOQ1 (Nat.le_of_lt lt_o_pg)
  refine g_lloadN X0.here hx (Jvm.hb hby d9_0) (pc' := 1) rfl rfl ?_
  refine g_lstoreN X0.here hx (Jvm.hb hby d9_1) (pc' := 2) rfl (L' := #[.val (.ref x0), .val (.long x1), .second, .val (.long x1), .second, .unset]) rfl ?_
  refine g_aloadN X0.here hx (Jvm.hb hby d9_2) (pc' := 3) rfl rfl rfl ?_
  refine g_getF X0 hx hZ hown (host := "") (Or.inl w_44) Via.refl e0 FB2_length (Jvm.hb hby d9_3) (pc' := 6) rfl ?_
  intro T4 X4 e4
  refine g_lloadN X4.here hx (Jvm.hb hby d9_6) (pc' := 7) rfl rfl ?_
  refine g_ladd X4.here hx (Jvm.hb hby d9_7) (pc' := 8) rfl ?_
  refine g_aloadN X4.here hx (Jvm.hb hby d9_8) (pc' := 9) rfl rfl rfl ?_
  refine g_getF X4 hx hZ hown (host := "") (Or.inl w_37) Via.refl e4 FB2_capacity (Jvm.hb hby d9_9) (pc' := 12) rfl ?_
  intro T5 X5 e5
  refine g_lcmp X5.here hx (Jvm.hb hby d9_12) (pc' := 13) rfl ?_
  refine g_ifN X5.here hx (Jvm.hb hby d9_13) (pc' := 16) rfl (own_tltL hX).2.2.2 ?_
  refine g_aloadN X5.here hx (Jvm.hb hby d9_16) (pc' := 17) rfl rfl rfl ?_
  refine g_dup X5.here hx (Jvm.hb hby d9_17) (pc' := 18) rfl rfl ?_
  refine g_getF X5 hx hZ hown (host := "") (Or.inl w_44) Via.refl e5 FB2_length (Jvm.hb hby d9_18) (pc' := 21) rfl ?_
  intro T6 X6 e6
  refine g_lloadN X6.here hx (Jvm.hb hby d9_21) (pc' := 22) rfl rfl ?_
  refine g_ladd X6.here hx (Jvm.hb hby d9_22) (pc' := 23) rfl ?_
  refine g_putF X6 hx hZ hown (host := "") (Or.inl w_44) Via.refl e6 FB2_length EB2 (Or.inl w_45) w_3 (ty := .long) (by decide) rfl rfl (Jvm.hb hby d9_23) (pc' := 26) rfl ?_
  intro T7 hh7 X7 e7 W7
  have Fw7 := FB2_length.same W7
  have N7 := Fr.snoc X7 N0 gOQ1
  have Z8 : n0 ≤ hh7.size := (by rw [W7.size]; exact Z0)
  have z9 : h0.size ≤ hh7.size := (by rw [W7.size]; exact (Nat.le_refl _))
  have F10 := (EB2.wr W7)
  have F11 := (FB2_pages.other W7 (Or.inr (slot_ne (Or.inr w_36) (Or.inl w_45) (by decide) (t := (.object "java/util/List")) (t' := .long) (by decide) (by decide))))
  have F12 := (FB2_capacity.other W7 (Or.inr (slot_ne (Or.inr w_38) (Or.inl w_45) (by decide) (t := .long) (t' := .long) (by decide) (by decide))))
  have F13 := (FB2_pending.other W7 (Or.inr (slot_ne (Or.inl w_53) (Or.inl w_45) (by decide) (t := .long) (t' := .long) (by decide) (by decide))))
  have F14 := (FB2_lastPageBytes.other W7 (Or.inr (slot_ne (Or.inl w_115) (Or.inl w_45) (by decide) (t := .int) (t' := .long) (by decide) (by decide))))
  have F15 := (EB3.wr W7)
  have F16 := (FB3_elementData.other W7 (Or.inl (Ne.symm (Nat.ne_of_lt lt_o_pg))))
  have F17 := (FB3_size.other W7 (Or.inl (Ne.symm (Nat.ne_of_lt lt_o_pg))))
  have F18 := (FB3_modCount.other W7 (Or.inl (Ne.symm (Nat.ne_of_lt lt_o_pg))))
  have F19 := (OlQ1.wr W7 gOQ1)
  exact g_retV X7 hx hlk hret (Jvm.hb hby d9_26) (Nat.zero_le _) (Nat.zero_le _) (by rw [e7]; exact ⟨rfl, N7, ⟨pg, _, _, ⟨F10, F11, F12, Fw7, F13, F14⟩, ⟨F15, F16, F17, F18⟩, lt_o_pg, gOQ1, F19⟩⟩)
set_option maxRecDepth 65536 in
set_option maxHeartbeats 40000000 in
theorem rmZsXP (l : Launch) (Z : State) (a0 : Array Value) (hw : ∀ d ∈ tables_1, d.before a0 Z = true) (ws : List Jvm.Cond) (x0 : Nat) (x1 : Int64) (cap len : Int64) (B : Nat) (h0 : Heap) (n0 : Nat) (Z0 : n0 ≤ h0.size) (P0 : own_SP Z h0 n0 x0 cap len B) (hX : cap < (len + x1)) :
    MetFree l (⟨"com/example/narrow_sieve/narrowsieve/format/BitBuffer", "appendZeros", "(J)V"⟩ : MethodName) (head1 (Jvm.Cond.code (⟨"com/example/narrow_sieve/narrowsieve/format/BitBuffer", "appendZeros", "(J)V"⟩ : MethodName) prog_4_method_5_code 6 none :: ws) ({ frames := 0, cells := 0, slots := 0, locals := 0 } : Room)) (fun a U => a = #[(.ref x0), (.long x1)] ∧ Z.Warmed39 U.vm ∧ U.heap = h0) (fun _ _ _ _ _ => True) (fun _ U o U' => ∃ v L, o = .returned v ∧ (own_QP Z n0 x0 cap (len + x1) B) v U'.heap L ∧ FrameEnd U o U' L ({ frames := 0, cells := 0, slots := 0, locals := 0 } : Room).cells ({ frames := 0, cells := 0, slots := 0, locals := 0 } : Room).slots) := by
  refine own_body (own := "com/example/narrow_sieve/narrowsieve/format/BitBuffer") (plainFor_of_name pn_5) rfl (fun m => ef_9 m x0 x1) ?_
  intro p e s m below meth c T0 hx hby hml hown hnm hlk hret hZ X0 e0
  have w_3 := hw _ (List.mem_of_getElem? (i := 3) rfl)
  have w_36 := hw _ (List.mem_of_getElem? (i := 36) rfl)
  have w_37 := hw _ (List.mem_of_getElem? (i := 37) rfl)
  have w_38 := hw _ (List.mem_of_getElem? (i := 38) rfl)
  have w_44 := hw _ (List.mem_of_getElem? (i := 44) rfl)
  have w_45 := hw _ (List.mem_of_getElem? (i := 45) rfl)
  have w_53 := hw _ (List.mem_of_getElem? (i := 53) rfl)
  have w_115 := hw _ (List.mem_of_getElem? (i := 115) rfl)
  have N0 := Fr.nil n0
  obtain ⟨pgQ1, pageQ1, arrQ1, peQ1, lpQ1, mcQ1, fQ1, BfQ1, LiQ1, RaQ1, IaQ1, ExQ1, ⟨oaQ1, obQ1, ocQ1⟩, gOQ1, OlQ1, l0Q1, l1Q1⟩ := P0
  obtain ⟨EB2, FB2_pages, FB2_capacity, FB2_length, FB2_pending, FB2_lastPageBytes⟩ := BfQ1
  obtain ⟨EB3, FB3_elementData, FB3_size, FB3_modCount⟩ := LiQ1
  have gAQ1 : n0 ≤ pgQ1 ∧ n0 ≤ pageQ1 ∧ n0 ≤ arrQ1 := by omega
  refine g_lloadN X0.here hx (Jvm.hb hby d9_0) (pc' := 1) rfl rfl ?_
  refine g_lstoreN X0.here hx (Jvm.hb hby d9_1) (pc' := 2) rfl (L' := #[.val (.ref x0), .val (.long x1), .second, .val (.long x1), .second, .unset]) rfl ?_
  refine g_aloadN X0.here hx (Jvm.hb hby d9_2) (pc' := 3) rfl rfl rfl ?_
  refine g_getF X0 hx hZ hown (host := "") (Or.inl w_44) Via.refl e0 FB2_length (Jvm.hb hby d9_3) (pc' := 6) rfl ?_
  intro T4 X4 e4
  refine g_lloadN X4.here hx (Jvm.hb hby d9_6) (pc' := 7) rfl rfl ?_
  refine g_ladd X4.here hx (Jvm.hb hby d9_7) (pc' := 8) rfl ?_
  refine g_aloadN X4.here hx (Jvm.hb hby d9_8) (pc' := 9) rfl rfl rfl ?_
  refine g_getF X4 hx hZ hown (host := "") (Or.inl w_37) Via.refl e4 FB2_capacity (Jvm.hb hby d9_9) (pc' := 12) rfl ?_
  intro T5 X5 e5
  refine g_lcmp X5.here hx (Jvm.hb hby d9_12) (pc' := 13) rfl ?_
  refine g_ifN X5.here hx (Jvm.hb hby d9_13) (pc' := 16) rfl (own_tltL hX).2.2.2 ?_
  refine g_aloadN X5.here hx (Jvm.hb hby d9_16) (pc' := 17) rfl rfl rfl ?_
  refine g_dup X5.here hx (Jvm.hb hby d9_17) (pc' := 18) rfl rfl ?_
  refine g_getF X5 hx hZ hown (host := "") (Or.inl w_44) Via.refl e5 FB2_length (Jvm.hb hby d9_18) (pc' := 21) rfl ?_
  intro T6 X6 e6
  refine g_lloadN X6.here hx (Jvm.hb hby d9_21) (pc' := 22) rfl rfl ?_
  refine g_ladd X6.here hx (Jvm.hb hby d9_22) (pc' := 23) rfl ?_
  refine g_putF X6 hx hZ hown (host := "") (Or.inl w_44) Via.refl e6 FB2_length EB2 (Or.inl w_45) w_3 (ty := .long) (by decide) rfl rfl (Jvm.hb hby d9_23) (pc' := 26) rfl ?_
  intro T7 hh7 X7 e7 W7
  have Fw7 := FB2_length.same W7
  have N7 := Fr.snoc X7 N0 gOQ1
  have Z8 : n0 ≤ hh7.size := (by rw [W7.size]; exact Z0)
  have z9 : h0.size ≤ hh7.size := (by rw [W7.size]; exact (Nat.le_refl _))
  have F10 := (EB2.wr W7)
  have F11 := (FB2_pages.other W7 (Or.inr (slot_ne (Or.inr w_36) (Or.inl w_45) (by decide) (t := (.object "java/util/List")) (t' := .long) (by decide) (by decide))))
  have F12 := (FB2_capacity.other W7 (Or.inr (slot_ne (Or.inr w_38) (Or.inl w_45) (by decide) (t := .long) (t' := .long) (by decide) (by decide))))
  have F13 := (FB2_pending.other W7 (Or.inr (slot_ne (Or.inl w_53) (Or.inl w_45) (by decide) (t := .long) (t' := .long) (by decide) (by decide))))
  have F14 := (FB2_lastPageBytes.other W7 (Or.inr (slot_ne (Or.inl w_115) (Or.inl w_45) (by decide) (t := .int) (t' := .long) (by decide) (by decide))))
  have F15 := (EB3.wr W7)
  have F16 := (FB3_elementData.other W7 (Or.inl (Ne.symm (Nat.ne_of_lt (by omega)))))
  have F17 := (FB3_size.other W7 (Or.inl (Ne.symm (Nat.ne_of_lt (by omega)))))
  have F18 := (FB3_modCount.other W7 (Or.inl (Ne.symm (Nat.ne_of_lt (by omega)))))
  have F19 := (RaQ1.other W7 (Ne.symm (Nat.ne_of_lt (by omega))))
  have F20 := (IaQ1.other W7 (Ne.symm (Nat.ne_of_lt (by omega))))
  have F21 := (ExQ1.wr W7)
  have F22 := (OlQ1.wr W7 gOQ1)
  exact g_retV X7 hx hlk hret (Jvm.hb hby d9_26) (Nat.zero_le _) (Nat.zero_le _) (by rw [e7]; exact ⟨rfl, N7, ⟨pgQ1, pageQ1, arrQ1, _, _, _, _, ⟨F10, F11, F12, Fw7, F13, F14⟩, ⟨F15, F16, F17, F18⟩, F19, F20, F21, ⟨oaQ1, obQ1, ocQ1⟩, gOQ1, F22, l0Q1, l1Q1⟩⟩)
theorem d9_27 : decode prog_4_method_5_code 27 = .ok (.lload_n 3, 1) := by decide +kernel
theorem d9_28 : decode prog_4_method_5_code 28 = .ok (.lconst 0, 1) := by decide +kernel
theorem d9_29 : decode prog_4_method_5_code 29 = .ok (.lcmp, 1) := by decide +kernel
theorem d9_30 : decode prog_4_method_5_code 30 = .ok (.ifCond .le 29, 3) := by decide +kernel
theorem d9_33 : decode prog_4_method_5_code 33 = .ok (.lload_n 3, 1) := by decide +kernel
theorem d9_34 : decode prog_4_method_5_code 34 = .ok (.ldc2_w 34, 3) := by decide +kernel
theorem d9_37 : decode prog_4_method_5_code 37 = .ok (.invokestatic 36, 3) := by decide +kernel
theorem pd_11 : parseMethodDescriptor "(JJ)J" = some ⟨[.long, .long], some .long⟩ := by decide +kernel
theorem d9_40 : decode prog_4_method_5_code 40 = .ok (.l2i, 1) := by decide +kernel
theorem d9_41 : decode prog_4_method_5_code 41 = .ok (.istore 5, 2) := by decide +kernel
theorem d9_43 : decode prog_4_method_5_code 43 = .ok (.aload_n 0, 1) := by decide +kernel
theorem d9_44 : decode prog_4_method_5_code 44 = .ok (.lconst 0, 1) := by decide +kernel
theorem d9_45 : decode prog_4_method_5_code 45 = .ok (.iload 5, 2) := by decide +kernel
theorem d9_47 : decode prog_4_method_5_code 47 = .ok (.invokevirtual 42, 3) := by decide +kernel
theorem pd_12 : parseMethodDescriptor "(JI)V" = some ⟨[.long, .int], none⟩ := by decide +kernel
theorem d9_50 : decode prog_4_method_5_code 50 = .ok (.lload_n 3, 1) := by decide +kernel
theorem d9_51 : decode prog_4_method_5_code 51 = .ok (.iload 5, 2) := by decide +kernel
theorem d9_53 : decode prog_4_method_5_code 53 = .ok (.i2l, 1) := by decide +kernel
theorem d9_54 : decode prog_4_method_5_code 54 = .ok (.lsub, 1) := by decide +kernel
theorem d9_55 : decode prog_4_method_5_code 55 = .ok (.lstore_n 3, 1) := by decide +kernel
theorem d9_56 : decode prog_4_method_5_code 56 = .ok (.goto (-29), 3) := by decide +kernel
theorem d9_59 : decode prog_4_method_5_code 59 = .ok (.return_, 1) := by decide +kernel
set_option maxRecDepth 65536 in
set_option maxHeartbeats 40000000 in
theorem rmZsEE (l : Launch) (Z : State) (a0 : Array Value) (hw : ∀ d ∈ tables_1, d.before a0 Z = true) (ws : List Jvm.Cond) (x0 : Nat) (x1 : Int64) (d : Nat) (cap len : Int64) (h0 : Heap) (n0 : Nat) (Z0 : n0 ≤ h0.size) (P0 : own_SE Z h0 n0 x0 d cap len) (hX : ¬ cap < (len + x1)) (hz : 0 ≤ x1.toInt ∧ x1.toInt ≤ 56 * 10 ∧ 0 ≤ len.toInt ∧ len.toInt ≤ 4611686018427387904) (hb : len.toInt % 8 + x1.toInt < 8) :
    MetFree l (⟨"com/example/narrow_sieve/narrowsieve/format/BitBuffer", "appendZeros", "(J)V"⟩ : MethodName) (head1 (Jvm.Cond.code (⟨"com/example/narrow_sieve/narrowsieve/format/BitBuffer", "appendZeros", "(J)V"⟩ : MethodName) prog_4_method_5_code 6 none :: ws) ({ frames := 7, cells := 0, slots := 0, locals := 98 } : Room)) (fun a U => a = #[(.ref x0), (.long x1)] ∧ Z.Warmed39 U.vm ∧ U.heap = h0) (fun _ _ _ _ _ => True) (fun _ U o U' => ∃ v L, o = .returned v ∧ (own_QE Z n0 x0 d cap (len + x1)) v U'.heap L ∧ FrameEnd U o U' L ({ frames := 7, cells := 0, slots := 0, locals := 98 } : Room).cells ({ frames := 7, cells := 0, slots := 0, locals := 98 } : Room).slots) := by
  refine own_body (own := "com/example/narrow_sieve/narrowsieve/format/BitBuffer") (plainFor_of_name pn_5) rfl (fun m => ef_9 m x0 x1) ?_
  intro p e s m below meth c T0 hx hby hml hown hnm hlk hret hZ X0 e0
  have w_4 := hw _ (List.mem_of_getElem? (i := 4) rfl)
  have w_37 := hw _ (List.mem_of_getElem? (i := 37) rfl)
  have w_44 := hw _ (List.mem_of_getElem? (i := 44) rfl)
  have w_48 := hw _ (List.mem_of_getElem? (i := 48) rfl)
  have w_49 := hw _ (List.mem_of_getElem? (i := 49) rfl)
  have w_50 := hw _ (List.mem_of_getElem? (i := 50) rfl)
  have w_51 := hw _ (List.mem_of_getElem? (i := 51) rfl)
  have w_109 := hw _ (List.mem_of_getElem? (i := 109) rfl)
  have w_147 := hw _ (List.mem_of_getElem? (i := 147) rfl)
  have w_148 := hw _ (List.mem_of_getElem? (i := 148) rfl)
  have w_149 := hw _ (List.mem_of_getElem? (i := 149) rfl)
  have w_150 := hw _ (List.mem_of_getElem? (i := 150) rfl)
  have w_151 := hw _ (List.mem_of_getElem? (i := 151) rfl)
  have N0 := Fr.nil n0
  have zi := own_ZI.start hX hz
  refine g_lloadN X0.here hx (Jvm.hb hby d9_0) (pc' := 1) rfl rfl ?_
  refine g_lstoreN X0.here hx (Jvm.hb hby d9_1) (pc' := 2) rfl (L' := #[.val (.ref x0), .val (.long x1), .second, .val (.long x1), .second, .unset]) rfl ?_
  refine g_aloadN X0.here hx (Jvm.hb hby d9_2) (pc' := 3) rfl rfl rfl ?_
  refine g_getF X0 hx hZ hown (host := "") (Or.inl w_44) Via.refl e0 (own_SE.fl P0) (Jvm.hb hby d9_3) (pc' := 6) rfl ?_
  intro T1 X1 e1
  refine g_lloadN X1.here hx (Jvm.hb hby d9_6) (pc' := 7) rfl rfl ?_
  refine g_ladd X1.here hx (Jvm.hb hby d9_7) (pc' := 8) rfl ?_
  refine g_aloadN X1.here hx (Jvm.hb hby d9_8) (pc' := 9) rfl rfl rfl ?_
  refine g_getF X1 hx hZ hown (host := "") (Or.inl w_37) Via.refl e1 (own_SE.fc P0) (Jvm.hb hby d9_9) (pc' := 12) rfl ?_
  intro T2 X2 e2
  refine g_lcmp X2.here hx (Jvm.hb hby d9_12) (pc' := 13) rfl ?_
  refine g_ifY X2.here hx (Jvm.hb hby d9_13) (by decide) (pc' := 27) (by decide) (own_fltL hX).2.2.2 ?_
  refine g_lloadN X2.here hx (Jvm.hb hby d9_27) (pc' := 28) rfl rfl ?_
  refine g_lconst X2.here hx (Jvm.hb hby d9_28) (pc' := 29) rfl (z := (0 : Int64)) rfl ?_
  refine g_lcmp X2.here hx (Jvm.hb hby d9_29) (pc' := 30) rfl ?_
  by_cases hp : (0 : Int64) < x1
  · refine g_ifN X2.here hx (Jvm.hb hby d9_30) (pc' := 33) rfl (own_tltL hp).2.2.2 ?_
    refine g_lloadN X2.here hx (Jvm.hb hby d9_33) (pc' := 34) rfl rfl ?_
    refine g_ldc2 X2 hx hZ hown w_147 (Jvm.hb hby d9_34) (pc' := 37) rfl ?_
    refine g_callP X2 hx hZ hown w_148 w_149 w_109 w_150 (by decide) (rm22 l Z a0 hw [] x1 (56 : Int64) h0) 0 (by decide) (by decide) e2 (by rw [hml]; rfl) [(.long x1), (.long (56 : Int64))] [] (lenOf pd_11 rfl) rfl rfl (Nat.le_of_eq rfl) (Jvm.hb hby d9_37) (pc' := 40) rfl (Nat.zero_le _) (Nat.zero_le _) ?_
    intro T3 X3 e3
    show own_Gl p e below s (own_QE Z n0 x0 d cap (len + x1)) ({ frames := 7, cells := 0, slots := 0, locals := 98 } : Room).cells ({ frames := 7, cells := 0, slots := 0, locals := 98 } : Room).slots (T3.setTop (mkF m 40 #[.val (.ref x0), .val (.long x1), .second, .val (.long x1), .second, .unset] [(.long (f_min x1 (56 : Int64)))]))
    refine g_l2i X3.here hx (Jvm.hb hby d9_40) (pc' := 41) rfl ?_
    generalize h_wd41 : ((f_min x1 (56 : Int64)).toInt32) = wd41
    have hwd := own_zw x1 wd41 h_wd41 hp
    refine g_istore X3.here hx (Jvm.hb hby d9_41) (pc' := 43) rfl (L' := #[.val (.ref x0), .val (.long x1), .second, .val (.long x1), .second, .val (.int wd41)]) rfl ?_
    refine g_aloadN X3.here hx (Jvm.hb hby d9_43) (pc' := 44) rfl rfl rfl ?_
    refine g_lconst X3.here hx (Jvm.hb hby d9_44) (pc' := 45) rfl (z := (0 : Int64)) rfl ?_
    refine g_iload X3.here hx (Jvm.hb hby d9_45) (pc' := 47) rfl rfl ?_
    refine g_callV X3 hx hZ hown w_151 w_48 (own_nf hZ w_50) w_50 w_49 w_4 w_51 (by decide) (rmApEE l Z a0 hw [] x0 (0 : Int64) wd41 d cap len h0 n0 Z0 P0 (zi.fits hwd) (own_zE1 hz.2.2.1 hb hwd)) 0 (by decide) (by decide) e3 (own_SE.exa P0) (by rw [hml]; rfl) [(.long (0 : Int64)), (.int wd41)] [] (lenOf pd_12 rfl) rfl rfl (Nat.le_of_eq rfl) (Jvm.hb hby d9_47) (pc' := 50) rfl (cells' := 0) (slots' := 0) rfl rfl (by decide) (by decide) ?_
    intro v4 T4 L4 X4 hQ4
    obtain ⟨rfl, Nq4, hS4⟩ := hQ4
    have N4 := Fr.app N0 Nq4
    have Zh4 : n0 ≤ T4.heap.size := own_SE.sz hS4
    show own_Gl p e below s (own_QE Z n0 x0 d cap (len + x1)) ({ frames := 7, cells := 0, slots := 0, locals := 98 } : Room).cells ({ frames := 7, cells := 0, slots := 0, locals := 98 } : Room).slots (T4.setTop (mkF m 50 #[.val (.ref x0), .val (.long x1), .second, .val (.long x1), .second, .val (.int wd41)] []))
    refine g_lloadN X4.here hx (Jvm.hb hby d9_50) (pc' := 51) rfl rfl ?_
    refine g_iload X4.here hx (Jvm.hb hby d9_51) (pc' := 53) rfl rfl ?_
    refine g_i2l X4.here hx (Jvm.hb hby d9_53) (pc' := 54) rfl ?_
    refine g_lsub X4.here hx (Jvm.hb hby d9_54) (pc' := 55) rfl ?_
    refine g_lstoreN X4.here hx (Jvm.hb hby d9_55) (pc' := 56) rfl (L' := #[.val (.ref x0), .val (.long x1), .second, .val (.long (x1 - (wd41.toInt64))), .second, .val (.int wd41)]) rfl ?_
    refine g_goto X4.here hx (Jvm.hb hby d9_56) (by decide) (pc' := 27) (by decide) ?_
    refine g_lloadN X4.here hx (Jvm.hb hby d9_27) (pc' := 28) rfl rfl ?_
    refine g_lconst X4.here hx (Jvm.hb hby d9_28) (pc' := 29) rfl (z := (0 : Int64)) rfl ?_
    refine g_lcmp X4.here hx (Jvm.hb hby d9_29) (pc' := 30) rfl ?_
    refine g_ifY X4.here hx (Jvm.hb hby d9_30) (by decide) (pc' := 59) (by decide) (own_fltL (own_zE4 zi hb hwd)).2.2.2 ?_
    exact g_retV X4 hx hlk hret (Jvm.hb hby d9_59) (Nat.zero_le _) (Nat.zero_le _) ⟨rfl, N4, ((own_ZI.next (k := 9) zi hwd).over (own_zE4 zi hb hwd)) ▸ hS4⟩
  · refine g_ifY X2.here hx (Jvm.hb hby d9_30) (by decide) (pc' := 59) (by decide) (own_fltL hp).2.2.2 ?_
    exact g_retV X2 hx hlk hret (Jvm.hb hby d9_59) (Nat.zero_le _) (Nat.zero_le _) (by rw [e2]; exact ⟨rfl, N0, (zi.over hp) ▸ P0⟩)
set_option maxRecDepth 65536 in
set_option maxHeartbeats 40000000 in
theorem rmZsEP (l : Launch) (Z : State) (a0 : Array Value) (hw : ∀ d ∈ tables_1, d.before a0 Z = true) (ws : List Jvm.Cond) (x0 : Nat) (x1 : Int64) (d : Nat) (cap len : Int64) (h0 : Heap) (n0 : Nat) (Z0 : n0 ≤ h0.size) (P0 : own_SE Z h0 n0 x0 d cap len) (hX : ¬ cap < (len + x1)) (hz : 0 ≤ x1.toInt ∧ x1.toInt ≤ 56 * 10 ∧ 0 ≤ len.toInt ∧ len.toInt ≤ 4611686018427387904) (hb : ¬ len.toInt % 8 + x1.toInt < 8) (S0 : Sta Z Z.heap "java/util/ArrayList" "DEFAULTCAPACITY_EMPTY_ELEMENTDATA" "[Ljava/lang/Object;" (.ref d)) (A0 : own_AL Z Z.heap d 0) :
    MetFree l (⟨"com/example/narrow_sieve/narrowsieve/format/BitBuffer", "appendZeros", "(J)V"⟩ : MethodName) (head1 (Jvm.Cond.code (⟨"com/example/narrow_sieve/narrowsieve/format/BitBuffer", "appendZeros", "(J)V"⟩ : MethodName) prog_4_method_5_code 6 none :: ws) ({ frames := 7, cells := 2, slots := 65546, locals := 98 } : Room)) (fun a U => a = #[(.ref x0), (.long x1)] ∧ Z.Warmed39 U.vm ∧ U.heap = h0) (fun _ _ _ _ _ => True) (fun _ U o U' => ∃ v L, o = .returned v ∧ (own_QP Z n0 x0 cap (len + x1) 77) v U'.heap L ∧ FrameEnd U o U' L ({ frames := 7, cells := 2, slots := 65546, locals := 98 } : Room).cells ({ frames := 7, cells := 2, slots := 65546, locals := 98 } : Room).slots) := by
  refine own_body (own := "com/example/narrow_sieve/narrowsieve/format/BitBuffer") (plainFor_of_name pn_5) rfl (fun m => ef_9 m x0 x1) ?_
  intro p e s m below meth c T0 hx hby hml hown hnm hlk hret hZ X0 e0
  have w_4 := hw _ (List.mem_of_getElem? (i := 4) rfl)
  have w_37 := hw _ (List.mem_of_getElem? (i := 37) rfl)
  have w_44 := hw _ (List.mem_of_getElem? (i := 44) rfl)
  have w_48 := hw _ (List.mem_of_getElem? (i := 48) rfl)
  have w_49 := hw _ (List.mem_of_getElem? (i := 49) rfl)
  have w_50 := hw _ (List.mem_of_getElem? (i := 50) rfl)
  have w_51 := hw _ (List.mem_of_getElem? (i := 51) rfl)
  have w_109 := hw _ (List.mem_of_getElem? (i := 109) rfl)
  have w_147 := hw _ (List.mem_of_getElem? (i := 147) rfl)
  have w_148 := hw _ (List.mem_of_getElem? (i := 148) rfl)
  have w_149 := hw _ (List.mem_of_getElem? (i := 149) rfl)
  have w_150 := hw _ (List.mem_of_getElem? (i := 150) rfl)
  have w_151 := hw _ (List.mem_of_getElem? (i := 151) rfl)
  have N0 := Fr.nil n0
  have zi := own_ZI.start hX hz
  have hB2 : 77 ≤ 50000 := by decide
  have lp : ∀ (k : Nat), ∀ (Tk1 : State), ∀ (hk1 : Heap), ∀ (lck1 : List Loc), ∀ (Xk1 : Stand p l e ({ frames := 7, cells := 2, slots := 65546, locals := 98 } : Room) s m #[(.ref x0), (.long x1)] below meth c Tk1 lck1 2 65546), ∀ (ek1 : Tk1.heap = hk1), ∀ (Nk1 : Fr n0 lck1), ∀ (Zk1 : n0 ≤ hk1.size), ∀ (C3 : Nat), ∀ (ln : Int64), ∀ (lf : Int64), ∀ (sl : Slot), ∀ (hS : own_SP Z hk1 n0 x0 cap ln C3), ∀ (hsl : sl = .unset ∨ ∃ w, sl = .val w ∧ w.category = 1), ∀ (hI : own_ZI cap len x1 ln lf k), ∀ (hC : C3 + 7 * k ≤ 77), own_Gl p e below s (own_QP Z n0 x0 cap (len + x1) 77) ({ frames := 7, cells := 2, slots := 65546, locals := 98 } : Room).cells ({ frames := 7, cells := 2, slots := 65546, locals := 98 } : Room).slots (Tk1.setTop (mkF m 27 #[.val (.ref x0), .val (.long x1), .second, .val (.long lf), .second, sl] [])) := by
    intro k
    induction k with
    | zero =>
      intro Tk1 hk1 lck1 Xk1 ek1 Nk1 Zk1 C3 ln lf sl hS hsl hI hC
      refine g_lloadN Xk1.here hx (Jvm.hb hby d9_27) (pc' := 28) rfl rfl ?_
      refine g_lconst Xk1.here hx (Jvm.hb hby d9_28) (pc' := 29) rfl (z := (0 : Int64)) rfl ?_
      refine g_lcmp Xk1.here hx (Jvm.hb hby d9_29) (pc' := 30) rfl ?_
      refine g_ifY Xk1.here hx (Jvm.hb hby d9_30) (by decide) (pc' := 59) (by decide) (own_fltL hI.none).2.2.2 ?_
      exact g_retV Xk1 hx hlk hret (Jvm.hb hby d9_59) (by decide) (by decide) (by rw [ek1]; exact ⟨rfl, Nk1, (hI.over hI.none) ▸ (hS.wide (own_zW _ _ _ hC))⟩)
    | succ k ih =>
      intro Tk1 hk1 lck1 Xk1 ek1 Nk1 Zk1 C3 ln lf sl hS hsl hI hC
      refine g_lloadN Xk1.here hx (Jvm.hb hby d9_27) (pc' := 28) rfl rfl ?_
      refine g_lconst Xk1.here hx (Jvm.hb hby d9_28) (pc' := 29) rfl (z := (0 : Int64)) rfl ?_
      refine g_lcmp Xk1.here hx (Jvm.hb hby d9_29) (pc' := 30) rfl ?_
      by_cases hp : (0 : Int64) < lf
      · refine g_ifN Xk1.here hx (Jvm.hb hby d9_30) (pc' := 33) rfl (own_tltL hp).2.2.2 ?_
        refine g_lloadN Xk1.here hx (Jvm.hb hby d9_33) (pc' := 34) rfl rfl ?_
        refine g_ldc2 Xk1 hx hZ hown w_147 (Jvm.hb hby d9_34) (pc' := 37) rfl ?_
        refine g_callP Xk1 hx hZ hown w_148 w_149 w_109 w_150 (by decide) (rm22 l Z a0 hw [] lf (56 : Int64) hk1) 0 (by decide) (by decide) ek1 (by rw [hml]; rfl) [(.long lf), (.long (56 : Int64))] [] (lenOf pd_11 rfl) rfl rfl (Nat.le_of_eq rfl) (Jvm.hb hby d9_37) (pc' := 40) rfl (by decide) (by decide) ?_
        intro T2 X2 e2
        show own_Gl p e below s (own_QP Z n0 x0 cap (len + x1) 77) ({ frames := 7, cells := 2, slots := 65546, locals := 98 } : Room).cells ({ frames := 7, cells := 2, slots := 65546, locals := 98 } : Room).slots (T2.setTop (mkF m 40 #[.val (.ref x0), .val (.long x1), .second, .val (.long lf), .second, sl] [(.long (f_min lf (56 : Int64)))]))
        refine g_l2i X2.here hx (Jvm.hb hby d9_40) (pc' := 41) rfl ?_
        generalize h_wd41 : ((f_min lf (56 : Int64)).toInt32) = wd41
        have hwd := own_zw lf wd41 h_wd41 hp
        refine g_istore X2.here hx (Jvm.hb hby d9_41) (pc' := 43) rfl (L' := #[.val (.ref x0), .val (.long x1), .second, .val (.long lf), .second, .val (.int wd41)]) (XS.store1 rfl hsl rfl) ?_
        refine g_aloadN X2.here hx (Jvm.hb hby d9_43) (pc' := 44) rfl rfl rfl ?_
        refine g_lconst X2.here hx (Jvm.hb hby d9_44) (pc' := 45) rfl (z := (0 : Int64)) rfl ?_
        refine g_iload X2.here hx (Jvm.hb hby d9_45) (pc' := 47) rfl rfl ?_
        refine g_callV X2 hx hZ hown w_151 w_48 (own_nf hZ w_50) w_50 w_49 w_4 w_51 (by decide) (rmApPP l Z a0 hw [] x0 (0 : Int64) wd41 cap ln C3 hk1 n0 Zk1 hS (hI.fits hwd) (own_bits2 ln _ hI.pos (own_w56 hwd)) (own_zB _ _ _ hC hB2)) 0 (by decide) (by decide) e2 (own_SP.exa hS) (by rw [hml]; rfl) [(.long (0 : Int64)), (.int wd41)] [] (lenOf pd_12 rfl) rfl rfl (Nat.le_of_eq rfl) (Jvm.hb hby d9_47) (pc' := 50) rfl (cells' := 2) (slots' := 65546) rfl rfl (by decide) (by decide) ?_
        intro v3 T3 L3 X3 hQ3
        obtain ⟨rfl, Nq3, hS3⟩ := hQ3
        have N3 := Fr.app Nk1 Nq3
        have Zh3 : n0 ≤ T3.heap.size := own_zsz hS3
        show own_Gl p e below s (own_QP Z n0 x0 cap (len + x1) 77) ({ frames := 7, cells := 2, slots := 65546, locals := 98 } : Room).cells ({ frames := 7, cells := 2, slots := 65546, locals := 98 } : Room).slots (T3.setTop (mkF m 50 #[.val (.ref x0), .val (.long x1), .second, .val (.long lf), .second, .val (.int wd41)] []))
        refine g_lloadN X3.here hx (Jvm.hb hby d9_50) (pc' := 51) rfl rfl ?_
        refine g_iload X3.here hx (Jvm.hb hby d9_51) (pc' := 53) rfl rfl ?_
        refine g_i2l X3.here hx (Jvm.hb hby d9_53) (pc' := 54) rfl ?_
        refine g_lsub X3.here hx (Jvm.hb hby d9_54) (pc' := 55) rfl ?_
        refine g_lstoreN X3.here hx (Jvm.hb hby d9_55) (pc' := 56) rfl (L' := #[.val (.ref x0), .val (.long x1), .second, .val (.long (lf - (wd41.toInt64))), .second, .val (.int wd41)]) rfl ?_
        refine g_goto X3.here hx (Jvm.hb hby d9_56) (by decide) (pc' := 27) (by decide) ?_
        exact ih T3 T3.heap _ X3 rfl N3 Zh3 (C3 + 7) _ _ _ hS3 (Or.inr ⟨_, rfl, rfl⟩) (hI.next hwd) (own_zC _ _ _ hC)
      · refine g_ifY Xk1.here hx (Jvm.hb hby d9_30) (by decide) (pc' := 59) (by decide) (own_fltL hp).2.2.2 ?_
        exact g_retV Xk1 hx hlk hret (Jvm.hb hby d9_59) (by decide) (by decide) (by rw [ek1]; exact ⟨rfl, Nk1, (hI.over hp) ▸ (hS.wide (own_zW _ _ _ hC))⟩)
  refine g_lloadN X0.here hx (Jvm.hb hby d9_0) (pc' := 1) rfl rfl ?_
  refine g_lstoreN X0.here hx (Jvm.hb hby d9_1) (pc' := 2) rfl (L' := #[.val (.ref x0), .val (.long x1), .second, .val (.long x1), .second, .unset]) rfl ?_
  refine g_aloadN X0.here hx (Jvm.hb hby d9_2) (pc' := 3) rfl rfl rfl ?_
  refine g_getF X0 hx hZ hown (host := "") (Or.inl w_44) Via.refl e0 (own_SE.fl P0) (Jvm.hb hby d9_3) (pc' := 6) rfl ?_
  intro T4 X4 e4
  refine g_lloadN X4.here hx (Jvm.hb hby d9_6) (pc' := 7) rfl rfl ?_
  refine g_ladd X4.here hx (Jvm.hb hby d9_7) (pc' := 8) rfl ?_
  refine g_aloadN X4.here hx (Jvm.hb hby d9_8) (pc' := 9) rfl rfl rfl ?_
  refine g_getF X4 hx hZ hown (host := "") (Or.inl w_37) Via.refl e4 (own_SE.fc P0) (Jvm.hb hby d9_9) (pc' := 12) rfl ?_
  intro T5 X5 e5
  refine g_lcmp X5.here hx (Jvm.hb hby d9_12) (pc' := 13) rfl ?_
  refine g_ifY X5.here hx (Jvm.hb hby d9_13) (by decide) (pc' := 27) (by decide) (own_fltL hX).2.2.2 ?_
  refine g_lloadN X5.here hx (Jvm.hb hby d9_27) (pc' := 28) rfl rfl ?_
  refine g_lconst X5.here hx (Jvm.hb hby d9_28) (pc' := 29) rfl (z := (0 : Int64)) rfl ?_
  refine g_lcmp X5.here hx (Jvm.hb hby d9_29) (pc' := 30) rfl ?_
  have hp := own_zE3 hz.2.2.1 hb
  refine g_ifN X5.here hx (Jvm.hb hby d9_30) (pc' := 33) rfl (own_tltL hp).2.2.2 ?_
  refine g_lloadN X5.here hx (Jvm.hb hby d9_33) (pc' := 34) rfl rfl ?_
  refine g_ldc2 X5 hx hZ hown w_147 (Jvm.hb hby d9_34) (pc' := 37) rfl ?_
  refine g_callP X5 hx hZ hown w_148 w_149 w_109 w_150 (by decide) (rm22 l Z a0 hw [] x1 (56 : Int64) h0) 0 (by decide) (by decide) e5 (by rw [hml]; rfl) [(.long x1), (.long (56 : Int64))] [] (lenOf pd_11 rfl) rfl rfl (Nat.le_of_eq rfl) (Jvm.hb hby d9_37) (pc' := 40) rfl (Nat.zero_le _) (Nat.zero_le _) ?_
  intro T6 X6 e6
  show own_Gl p e below s (own_QP Z n0 x0 cap (len + x1) 77) ({ frames := 7, cells := 2, slots := 65546, locals := 98 } : Room).cells ({ frames := 7, cells := 2, slots := 65546, locals := 98 } : Room).slots (T6.setTop (mkF m 40 #[.val (.ref x0), .val (.long x1), .second, .val (.long x1), .second, .unset] [(.long (f_min x1 (56 : Int64)))]))
  refine g_l2i X6.here hx (Jvm.hb hby d9_40) (pc' := 41) rfl ?_
  generalize h_wd41 : ((f_min x1 (56 : Int64)).toInt32) = wd41
  have hwd := own_zw x1 wd41 h_wd41 hp
  refine g_istore X6.here hx (Jvm.hb hby d9_41) (pc' := 43) rfl (L' := #[.val (.ref x0), .val (.long x1), .second, .val (.long x1), .second, .val (.int wd41)]) rfl ?_
  refine g_aloadN X6.here hx (Jvm.hb hby d9_43) (pc' := 44) rfl rfl rfl ?_
  refine g_lconst X6.here hx (Jvm.hb hby d9_44) (pc' := 45) rfl (z := (0 : Int64)) rfl ?_
  refine g_iload X6.here hx (Jvm.hb hby d9_45) (pc' := 47) rfl rfl ?_
  refine g_callV X6 hx hZ hown w_151 w_48 (own_nf hZ w_50) w_50 w_49 w_4 w_51 (by decide) (rmApEP l Z a0 hw [] x0 (0 : Int64) wd41 d cap len h0 n0 Z0 P0 (zi.fits hwd) (own_zE2 hz.2.2.1 hb hwd) (own_bits2 len _ hz.2.2.1 (own_w56 hwd)) S0 A0) 0 (by decide) (by decide) e6 (own_SE.exa P0) (by rw [hml]; rfl) [(.long (0 : Int64)), (.int wd41)] [] (lenOf pd_12 rfl) rfl rfl (Nat.le_of_eq rfl) (Jvm.hb hby d9_47) (pc' := 50) rfl (cells' := 2) (slots' := 65546) rfl rfl (by decide) (by decide) ?_
  intro v7 T7 L7 X7 hQ7
  obtain ⟨rfl, Nq7, hS7⟩ := hQ7
  have N7 := Fr.app N0 Nq7
  have Zh7 : n0 ≤ T7.heap.size := own_zsz hS7
  show own_Gl p e below s (own_QP Z n0 x0 cap (len + x1) 77) ({ frames := 7, cells := 2, slots := 65546, locals := 98 } : Room).cells ({ frames := 7, cells := 2, slots := 65546, locals := 98 } : Room).slots (T7.setTop (mkF m 50 #[.val (.ref x0), .val (.long x1), .second, .val (.long x1), .second, .val (.int wd41)] []))
  refine g_lloadN X7.here hx (Jvm.hb hby d9_50) (pc' := 51) rfl rfl ?_
  refine g_iload X7.here hx (Jvm.hb hby d9_51) (pc' := 53) rfl rfl ?_
  refine g_i2l X7.here hx (Jvm.hb hby d9_53) (pc' := 54) rfl ?_
  refine g_lsub X7.here hx (Jvm.hb hby d9_54) (pc' := 55) rfl ?_
  refine g_lstoreN X7.here hx (Jvm.hb hby d9_55) (pc' := 56) rfl (L' := #[.val (.ref x0), .val (.long x1), .second, .val (.long (x1 - (wd41.toInt64))), .second, .val (.int wd41)]) rfl ?_
  refine g_goto X7.here hx (Jvm.hb hby d9_56) (by decide) (pc' := 27) (by decide) ?_
  exact lp 9 T7 T7.heap _ X7 rfl N7 Zh7 7 _ _ _ hS7 (Or.inr ⟨_, rfl, rfl⟩) (own_ZI.next (k := 9) zi hwd) (by decide)
set_option maxRecDepth 65536 in
set_option maxHeartbeats 40000000 in
theorem rmZsPP (l : Launch) (Z : State) (a0 : Array Value) (hw : ∀ d ∈ tables_1, d.before a0 Z = true) (ws : List Jvm.Cond) (x0 : Nat) (x1 : Int64) (cap len : Int64) (B : Nat) (h0 : Heap) (n0 : Nat) (Z0 : n0 ≤ h0.size) (P0 : own_SP Z h0 n0 x0 cap len B) (hX : ¬ cap < (len + x1)) (hz : 0 ≤ x1.toInt ∧ x1.toInt ≤ 56 * 10 ∧ 0 ≤ len.toInt ∧ len.toInt ≤ 4611686018427387904) (hB : B ≤ 40000) :
    MetFree l (⟨"com/example/narrow_sieve/narrowsieve/format/BitBuffer", "appendZeros", "(J)V"⟩ : MethodName) (head1 (Jvm.Cond.code (⟨"com/example/narrow_sieve/narrowsieve/format/BitBuffer", "appendZeros", "(J)V"⟩ : MethodName) prog_4_method_5_code 6 none :: ws) ({ frames := 7, cells := 0, slots := 0, locals := 98 } : Room)) (fun a U => a = #[(.ref x0), (.long x1)] ∧ Z.Warmed39 U.vm ∧ U.heap = h0) (fun _ _ _ _ _ => True) (fun _ U o U' => ∃ v L, o = .returned v ∧ (own_QP Z n0 x0 cap (len + x1) (B + 70)) v U'.heap L ∧ FrameEnd U o U' L ({ frames := 7, cells := 0, slots := 0, locals := 98 } : Room).cells ({ frames := 7, cells := 0, slots := 0, locals := 98 } : Room).slots) := by
  refine own_body (own := "com/example/narrow_sieve/narrowsieve/format/BitBuffer") (plainFor_of_name pn_5) rfl (fun m => ef_9 m x0 x1) ?_
  intro p e s m below meth c T0 hx hby hml hown hnm hlk hret hZ X0 e0
  have w_4 := hw _ (List.mem_of_getElem? (i := 4) rfl)
  have w_37 := hw _ (List.mem_of_getElem? (i := 37) rfl)
  have w_44 := hw _ (List.mem_of_getElem? (i := 44) rfl)
  have w_48 := hw _ (List.mem_of_getElem? (i := 48) rfl)
  have w_49 := hw _ (List.mem_of_getElem? (i := 49) rfl)
  have w_50 := hw _ (List.mem_of_getElem? (i := 50) rfl)
  have w_51 := hw _ (List.mem_of_getElem? (i := 51) rfl)
  have w_109 := hw _ (List.mem_of_getElem? (i := 109) rfl)
  have w_147 := hw _ (List.mem_of_getElem? (i := 147) rfl)
  have w_148 := hw _ (List.mem_of_getElem? (i := 148) rfl)
  have w_149 := hw _ (List.mem_of_getElem? (i := 149) rfl)
  have w_150 := hw _ (List.mem_of_getElem? (i := 150) rfl)
  have w_151 := hw _ (List.mem_of_getElem? (i := 151) rfl)
  have N0 := Fr.nil n0
  have zi := own_ZI.start hX hz
  have hB2 : B + 70 ≤ 50000 := by omega
  have lp : ∀ (k : Nat), ∀ (Tk1 : State), ∀ (hk1 : Heap), ∀ (lck1 : List Loc), ∀ (Xk1 : Stand p l e ({ frames := 7, cells := 0, slots := 0, locals := 98 } : Room) s m #[(.ref x0), (.long x1)] below meth c Tk1 lck1 0 0), ∀ (ek1 : Tk1.heap = hk1), ∀ (Nk1 : Fr n0 lck1), ∀ (Zk1 : n0 ≤ hk1.size), ∀ (C3 : Nat), ∀ (ln : Int64), ∀ (lf : Int64), ∀ (sl : Slot), ∀ (hS : own_SP Z hk1 n0 x0 cap ln C3), ∀ (hsl : sl = .unset ∨ ∃ w, sl = .val w ∧ w.category = 1), ∀ (hI : own_ZI cap len x1 ln lf k), ∀ (hC : C3 + 7 * k ≤ (B + 70)), own_Gl p e below s (own_QP Z n0 x0 cap (len + x1) (B + 70)) ({ frames := 7, cells := 0, slots := 0, locals := 98 } : Room).cells ({ frames := 7, cells := 0, slots := 0, locals := 98 } : Room).slots (Tk1.setTop (mkF m 27 #[.val (.ref x0), .val (.long x1), .second, .val (.long lf), .second, sl] [])) := by
    intro k
    induction k with
    | zero =>
      intro Tk1 hk1 lck1 Xk1 ek1 Nk1 Zk1 C3 ln lf sl hS hsl hI hC
      refine g_lloadN Xk1.here hx (Jvm.hb hby d9_27) (pc' := 28) rfl rfl ?_
      refine g_lconst Xk1.here hx (Jvm.hb hby d9_28) (pc' := 29) rfl (z := (0 : Int64)) rfl ?_
      refine g_lcmp Xk1.here hx (Jvm.hb hby d9_29) (pc' := 30) rfl ?_
      refine g_ifY Xk1.here hx (Jvm.hb hby d9_30) (by decide) (pc' := 59) (by decide) (own_fltL hI.none).2.2.2 ?_
      exact g_retV Xk1 hx hlk hret (Jvm.hb hby d9_59) (Nat.zero_le _) (Nat.zero_le _) (by rw [ek1]; exact ⟨rfl, Nk1, (hI.over hI.none) ▸ (hS.wide (own_zW _ _ _ hC))⟩)
    | succ k ih =>
      intro Tk1 hk1 lck1 Xk1 ek1 Nk1 Zk1 C3 ln lf sl hS hsl hI hC
      refine g_lloadN Xk1.here hx (Jvm.hb hby d9_27) (pc' := 28) rfl rfl ?_
      refine g_lconst Xk1.here hx (Jvm.hb hby d9_28) (pc' := 29) rfl (z := (0 : Int64)) rfl ?_
      refine g_lcmp Xk1.here hx (Jvm.hb hby d9_29) (pc' := 30) rfl ?_
      by_cases hp : (0 : Int64) < lf
      · refine g_ifN Xk1.here hx (Jvm.hb hby d9_30) (pc' := 33) rfl (own_tltL hp).2.2.2 ?_
        refine g_lloadN Xk1.here hx (Jvm.hb hby d9_33) (pc' := 34) rfl rfl ?_
        refine g_ldc2 Xk1 hx hZ hown w_147 (Jvm.hb hby d9_34) (pc' := 37) rfl ?_
        refine g_callP Xk1 hx hZ hown w_148 w_149 w_109 w_150 (by decide) (rm22 l Z a0 hw [] lf (56 : Int64) hk1) 0 (by decide) (by decide) ek1 (by rw [hml]; rfl) [(.long lf), (.long (56 : Int64))] [] (lenOf pd_11 rfl) rfl rfl (Nat.le_of_eq rfl) (Jvm.hb hby d9_37) (pc' := 40) rfl (Nat.zero_le _) (Nat.zero_le _) ?_
        intro T2 X2 e2
        show own_Gl p e below s (own_QP Z n0 x0 cap (len + x1) (B + 70)) ({ frames := 7, cells := 0, slots := 0, locals := 98 } : Room).cells ({ frames := 7, cells := 0, slots := 0, locals := 98 } : Room).slots (T2.setTop (mkF m 40 #[.val (.ref x0), .val (.long x1), .second, .val (.long lf), .second, sl] [(.long (f_min lf (56 : Int64)))]))
        refine g_l2i X2.here hx (Jvm.hb hby d9_40) (pc' := 41) rfl ?_
        generalize h_wd41 : ((f_min lf (56 : Int64)).toInt32) = wd41
        have hwd := own_zw lf wd41 h_wd41 hp
        refine g_istore X2.here hx (Jvm.hb hby d9_41) (pc' := 43) rfl (L' := #[.val (.ref x0), .val (.long x1), .second, .val (.long lf), .second, .val (.int wd41)]) (XS.store1 rfl hsl rfl) ?_
        refine g_aloadN X2.here hx (Jvm.hb hby d9_43) (pc' := 44) rfl rfl rfl ?_
        refine g_lconst X2.here hx (Jvm.hb hby d9_44) (pc' := 45) rfl (z := (0 : Int64)) rfl ?_
        refine g_iload X2.here hx (Jvm.hb hby d9_45) (pc' := 47) rfl rfl ?_
        refine g_callV X2 hx hZ hown w_151 w_48 (own_nf hZ w_50) w_50 w_49 w_4 w_51 (by decide) (rmApPP l Z a0 hw [] x0 (0 : Int64) wd41 cap ln C3 hk1 n0 Zk1 hS (hI.fits hwd) (own_bits2 ln _ hI.pos (own_w56 hwd)) (own_zB _ _ _ hC hB2)) 0 (by decide) (by decide) e2 (own_SP.exa hS) (by rw [hml]; rfl) [(.long (0 : Int64)), (.int wd41)] [] (lenOf pd_12 rfl) rfl rfl (Nat.le_of_eq rfl) (Jvm.hb hby d9_47) (pc' := 50) rfl (cells' := 0) (slots' := 0) rfl rfl (by decide) (by decide) ?_
        intro v3 T3 L3 X3 hQ3
        obtain ⟨rfl, Nq3, hS3⟩ := hQ3
        have N3 := Fr.app Nk1 Nq3
        have Zh3 : n0 ≤ T3.heap.size := own_zsz hS3
        show own_Gl p e below s (own_QP Z n0 x0 cap (len + x1) (B + 70)) ({ frames := 7, cells := 0, slots := 0, locals := 98 } : Room).cells ({ frames := 7, cells := 0, slots := 0, locals := 98 } : Room).slots (T3.setTop (mkF m 50 #[.val (.ref x0), .val (.long x1), .second, .val (.long lf), .second, .val (.int wd41)] []))
        refine g_lloadN X3.here hx (Jvm.hb hby d9_50) (pc' := 51) rfl rfl ?_
        refine g_iload X3.here hx (Jvm.hb hby d9_51) (pc' := 53) rfl rfl ?_
        refine g_i2l X3.here hx (Jvm.hb hby d9_53) (pc' := 54) rfl ?_
        refine g_lsub X3.here hx (Jvm.hb hby d9_54) (pc' := 55) rfl ?_
        refine g_lstoreN X3.here hx (Jvm.hb hby d9_55) (pc' := 56) rfl (L' := #[.val (.ref x0), .val (.long x1), .second, .val (.long (lf - (wd41.toInt64))), .second, .val (.int wd41)]) rfl ?_
        refine g_goto X3.here hx (Jvm.hb hby d9_56) (by decide) (pc' := 27) (by decide) ?_
        exact ih T3 T3.heap _ X3 rfl N3 Zh3 (C3 + 7) _ _ _ hS3 (Or.inr ⟨_, rfl, rfl⟩) (hI.next hwd) (own_zC _ _ _ hC)
      · refine g_ifY Xk1.here hx (Jvm.hb hby d9_30) (by decide) (pc' := 59) (by decide) (own_fltL hp).2.2.2 ?_
        exact g_retV Xk1 hx hlk hret (Jvm.hb hby d9_59) (Nat.zero_le _) (Nat.zero_le _) (by rw [ek1]; exact ⟨rfl, Nk1, (hI.over hp) ▸ (hS.wide (own_zW _ _ _ hC))⟩)
  refine g_lloadN X0.here hx (Jvm.hb hby d9_0) (pc' := 1) rfl rfl ?_
  refine g_lstoreN X0.here hx (Jvm.hb hby d9_1) (pc' := 2) rfl (L' := #[.val (.ref x0), .val (.long x1), .second, .val (.long x1), .second, .unset]) rfl ?_
  refine g_aloadN X0.here hx (Jvm.hb hby d9_2) (pc' := 3) rfl rfl rfl ?_
  refine g_getF X0 hx hZ hown (host := "") (Or.inl w_44) Via.refl e0 (own_SP.fl P0) (Jvm.hb hby d9_3) (pc' := 6) rfl ?_
  intro T4 X4 e4
  refine g_lloadN X4.here hx (Jvm.hb hby d9_6) (pc' := 7) rfl rfl ?_
  refine g_ladd X4.here hx (Jvm.hb hby d9_7) (pc' := 8) rfl ?_
  refine g_aloadN X4.here hx (Jvm.hb hby d9_8) (pc' := 9) rfl rfl rfl ?_
  refine g_getF X4 hx hZ hown (host := "") (Or.inl w_37) Via.refl e4 (own_SP.fc P0) (Jvm.hb hby d9_9) (pc' := 12) rfl ?_
  intro T5 X5 e5
  refine g_lcmp X5.here hx (Jvm.hb hby d9_12) (pc' := 13) rfl ?_
  refine g_ifY X5.here hx (Jvm.hb hby d9_13) (by decide) (pc' := 27) (by decide) (own_fltL hX).2.2.2 ?_
  exact lp 10 T5 h0 _ X5 e5 N0 Z0 B len x1 _ P0 (Or.inl rfl) zi (Nat.le_refl _)
theorem d8_0 : decode method_2_code 0 = .ok (.lload_n 0, 1) := by decide +kernel
theorem d8_1 : decode method_2_code 1 = .ok (.iconst 3, 1) := by decide +kernel
theorem d8_2 : decode method_2_code 2 = .ok (.lushr, 1) := by decide +kernel
theorem d8_3 : decode method_2_code 3 = .ok (.lload_n 0, 1) := by decide +kernel
theorem d8_4 : decode method_2_code 4 = .ok (.ldc2_w 7, 3) := by decide +kernel
theorem d8_7 : decode method_2_code 7 = .ok (.land, 1) := by decide +kernel
theorem d8_8 : decode method_2_code 8 = .ok (.lconst 0, 1) := by decide +kernel
theorem d8_9 : decode method_2_code 9 = .ok (.lcmp, 1) := by decide +kernel
theorem d8_10 : decode method_2_code 10 = .ok (.ifCond .ne 7, 3) := by decide +kernel
theorem d8_13 : decode method_2_code 13 = .ok (.lconst 0, 1) := by decide +kernel
theorem d8_14 : decode method_2_code 14 = .ok (.goto 4, 3) := by decide +kernel
theorem d8_18 : decode method_2_code 18 = .ok (.ladd, 1) := by decide +kernel
theorem d8_19 : decode method_2_code 19 = .ok (.lreturn, 1) := by decide +kernel
theorem d8_17 : decode method_2_code 17 = .ok (.lconst 1, 1) := by decide +kernel
def f_c8 (x0 : Int64) : Int64 := (if (x0 &&& (7 : Int64)) = (0 : Int64) then (((x0.toUInt64 >>> ((3 : Int32) &&& 0x3f).toInt64.toUInt64).toInt64) + (0 : Int64)) else (((x0.toUInt64 >>> ((3 : Int32) &&& 0x3f).toInt64.toUInt64).toInt64) + (1 : Int64)))
theorem pn_6 : plainName "com/example/narrow_sieve/narrowsieve/format/BitBufferByteLengthPinLaw" = true := by first | (simp [plainName, overriddenIn]; done) | decide +kernel
theorem ef_8 (m : MethodId) (x0 : Int64) : entryFrame m #[(.long x0)] 2 = mkF m 0 #[.val (.long x0), .second] [] := by first | (simp [entryFrame, mkF, argsToLocals, Value.category]; done) | rfl
set_option maxRecDepth 65536 in
set_option maxHeartbeats 40000000 in
theorem rm8 (l : Launch) (Z : State) (a0 : Array Value) (hw : ∀ d ∈ tables_1, d.before a0 Z = true) (ws : List Jvm.Cond) (x0 : Int64) (h0 : Heap) :
    MetFree l (⟨"com/example/narrow_sieve/narrowsieve/format/BitBufferByteLengthPinLaw", "ceil8", "(J)J"⟩ : MethodName) (head1 (Jvm.Cond.code (⟨"com/example/narrow_sieve/narrowsieve/format/BitBufferByteLengthPinLaw", "ceil8", "(J)J"⟩ : MethodName) method_2_code 2 (some .long) :: ws) ({ frames := 0, cells := 0, slots := 0, locals := 0 } : Room)) (fun a U => a = #[(.long x0)] ∧ Z.Warmed39 U.vm ∧ U.heap = h0) (fun _ _ _ _ _ => True) (fun _ U o U' => ∃ v L, o = .returned v ∧ (own_Pure (some (.long (f_c8 x0))) h0) v U'.heap L ∧ FrameEnd U o U' L ({ frames := 0, cells := 0, slots := 0, locals := 0 } : Room).cells ({ frames := 0, cells := 0, slots := 0, locals := 0 } : Room).slots) := by
  refine own_body (own := "com/example/narrow_sieve/narrowsieve/format/BitBufferByteLengthPinLaw") (plainFor_of_name pn_6) rfl (fun m => ef_8 m x0) ?_
  intro p e s m below meth c T0 hx hby hml hown hnm hlk hret hZ X0 e0
  have w_58 := hw _ (List.mem_of_getElem? (i := 58) rfl)
  refine g_lloadN X0.here hx (Jvm.hb hby d8_0) (pc' := 1) rfl rfl ?_
  refine g_iconst X0.here hx (Jvm.hb hby d8_1) (pc' := 2) rfl (z := (3 : Int32)) rfl ?_
  refine g_lushr X0.here hx (Jvm.hb hby d8_2) (pc' := 3) rfl ?_
  refine g_lloadN X0.here hx (Jvm.hb hby d8_3) (pc' := 4) rfl rfl ?_
  refine g_ldc2 X0 hx hZ hown w_58 (Jvm.hb hby d8_4) (pc' := 7) rfl ?_
  refine g_land X0.here hx (Jvm.hb hby d8_7) (pc' := 8) rfl ?_
  refine g_lconst X0.here hx (Jvm.hb hby d8_8) (pc' := 9) rfl (z := (0 : Int64)) rfl ?_
  refine g_lcmp X0.here hx (Jvm.hb hby d8_9) (pc' := 10) rfl ?_
  by_cases hc10_0 : (x0 &&& (7 : Int64)) = (0 : Int64)
  · refine g_ifN X0.here hx (Jvm.hb hby d8_10) (pc' := 13) rfl (own_teqL hc10_0).2 ?_
    refine g_lconst X0.here hx (Jvm.hb hby d8_13) (pc' := 14) rfl (z := (0 : Int64)) rfl ?_
    refine g_goto X0.here hx (Jvm.hb hby d8_14) (by decide) (pc' := 18) (by decide) ?_
    refine g_ladd X0.here hx (Jvm.hb hby d8_18) (pc' := 19) rfl ?_
    exact g_retL X0 hx hlk hret (Jvm.hb hby d8_19) (Nat.zero_le _) (Nat.zero_le _) ⟨by simp only [f_c8, if_pos hc10_0], rfl, e0⟩
  · refine g_ifY X0.here hx (Jvm.hb hby d8_10) (by decide) (pc' := 17) (by decide) (own_feqL hc10_0).2 ?_
    refine g_lconst X0.here hx (Jvm.hb hby d8_17) (pc' := 18) rfl (z := (1 : Int64)) rfl ?_
    refine g_ladd X0.here hx (Jvm.hb hby d8_18) (pc' := 19) rfl ?_
    exact g_retL X0 hx hlk hret (Jvm.hb hby d8_19) (Nat.zero_le _) (Nat.zero_le _) ⟨by simp only [f_c8, if_neg hc10_0], rfl, e0⟩
theorem d6_0 : decode prog_4_method_3_code 0 = .ok (.aload_n 0, 1) := by decide +kernel
theorem d6_1 : decode prog_4_method_3_code 1 = .ok (.getfield 20, 3) := by decide +kernel
theorem d6_4 : decode prog_4_method_3_code 4 = .ok (.ldc2_w 25, 3) := by decide +kernel
theorem d6_7 : decode prog_4_method_3_code 7 = .ok (.ladd, 1) := by decide +kernel
theorem d6_8 : decode prog_4_method_3_code 8 = .ok (.lconst 1, 1) := by decide +kernel
theorem d6_9 : decode prog_4_method_3_code 9 = .ok (.lsub, 1) := by decide +kernel
theorem d6_10 : decode prog_4_method_3_code 10 = .ok (.ldc2_w 25, 3) := by decide +kernel
theorem d6_13 : decode prog_4_method_3_code 13 = .ok (.ldiv, 1) := by decide +kernel
theorem d6_14 : decode prog_4_method_3_code 14 = .ok (.lreturn, 1) := by decide +kernel
def f_bl (w_length : Int64) : Int64 := (((w_length + (8 : Int64)) - (1 : Int64)) / (8 : Int64))
theorem ef_6 (m : MethodId) (x0 : Addr) : entryFrame m #[(.ref x0)] 1 = mkF m 0 #[.val (.ref x0)] [] := by first | (simp [entryFrame, mkF, argsToLocals, Value.category]; done) | rfl
set_option maxRecDepth 65536 in
set_option maxHeartbeats 40000000 in
theorem rm6 (l : Launch) (Z : State) (a0 : Array Value) (hw : ∀ d ∈ tables_1, d.before a0 Z = true) (ws : List Jvm.Cond) (x0 : Addr) (w_length : Int64) (h0 : Heap) (F_length : Fld Z h0 x0 "com/example/narrow_sieve/narrowsieve/format/BitBuffer" "length" "J" (.long w_length)) :
    MetFree l (⟨"com/example/narrow_sieve/narrowsieve/format/BitBuffer", "byteLength", "()J"⟩ : MethodName) (head1 (Jvm.Cond.code (⟨"com/example/narrow_sieve/narrowsieve/format/BitBuffer", "byteLength", "()J"⟩ : MethodName) prog_4_method_3_code 1 (some .long) :: ws) ({ frames := 0, cells := 0, slots := 0, locals := 0 } : Room)) (fun a U => a = #[(.ref x0)] ∧ Z.Warmed39 U.vm ∧ U.heap = h0) (fun _ _ _ _ _ => True) (fun _ U o U' => ∃ v L, o = .returned v ∧ (own_Pure (some (.long (f_bl w_length))) h0) v U'.heap L ∧ FrameEnd U o U' L ({ frames := 0, cells := 0, slots := 0, locals := 0 } : Room).cells ({ frames := 0, cells := 0, slots := 0, locals := 0 } : Room).slots) := by
  refine own_body (own := "com/example/narrow_sieve/narrowsieve/format/BitBuffer") (plainFor_of_name pn_5) rfl (fun m => ef_6 m x0) ?_
  intro p e s m below meth c T0 hx hby hml hown hnm hlk hret hZ X0 e0
  have w_44 := hw _ (List.mem_of_getElem? (i := 44) rfl)
  have w_46 := hw _ (List.mem_of_getElem? (i := 46) rfl)
  refine g_aloadN X0.here hx (Jvm.hb hby d6_0) (pc' := 1) rfl rfl rfl ?_
  refine g_getF X0 hx hZ hown (host := "") (Or.inl w_44) Via.refl e0 F_length (Jvm.hb hby d6_1) (pc' := 4) rfl ?_
  intro T1 X1 e1
  refine g_ldc2 X1 hx hZ hown w_46 (Jvm.hb hby d6_4) (pc' := 7) rfl ?_
  refine g_ladd X1.here hx (Jvm.hb hby d6_7) (pc' := 8) rfl ?_
  refine g_lconst X1.here hx (Jvm.hb hby d6_8) (pc' := 9) rfl (z := (1 : Int64)) rfl ?_
  refine g_lsub X1.here hx (Jvm.hb hby d6_9) (pc' := 10) rfl ?_
  refine g_ldc2 X1 hx hZ hown w_46 (Jvm.hb hby d6_10) (pc' := 13) rfl ?_
  refine g_ldiv X1.here hx (Jvm.hb hby d6_13) (pc' := 14) rfl (by decide) ?_
  exact g_retL X1 hx hlk hret (Jvm.hb hby d6_14) (Nat.zero_le _) (Nat.zero_le _) ⟨rfl, rfl, e1⟩
theorem own_w57 (x : Int32) : 0 ≤ ((x &&& (2147483647 : Int32)) % (57 : Int32)).toInt ∧ ((x &&& (2147483647 : Int32)) % (57 : Int32)).toInt ≤ 56 := by
  have e1 := c_mask x 2147483647 31 (by decide) (by decide)
  simp only [Nat.reducePow] at e1
  have k : (57 : Int32).toInt = 57 := by decide
  have h0 : 0 ≤ (x &&& (2147483647 : Int32)).toInt := by omega
  rw [Int32.toInt_mod, k, Int.tmod_eq_emod_of_nonneg h0]
  omega
theorem own_c255 (x : Int64) : 0 ≤ (x &&& (255 : Int64)).toInt ∧ (x &&& (255 : Int64)).toInt ≤ 255 := by
  have e1 := c_maskL x 255 8 (by decide) (by decide)
  simp only [Nat.reducePow] at e1
  omega
theorem own_cneg (x : Int64) : ((-1 : Int64) - (x &&& (255 : Int64))).toInt ≤ 255 := by
  have e1 := own_c255 x
  have k : (-1 : Int64).toInt = -1 := by decide
  have e2 := own_lsub (-1 : Int64) (x &&& (255 : Int64)) (by rw [k]; omega)
  rw [e2, k]
  omega
theorem own_c60 (x : Int64) : 0 ≤ (x &&& (1152921504606846975 : Int64)).toInt ∧ (x &&& (1152921504606846975 : Int64)).toInt ≤ 1152921504606846975 := by
  have e1 := c_maskL x 1152921504606846975 60 (by decide) (by decide)
  simp only [Nat.reducePow] at e1
  omega
theorem own_add0 (a b : Int64) (A B : Int) (ha : 0 ≤ a.toInt ∧ a.toInt ≤ A) (hb : 0 ≤ b.toInt ∧ b.toInt ≤ B) (hAB : A + B ≤ 4611686018427387904) : 0 ≤ (a + b).toInt ∧ (a + b).toInt ≤ A + B := by
  have e := own_ladd a b (by omega)
  omega
theorem own_zc (cap t z : Int64) (hY : ¬ cap < t + z) (hcap : cap.toInt ≤ 255) (ht : 0 ≤ t.toInt ∧ t.toInt ≤ 56) (hz : 0 ≤ z.toInt ∧ z.toInt ≤ 1152921504606846975) : 0 ≤ z.toInt ∧ z.toInt ≤ 56 * 10 ∧ 0 ≤ t.toInt ∧ t.toInt ≤ 4611686018427387904 := by
  have e := own_ladd t z (by omega)
  rw [Int64.lt_iff_toInt_lt] at hY
  omega
/-- the law: the two ways to count bytes agree -/
theorem own_bl (t : Int64) (ht : 0 ≤ t.toInt ∧ t.toInt ≤ 4611686018427387904) : f_bl t = f_c8 t := by
  have k8 : (8 : Int64).toInt = 8 := by decide
  have k1 : (1 : Int64).toInt = 1 := by decide
  have k0 : (0 : Int64).toInt = 0 := by decide
  have e1 := own_ladd t 8 (by rw [k8]; omega)
  rw [k8] at e1
  have e2 := own_lsub (t + 8) 1 (by rw [k1]; omega)
  rw [k1] at e2
  have e3 := (c_ldiv (t + 8 - 1) 8 8 k8 (by decide)).1 (by omega)
  have e4 := c_lushr t 3 3 (by decide) (by decide)
  have e5 := c_maskL t 7 3 (by decide) (by decide)
  simp only [Nat.reducePow] at e4 e5
  apply Int64.toInt_inj.mp
  rw [show f_bl t = (t + 8 - 1) / 8 from rfl, e3]
  unfold f_c8
  by_cases q : (t &&& (7 : Int64)) = (0 : Int64)
  · have q2 := congrArg Int64.toInt q
    rw [k0] at q2
    have e6 := own_ladd ((t.toUInt64 >>> ((3 : Int32) &&& 0x3f).toInt64.toUInt64).toInt64) 0 (by rw [k0]; omega)
    rw [k0] at e6
    first | rw [if_pos q, e6] | simp only [if_pos q, e6]
    omega
  · have q2 : (t &&& (7 : Int64)).toInt ≠ 0 := fun h => q (Int64.toInt_inj.mp (by rw [h, k0]))
    have e6 := own_ladd ((t.toUInt64 >>> ((3 : Int32) &&& 0x3f).toInt64.toUInt64).toInt64) 1 (by rw [k1]; omega)
    rw [k1] at e6
    first | rw [if_neg q, e6] | simp only [if_neg q, e6]
    omega
theorem pd_13 : parseMethodDescriptor "(J)V" = some ⟨[.long], none⟩ := by decide +kernel
theorem pd_14 : parseMethodDescriptor "()J" = some ⟨[], some .long⟩ := by decide +kernel
theorem pd_15 : parseMethodDescriptor "(J)J" = some ⟨[.long], some .long⟩ := by decide +kernel
theorem ef_0 (m : MethodId) (x0 : Int64) (x1 : Int64) (x2 : Int32) (x3 : Int64) (x4 : Int32) (x5 : Int32) : entryFrame m #[(.long x0), (.long x1), (.int x2), (.long x3), (.int x4), (.int x5)] maxLocals = mkF m 0 #[.val (.long x0), .second, .val (.long x1), .second, .val (.int x2), .val (.long x3), .second, .val (.int x4), .val (.int x5), .unset, .unset, .unset, .unset, .unset, .unset, .unset, .unset, .unset, .unset, .unset, .unset] [] := by first | (simp [entryFrame, mkF, argsToLocals, Value.category, maxLocals]; done) | rfl
set_option maxRecDepth 65536 in
set_option maxHeartbeats 40000000 in
theorem rm0 (l : Launch) (Z : State) (a0 : Array Value) (hw : ∀ d ∈ tables_1, d.before a0 Z = true) (ws : List Jvm.Cond) (x0 : Int64) (x1 : Int64) (x2 : Int32) (x3 : Int64) (x4 : Int32) (x5 : Int32) (d : Nat) (h0 : Heap) (n0 : Nat) (Z0 : n0 ≤ h0.size) (S0 : Sta Z Z.heap "java/util/ArrayList" "DEFAULTCAPACITY_EMPTY_ELEMENTDATA" "[Ljava/lang/Object;" (.ref d)) (A0 : own_AL Z Z.heap d 0) (O0 : Old Z n0 h0) :
    MetFree l x (head1 (Jvm.Cond.code x code maxLocals ret :: ws) room_1) (fun a U => a = #[(.long x0), (.long x1), (.int x2), (.long x3), (.int x4), (.int x5)] ∧ Z.Warmed39 U.vm ∧ U.heap = h0) (fun _ _ _ _ _ => True) (fun _ U o U' => ∃ v L, o = .returned v ∧ (own_Q0 n0) v U'.heap L ∧ FrameEnd U o U' L room_1.cells room_1.slots) := by
  refine own_body (own := "com/example/narrow_sieve/narrowsieve/format/BitBufferByteLengthPinLaw") (plainFor_of_name pn_6) rfl (fun m => ef_0 m x0 x1 x2 x3 x4 x5) ?_
  intro p e s m below meth c T0 hx hby hml hown hnm hlk hret hZ X0 e0
  have w_0 := hw _ (List.mem_of_getElem? (i := 0) rfl)
  have w_1 := hw _ (List.mem_of_getElem? (i := 1) rfl)
  have w_2 := hw _ (List.mem_of_getElem? (i := 2) rfl)
  have w_3 := hw _ (List.mem_of_getElem? (i := 3) rfl)
  have w_4 := hw _ (List.mem_of_getElem? (i := 4) rfl)
  have w_5 := hw _ (List.mem_of_getElem? (i := 5) rfl)
  have w_6 := hw _ (List.mem_of_getElem? (i := 6) rfl)
  have w_7 := hw _ (List.mem_of_getElem? (i := 7) rfl)
  have w_36 := hw _ (List.mem_of_getElem? (i := 36) rfl)
  have w_38 := hw _ (List.mem_of_getElem? (i := 38) rfl)
  have w_39 := hw _ (List.mem_of_getElem? (i := 39) rfl)
  have w_40 := hw _ (List.mem_of_getElem? (i := 40) rfl)
  have w_41 := hw _ (List.mem_of_getElem? (i := 41) rfl)
  have w_42 := hw _ (List.mem_of_getElem? (i := 42) rfl)
  have w_43 := hw _ (List.mem_of_getElem? (i := 43) rfl)
  have w_45 := hw _ (List.mem_of_getElem? (i := 45) rfl)
  have w_47 := hw _ (List.mem_of_getElem? (i := 47) rfl)
  have w_48 := hw _ (List.mem_of_getElem? (i := 48) rfl)
  have w_49 := hw _ (List.mem_of_getElem? (i := 49) rfl)
  have w_50 := hw _ (List.mem_of_getElem? (i := 50) rfl)
  have w_51 := hw _ (List.mem_of_getElem? (i := 51) rfl)
  have w_53 := hw _ (List.mem_of_getElem? (i := 53) rfl)
  have w_54 := hw _ (List.mem_of_getElem? (i := 54) rfl)
  have w_55 := hw _ (List.mem_of_getElem? (i := 55) rfl)
  have w_56 := hw _ (List.mem_of_getElem? (i := 56) rfl)
  have w_57 := hw _ (List.mem_of_getElem? (i := 57) rfl)
  have w_59 := hw _ (List.mem_of_getElem? (i := 59) rfl)
  have w_60 := hw _ (List.mem_of_getElem? (i := 60) rfl)
  have w_61 := hw _ (List.mem_of_getElem? (i := 61) rfl)
  have w_62 := hw _ (List.mem_of_getElem? (i := 62) rfl)
  have w_63 := hw _ (List.mem_of_getElem? (i := 63) rfl)
  have w_64 := hw _ (List.mem_of_getElem? (i := 64) rfl)
  have w_115 := hw _ (List.mem_of_getElem? (i := 115) rfl)
  have w_152 := hw _ (List.mem_of_getElem? (i := 152) rfl)
  have N0 := Fr.nil n0
  refine g_iload X0.here hx (Jvm.hb hby at_0) (pc' := 2) rfl rfl ?_
  refine g_iconst X0.here hx (Jvm.hb hby at_2) (pc' := 3) rfl (z := (1 : Int32)) rfl ?_
  refine g_iand X0.here hx (Jvm.hb hby at_3) (pc' := 4) rfl ?_
  have k24 : ∀ (Tk1 : State), ∀ (Xk1 : Stand p l e room_1 s m #[(.long x0), (.long x1), (.int x2), (.long x3), (.int x4), (.int x5)] below meth c Tk1 [] 0 0), ∀ (ek1 : Tk1.heap = h0), ∀ (cap : Int64), ∀ (hcap : cap.toInt ≤ 255), own_Gl p e below s (own_Q0 n0) room_1.cells room_1.slots (Tk1.setTop (mkF m 24 #[.val (.long x0), .second, .val (.long x1), .second, .val (.int x2), .val (.long x3), .second, .val (.int x4), .val (.int x5), .unset, .unset, .unset, .unset, .unset, .unset, .unset, .unset, .unset, .unset, .unset, .unset] [(.long cap)])) := by
    intro Tk1 Xk1 ek1 cap hcap
    refine g_lstore Xk1.here hx (Jvm.hb hby at_24) (pc' := 26) rfl (L' := #[.val (.long x0), .second, .val (.long x1), .second, .val (.int x2), .val (.long x3), .second, .val (.int x4), .val (.int x5), .val (.long cap), .second, .unset, .unset, .unset, .unset, .unset, .unset, .unset, .unset, .unset, .unset]) rfl ?_
    refine g_iload Xk1.here hx (Jvm.hb hby at_26) (pc' := 28) rfl rfl ?_
    refine g_ldc Xk1 hx hZ hown w_1 (Jvm.hb hby at_28) (pc' := 30) rfl ?_
    refine g_iand Xk1.here hx (Jvm.hb hby at_30) (pc' := 31) rfl ?_
    refine g_bipush Xk1.here hx (Jvm.hb hby at_31) (pc' := 33) rfl (z := (57 : Int32)) rfl ?_
    refine g_irem Xk1 hx (Jvm.hb hby at_33) (pc' := 34) rfl (by decide) ?_
    have r_n1 := own_w57 x2
    generalize h_n1 : ((x2 &&& (2147483647 : Int32)) % (57 : Int32)) = n1
    rw [h_n1] at r_n1
    refine g_istore Xk1.here hx (Jvm.hb hby at_34) (pc' := 36) rfl (L' := #[.val (.long x0), .second, .val (.long x1), .second, .val (.int x2), .val (.long x3), .second, .val (.int x4), .val (.int x5), .val (.long cap), .second, .val (.int n1), .unset, .unset, .unset, .unset, .unset, .unset, .unset, .unset, .unset]) rfl ?_
    refine g_iload Xk1.here hx (Jvm.hb hby at_36) (pc' := 38) rfl rfl ?_
    refine g_ldc Xk1 hx hZ hown w_1 (Jvm.hb hby at_38) (pc' := 40) rfl ?_
    refine g_iand Xk1.here hx (Jvm.hb hby at_40) (pc' := 41) rfl ?_
    refine g_bipush Xk1.here hx (Jvm.hb hby at_41) (pc' := 43) rfl (z := (57 : Int32)) rfl ?_
    refine g_irem Xk1 hx (Jvm.hb hby at_43) (pc' := 44) rfl (by decide) ?_
    have r_n2 := own_w57 x4
    generalize h_n2 : ((x4 &&& (2147483647 : Int32)) % (57 : Int32)) = n2
    rw [h_n2] at r_n2
    refine g_istore Xk1.here hx (Jvm.hb hby at_44) (pc' := 46) rfl (L' := #[.val (.long x0), .second, .val (.long x1), .second, .val (.int x2), .val (.long x3), .second, .val (.int x4), .val (.int x5), .val (.long cap), .second, .val (.int n1), .val (.int n2), .unset, .unset, .unset, .unset, .unset, .unset, .unset, .unset]) rfl ?_
    refine g_lloadN Xk1.here hx (Jvm.hb hby at_46) (pc' := 47) rfl rfl ?_
    refine g_lconst Xk1.here hx (Jvm.hb hby at_47) (pc' := 48) rfl (z := (1 : Int64)) rfl ?_
    refine g_iload Xk1.here hx (Jvm.hb hby at_48) (pc' := 50) rfl rfl ?_
    refine g_lshl Xk1.here hx (Jvm.hb hby at_50) (pc' := 51) rfl ?_
    refine g_lconst Xk1.here hx (Jvm.hb hby at_51) (pc' := 52) rfl (z := (1 : Int64)) rfl ?_
    refine g_lsub Xk1.here hx (Jvm.hb hby at_52) (pc' := 53) rfl ?_
    refine g_land Xk1.here hx (Jvm.hb hby at_53) (pc' := 54) rfl ?_
    generalize h_v1 : (x1 &&& (((1 : Int64) <<< (n1 &&& 0x3f).toInt64) - (1 : Int64))) = v1
    refine g_lstore Xk1.here hx (Jvm.hb hby at_54) (pc' := 56) rfl (L' := #[.val (.long x0), .second, .val (.long x1), .second, .val (.int x2), .val (.long x3), .second, .val (.int x4), .val (.int x5), .val (.long cap), .second, .val (.int n1), .val (.int n2), .val (.long v1), .second, .unset, .unset, .unset, .unset, .unset, .unset]) rfl ?_
    refine g_lloadN Xk1.here hx (Jvm.hb hby at_56) (pc' := 57) rfl rfl ?_
    refine g_bipush Xk1.here hx (Jvm.hb hby at_57) (pc' := 59) rfl (z := (7 : Int32)) rfl ?_
    refine g_lushr Xk1.here hx (Jvm.hb hby at_59) (pc' := 60) rfl ?_
    refine g_lconst Xk1.here hx (Jvm.hb hby at_60) (pc' := 61) rfl (z := (1 : Int64)) rfl ?_
    refine g_iload Xk1.here hx (Jvm.hb hby at_61) (pc' := 63) rfl rfl ?_
    refine g_lshl Xk1.here hx (Jvm.hb hby at_63) (pc' := 64) rfl ?_
    refine g_lconst Xk1.here hx (Jvm.hb hby at_64) (pc' := 65) rfl (z := (1 : Int64)) rfl ?_
    refine g_lsub Xk1.here hx (Jvm.hb hby at_65) (pc' := 66) rfl ?_
    refine g_land Xk1.here hx (Jvm.hb hby at_66) (pc' := 67) rfl ?_
    generalize h_v2 : (((x1.toUInt64 >>> ((7 : Int32) &&& 0x3f).toInt64.toUInt64).toInt64) &&& (((1 : Int64) <<< (n2 &&& 0x3f).toInt64) - (1 : Int64))) = v2
    refine g_lstore Xk1.here hx (Jvm.hb hby at_67) (pc' := 69) rfl (L' := #[.val (.long x0), .second, .val (.long x1), .second, .val (.int x2), .val (.long x3), .second, .val (.int x4), .val (.int x5), .val (.long cap), .second, .val (.int n1), .val (.int n2), .val (.long v1), .second, .val (.long v2), .second, .unset, .unset, .unset, .unset]) rfl ?_
    refine g_iload Xk1.here hx (Jvm.hb hby at_69) (pc' := 71) rfl rfl ?_
    refine g_iconst Xk1.here hx (Jvm.hb hby at_71) (pc' := 72) rfl (z := (2 : Int32)) rfl ?_
    refine g_iand Xk1.here hx (Jvm.hb hby at_72) (pc' := 73) rfl ?_
    have k91 : ∀ (Tk2 : State), ∀ (Xk2 : Stand p l e room_1 s m #[(.long x0), (.long x1), (.int x2), (.long x3), (.int x4), (.int x5)] below meth c Tk2 [] 0 0), ∀ (ek2 : Tk2.heap = h0), ∀ (z : Int64), ∀ (r_z : 0 ≤ z.toInt ∧ z.toInt ≤ 1152921504606846975), own_Gl p e below s (own_Q0 n0) room_1.cells room_1.slots (Tk2.setTop (mkF m 91 #[.val (.long x0), .second, .val (.long x1), .second, .val (.int x2), .val (.long x3), .second, .val (.int x4), .val (.int x5), .val (.long cap), .second, .val (.int n1), .val (.int n2), .val (.long v1), .second, .val (.long v2), .second, .unset, .unset, .unset, .unset] [(.long z)])) := by
      intro Tk2 Xk2 ek2 z r_z
      refine g_lstore Xk2.here hx (Jvm.hb hby at_91) (pc' := 93) rfl (L' := #[.val (.long x0), .second, .val (.long x1), .second, .val (.int x2), .val (.long x3), .second, .val (.int x4), .val (.int x5), .val (.long cap), .second, .val (.int n1), .val (.int n2), .val (.long v1), .second, .val (.long v2), .second, .val (.long z), .second, .unset, .unset]) rfl ?_
      refine g_new Xk2 hx hZ hown w_2 w_3 w_4 ek2 (Jvm.hb hby at_93) (pc' := 96) rfl (cells' := 1) (slots' := 5) rfl rfl (by decide) (by decide) ?_
      intro T3 hh3 ad3 gb3 X3 e3 E3 A3 D3
      have g_ad3 : n0 ≤ ad3 := by rw [gb3]; exact Z0
      have Z4 : n0 ≤ hh3.size := Nat.le_trans Z0 E3.1
      have F3_pages : Fld Z hh3 ad3 "com/example/narrow_sieve/narrowsieve/format/BitBuffer" "pages" "Ljava/util/List;" .null := D3 (Or.inr w_36) (ty := (.object "java/util/List")) (by decide)
      have F3_capacity : Fld Z hh3 ad3 "com/example/narrow_sieve/narrowsieve/format/BitBuffer" "capacity" "J" (.long (0 : Int64)) := D3 (Or.inr w_38) (ty := .long) (by decide)
      have F3_length : Fld Z hh3 ad3 "com/example/narrow_sieve/narrowsieve/format/BitBuffer" "length" "J" (.long (0 : Int64)) := D3 (Or.inl w_45) (ty := .long) (by decide)
      have F3_pending : Fld Z hh3 ad3 "com/example/narrow_sieve/narrowsieve/format/BitBuffer" "pending" "J" (.long (0 : Int64)) := D3 (Or.inl w_53) (ty := .long) (by decide)
      have F3_lastPageBytes : Fld Z hh3 ad3 "com/example/narrow_sieve/narrowsieve/format/BitBuffer" "lastPageBytes" "I" (.int (0 : Int32)) := D3 (Or.inl w_115) (ty := .int) (by decide)
      refine g_dup X3.here hx (Jvm.hb hby at_96) (pc' := 97) rfl rfl ?_
      refine g_lload X3.here hx (Jvm.hb hby at_97) (pc' := 99) rfl rfl ?_
      have F5 := (O0.ext E3)
      refine g_callI X3 hx hZ rfl hown w_5 w_6 w_4 w_7 (by decide) (rm1 l Z a0 hw [] ad3 cap d hh3 n0 Z4 g_ad3 A3 F3_pages F3_capacity F3_length F3_pending F3_lastPageBytes F5 S0) 1 (by decide) (by decide) e3 (by rw [hml]; rfl) [(.long cap)] [(.ref ad3)] (lenOf pd_13 rfl) rfl rfl (Nat.le_of_eq rfl) (Jvm.hb hby at_99) (pc' := 102) rfl (cells' := 2) (slots' := 8) rfl rfl (by decide) (by decide) ?_
      intro v6 T6 L6 X6 hQ6
      obtain ⟨rfl, Nq6, hS0⟩ := hQ6
      have N6 := Fr.app N0 Nq6
      have Zh6 : n0 ≤ T6.heap.size := own_SE.sz hS0
      show own_Gl p e below s (own_Q0 n0) room_1.cells room_1.slots (T6.setTop (mkF m 102 #[.val (.long x0), .second, .val (.long x1), .second, .val (.int x2), .val (.long x3), .second, .val (.int x4), .val (.int x5), .val (.long cap), .second, .val (.int n1), .val (.int n2), .val (.long v1), .second, .val (.long v2), .second, .val (.long z), .second, .unset, .unset] [(.ref ad3)]))
      have b1 : 0 ≤ n1.toInt64.toInt ∧ n1.toInt64.toInt ≤ 56 := by rw [c_i2l]; exact r_n1
      have b2 := own_add0 n1.toInt64 z 56 1152921504606846975 b1 r_z (by decide)
      have b3 := own_add0 (n1.toInt64 + z) n2.toInt64 (56 + 1152921504606846975) 56 b2 (by rw [c_i2l]; exact r_n2) (by decide)
      obtain ⟨lc7, Nlc7, Xlc7⟩ := own_nameL X6 N6
      refine g_astore Xlc7.here hx (Jvm.hb hby at_102) (pc' := 104) rfl rfl (L' := #[.val (.long x0), .second, .val (.long x1), .second, .val (.int x2), .val (.long x3), .second, .val (.int x4), .val (.int x5), .val (.long cap), .second, .val (.int n1), .val (.int n2), .val (.long v1), .second, .val (.long v2), .second, .val (.long z), .second, .val (.ref ad3), .unset]) rfl ?_
      have kE3 : ∀ (Tk8 : State), ∀ (hk8 : Heap), ∀ (lck8 : List Loc), ∀ (Xk8 : Stand p l e room_1 s m #[(.long x0), (.long x1), (.int x2), (.long x3), (.int x4), (.int x5)] below meth c Tk8 lck8 2 8), ∀ (ek8 : Tk8.heap = hk8), ∀ (Nk8 : Fr n0 lck8), ∀ (Zk8 : n0 ≤ hk8.size), ∀ (hS : own_SE Z hk8 n0 ad3 d cap ((n1.toInt64 + z) + n2.toInt64)), own_Gl p e below s (own_Q0 n0) room_1.cells room_1.slots (Tk8.setTop (mkF m 203 #[.val (.long x0), .second, .val (.long x1), .second, .val (.int x2), .val (.long x3), .second, .val (.int x4), .val (.int x5), .val (.long cap), .second, .val (.int n1), .val (.int n2), .val (.long v1), .second, .val (.long v2), .second, .val (.long z), .second, .val (.ref ad3), .val (.int (1 : Int32))] [])) := by
        intro Tk8 hk8 lck8 Xk8 ek8 Nk8 Zk8 hS
        refine g_iload Xk8.here hx (Jvm.hb hby at_203) (pc' := 205) rfl rfl ?_
        refine g_ifN Xk8.here hx (Jvm.hb hby at_205) (pc' := 208) rfl ((if0 _ _).trans (feq (by decide)).1) ?_
        refine g_aload Xk8.here hx (Jvm.hb hby at_208) (pc' := 210) rfl rfl rfl ?_
        refine g_callV Xk8 hx hZ hown w_39 w_40 (own_nf hZ w_42) w_42 w_41 w_4 w_43 (by decide) (rm6 l Z a0 hw [] ad3 ((n1.toInt64 + z) + n2.toInt64) hk8 (own_SE.fl hS)) 0 (by decide) (by decide) ek8 (own_SE.exa hS) (by rw [hml]; rfl) [] [] (lenOf pd_14 rfl) rfl rfl (Nat.le_of_eq rfl) (Jvm.hb hby at_210) (pc' := 213) rfl (cells' := 2) (slots' := 8) rfl rfl (by decide) (by decide) ?_
        intro v9 T9 L9 X9 hQ9
        obtain ⟨rfl, rfl, e9⟩ := hQ9
        rw [List.append_nil] at X9
        show own_Gl p e below s (own_Q0 n0) room_1.cells room_1.slots (T9.setTop (mkF m 213 #[.val (.long x0), .second, .val (.long x1), .second, .val (.int x2), .val (.long x3), .second, .val (.int x4), .val (.int x5), .val (.long cap), .second, .val (.int n1), .val (.int n2), .val (.long v1), .second, .val (.long v2), .second, .val (.long z), .second, .val (.ref ad3), .val (.int (1 : Int32))] [(.long (f_bl ((n1.toInt64 + z) + n2.toInt64)))]))
        refine g_iload X9.here hx (Jvm.hb hby at_213) (pc' := 215) rfl rfl ?_
        refine g_i2l X9.here hx (Jvm.hb hby at_215) (pc' := 216) rfl ?_
        refine g_lload X9.here hx (Jvm.hb hby at_216) (pc' := 218) rfl rfl ?_
        refine g_ladd X9.here hx (Jvm.hb hby at_218) (pc' := 219) rfl ?_
        refine g_iload X9.here hx (Jvm.hb hby at_219) (pc' := 221) rfl rfl ?_
        refine g_i2l X9.here hx (Jvm.hb hby at_221) (pc' := 222) rfl ?_
        refine g_ladd X9.here hx (Jvm.hb hby at_222) (pc' := 223) rfl ?_
        refine g_callP X9 hx hZ hown w_54 w_55 w_56 w_57 (by decide) (rm8 l Z a0 hw [] ((n1.toInt64 + z) + n2.toInt64) hk8) 2 (by decide) (by decide) e9 (by rw [hml]; rfl) [(.long (((n1.toInt64) + z) + (n2.toInt64)))] [(.long (f_bl ((n1.toInt64 + z) + n2.toInt64)))] (lenOf pd_15 rfl) rfl rfl (Nat.le_of_eq rfl) (Jvm.hb hby at_223) (pc' := 226) rfl (by decide) (by decide) ?_
        intro T10 X10 e10
        show own_Gl p e below s (own_Q0 n0) room_1.cells room_1.slots (T10.setTop (mkF m 226 #[.val (.long x0), .second, .val (.long x1), .second, .val (.int x2), .val (.long x3), .second, .val (.int x4), .val (.int x5), .val (.long cap), .second, .val (.int n1), .val (.int n2), .val (.long v1), .second, .val (.long v2), .second, .val (.long z), .second, .val (.ref ad3), .val (.int (1 : Int32))] [(.long (f_c8 ((n1.toInt64 + z) + n2.toInt64))), (.long (f_bl ((n1.toInt64 + z) + n2.toInt64)))]))
        refine g_lcmp X10.here hx (Jvm.hb hby at_226) (pc' := 227) rfl ?_
        refine g_ifN X10.here hx (Jvm.hb hby at_227) (pc' := 230) rfl (own_teqL (own_bl ((n1.toInt64 + z) + n2.toInt64) ⟨b3.1, by omega⟩)).2 ?_
        refine g_iconst X10.here hx (Jvm.hb hby at_230) (pc' := 231) rfl (z := (1 : Int32)) rfl ?_
        refine g_goto X10.here hx (Jvm.hb hby at_231) (by decide) (pc' := 235) (by decide) ?_
        refine g_istore X10.here hx (Jvm.hb hby at_235) (pc' := 237) rfl (L' := #[.val (.long x0), .second, .val (.long x1), .second, .val (.int x2), .val (.long x3), .second, .val (.int x4), .val (.int x5), .val (.long cap), .second, .val (.int n1), .val (.int n2), .val (.long v1), .second, .val (.long v2), .second, .val (.long z), .second, .val (.ref ad3), .val (.int (1 : Int32))]) rfl ?_
        refine g_iload X10.here hx (Jvm.hb hby at_237) (pc' := 239) rfl rfl ?_
        exact g_retN X10 hx hlk (t := .boolean) hret (by simp) (z' := (1 : Int32)) rfl (Jvm.hb hby at_239) (by decide) (by decide) ⟨rfl, Nk8⟩
      have kP3 : ∀ (Tk11 : State), ∀ (hk11 : Heap), ∀ (lck11 : List Loc), ∀ (Xk11 : Stand p l e room_1 s m #[(.long x0), (.long x1), (.int x2), (.long x3), (.int x4), (.int x5)] below meth c Tk11 lck11 4 65554), ∀ (ek11 : Tk11.heap = hk11), ∀ (Nk11 : Fr n0 lck11), ∀ (Zk11 : n0 ≤ hk11.size), ∀ (hS : own_SP Z hk11 n0 ad3 cap ((n1.toInt64 + z) + n2.toInt64) 3000), own_Gl p e below s (own_Q0 n0) room_1.cells room_1.slots (Tk11.setTop (mkF m 203 #[.val (.long x0), .second, .val (.long x1), .second, .val (.int x2), .val (.long x3), .second, .val (.int x4), .val (.int x5), .val (.long cap), .second, .val (.int n1), .val (.int n2), .val (.long v1), .second, .val (.long v2), .second, .val (.long z), .second, .val (.ref ad3), .val (.int (1 : Int32))] [])) := by
        intro Tk11 hk11 lck11 Xk11 ek11 Nk11 Zk11 hS
        refine g_iload Xk11.here hx (Jvm.hb hby at_203) (pc' := 205) rfl rfl ?_
        refine g_ifN Xk11.here hx (Jvm.hb hby at_205) (pc' := 208) rfl ((if0 _ _).trans (feq (by decide)).1) ?_
        refine g_aload Xk11.here hx (Jvm.hb hby at_208) (pc' := 210) rfl rfl rfl ?_
        refine g_callV Xk11 hx hZ hown w_39 w_40 (own_nf hZ w_42) w_42 w_41 w_4 w_43 (by decide) (rm6 l Z a0 hw [] ad3 ((n1.toInt64 + z) + n2.toInt64) hk11 (own_SP.fl hS)) 0 (by decide) (by decide) ek11 (own_SP.exa hS) (by rw [hml]; rfl) [] [] (lenOf pd_14 rfl) rfl rfl (Nat.le_of_eq rfl) (Jvm.hb hby at_210) (pc' := 213) rfl (cells' := 4) (slots' := 65554) rfl rfl (by decide) (by decide) ?_
        intro v12 T12 L12 X12 hQ12
        obtain ⟨rfl, rfl, e12⟩ := hQ12
        rw [List.append_nil] at X12
        show own_Gl p e below s (own_Q0 n0) room_1.cells room_1.slots (T12.setTop (mkF m 213 #[.val (.long x0), .second, .val (.long x1), .second, .val (.int x2), .val (.long x3), .second, .val (.int x4), .val (.int x5), .val (.long cap), .second, .val (.int n1), .val (.int n2), .val (.long v1), .second, .val (.long v2), .second, .val (.long z), .second, .val (.ref ad3), .val (.int (1 : Int32))] [(.long (f_bl ((n1.toInt64 + z) + n2.toInt64)))]))
        refine g_iload X12.here hx (Jvm.hb hby at_213) (pc' := 215) rfl rfl ?_
        refine g_i2l X12.here hx (Jvm.hb hby at_215) (pc' := 216) rfl ?_
        refine g_lload X12.here hx (Jvm.hb hby at_216) (pc' := 218) rfl rfl ?_
        refine g_ladd X12.here hx (Jvm.hb hby at_218) (pc' := 219) rfl ?_
        refine g_iload X12.here hx (Jvm.hb hby at_219) (pc' := 221) rfl rfl ?_
        refine g_i2l X12.here hx (Jvm.hb hby at_221) (pc' := 222) rfl ?_
        refine g_ladd X12.here hx (Jvm.hb hby at_222) (pc' := 223) rfl ?_
        refine g_callP X12 hx hZ hown w_54 w_55 w_56 w_57 (by decide) (rm8 l Z a0 hw [] ((n1.toInt64 + z) + n2.toInt64) hk11) 2 (by decide) (by decide) e12 (by rw [hml]; rfl) [(.long (((n1.toInt64) + z) + (n2.toInt64)))] [(.long (f_bl ((n1.toInt64 + z) + n2.toInt64)))] (lenOf pd_15 rfl) rfl rfl (Nat.le_of_eq rfl) (Jvm.hb hby at_223) (pc' := 226) rfl (by decide) (by decide) ?_
        intro T13 X13 e13
        show own_Gl p e below s (own_Q0 n0) room_1.cells room_1.slots (T13.setTop (mkF m 226 #[.val (.long x0), .second, .val (.long x1), .second, .val (.int x2), .val (.long x3), .second, .val (.int x4), .val (.int x5), .val (.long cap), .second, .val (.int n1), .val (.int n2), .val (.long v1), .second, .val (.long v2), .second, .val (.long z), .second, .val (.ref ad3), .val (.int (1 : Int32))] [(.long (f_c8 ((n1.toInt64 + z) + n2.toInt64))), (.long (f_bl ((n1.toInt64 + z) + n2.toInt64)))]))
        refine g_lcmp X13.here hx (Jvm.hb hby at_226) (pc' := 227) rfl ?_
        refine g_ifN X13.here hx (Jvm.hb hby at_227) (pc' := 230) rfl (own_teqL (own_bl ((n1.toInt64 + z) + n2.toInt64) ⟨b3.1, by omega⟩)).2 ?_
        refine g_iconst X13.here hx (Jvm.hb hby at_230) (pc' := 231) rfl (z := (1 : Int32)) rfl ?_
        refine g_goto X13.here hx (Jvm.hb hby at_231) (by decide) (pc' := 235) (by decide) ?_
        refine g_istore X13.here hx (Jvm.hb hby at_235) (pc' := 237) rfl (L' := #[.val (.long x0), .second, .val (.long x1), .second, .val (.int x2), .val (.long x3), .second, .val (.int x4), .val (.int x5), .val (.long cap), .second, .val (.int n1), .val (.int n2), .val (.long v1), .second, .val (.long v2), .second, .val (.long z), .second, .val (.ref ad3), .val (.int (1 : Int32))]) rfl ?_
        refine g_iload X13.here hx (Jvm.hb hby at_237) (pc' := 239) rfl rfl ?_
        exact g_retN X13 hx hlk (t := .boolean) hret (by simp) (z' := (1 : Int32)) rfl (Jvm.hb hby at_239) (by decide) (by decide) ⟨rfl, Nk11⟩
      have kE2 : ∀ (Tk14 : State), ∀ (hk14 : Heap), ∀ (lck14 : List Loc), ∀ (Xk14 : Stand p l e room_1 s m #[(.long x0), (.long x1), (.int x2), (.long x3), (.int x4), (.int x5)] below meth c Tk14 lck14 2 8), ∀ (ek14 : Tk14.heap = hk14), ∀ (Nk14 : Fr n0 lck14), ∀ (Zk14 : n0 ≤ hk14.size), ∀ (hS : own_SE Z hk14 n0 ad3 d cap (n1.toInt64 + z)), own_Gl p e below s (own_Q0 n0) room_1.cells room_1.slots (Tk14.setTop (mkF m 164 #[.val (.long x0), .second, .val (.long x1), .second, .val (.int x2), .val (.long x3), .second, .val (.int x4), .val (.int x5), .val (.long cap), .second, .val (.int n1), .val (.int n2), .val (.long v1), .second, .val (.long v2), .second, .val (.long z), .second, .val (.ref ad3), .val (.int (1 : Int32))] [])) := by
        intro Tk14 hk14 lck14 Xk14 ek14 Nk14 Zk14 hS
        refine g_iload Xk14.here hx (Jvm.hb hby at_164) (pc' := 166) rfl rfl ?_
        refine g_ifN Xk14.here hx (Jvm.hb hby at_166) (pc' := 169) rfl ((if0 _ _).trans (feq (by decide)).1) ?_
        refine g_aload Xk14.here hx (Jvm.hb hby at_169) (pc' := 171) rfl rfl rfl ?_
        refine g_callV Xk14 hx hZ hown w_39 w_40 (own_nf hZ w_42) w_42 w_41 w_4 w_43 (by decide) (rm6 l Z a0 hw [] ad3 (n1.toInt64 + z) hk14 (own_SE.fl hS)) 0 (by decide) (by decide) ek14 (own_SE.exa hS) (by rw [hml]; rfl) [] [] (lenOf pd_14 rfl) rfl rfl (Nat.le_of_eq rfl) (Jvm.hb hby at_171) (pc' := 174) rfl (cells' := 2) (slots' := 8) rfl rfl (by decide) (by decide) ?_
        intro v15 T15 L15 X15 hQ15
        obtain ⟨rfl, rfl, e15⟩ := hQ15
        rw [List.append_nil] at X15
        show own_Gl p e below s (own_Q0 n0) room_1.cells room_1.slots (T15.setTop (mkF m 174 #[.val (.long x0), .second, .val (.long x1), .second, .val (.int x2), .val (.long x3), .second, .val (.int x4), .val (.int x5), .val (.long cap), .second, .val (.int n1), .val (.int n2), .val (.long v1), .second, .val (.long v2), .second, .val (.long z), .second, .val (.ref ad3), .val (.int (1 : Int32))] [(.long (f_bl (n1.toInt64 + z)))]))
        refine g_iload X15.here hx (Jvm.hb hby at_174) (pc' := 176) rfl rfl ?_
        refine g_i2l X15.here hx (Jvm.hb hby at_176) (pc' := 177) rfl ?_
        refine g_lload X15.here hx (Jvm.hb hby at_177) (pc' := 179) rfl rfl ?_
        refine g_ladd X15.here hx (Jvm.hb hby at_179) (pc' := 180) rfl ?_
        refine g_callP X15 hx hZ hown w_54 w_55 w_56 w_57 (by decide) (rm8 l Z a0 hw [] (n1.toInt64 + z) hk14) 2 (by decide) (by decide) e15 (by rw [hml]; rfl) [(.long ((n1.toInt64) + z))] [(.long (f_bl (n1.toInt64 + z)))] (lenOf pd_15 rfl) rfl rfl (Nat.le_of_eq rfl) (Jvm.hb hby at_180) (pc' := 183) rfl (by decide) (by decide) ?_
        intro T16 X16 e16
        show own_Gl p e below s (own_Q0 n0) room_1.cells room_1.slots (T16.setTop (mkF m 183 #[.val (.long x0), .second, .val (.long x1), .second, .val (.int x2), .val (.long x3), .second, .val (.int x4), .val (.int x5), .val (.long cap), .second, .val (.int n1), .val (.int n2), .val (.long v1), .second, .val (.long v2), .second, .val (.long z), .second, .val (.ref ad3), .val (.int (1 : Int32))] [(.long (f_c8 (n1.toInt64 + z))), (.long (f_bl (n1.toInt64 + z)))]))
        refine g_lcmp X16.here hx (Jvm.hb hby at_183) (pc' := 184) rfl ?_
        refine g_ifN X16.here hx (Jvm.hb hby at_184) (pc' := 187) rfl (own_teqL (own_bl (n1.toInt64 + z) ⟨b2.1, by omega⟩)).2 ?_
        refine g_iconst X16.here hx (Jvm.hb hby at_187) (pc' := 188) rfl (z := (1 : Int32)) rfl ?_
        refine g_goto X16.here hx (Jvm.hb hby at_188) (by decide) (pc' := 192) (by decide) ?_
        refine g_istore X16.here hx (Jvm.hb hby at_192) (pc' := 194) rfl (L' := #[.val (.long x0), .second, .val (.long x1), .second, .val (.int x2), .val (.long x3), .second, .val (.int x4), .val (.int x5), .val (.long cap), .second, .val (.int n1), .val (.int n2), .val (.long v1), .second, .val (.long v2), .second, .val (.long z), .second, .val (.ref ad3), .val (.int (1 : Int32))]) rfl ?_
        refine g_aload X16.here hx (Jvm.hb hby at_194) (pc' := 196) rfl rfl rfl ?_
        refine g_lload X16.here hx (Jvm.hb hby at_196) (pc' := 198) rfl rfl ?_
        refine g_iload X16.here hx (Jvm.hb hby at_198) (pc' := 200) rfl rfl ?_
        by_cases hY : cap < ((n1.toInt64 + z) + n2.toInt64)
        · refine g_callV X16 hx hZ hown w_47 w_48 (own_nf hZ w_50) w_50 w_49 w_4 w_51 (by decide) (rmApXE l Z a0 hw [] ad3 v2 n2 d cap (n1.toInt64 + z) hk14 n0 Zk14 hS hY) 0 (by decide) (by decide) e16 (own_SE.exa hS) (by rw [hml]; rfl) [(.long v2), (.int n2)] [] (lenOf pd_12 rfl) rfl rfl (Nat.le_of_eq rfl) (Jvm.hb hby at_200) (pc' := 203) rfl (cells' := 2) (slots' := 8) rfl rfl (by decide) (by decide) ?_
          intro v17 T17 L17 X17 hQ17
          obtain ⟨rfl, Nq17, hS17⟩ := hQ17
          have N17 := Fr.app Nk14 Nq17
          have Zh17 : n0 ≤ T17.heap.size := own_SE.sz hS17
          show own_Gl p e below s (own_Q0 n0) room_1.cells room_1.slots (T17.setTop (mkF m 203 #[.val (.long x0), .second, .val (.long x1), .second, .val (.int x2), .val (.long x3), .second, .val (.int x4), .val (.int x5), .val (.long cap), .second, .val (.int n1), .val (.int n2), .val (.long v1), .second, .val (.long v2), .second, .val (.long z), .second, .val (.ref ad3), .val (.int (1 : Int32))] []))
          exact kE3 T17 T17.heap _ X17 rfl N17 Zh17 hS17
        · by_cases hb : (((n1.toInt64 + z) % (8 : Int64)).toInt32 + n2) < (8 : Int32)
          · refine g_callV X16 hx hZ hown w_47 w_48 (own_nf hZ w_50) w_50 w_49 w_4 w_51 (by decide) (rmApEE l Z a0 hw [] ad3 v2 n2 d cap (n1.toInt64 + z) hk14 n0 Zk14 hS hY hb) 0 (by decide) (by decide) e16 (own_SE.exa hS) (by rw [hml]; rfl) [(.long v2), (.int n2)] [] (lenOf pd_12 rfl) rfl rfl (Nat.le_of_eq rfl) (Jvm.hb hby at_200) (pc' := 203) rfl (cells' := 2) (slots' := 8) rfl rfl (by decide) (by decide) ?_
            intro v18 T18 L18 X18 hQ18
            obtain ⟨rfl, Nq18, hS18⟩ := hQ18
            have N18 := Fr.app Nk14 Nq18
            have Zh18 : n0 ≤ T18.heap.size := own_SE.sz hS18
            show own_Gl p e below s (own_Q0 n0) room_1.cells room_1.slots (T18.setTop (mkF m 203 #[.val (.long x0), .second, .val (.long x1), .second, .val (.int x2), .val (.long x3), .second, .val (.int x4), .val (.int x5), .val (.long cap), .second, .val (.int n1), .val (.int n2), .val (.long v1), .second, .val (.long v2), .second, .val (.long z), .second, .val (.ref ad3), .val (.int (1 : Int32))] []))
            exact kE3 T18 T18.heap _ X18 rfl N18 Zh18 hS18
          · refine g_callV X16 hx hZ hown w_47 w_48 (own_nf hZ w_50) w_50 w_49 w_4 w_51 (by decide) (rmApEP l Z a0 hw [] ad3 v2 n2 d cap (n1.toInt64 + z) hk14 n0 Zk14 hS hY hb (own_bits2 _ _ b2.1 r_n2) S0 A0) 0 (by decide) (by decide) e16 (own_SE.exa hS) (by rw [hml]; rfl) [(.long v2), (.int n2)] [] (lenOf pd_12 rfl) rfl rfl (Nat.le_of_eq rfl) (Jvm.hb hby at_200) (pc' := 203) rfl (cells' := 4) (slots' := 65554) rfl rfl (by decide) (by decide) ?_
            intro v19 T19 L19 X19 hQ19
            obtain ⟨rfl, Nq19, hS19⟩ := hQ19
            have N19 := Fr.app Nk14 Nq19
            have Zh19 : n0 ≤ T19.heap.size := own_zsz hS19
            show own_Gl p e below s (own_Q0 n0) room_1.cells room_1.slots (T19.setTop (mkF m 203 #[.val (.long x0), .second, .val (.long x1), .second, .val (.int x2), .val (.long x3), .second, .val (.int x4), .val (.int x5), .val (.long cap), .second, .val (.int n1), .val (.int n2), .val (.long v1), .second, .val (.long v2), .second, .val (.long z), .second, .val (.ref ad3), .val (.int (1 : Int32))] []))
            exact kP3 T19 T19.heap _ X19 rfl N19 Zh19 (own_SP.wide hS19 (by decide))
      have kP2 : ∀ (Tk20 : State), ∀ (hk20 : Heap), ∀ (lck20 : List Loc), ∀ (Xk20 : Stand p l e room_1 s m #[(.long x0), (.long x1), (.int x2), (.long x3), (.int x4), (.int x5)] below meth c Tk20 lck20 4 65554), ∀ (ek20 : Tk20.heap = hk20), ∀ (Nk20 : Fr n0 lck20), ∀ (Zk20 : n0 ≤ hk20.size), ∀ (hS : own_SP Z hk20 n0 ad3 cap (n1.toInt64 + z) 2000), own_Gl p e below s (own_Q0 n0) room_1.cells room_1.slots (Tk20.setTop (mkF m 164 #[.val (.long x0), .second, .val (.long x1), .second, .val (.int x2), .val (.long x3), .second, .val (.int x4), .val (.int x5), .val (.long cap), .second, .val (.int n1), .val (.int n2), .val (.long v1), .second, .val (.long v2), .second, .val (.long z), .second, .val (.ref ad3), .val (.int (1 : Int32))] [])) := by
        intro Tk20 hk20 lck20 Xk20 ek20 Nk20 Zk20 hS
        refine g_iload Xk20.here hx (Jvm.hb hby at_164) (pc' := 166) rfl rfl ?_
        refine g_ifN Xk20.here hx (Jvm.hb hby at_166) (pc' := 169) rfl ((if0 _ _).trans (feq (by decide)).1) ?_
        refine g_aload Xk20.here hx (Jvm.hb hby at_169) (pc' := 171) rfl rfl rfl ?_
        refine g_callV Xk20 hx hZ hown w_39 w_40 (own_nf hZ w_42) w_42 w_41 w_4 w_43 (by decide) (rm6 l Z a0 hw [] ad3 (n1.toInt64 + z) hk20 (own_SP.fl hS)) 0 (by decide) (by decide) ek20 (own_SP.exa hS) (by rw [hml]; rfl) [] [] (lenOf pd_14 rfl) rfl rfl (Nat.le_of_eq rfl) (Jvm.hb hby at_171) (pc' := 174) rfl (cells' := 4) (slots' := 65554) rfl rfl (by decide) (by decide) ?_
        intro v21 T21 L21 X21 hQ21
        obtain ⟨rfl, rfl, e21⟩ := hQ21
        rw [List.append_nil] at X21
        show own_Gl p e below s (own_Q0 n0) room_1.cells room_1.slots (T21.setTop (mkF m 174 #[.val (.long x0), .second, .val (.long x1), .second, .val (.int x2), .val (.long x3), .second, .val (.int x4), .val (.int x5), .val (.long cap), .second, .val (.int n1), .val (.int n2), .val (.long v1), .second, .val (.long v2), .second, .val (.long z), .second, .val (.ref ad3), .val (.int (1 : Int32))] [(.long (f_bl (n1.toInt64 + z)))]))
        refine g_iload X21.here hx (Jvm.hb hby at_174) (pc' := 176) rfl rfl ?_
        refine g_i2l X21.here hx (Jvm.hb hby at_176) (pc' := 177) rfl ?_
        refine g_lload X21.here hx (Jvm.hb hby at_177) (pc' := 179) rfl rfl ?_
        refine g_ladd X21.here hx (Jvm.hb hby at_179) (pc' := 180) rfl ?_
        refine g_callP X21 hx hZ hown w_54 w_55 w_56 w_57 (by decide) (rm8 l Z a0 hw [] (n1.toInt64 + z) hk20) 2 (by decide) (by decide) e21 (by rw [hml]; rfl) [(.long ((n1.toInt64) + z))] [(.long (f_bl (n1.toInt64 + z)))] (lenOf pd_15 rfl) rfl rfl (Nat.le_of_eq rfl) (Jvm.hb hby at_180) (pc' := 183) rfl (by decide) (by decide) ?_
        intro T22 X22 e22
        show own_Gl p e below s (own_Q0 n0) room_1.cells room_1.slots (T22.setTop (mkF m 183 #[.val (.long x0), .second, .val (.long x1), .second, .val (.int x2), .val (.long x3), .second, .val (.int x4), .val (.int x5), .val (.long cap), .second, .val (.int n1), .val (.int n2), .val (.long v1), .second, .val (.long v2), .second, .val (.long z), .second, .val (.ref ad3), .val (.int (1 : Int32))] [(.long (f_c8 (n1.toInt64 + z))), (.long (f_bl (n1.toInt64 + z)))]))
        refine g_lcmp X22.here hx (Jvm.hb hby at_183) (pc' := 184) rfl ?_
        refine g_ifN X22.here hx (Jvm.hb hby at_184) (pc' := 187) rfl (own_teqL (own_bl (n1.toInt64 + z) ⟨b2.1, by omega⟩)).2 ?_
        refine g_iconst X22.here hx (Jvm.hb hby at_187) (pc' := 188) rfl (z := (1 : Int32)) rfl ?_
        refine g_goto X22.here hx (Jvm.hb hby at_188) (by decide) (pc' := 192) (by decide) ?_
        refine g_istore X22.here hx (Jvm.hb hby at_192) (pc' := 194) rfl (L' := #[.val (.long x0), .second, .val (.long x1), .second, .val (.int x2), .val (.long x3), .second, .val (.int x4), .val (.int x5), .val (.long cap), .second, .val (.int n1), .val (.int n2), .val (.long v1), .second, .val (.long v2), .second, .val (.long z), .second, .val (.ref ad3), .val (.int (1 : Int32))]) rfl ?_
        refine g_aload X22.here hx (Jvm.hb hby at_194) (pc' := 196) rfl rfl rfl ?_
        refine g_lload X22.here hx (Jvm.hb hby at_196) (pc' := 198) rfl rfl ?_
        refine g_iload X22.here hx (Jvm.hb hby at_198) (pc' := 200) rfl rfl ?_
        by_cases hY : cap < ((n1.toInt64 + z) + n2.toInt64)
        · refine g_callV X22 hx hZ hown w_47 w_48 (own_nf hZ w_50) w_50 w_49 w_4 w_51 (by decide) (rmApXP l Z a0 hw [] ad3 v2 n2 cap (n1.toInt64 + z) 2000 hk20 n0 Zk20 hS hY) 0 (by decide) (by decide) e22 (own_SP.exa hS) (by rw [hml]; rfl) [(.long v2), (.int n2)] [] (lenOf pd_12 rfl) rfl rfl (Nat.le_of_eq rfl) (Jvm.hb hby at_200) (pc' := 203) rfl (cells' := 4) (slots' := 65554) rfl rfl (by decide) (by decide) ?_
          intro v23 T23 L23 X23 hQ23
          obtain ⟨rfl, Nq23, hS23⟩ := hQ23
          have N23 := Fr.app Nk20 Nq23
          have Zh23 : n0 ≤ T23.heap.size := own_zsz hS23
          show own_Gl p e below s (own_Q0 n0) room_1.cells room_1.slots (T23.setTop (mkF m 203 #[.val (.long x0), .second, .val (.long x1), .second, .val (.int x2), .val (.long x3), .second, .val (.int x4), .val (.int x5), .val (.long cap), .second, .val (.int n1), .val (.int n2), .val (.long v1), .second, .val (.long v2), .second, .val (.long z), .second, .val (.ref ad3), .val (.int (1 : Int32))] []))
          exact kP3 T23 T23.heap _ X23 rfl N23 Zh23 (own_SP.wide hS23 (by decide))
        · refine g_callV X22 hx hZ hown w_47 w_48 (own_nf hZ w_50) w_50 w_49 w_4 w_51 (by decide) (rmApPP l Z a0 hw [] ad3 v2 n2 cap (n1.toInt64 + z) 2000 hk20 n0 Zk20 hS hY (own_bits2 _ _ b2.1 r_n2) (by decide)) 0 (by decide) (by decide) e22 (own_SP.exa hS) (by rw [hml]; rfl) [(.long v2), (.int n2)] [] (lenOf pd_12 rfl) rfl rfl (Nat.le_of_eq rfl) (Jvm.hb hby at_200) (pc' := 203) rfl (cells' := 4) (slots' := 65554) rfl rfl (by decide) (by decide) ?_
          intro v24 T24 L24 X24 hQ24
          obtain ⟨rfl, Nq24, hS24⟩ := hQ24
          have N24 := Fr.app Nk20 Nq24
          have Zh24 : n0 ≤ T24.heap.size := own_zsz hS24
          show own_Gl p e below s (own_Q0 n0) room_1.cells room_1.slots (T24.setTop (mkF m 203 #[.val (.long x0), .second, .val (.long x1), .second, .val (.int x2), .val (.long x3), .second, .val (.int x4), .val (.int x5), .val (.long cap), .second, .val (.int n1), .val (.int n2), .val (.long v1), .second, .val (.long v2), .second, .val (.long z), .second, .val (.ref ad3), .val (.int (1 : Int32))] []))
          exact kP3 T24 T24.heap _ X24 rfl N24 Zh24 (own_SP.wide hS24 (by decide))
      have kE1 : ∀ (Tk25 : State), ∀ (hk25 : Heap), ∀ (lck25 : List Loc), ∀ (Xk25 : Stand p l e room_1 s m #[(.long x0), (.long x1), (.int x2), (.long x3), (.int x4), (.int x5)] below meth c Tk25 lck25 2 8), ∀ (ek25 : Tk25.heap = hk25), ∀ (Nk25 : Fr n0 lck25), ∀ (Zk25 : n0 ≤ hk25.size), ∀ (hS : own_SE Z hk25 n0 ad3 d cap n1.toInt64), own_Gl p e below s (own_Q0 n0) room_1.cells room_1.slots (Tk25.setTop (mkF m 130 #[.val (.long x0), .second, .val (.long x1), .second, .val (.int x2), .val (.long x3), .second, .val (.int x4), .val (.int x5), .val (.long cap), .second, .val (.int n1), .val (.int n2), .val (.long v1), .second, .val (.long v2), .second, .val (.long z), .second, .val (.ref ad3), .val (.int (1 : Int32))] [])) := by
        intro Tk25 hk25 lck25 Xk25 ek25 Nk25 Zk25 hS
        refine g_iload Xk25.here hx (Jvm.hb hby at_130) (pc' := 132) rfl rfl ?_
        refine g_ifN Xk25.here hx (Jvm.hb hby at_132) (pc' := 135) rfl ((if0 _ _).trans (feq (by decide)).1) ?_
        refine g_aload Xk25.here hx (Jvm.hb hby at_135) (pc' := 137) rfl rfl rfl ?_
        refine g_callV Xk25 hx hZ hown w_39 w_40 (own_nf hZ w_42) w_42 w_41 w_4 w_43 (by decide) (rm6 l Z a0 hw [] ad3 n1.toInt64 hk25 (own_SE.fl hS)) 0 (by decide) (by decide) ek25 (own_SE.exa hS) (by rw [hml]; rfl) [] [] (lenOf pd_14 rfl) rfl rfl (Nat.le_of_eq rfl) (Jvm.hb hby at_137) (pc' := 140) rfl (cells' := 2) (slots' := 8) rfl rfl (by decide) (by decide) ?_
        intro v26 T26 L26 X26 hQ26
        obtain ⟨rfl, rfl, e26⟩ := hQ26
        rw [List.append_nil] at X26
        show own_Gl p e below s (own_Q0 n0) room_1.cells room_1.slots (T26.setTop (mkF m 140 #[.val (.long x0), .second, .val (.long x1), .second, .val (.int x2), .val (.long x3), .second, .val (.int x4), .val (.int x5), .val (.long cap), .second, .val (.int n1), .val (.int n2), .val (.long v1), .second, .val (.long v2), .second, .val (.long z), .second, .val (.ref ad3), .val (.int (1 : Int32))] [(.long (f_bl n1.toInt64))]))
        refine g_iload X26.here hx (Jvm.hb hby at_140) (pc' := 142) rfl rfl ?_
        refine g_i2l X26.here hx (Jvm.hb hby at_142) (pc' := 143) rfl ?_
        refine g_callP X26 hx hZ hown w_54 w_55 w_56 w_57 (by decide) (rm8 l Z a0 hw [] n1.toInt64 hk25) 2 (by decide) (by decide) e26 (by rw [hml]; rfl) [(.long (n1.toInt64))] [(.long (f_bl n1.toInt64))] (lenOf pd_15 rfl) rfl rfl (Nat.le_of_eq rfl) (Jvm.hb hby at_143) (pc' := 146) rfl (by decide) (by decide) ?_
        intro T27 X27 e27
        show own_Gl p e below s (own_Q0 n0) room_1.cells room_1.slots (T27.setTop (mkF m 146 #[.val (.long x0), .second, .val (.long x1), .second, .val (.int x2), .val (.long x3), .second, .val (.int x4), .val (.int x5), .val (.long cap), .second, .val (.int n1), .val (.int n2), .val (.long v1), .second, .val (.long v2), .second, .val (.long z), .second, .val (.ref ad3), .val (.int (1 : Int32))] [(.long (f_c8 n1.toInt64)), (.long (f_bl n1.toInt64))]))
        refine g_lcmp X27.here hx (Jvm.hb hby at_146) (pc' := 147) rfl ?_
        refine g_ifN X27.here hx (Jvm.hb hby at_147) (pc' := 150) rfl (own_teqL (own_bl n1.toInt64 ⟨b1.1, by omega⟩)).2 ?_
        refine g_iconst X27.here hx (Jvm.hb hby at_150) (pc' := 151) rfl (z := (1 : Int32)) rfl ?_
        refine g_goto X27.here hx (Jvm.hb hby at_151) (by decide) (pc' := 155) (by decide) ?_
        refine g_istore X27.here hx (Jvm.hb hby at_155) (pc' := 157) rfl (L' := #[.val (.long x0), .second, .val (.long x1), .second, .val (.int x2), .val (.long x3), .second, .val (.int x4), .val (.int x5), .val (.long cap), .second, .val (.int n1), .val (.int n2), .val (.long v1), .second, .val (.long v2), .second, .val (.long z), .second, .val (.ref ad3), .val (.int (1 : Int32))]) rfl ?_
        refine g_aload X27.here hx (Jvm.hb hby at_157) (pc' := 159) rfl rfl rfl ?_
        refine g_lload X27.here hx (Jvm.hb hby at_159) (pc' := 161) rfl rfl ?_
        by_cases hY : cap < (n1.toInt64 + z)
        · refine g_callV X27 hx hZ hown w_59 w_60 (own_nf hZ w_62) w_62 w_61 w_4 w_63 (by decide) (rmZsXE l Z a0 hw [] ad3 z d cap n1.toInt64 hk25 n0 Zk25 hS hY) 0 (by decide) (by decide) e27 (own_SE.exa hS) (by rw [hml]; rfl) [(.long z)] [] (lenOf pd_13 rfl) rfl rfl (Nat.le_of_eq rfl) (Jvm.hb hby at_161) (pc' := 164) rfl (cells' := 2) (slots' := 8) rfl rfl (by decide) (by decide) ?_
          intro v28 T28 L28 X28 hQ28
          obtain ⟨rfl, Nq28, hS28⟩ := hQ28
          have N28 := Fr.app Nk25 Nq28
          have Zh28 : n0 ≤ T28.heap.size := own_SE.sz hS28
          show own_Gl p e below s (own_Q0 n0) room_1.cells room_1.slots (T28.setTop (mkF m 164 #[.val (.long x0), .second, .val (.long x1), .second, .val (.int x2), .val (.long x3), .second, .val (.int x4), .val (.int x5), .val (.long cap), .second, .val (.int n1), .val (.int n2), .val (.long v1), .second, .val (.long v2), .second, .val (.long z), .second, .val (.ref ad3), .val (.int (1 : Int32))] []))
          exact kE2 T28 T28.heap _ X28 rfl N28 Zh28 hS28
        · by_cases hb : n1.toInt64.toInt % 8 + z.toInt < 8
          · refine g_callV X27 hx hZ hown w_59 w_60 (own_nf hZ w_62) w_62 w_61 w_4 w_63 (by decide) (rmZsEE l Z a0 hw [] ad3 z d cap n1.toInt64 hk25 n0 Zk25 hS hY (own_zc _ _ _ hY hcap b1 r_z) hb) 0 (by decide) (by decide) e27 (own_SE.exa hS) (by rw [hml]; rfl) [(.long z)] [] (lenOf pd_13 rfl) rfl rfl (Nat.le_of_eq rfl) (Jvm.hb hby at_161) (pc' := 164) rfl (cells' := 2) (slots' := 8) rfl rfl (by decide) (by decide) ?_
            intro v29 T29 L29 X29 hQ29
            obtain ⟨rfl, Nq29, hS29⟩ := hQ29
            have N29 := Fr.app Nk25 Nq29
            have Zh29 : n0 ≤ T29.heap.size := own_SE.sz hS29
            show own_Gl p e below s (own_Q0 n0) room_1.cells room_1.slots (T29.setTop (mkF m 164 #[.val (.long x0), .second, .val (.long x1), .second, .val (.int x2), .val (.long x3), .second, .val (.int x4), .val (.int x5), .val (.long cap), .second, .val (.int n1), .val (.int n2), .val (.long v1), .second, .val (.long v2), .second, .val (.long z), .second, .val (.ref ad3), .val (.int (1 : Int32))] []))
            exact kE2 T29 T29.heap _ X29 rfl N29 Zh29 hS29
          · refine g_callV X27 hx hZ hown w_59 w_60 (own_nf hZ w_62) w_62 w_61 w_4 w_63 (by decide) (rmZsEP l Z a0 hw [] ad3 z d cap n1.toInt64 hk25 n0 Zk25 hS hY (own_zc _ _ _ hY hcap b1 r_z) hb S0 A0) 0 (by decide) (by decide) e27 (own_SE.exa hS) (by rw [hml]; rfl) [(.long z)] [] (lenOf pd_13 rfl) rfl rfl (Nat.le_of_eq rfl) (Jvm.hb hby at_161) (pc' := 164) rfl (cells' := 4) (slots' := 65554) rfl rfl (by decide) (by decide) ?_
            intro v30 T30 L30 X30 hQ30
            obtain ⟨rfl, Nq30, hS30⟩ := hQ30
            have N30 := Fr.app Nk25 Nq30
            have Zh30 : n0 ≤ T30.heap.size := own_zsz hS30
            show own_Gl p e below s (own_Q0 n0) room_1.cells room_1.slots (T30.setTop (mkF m 164 #[.val (.long x0), .second, .val (.long x1), .second, .val (.int x2), .val (.long x3), .second, .val (.int x4), .val (.int x5), .val (.long cap), .second, .val (.int n1), .val (.int n2), .val (.long v1), .second, .val (.long v2), .second, .val (.long z), .second, .val (.ref ad3), .val (.int (1 : Int32))] []))
            exact kP2 T30 T30.heap _ X30 rfl N30 Zh30 (own_SP.wide hS30 (by decide))
      have kP1 : ∀ (Tk31 : State), ∀ (hk31 : Heap), ∀ (lck31 : List Loc), ∀ (Xk31 : Stand p l e room_1 s m #[(.long x0), (.long x1), (.int x2), (.long x3), (.int x4), (.int x5)] below meth c Tk31 lck31 4 65554), ∀ (ek31 : Tk31.heap = hk31), ∀ (Nk31 : Fr n0 lck31), ∀ (Zk31 : n0 ≤ hk31.size), ∀ (hS : own_SP Z hk31 n0 ad3 cap n1.toInt64 1000), own_Gl p e below s (own_Q0 n0) room_1.cells room_1.slots (Tk31.setTop (mkF m 130 #[.val (.long x0), .second, .val (.long x1), .second, .val (.int x2), .val (.long x3), .second, .val (.int x4), .val (.int x5), .val (.long cap), .second, .val (.int n1), .val (.int n2), .val (.long v1), .second, .val (.long v2), .second, .val (.long z), .second, .val (.ref ad3), .val (.int (1 : Int32))] [])) := by
        intro Tk31 hk31 lck31 Xk31 ek31 Nk31 Zk31 hS
        refine g_iload Xk31.here hx (Jvm.hb hby at_130) (pc' := 132) rfl rfl ?_
        refine g_ifN Xk31.here hx (Jvm.hb hby at_132) (pc' := 135) rfl ((if0 _ _).trans (feq (by decide)).1) ?_
        refine g_aload Xk31.here hx (Jvm.hb hby at_135) (pc' := 137) rfl rfl rfl ?_
        refine g_callV Xk31 hx hZ hown w_39 w_40 (own_nf hZ w_42) w_42 w_41 w_4 w_43 (by decide) (rm6 l Z a0 hw [] ad3 n1.toInt64 hk31 (own_SP.fl hS)) 0 (by decide) (by decide) ek31 (own_SP.exa hS) (by rw [hml]; rfl) [] [] (lenOf pd_14 rfl) rfl rfl (Nat.le_of_eq rfl) (Jvm.hb hby at_137) (pc' := 140) rfl (cells' := 4) (slots' := 65554) rfl rfl (by decide) (by decide) ?_
        intro v32 T32 L32 X32 hQ32
        obtain ⟨rfl, rfl, e32⟩ := hQ32
        rw [List.append_nil] at X32
        show own_Gl p e below s (own_Q0 n0) room_1.cells room_1.slots (T32.setTop (mkF m 140 #[.val (.long x0), .second, .val (.long x1), .second, .val (.int x2), .val (.long x3), .second, .val (.int x4), .val (.int x5), .val (.long cap), .second, .val (.int n1), .val (.int n2), .val (.long v1), .second, .val (.long v2), .second, .val (.long z), .second, .val (.ref ad3), .val (.int (1 : Int32))] [(.long (f_bl n1.toInt64))]))
        refine g_iload X32.here hx (Jvm.hb hby at_140) (pc' := 142) rfl rfl ?_
        refine g_i2l X32.here hx (Jvm.hb hby at_142) (pc' := 143) rfl ?_
        refine g_callP X32 hx hZ hown w_54 w_55 w_56 w_57 (by decide) (rm8 l Z a0 hw [] n1.toInt64 hk31) 2 (by decide) (by decide) e32 (by rw [hml]; rfl) [(.long (n1.toInt64))] [(.long (f_bl n1.toInt64))] (lenOf pd_15 rfl) rfl rfl (Nat.le_of_eq rfl) (Jvm.hb hby at_143) (pc' := 146) rfl (by decide) (by decide) ?_
        intro T33 X33 e33
        show own_Gl p e below s (own_Q0 n0) room_1.cells room_1.slots (T33.setTop (mkF m 146 #[.val (.long x0), .second, .val (.long x1), .second, .val (.int x2), .val (.long x3), .second, .val (.int x4), .val (.int x5), .val (.long cap), .second, .val (.int n1), .val (.int n2), .val (.long v1), .second, .val (.long v2), .second, .val (.long z), .second, .val (.ref ad3), .val (.int (1 : Int32))] [(.long (f_c8 n1.toInt64)), (.long (f_bl n1.toInt64))]))
        refine g_lcmp X33.here hx (Jvm.hb hby at_146) (pc' := 147) rfl ?_
        refine g_ifN X33.here hx (Jvm.hb hby at_147) (pc' := 150) rfl (own_teqL (own_bl n1.toInt64 ⟨b1.1, by omega⟩)).2 ?_
        refine g_iconst X33.here hx (Jvm.hb hby at_150) (pc' := 151) rfl (z := (1 : Int32)) rfl ?_
        refine g_goto X33.here hx (Jvm.hb hby at_151) (by decide) (pc' := 155) (by decide) ?_
        refine g_istore X33.here hx (Jvm.hb hby at_155) (pc' := 157) rfl (L' := #[.val (.long x0), .second, .val (.long x1), .second, .val (.int x2), .val (.long x3), .second, .val (.int x4), .val (.int x5), .val (.long cap), .second, .val (.int n1), .val (.int n2), .val (.long v1), .second, .val (.long v2), .second, .val (.long z), .second, .val (.ref ad3), .val (.int (1 : Int32))]) rfl ?_
        refine g_aload X33.here hx (Jvm.hb hby at_157) (pc' := 159) rfl rfl rfl ?_
        refine g_lload X33.here hx (Jvm.hb hby at_159) (pc' := 161) rfl rfl ?_
        by_cases hY : cap < (n1.toInt64 + z)
        · refine g_callV X33 hx hZ hown w_59 w_60 (own_nf hZ w_62) w_62 w_61 w_4 w_63 (by decide) (rmZsXP l Z a0 hw [] ad3 z cap n1.toInt64 1000 hk31 n0 Zk31 hS hY) 0 (by decide) (by decide) e33 (own_SP.exa hS) (by rw [hml]; rfl) [(.long z)] [] (lenOf pd_13 rfl) rfl rfl (Nat.le_of_eq rfl) (Jvm.hb hby at_161) (pc' := 164) rfl (cells' := 4) (slots' := 65554) rfl rfl (by decide) (by decide) ?_
          intro v34 T34 L34 X34 hQ34
          obtain ⟨rfl, Nq34, hS34⟩ := hQ34
          have N34 := Fr.app Nk31 Nq34
          have Zh34 : n0 ≤ T34.heap.size := own_zsz hS34
          show own_Gl p e below s (own_Q0 n0) room_1.cells room_1.slots (T34.setTop (mkF m 164 #[.val (.long x0), .second, .val (.long x1), .second, .val (.int x2), .val (.long x3), .second, .val (.int x4), .val (.int x5), .val (.long cap), .second, .val (.int n1), .val (.int n2), .val (.long v1), .second, .val (.long v2), .second, .val (.long z), .second, .val (.ref ad3), .val (.int (1 : Int32))] []))
          exact kP2 T34 T34.heap _ X34 rfl N34 Zh34 (own_SP.wide hS34 (by decide))
        · refine g_callV X33 hx hZ hown w_59 w_60 (own_nf hZ w_62) w_62 w_61 w_4 w_63 (by decide) (rmZsPP l Z a0 hw [] ad3 z cap n1.toInt64 1000 hk31 n0 Zk31 hS hY (own_zc _ _ _ hY hcap b1 r_z) (by decide)) 0 (by decide) (by decide) e33 (own_SP.exa hS) (by rw [hml]; rfl) [(.long z)] [] (lenOf pd_13 rfl) rfl rfl (Nat.le_of_eq rfl) (Jvm.hb hby at_161) (pc' := 164) rfl (cells' := 4) (slots' := 65554) rfl rfl (by decide) (by decide) ?_
          intro v35 T35 L35 X35 hQ35
          obtain ⟨rfl, Nq35, hS35⟩ := hQ35
          have N35 := Fr.app Nk31 Nq35
          have Zh35 : n0 ≤ T35.heap.size := own_zsz hS35
          show own_Gl p e below s (own_Q0 n0) room_1.cells room_1.slots (T35.setTop (mkF m 164 #[.val (.long x0), .second, .val (.long x1), .second, .val (.int x2), .val (.long x3), .second, .val (.int x4), .val (.int x5), .val (.long cap), .second, .val (.int n1), .val (.int n2), .val (.long v1), .second, .val (.long v2), .second, .val (.long z), .second, .val (.ref ad3), .val (.int (1 : Int32))] []))
          exact kP2 T35 T35.heap _ X35 rfl N35 Zh35 (own_SP.wide hS35 (by decide))
      refine g_aload Xlc7.here hx (Jvm.hb hby at_104) (pc' := 106) rfl rfl rfl ?_
      refine g_callV Xlc7 hx hZ hown w_39 w_40 (own_nf hZ w_42) w_42 w_41 w_4 w_43 (by decide) (rm6 l Z a0 hw [] ad3 (0 : Int64) T6.heap (own_SE.fl hS0)) 0 (by decide) (by decide) rfl (own_SE.exa hS0) (by rw [hml]; rfl) [] [] (lenOf pd_14 rfl) rfl rfl (Nat.le_of_eq rfl) (Jvm.hb hby at_106) (pc' := 109) rfl (cells' := 2) (slots' := 8) rfl rfl (by decide) (by decide) ?_
      intro v36 T36 L36 X36 hQ36
      obtain ⟨rfl, rfl, e36⟩ := hQ36
      rw [List.append_nil] at X36
      show own_Gl p e below s (own_Q0 n0) room_1.cells room_1.slots (T36.setTop (mkF m 109 #[.val (.long x0), .second, .val (.long x1), .second, .val (.int x2), .val (.long x3), .second, .val (.int x4), .val (.int x5), .val (.long cap), .second, .val (.int n1), .val (.int n2), .val (.long v1), .second, .val (.long v2), .second, .val (.long z), .second, .val (.ref ad3), .unset] [(.long (f_bl (0 : Int64)))]))
      refine g_lconst X36.here hx (Jvm.hb hby at_109) (pc' := 110) rfl (z := (0 : Int64)) rfl ?_
      refine g_lcmp X36.here hx (Jvm.hb hby at_110) (pc' := 111) rfl ?_
      refine g_ifN X36.here hx (Jvm.hb hby at_111) (pc' := 114) rfl (own_teqL (by decide)).2 ?_
      refine g_iconst X36.here hx (Jvm.hb hby at_114) (pc' := 115) rfl (z := (1 : Int32)) rfl ?_
      refine g_goto X36.here hx (Jvm.hb hby at_115) (by decide) (pc' := 119) (by decide) ?_
      refine g_istore X36.here hx (Jvm.hb hby at_119) (pc' := 121) rfl (L' := #[.val (.long x0), .second, .val (.long x1), .second, .val (.int x2), .val (.long x3), .second, .val (.int x4), .val (.int x5), .val (.long cap), .second, .val (.int n1), .val (.int n2), .val (.long v1), .second, .val (.long v2), .second, .val (.long z), .second, .val (.ref ad3), .val (.int (1 : Int32))]) rfl ?_
      refine g_aload X36.here hx (Jvm.hb hby at_121) (pc' := 123) rfl rfl rfl ?_
      refine g_lload X36.here hx (Jvm.hb hby at_123) (pc' := 125) rfl rfl ?_
      refine g_iload X36.here hx (Jvm.hb hby at_125) (pc' := 127) rfl rfl ?_
      by_cases hY : cap < ((0 : Int64) + n1.toInt64)
      · refine g_callV X36 hx hZ hown w_47 w_48 (own_nf hZ w_50) w_50 w_49 w_4 w_51 (by decide) (rmApXE l Z a0 hw [] ad3 v1 n1 d cap (0 : Int64) T6.heap n0 Zh6 hS0 hY) 0 (by decide) (by decide) e36 (own_SE.exa hS0) (by rw [hml]; rfl) [(.long v1), (.int n1)] [] (lenOf pd_12 rfl) rfl rfl (Nat.le_of_eq rfl) (Jvm.hb hby at_127) (pc' := 130) rfl (cells' := 2) (slots' := 8) rfl rfl (by decide) (by decide) ?_
        intro v37 T37 L37 X37 hQ37
        obtain ⟨rfl, Nq37, hS37⟩ := hQ37
        have N37 := Fr.app Nlc7 Nq37
        have Zh37 : n0 ≤ T37.heap.size := own_SE.sz hS37
        show own_Gl p e below s (own_Q0 n0) room_1.cells room_1.slots (T37.setTop (mkF m 130 #[.val (.long x0), .second, .val (.long x1), .second, .val (.int x2), .val (.long x3), .second, .val (.int x4), .val (.int x5), .val (.long cap), .second, .val (.int n1), .val (.int n2), .val (.long v1), .second, .val (.long v2), .second, .val (.long z), .second, .val (.ref ad3), .val (.int (1 : Int32))] []))
        exact kE1 T37 T37.heap _ X37 rfl N37 Zh37 ((Int64.zero_add n1.toInt64) ▸ hS37)
      · by_cases hb : (((0 : Int64) % (8 : Int64)).toInt32 + n1) < (8 : Int32)
        · refine g_callV X36 hx hZ hown w_47 w_48 (own_nf hZ w_50) w_50 w_49 w_4 w_51 (by decide) (rmApEE l Z a0 hw [] ad3 v1 n1 d cap (0 : Int64) T6.heap n0 Zh6 hS0 hY hb) 0 (by decide) (by decide) e36 (own_SE.exa hS0) (by rw [hml]; rfl) [(.long v1), (.int n1)] [] (lenOf pd_12 rfl) rfl rfl (Nat.le_of_eq rfl) (Jvm.hb hby at_127) (pc' := 130) rfl (cells' := 2) (slots' := 8) rfl rfl (by decide) (by decide) ?_
          intro v38 T38 L38 X38 hQ38
          obtain ⟨rfl, Nq38, hS38⟩ := hQ38
          have N38 := Fr.app Nlc7 Nq38
          have Zh38 : n0 ≤ T38.heap.size := own_SE.sz hS38
          show own_Gl p e below s (own_Q0 n0) room_1.cells room_1.slots (T38.setTop (mkF m 130 #[.val (.long x0), .second, .val (.long x1), .second, .val (.int x2), .val (.long x3), .second, .val (.int x4), .val (.int x5), .val (.long cap), .second, .val (.int n1), .val (.int n2), .val (.long v1), .second, .val (.long v2), .second, .val (.long z), .second, .val (.ref ad3), .val (.int (1 : Int32))] []))
          exact kE1 T38 T38.heap _ X38 rfl N38 Zh38 ((Int64.zero_add n1.toInt64) ▸ hS38)
        · refine g_callV X36 hx hZ hown w_47 w_48 (own_nf hZ w_50) w_50 w_49 w_4 w_51 (by decide) (rmApEP l Z a0 hw [] ad3 v1 n1 d cap (0 : Int64) T6.heap n0 Zh6 hS0 hY hb (own_bits2 _ _ (by decide) r_n1) S0 A0) 0 (by decide) (by decide) e36 (own_SE.exa hS0) (by rw [hml]; rfl) [(.long v1), (.int n1)] [] (lenOf pd_12 rfl) rfl rfl (Nat.le_of_eq rfl) (Jvm.hb hby at_127) (pc' := 130) rfl (cells' := 4) (slots' := 65554) rfl rfl (by decide) (by decide) ?_
          intro v39 T39 L39 X39 hQ39
          obtain ⟨rfl, Nq39, hS39⟩ := hQ39
          have N39 := Fr.app Nlc7 Nq39
          have Zh39 : n0 ≤ T39.heap.size := own_zsz hS39
          show own_Gl p e below s (own_Q0 n0) room_1.cells room_1.slots (T39.setTop (mkF m 130 #[.val (.long x0), .second, .val (.long x1), .second, .val (.int x2), .val (.long x3), .second, .val (.int x4), .val (.int x5), .val (.long cap), .second, .val (.int n1), .val (.int n2), .val (.long v1), .second, .val (.long v2), .second, .val (.long z), .second, .val (.ref ad3), .val (.int (1 : Int32))] []))
          exact kP1 T39 T39.heap _ X39 rfl N39 Zh39 (own_SP.wide ((Int64.zero_add n1.toInt64) ▸ hS39) (by decide))
    by_cases hc73 : (x5 &&& (2 : Int32)) = (0 : Int32)
    · refine g_ifY Xk1.here hx (Jvm.hb hby at_73) (by decide) (pc' := 85) (by decide) ((if0 _ _).trans (teq hc73).1) ?_
      refine g_lload Xk1.here hx (Jvm.hb hby at_85) (pc' := 87) rfl rfl ?_
      refine g_ldc2 Xk1 hx hZ hown w_64 (Jvm.hb hby at_87) (pc' := 90) rfl ?_
      refine g_land Xk1.here hx (Jvm.hb hby at_90) (pc' := 91) rfl ?_
      exact k91 Tk1 Xk1 ek1 _ (own_c60 x3)
    · refine g_ifN Xk1.here hx (Jvm.hb hby at_73) (pc' := 76) rfl ((if0 _ _).trans (feq hc73).1) ?_
      refine g_lload Xk1.here hx (Jvm.hb hby at_76) (pc' := 78) rfl rfl ?_
      refine g_ldc2 Xk1 hx hZ hown w_0 (Jvm.hb hby at_78) (pc' := 81) rfl ?_
      refine g_land Xk1.here hx (Jvm.hb hby at_81) (pc' := 82) rfl ?_
      refine g_goto Xk1.here hx (Jvm.hb hby at_82) (by decide) (pc' := 91) (by decide) ?_
      exact k91 Tk1 Xk1 ek1 _ ⟨(own_c255 x3).1, Int.le_trans (own_c255 x3).2 (by decide)⟩
  by_cases hc4 : (x5 &&& (1 : Int32)) = (0 : Int32)
  · refine g_ifY X0.here hx (Jvm.hb hby at_4) (by decide) (pc' := 15) (by decide) ((if0 _ _).trans (teq hc4).1) ?_
    refine g_ldc2 X0 hx hZ hown w_152 (Jvm.hb hby at_15) (pc' := 18) rfl ?_
    refine g_lloadN X0.here hx (Jvm.hb hby at_18) (pc' := 19) rfl rfl ?_
    refine g_ldc2 X0 hx hZ hown w_0 (Jvm.hb hby at_19) (pc' := 22) rfl ?_
    refine g_land X0.here hx (Jvm.hb hby at_22) (pc' := 23) rfl ?_
    refine g_lsub X0.here hx (Jvm.hb hby at_23) (pc' := 24) rfl ?_
    exact k24 T0 X0 e0 _ (own_cneg x0)
  · refine g_ifN X0.here hx (Jvm.hb hby at_4) (pc' := 7) rfl ((if0 _ _).trans (feq hc4).1) ?_
    refine g_lloadN X0.here hx (Jvm.hb hby at_7) (pc' := 8) rfl rfl ?_
    refine g_ldc2 X0 hx hZ hown w_0 (Jvm.hb hby at_8) (pc' := 11) rfl ?_
    refine g_land X0.here hx (Jvm.hb hby at_11) (pc' := 12) rfl ?_
    refine g_goto X0.here hx (Jvm.hb hby at_12) (by decide) (pc' := 24) (by decide) ?_
    exact k24 T0 X0 e0 _ (own_c255 x0).2
set_option maxRecDepth 65536 in
set_option maxHeartbeats 40000000 in
theorem comes_1 {Post : Tables → Env → Array Value → State → Outcome → State → Prop} (hpost : ∀ tb e args s v u, (limb_1_1.after args s (.returned v) u = true ∧ limb_1_2.after args s (.returned v) u = true ∧ True) → FrameEnd s (.returned v) u (Jvm.fieldLocs frame_1_writes args s ++ Jvm.arrayLocs frame_1_arrays args s ++ Jvm.staticLocs frame_1_statics s) 16 131200 → Post tb e args s (.returned v) u) :
    ArmFor flags0 classFile x code maxLocals ret World_1 tables_1 room_1 Calls_1 rest_1 Pre_1 Post := by
  intro l hfl _ _ p e ha hc hk s m args below hf hA hF happ hP
  obtain ⟨hcalls, hrest, hpre⟩ := hP
  obtain ⟨-, -, -, hnamed, -, -, -, hat⟩ := (Spec.applies_iff hf).mp happ
  obtain ⟨hg, hn⟩ := and_e (Cond.before_iff.mp (show (Jvm.Cond.and given_1 narrow_1).before args s = true from hpre))
  obtain ⟨g1, g2⟩ := and_e hg
  obtain ⟨g3, g4⟩ := and_e g2
  obtain ⟨g5, g6⟩ := and_e g4
  obtain ⟨g7, g8⟩ := and_e g6
  obtain ⟨g9, g10⟩ := and_e g8
  obtain ⟨g11, g12⟩ := and_e g10
  obtain ⟨w0, w1, w2, w3, w4, w5, rfl⟩ : ∃ w0 w1 w2 w3 w4 w5 : Value, args = #[w0, w1, w2, w3, w4, w5] := by
    have hs : args.size = 6 := by simpa [Cond.value, given_1] using g1
    obtain ⟨L⟩ := args
    match L, hs with
    | [w0, w1, w2, w3, w4, w5], _ => exact ⟨w0, w1, w2, w3, w4, w5, rfl⟩
  have hw := fun d (hd : d ∈ tables_1) => atoms_spec (ws := Jvm.Cond.code x code maxLocals ret :: tables_1) hat d (List.mem_cons_of_mem _ hd)
  obtain ⟨hsets, hown0⟩ := atoms_of _ (rest_1_c_eq ▸ (show rest_1_c.before _ s = true from hrest))
  obtain ⟨i0, ei0⟩ := isL_v g3
  obtain rfl : w0 = (.long i0) := Option.some.inj ei0
  obtain ⟨i1, ei1⟩ := isL_v g5
  obtain rfl : w1 = (.long i1) := Option.some.inj ei1
  obtain ⟨i2, ei2⟩ := is_v g7
  obtain rfl : w2 = (.int i2) := Option.some.inj ei2
  obtain ⟨i3, ei3⟩ := isL_v g9
  obtain rfl : w3 = (.long i3) := Option.some.inj ei3
  obtain ⟨i4, ei4⟩ := is_v g11
  obtain rfl : w4 = (.int i4) := Option.some.inj ei4
  obtain ⟨i5, ei5⟩ := is_v g12
  obtain rfl : w5 = (.int i5) := Option.some.inj ei5
  obtain ⟨d, S0, A0⟩ := own_static (hw _ (List.mem_of_getElem? (i := 13) rfl)) (hsets _ (List.mem_of_getElem? (i := 2) rfl)) (hsets _ (List.mem_of_getElem? (i := 6) rfl)) (hsets _ (List.mem_of_getElem? (i := 8) rfl))
  obtain ⟨n, o, h1, h2, h3, _, L, rfl, ⟨rfl, N⟩, hq⟩ := rm0 l s _ hw tables_1 i0 i1 i2 i3 i4 i5 d s.heap s.heap.size (Nat.le_refl _) S0 A0 (Old.start s) p e ha hc hk s m _ below hf ((Spec.applies_iff_loose hf).mp happ).1 ⟨rfl, State.Warmed39.refl s, rfl⟩ trivial
  refine ⟨n, _, h1, h2, h3, hpost _ _ _ _ _ _ ⟨Cond.after_iff.mpr rfl, Cond.after_iff.mpr (eq_i res_at (Term.int_eval (1)) rfl), trivial⟩ ⟨hq.1, hq.2.1, (hq.2.2.sift fun y hy => Or.inr (N y hy)).mono (by decide) (by decide)⟩⟩
theorem main_1_1 : Claimed_1_1 := comes_1 fun _ _ _ _ _ _ h hF => ⟨h.1, hF⟩
theorem main_1_2 : Claimed_1_2 := comes_1 fun _ _ _ _ _ _ h hF => ⟨h.2.1, hF⟩
end Jvm.Pilot.@@N@@
namespace Jvm.Pilot.@@N@@
open Jvm Jvm.ClassFile Sem Op Lib Jvm.Free Jvm.Stand Jvm.Pilot.@@N@@.Jvm.D
/-! MADE BY PROGRAM (witnessworld.py) out of the Statement's table words and the real class files: 21 classes; the members and pool entries that the words name. The judged class is class 1, her method 2. -/
namespace start1
open Jvm.ClassFile
def u (s : String) : CpInfo := .utf8 (stringToUtf16 s)
/-- a pool by its gaps: so many unusable entries, then the entry; so many at the end -/
def gap : Nat → List CpInfo → List CpInfo
  | 0, r => r
  | n + 1, r => .unusable :: gap n r
def poolList (es : List (Nat × CpInfo)) (last : Nat) : List CpInfo := es.foldr (fun e r => gap e.1 (e.2 :: r)) (gap last [])
def pool (es : List (Nat × CpInfo)) (last : Nat) : Array CpInfo := ⟨poolList es last⟩
def fileOf (pool : Array CpInfo) (this : Nat) (attrs : Array Attribute := #[]) (ms : Array MethodInfo := #[]) (fl : Nat := 33) (sup : Nat := 0) (ifs : Array Nat := #[]) (fds : Array FieldInfo := #[]) : ClassFile where
  minorVersion := 0
  majorVersion := 65
  constantPool := pool
  accessFlags := fl
  thisClass := this
  superClass := sup
  interfaces := ifs
  fields := fds
  methods := ms
  attributes := attrs
def plain (name : String) (sup : Option ClassId) : Class where
  name := name
  kind := .ordinary
  loader := none
  accessFlags := 33
  super := sup
  interfaces := #[]
  cf := none
  fields := #[]
  methods := #[]
  instanceTypes := #[]
  staticTypes := #[]
  resolved := #[]
  callSites := []
  init := .initialized
  statics := none
  mirror := none

def pool0 : Array CpInfo := pool [(5, u "<init>"), (0, u "()V"), (1, .class_ 10), (1, u "java/lang/Object")] 113

def k0c0 : Code := { maxStack := 0, maxLocals := 1, code := object_method_1_code, exceptionTable := #[], attributes := #[] }
def k0m0 : Method := { name := "<init>", desc := "()V", sig := { parameters := [], returnType := none }, accessFlags := 1, code := some k0c0 }
/-- java/lang/Object -/
def k0 : Class := { plain "java/lang/Object" none with
  accessFlags := 33
  interfaces := #[]
  cf := some (fileOf pool0 8 #[] #[{ accessFlags := 1, nameIndex := 5, descriptorIndex := 6, attributes := #[] }] 33 0 #[] #[])
  fields := #[]
  methods := #[k0m0]
  instanceTypes := #[]
  staticTypes := #[]
  resolved := Array.replicate 124 none
  statics := none }

def pool1 : Array CpInfo := pool [(2, .class_ 4), (1, u "java/lang/Object"), (0, u "<init>"), (0, u "()V"), (0, .long 7), (1, .long 255), (1, .long 18446744073709551615), (1, .integer 2147483647), (0, .long 1152921504606846975), (1, .class_ 17), (0, u "com/example/narrow_sieve/narrowsieve/format/BitBuffer"), (0, .methodref 16 19), (0, .nameAndType 5 20), (0, u "(J)V"), (0, .methodref 16 22), (0, .nameAndType 23 24), (0, u "byteLength"), (0, u "()J"), (0, .methodref 16 26), (0, .nameAndType 27 28), (0, u "append"), (0, u "(JI)V"), (0, .methodref 30 31), (0, .class_ 32), (0, .nameAndType 33 34), (0, u "com/example/narrow_sieve/narrowsieve/format/BitBufferByteLengthPinLaw"), (0, u "ceil8"), (0, u "(J)J"), (0, .methodref 16 36), (0, .nameAndType 37 20), (0, u "appendZeros"), (3, u "law"), (0, u "(JJIJII)Z")] 2

def k1m0 : Method := { name := "<init>", desc := "()V", sig := { parameters := [], returnType := none }, accessFlags := 1, code := none }
def k1c1 : Code := { maxStack := 6, maxLocals := 2, code := method_2_code, exceptionTable := #[], attributes := #[] }
def k1m1 : Method := { name := "ceil8", desc := "(J)J", sig := { parameters := [.long], returnType := some .long }, accessFlags := 10, code := some k1c1 }
def k1c2 : Code := { maxStack := 6, maxLocals := 21, code := code, exceptionTable := #[], attributes := #[] }
def k1m2 : Method := { name := "law", desc := "(JJIJII)Z", sig := { parameters := [.long, .long, .int, .long, .int, .int], returnType := some .boolean }, accessFlags := 9, code := some k1c2 }
/-- com/example/narrow_sieve/narrowsieve/format/BitBufferByteLengthPinLaw -/
def k1 : Class := { plain "com/example/narrow_sieve/narrowsieve/format/BitBufferByteLengthPinLaw" (some 0) with
  accessFlags := 49
  interfaces := #[]
  cf := some (fileOf pool1 30 #[] #[{ accessFlags := 1, nameIndex := 5, descriptorIndex := 6, attributes := #[] }, { accessFlags := 10, nameIndex := 33, descriptorIndex := 34, attributes := #[] }, { accessFlags := 9, nameIndex := 41, descriptorIndex := 42, attributes := #[] }] 49 2 #[] #[])
  fields := #[]
  methods := #[k1m0, k1m1, k1m2]
  instanceTypes := #[]
  staticTypes := #[]
  resolved := Array.replicate 45 none
  statics := none }

def pool2 : Array CpInfo := pool [(1, .methodref 2 3), (0, .class_ 4), (0, .nameAndType 5 6), (0, u "java/lang/Object"), (0, u "<init>"), (0, u "()V"), (0, .class_ 8), (0, u "java/util/ArrayList"), (0, .methodref 7 3), (0, .fieldref 11 12), (0, .class_ 13), (0, .nameAndType 14 15), (0, u "com/example/narrow_sieve/narrowsieve/format/BitBuffer"), (0, u "pages"), (0, u "Ljava/util/List;"), (0, .fieldref 11 17), (0, .nameAndType 18 19), (0, u "capacity"), (0, u "J"), (0, .fieldref 11 21), (0, .nameAndType 22 19), (0, u "length"), (2, .long 8), (1, .fieldref 11 28), (0, .nameAndType 29 19), (0, u "pending"), (0, .methodref 11 31), (0, .nameAndType 32 33), (0, u "put"), (0, u "(B)V"), (0, .long 56), (1, .methodref 37 38), (0, .class_ 39), (0, .nameAndType 40 41), (0, u "java/lang/Math"), (0, u "min"), (0, u "(JJ)J"), (0, .methodref 11 43), (0, .nameAndType 44 45), (0, u "append"), (0, u "(JI)V"), (3, u "()Z"), (9, .interfaceMethodref 60 61), (0, .class_ 62), (0, .nameAndType 63 64), (0, u "java/util/List"), (0, u "size"), (0, u "()I"), (0, .interfaceMethodref 60 66), (0, .nameAndType 67 68), (0, u "get"), (0, u "(I)Ljava/lang/Object;"), (0, .class_ 70), (0, u "[B"), (0, .fieldref 11 72), (0, .nameAndType 73 74), (0, u "lastPageBytes"), (0, u "I"), (2, .integer 65536), (1, .class_ 81), (1, u "com/example/narrow_sieve/narrowsieve/format/BitBuffer$Sink"), (2, .interfaceMethodref 60 85), (0, .nameAndType 86 49), (0, u "isEmpty"), (0, .interfaceMethodref 60 88), (0, .nameAndType 89 90), (0, u "add"), (0, u "(Ljava/lang/Object;)Z"), (2, u "(J)V"), (3, u "byteLength"), (0, u "()J"), (0, u "appendZeros")] 24

def k2c0 : Code := { maxStack := 3, maxLocals := 3, code := prog_4_method_1_code, exceptionTable := #[], attributes := #[] }
def k2m0 : Method := { name := "<init>", desc := "(J)V", sig := { parameters := [.long], returnType := none }, accessFlags := 0, code := some k2c0 }
def k2c1 : Code := { maxStack := 4, maxLocals := 1, code := prog_4_method_3_code, exceptionTable := #[], attributes := #[] }
def k2m1 : Method := { name := "byteLength", desc := "()J", sig := { parameters := [], returnType := some .long }, accessFlags := 0, code := some k2c1 }
def k2c2 : Code := { maxStack := 9, maxLocals := 5, code := prog_4_method_4_code, exceptionTable := #[], attributes := #[] }
def k2m2 : Method := { name := "append", desc := "(JI)V", sig := { parameters := [.long, .int], returnType := none }, accessFlags := 0, code := some k2c2 }
def k2c3 : Code := { maxStack := 5, maxLocals := 6, code := prog_4_method_5_code, exceptionTable := #[], attributes := #[] }
def k2m3 : Method := { name := "appendZeros", desc := "(J)V", sig := { parameters := [.long], returnType := none }, accessFlags := 0, code := some k2c3 }
def k2c4 : Code := { maxStack := 5, maxLocals := 2, code := prog_4_method_7_code, exceptionTable := #[], attributes := #[] }
def k2m4 : Method := { name := "put", desc := "(B)V", sig := { parameters := [.byte], returnType := none }, accessFlags := 2, code := some k2c4 }
/-- com/example/narrow_sieve/narrowsieve/format/BitBuffer -/
def k2 : Class := { plain "com/example/narrow_sieve/narrowsieve/format/BitBuffer" (some 0) with
  accessFlags := 48
  interfaces := #[]
  cf := some (fileOf pool2 11 #[.nestMembers #[79]] #[{ accessFlags := 0, nameIndex := 5, descriptorIndex := 93, attributes := #[] }, { accessFlags := 0, nameIndex := 97, descriptorIndex := 98, attributes := #[] }, { accessFlags := 0, nameIndex := 44, descriptorIndex := 45, attributes := #[] }, { accessFlags := 0, nameIndex := 99, descriptorIndex := 93, attributes := #[] }, { accessFlags := 2, nameIndex := 32, descriptorIndex := 33, attributes := #[] }] 48 2 #[] #[{ accessFlags := 18, nameIndex := 18, descriptorIndex := 19, attributes := #[] }, { accessFlags := 18, nameIndex := 14, descriptorIndex := 15, attributes := #[] }, { accessFlags := 2, nameIndex := 73, descriptorIndex := 74, attributes := #[] }, { accessFlags := 2, nameIndex := 22, descriptorIndex := 19, attributes := #[] }, { accessFlags := 2, nameIndex := 29, descriptorIndex := 19, attributes := #[] }])
  fields := #[{ name := "capacity", type := .long, accessFlags := 18, slot := 0, constantValue := 0 }, { name := "pages", type := (.object "java/util/List"), accessFlags := 18, slot := 1, constantValue := 0 }, { name := "lastPageBytes", type := .int, accessFlags := 2, slot := 2, constantValue := 0 }, { name := "length", type := .long, accessFlags := 2, slot := 3, constantValue := 0 }, { name := "pending", type := .long, accessFlags := 2, slot := 4, constantValue := 0 }]
  methods := #[k2m0, k2m1, k2m2, k2m3, k2m4]
  instanceTypes := #[.long, (.object "java/util/List"), .int, .long, .long]
  staticTypes := #[]
  resolved := Array.replicate 124 none
  statics := none }

def pool3 : Array CpInfo := pool [(8, .class_ 10), (1, u "java/lang/Iterable"), (24, .class_ 36), (0, u "java/lang/Object")] 25

/-- java/lang/Iterable -/
def k3 : Class := { plain "java/lang/Iterable" (some 0) with
  accessFlags := 1537
  interfaces := #[]
  cf := some (fileOf pool3 8 #[] #[] 1537 35 #[] #[])
  fields := #[]
  methods := #[]
  instanceTypes := #[]
  staticTypes := #[]
  resolved := Array.replicate 62 none
  statics := none }

def pool4 : Array CpInfo := pool [(10, .class_ 12), (1, u "java/util/Collection"), (47, .class_ 61), (0, u "java/lang/Object"), (0, .class_ 63), (0, u "java/lang/Iterable")] 51

/-- java/util/Collection -/
def k4 : Class := { plain "java/util/Collection" (some 0) with
  accessFlags := 1537
  interfaces := #[3]
  cf := some (fileOf pool4 10 #[] #[] 1537 60 #[62] #[])
  fields := #[]
  methods := #[]
  instanceTypes := #[]
  staticTypes := #[]
  resolved := Array.replicate 115 none
  statics := none }

def pool5 : Array CpInfo := pool [(1, .methodref 2 3), (0, .class_ 4), (0, .nameAndType 5 6), (0, u "java/lang/Object"), (0, u "<init>"), (0, u "()V"), (1, .class_ 10), (1, u "java/util/AbstractCollection"), (66, .class_ 78), (0, u "java/util/Collection")] 81

def k5c0 : Code := { maxStack := 1, maxLocals := 1, code := jdk_22_method_1_code, exceptionTable := #[], attributes := #[] }
def k5m0 : Method := { name := "<init>", desc := "()V", sig := { parameters := [], returnType := none }, accessFlags := 4, code := some k5c0 }
/-- java/util/AbstractCollection -/
def k5 : Class := { plain "java/util/AbstractCollection" (some 0) with
  accessFlags := 1057
  interfaces := #[4]
  cf := some (fileOf pool5 8 #[] #[{ accessFlags := 4, nameIndex := 5, descriptorIndex := 6, attributes := #[] }] 1057 2 #[77] #[])
  fields := #[]
  methods := #[k5m0]
  instanceTypes := #[]
  staticTypes := #[]
  resolved := Array.replicate 160 none
  statics := none }

def pool6 : Array CpInfo := pool [(8, .class_ 10), (1, u "java/util/SequencedCollection"), (15, .class_ 27), (0, u "java/lang/Object"), (0, .class_ 29), (0, u "java/util/Collection")] 27

/-- java/util/SequencedCollection -/
def k6 : Class := { plain "java/util/SequencedCollection" (some 0) with
  accessFlags := 1537
  interfaces := #[4]
  cf := some (fileOf pool6 8 #[] #[] 1537 26 #[28] #[])
  fields := #[]
  methods := #[]
  instanceTypes := #[]
  staticTypes := #[]
  resolved := Array.replicate 57 none
  statics := none }

def pool7 : Array CpInfo := pool [(8, .class_ 10), (1, u "java/util/List"), (7, u "()Z"), (41, u "add"), (3, u "(Ljava/lang/Object;)Z"), (2, u "isEmpty"), (7, u "get"), (0, u "(I)Ljava/lang/Object;"), (2, u "size"), (0, u "()I"), (22, .class_ 104), (0, u "java/lang/Object"), (15, .class_ 121), (0, u "java/util/SequencedCollection")] 129

def k7m0 : Method := { name := "size", desc := "()I", sig := { parameters := [], returnType := some .int }, accessFlags := 1025, code := none }
def k7m1 : Method := { name := "isEmpty", desc := "()Z", sig := { parameters := [], returnType := some .boolean }, accessFlags := 1025, code := none }
def k7m2 : Method := { name := "add", desc := "(Ljava/lang/Object;)Z", sig := { parameters := [(.object "java/lang/Object")], returnType := some .boolean }, accessFlags := 1025, code := none }
def k7m3 : Method := { name := "get", desc := "(I)Ljava/lang/Object;", sig := { parameters := [.int], returnType := some (.object "java/lang/Object") }, accessFlags := 1025, code := none }
/-- java/util/List -/
def k7 : Class := { plain "java/util/List" (some 0) with
  accessFlags := 1537
  interfaces := #[6]
  cf := some (fileOf pool7 8 #[] #[{ accessFlags := 1025, nameIndex := 79, descriptorIndex := 80, attributes := #[] }, { accessFlags := 1025, nameIndex := 67, descriptorIndex := 18, attributes := #[] }, { accessFlags := 1025, nameIndex := 60, descriptorIndex := 64, attributes := #[] }, { accessFlags := 1025, nameIndex := 75, descriptorIndex := 76, attributes := #[] }] 1537 103 #[120] #[])
  fields := #[]
  methods := #[k7m0, k7m1, k7m2, k7m3]
  instanceTypes := #[]
  staticTypes := #[]
  resolved := Array.replicate 251 none
  statics := none }

def pool8 : Array CpInfo := pool [(1, .methodref 2 3), (0, .class_ 4), (0, .nameAndType 5 6), (0, u "java/util/AbstractCollection"), (0, u "<init>"), (0, u "()V"), (0, .fieldref 8 9), (0, .class_ 10), (0, .nameAndType 11 12), (0, u "java/util/AbstractList"), (0, u "modCount"), (0, u "I"), (64, .class_ 78), (0, u "java/util/AbstractList$Itr"), (3, .class_ 83), (0, u "java/util/AbstractList$ListItr"), (9, .class_ 94), (0, u "java/util/AbstractList$RandomAccessSubList"), (3, .class_ 99), (0, u "java/util/AbstractList$SubList"), (33, .class_ 134), (0, u "java/util/List"), (73, .class_ 209), (0, u "java/util/AbstractList$SubList$1"), (0, .class_ 211), (0, u "java/util/AbstractList$RandomAccessSpliterator")] 6

def k8c0 : Code := { maxStack := 2, maxLocals := 1, code := jdk_39_method_1_code, exceptionTable := #[], attributes := #[] }
def k8m0 : Method := { name := "<init>", desc := "()V", sig := { parameters := [], returnType := none }, accessFlags := 4, code := some k8c0 }
/-- java/util/AbstractList -/
def k8 : Class := { plain "java/util/AbstractList" (some 5) with
  accessFlags := 1057
  interfaces := #[7]
  cf := some (fileOf pool8 8 #[.nestMembers #[93, 98, 208, 210, 82, 77]] #[{ accessFlags := 4, nameIndex := 5, descriptorIndex := 6, attributes := #[] }] 1057 2 #[133] #[{ accessFlags := 132, nameIndex := 11, descriptorIndex := 12, attributes := #[] }])
  fields := #[{ name := "modCount", type := .int, accessFlags := 132, slot := 0, constantValue := 0 }]
  methods := #[k8m0]
  instanceTypes := #[.int]
  staticTypes := #[]
  resolved := Array.replicate 218 none
  statics := none }

def pool9 : Array CpInfo := pool [(1, .class_ 2), (0, u "java/util/RandomAccess"), (0, .class_ 4), (0, u "java/lang/Object")] 2

/-- java/util/RandomAccess -/
def k9 : Class := { plain "java/util/RandomAccess" (some 0) with
  accessFlags := 1537
  interfaces := #[]
  cf := some (fileOf pool9 1 #[] #[] 1537 3 #[] #[])
  fields := #[]
  methods := #[]
  instanceTypes := #[]
  staticTypes := #[]
  resolved := Array.replicate 7 none
  statics := none }

def pool10 : Array CpInfo := pool [(1, .class_ 2), (0, u "java/lang/Cloneable"), (0, .class_ 4), (0, u "java/lang/Object")] 2

/-- java/lang/Cloneable -/
def k10 : Class := { plain "java/lang/Cloneable" (some 0) with
  accessFlags := 1537
  interfaces := #[]
  cf := some (fileOf pool10 1 #[] #[] 1537 3 #[] #[])
  fields := #[]
  methods := #[]
  instanceTypes := #[]
  staticTypes := #[]
  resolved := Array.replicate 7 none
  statics := none }

def pool11 : Array CpInfo := pool [(1, .class_ 2), (0, u "java/io/Serializable"), (0, .class_ 4), (0, u "java/lang/Object")] 2

/-- java/io/Serializable -/
def k11 : Class := { plain "java/io/Serializable" (some 0) with
  accessFlags := 1537
  interfaces := #[]
  cf := some (fileOf pool11 1 #[] #[] 1537 3 #[] #[])
  fields := #[]
  methods := #[]
  instanceTypes := #[]
  staticTypes := #[]
  resolved := Array.replicate 7 none
  statics := none }

def pool12 : Array CpInfo := pool [(1, .methodref 2 3), (0, .class_ 4), (0, .nameAndType 5 6), (0, u "java/util/AbstractList"), (0, u "<init>"), (0, u "()V"), (0, .class_ 8), (0, u "java/lang/Object"), (0, .fieldref 10 11), (0, .class_ 12), (0, .nameAndType 13 14), (0, u "java/util/ArrayList"), (0, u "elementData"), (0, u "[Ljava/lang/Object;"), (2, u "EMPTY_ELEMENTDATA"), (21, .fieldref 10 40), (0, .nameAndType 41 14), (0, u "DEFAULTCAPACITY_EMPTY_ELEMENTDATA"), (5, u "()[Ljava/lang/Object;"), (0, .fieldref 10 49), (0, .nameAndType 50 51), (0, u "size"), (0, u "I"), (11, .fieldref 10 64), (0, .nameAndType 65 51), (0, u "modCount"), (3, .methodref 10 70), (0, .nameAndType 71 72), (0, u "grow"), (0, u "(I)[Ljava/lang/Object;"), (6, .methodref 80 81), (0, .class_ 82), (0, .nameAndType 83 84), (0, u "java/lang/Math"), (0, u "max"), (0, u "(II)I"), (11, u "(Ljava/lang/Object;)Z"), (21, .methodref 119 120), (0, .class_ 121), (0, .nameAndType 122 84), (0, u "java/util/Objects"), (0, u "checkIndex"), (0, .methodref 10 124), (0, .nameAndType 13 125), (0, u "(I)Ljava/lang/Object;"), (3, .methodref 10 130), (0, .nameAndType 71 47), (0, .methodref 10 132), (0, .nameAndType 133 134), (0, u "add"), (0, u "(Ljava/lang/Object;[Ljava/lang/Object;I)V"), (13, .class_ 149), (0, u "java/util/List"), (23, u "()Z"), (12, u "()I"), (75, .class_ 263), (0, u "java/util/ArrayList$ListItr"), (3, .class_ 268), (0, u "java/util/ArrayList$Itr"), (7, .class_ 277), (0, u "java/util/ArrayList$SubList"), (12, .class_ 291), (0, u "java/util/ArrayList$ArrayListSpliterator"), (37, .class_ 330), (0, u "java/util/RandomAccess"), (0, .class_ 332), (0, u "java/lang/Cloneable"), (0, .class_ 334), (0, u "java/io/Serializable"), (0, u "serialVersionUID"), (0, u "J"), (3, u "DEFAULT_CAPACITY"), (22, u "isEmpty"), (17, u "get"), (118, .class_ 501), (0, u "java/util/ArrayList$SubList$2"), (0, .class_ 503), (0, u "java/util/ArrayList$SubList$1")] 5

def k12c0 : Code := { maxStack := 2, maxLocals := 1, code := jdk_38_method_2_code, exceptionTable := #[], attributes := #[] }
def k12m0 : Method := { name := "<init>", desc := "()V", sig := { parameters := [], returnType := none }, accessFlags := 1, code := some k12c0 }
def k12c1 : Code := { maxStack := 4, maxLocals := 4, code := jdk_38_method_6_code, exceptionTable := #[], attributes := #[] }
def k12m1 : Method := { name := "grow", desc := "(I)[Ljava/lang/Object;", sig := { parameters := [.int], returnType := some (.array (.object "java/lang/Object")) }, accessFlags := 2, code := some k12c1 }
def k12c2 : Code := { maxStack := 3, maxLocals := 1, code := jdk_38_method_7_code, exceptionTable := #[], attributes := #[] }
def k12m2 : Method := { name := "grow", desc := "()[Ljava/lang/Object;", sig := { parameters := [], returnType := some (.array (.object "java/lang/Object")) }, accessFlags := 2, code := some k12c2 }
def k12c3 : Code := { maxStack := 1, maxLocals := 1, code := jdk_38_method_8_code, exceptionTable := #[], attributes := #[] }
def k12m3 : Method := { name := "size", desc := "()I", sig := { parameters := [], returnType := some .int }, accessFlags := 1, code := some k12c3 }
def k12c4 : Code := { maxStack := 1, maxLocals := 1, code := jdk_38_method_9_code, exceptionTable := #[], attributes := #[] }
def k12m4 : Method := { name := "isEmpty", desc := "()Z", sig := { parameters := [], returnType := some .boolean }, accessFlags := 1, code := some k12c4 }
def k12c5 : Code := { maxStack := 2, maxLocals := 2, code := jdk_38_method_18_code, exceptionTable := #[], attributes := #[] }
def k12m5 : Method := { name := "elementData", desc := "(I)Ljava/lang/Object;", sig := { parameters := [.int], returnType := some (.object "java/lang/Object") }, accessFlags := 0, code := some k12c5 }
def k12c6 : Code := { maxStack := 2, maxLocals := 2, code := jdk_38_method_20_code, exceptionTable := #[], attributes := #[] }
def k12m6 : Method := { name := "get", desc := "(I)Ljava/lang/Object;", sig := { parameters := [.int], returnType := some (.object "java/lang/Object") }, accessFlags := 1, code := some k12c6 }
def k12c7 : Code := { maxStack := 3, maxLocals := 4, code := jdk_38_method_24_code, exceptionTable := #[], attributes := #[] }
def k12m7 : Method := { name := "add", desc := "(Ljava/lang/Object;[Ljava/lang/Object;I)V", sig := { parameters := [(.object "java/lang/Object"), (.array (.object "java/lang/Object")), .int], returnType := none }, accessFlags := 2, code := some k12c7 }
def k12c8 : Code := { maxStack := 4, maxLocals := 2, code := jdk_38_method_25_code, exceptionTable := #[], attributes := #[] }
def k12m8 : Method := { name := "add", desc := "(Ljava/lang/Object;)Z", sig := { parameters := [(.object "java/lang/Object")], returnType := some .boolean }, accessFlags := 1, code := some k12c8 }
/-- java/util/ArrayList -/
def k12 : Class := { plain "java/util/ArrayList" (some 8) with
  accessFlags := 33
  interfaces := #[7, 9, 10, 11]
  cf := some (fileOf pool12 10 #[.nestMembers #[290, 276, 500, 502, 262, 267]] #[{ accessFlags := 1, nameIndex := 5, descriptorIndex := 6, attributes := #[] }, { accessFlags := 2, nameIndex := 71, descriptorIndex := 72, attributes := #[] }, { accessFlags := 2, nameIndex := 71, descriptorIndex := 47, attributes := #[] }, { accessFlags := 1, nameIndex := 50, descriptorIndex := 186, attributes := #[] }, { accessFlags := 1, nameIndex := 363, descriptorIndex := 173, attributes := #[] }, { accessFlags := 0, nameIndex := 13, descriptorIndex := 125, attributes := #[] }, { accessFlags := 1, nameIndex := 381, descriptorIndex := 125, attributes := #[] }, { accessFlags := 2, nameIndex := 133, descriptorIndex := 134, attributes := #[] }, { accessFlags := 1, nameIndex := 133, descriptorIndex := 96, attributes := #[] }] 33 2 #[148, 329, 331, 333] #[{ accessFlags := 26, nameIndex := 335, descriptorIndex := 336, attributes := #[] }, { accessFlags := 26, nameIndex := 340, descriptorIndex := 51, attributes := #[] }, { accessFlags := 26, nameIndex := 17, descriptorIndex := 14, attributes := #[] }, { accessFlags := 26, nameIndex := 41, descriptorIndex := 14, attributes := #[] }, { accessFlags := 128, nameIndex := 13, descriptorIndex := 14, attributes := #[] }, { accessFlags := 2, nameIndex := 50, descriptorIndex := 51, attributes := #[] }])
  fields := #[{ name := "serialVersionUID", type := .long, accessFlags := 26, slot := 0, constantValue := 0 }, { name := "DEFAULT_CAPACITY", type := .int, accessFlags := 26, slot := 1, constantValue := 0 }, { name := "EMPTY_ELEMENTDATA", type := (.array (.object "java/lang/Object")), accessFlags := 26, slot := 2, constantValue := 0 }, { name := "DEFAULTCAPACITY_EMPTY_ELEMENTDATA", type := (.array (.object "java/lang/Object")), accessFlags := 26, slot := 3, constantValue := 0 }, { name := "elementData", type := (.array (.object "java/lang/Object")), accessFlags := 128, slot := 1, constantValue := 0 }, { name := "size", type := .int, accessFlags := 2, slot := 2, constantValue := 0 }]
  methods := #[k12m0, k12m1, k12m2, k12m3, k12m4, k12m5, k12m6, k12m7, k12m8]
  instanceTypes := #[.int, (.array (.object "java/lang/Object")), .int]
  staticTypes := #[.long, .int, (.array (.object "java/lang/Object")), (.array (.object "java/lang/Object"))]
  resolved := Array.replicate 509 none
  statics := some 0 }

def pool13 : Array CpInfo := pool [(1, .class_ 2), (0, u "java/lang/Math"), (1, .class_ 6), (1, u "java/lang/Object"), (0, u "<init>"), (0, u "()V"), (89, .class_ 100), (1, u "java/lang/Math$RandomNumberGeneratorHolder"), (20, u "(JJ)J"), (50, u "negativeZeroFloatBits"), (0, u "J"), (2, u "negativeZeroDoubleBits"), (21, u "max"), (2, u "min"), (43, u "$assertionsDisabled"), (0, u "Z"), (88, u "(II)I"), (2, u "twoToTheDoubleScaleDown"), (0, u "D"), (4, u "twoToTheDoubleScaleUp"), (9, u "E"), (3, u "PI"), (2, u "TAU"), (2, u "DEGREES_TO_RADIANS"), (0, u "RADIANS_TO_DEGREES")] 94

def k13m0 : Method := { name := "<init>", desc := "()V", sig := { parameters := [], returnType := none }, accessFlags := 2, code := none }
def k13c1 : Code := { maxStack := 2, maxLocals := 2, code := jdk_29_method_65_code, exceptionTable := #[], attributes := #[] }
def k13m1 : Method := { name := "max", desc := "(II)I", sig := { parameters := [.int, .int], returnType := some .int }, accessFlags := 9, code := some k13c1 }
def k13c2 : Code := { maxStack := 4, maxLocals := 4, code := jdk_29_method_70_code, exceptionTable := #[], attributes := #[] }
def k13m2 : Method := { name := "min", desc := "(JJ)J", sig := { parameters := [.long, .long], returnType := some .long }, accessFlags := 9, code := some k13c2 }
/-- java/lang/Math -/
def k13 : Class := { plain "java/lang/Math" (some 0) with
  accessFlags := 49
  interfaces := #[]
  cf := some (fileOf pool13 1 #[.nestMembers #[98]] #[{ accessFlags := 2, nameIndex := 7, descriptorIndex := 8, attributes := #[] }, { accessFlags := 9, nameIndex := 198, descriptorIndex := 335, attributes := #[] }, { accessFlags := 9, nameIndex := 201, descriptorIndex := 121, attributes := #[] }] 49 4 #[] #[{ accessFlags := 25, nameIndex := 354, descriptorIndex := 339, attributes := #[] }, { accessFlags := 25, nameIndex := 358, descriptorIndex := 339, attributes := #[] }, { accessFlags := 25, nameIndex := 361, descriptorIndex := 339, attributes := #[] }, { accessFlags := 26, nameIndex := 364, descriptorIndex := 339, attributes := #[] }, { accessFlags := 26, nameIndex := 365, descriptorIndex := 339, attributes := #[] }, { accessFlags := 26, nameIndex := 172, descriptorIndex := 173, attributes := #[] }, { accessFlags := 26, nameIndex := 176, descriptorIndex := 173, attributes := #[] }, { accessFlags := 8, nameIndex := 344, descriptorIndex := 339, attributes := #[] }, { accessFlags := 8, nameIndex := 338, descriptorIndex := 339, attributes := #[] }, { accessFlags := 4120, nameIndex := 245, descriptorIndex := 246, attributes := #[] }])
  fields := #[{ name := "E", type := .double, accessFlags := 25, slot := 0, constantValue := 0 }, { name := "PI", type := .double, accessFlags := 25, slot := 1, constantValue := 0 }, { name := "TAU", type := .double, accessFlags := 25, slot := 2, constantValue := 0 }, { name := "DEGREES_TO_RADIANS", type := .double, accessFlags := 26, slot := 3, constantValue := 0 }, { name := "RADIANS_TO_DEGREES", type := .double, accessFlags := 26, slot := 4, constantValue := 0 }, { name := "negativeZeroFloatBits", type := .long, accessFlags := 26, slot := 5, constantValue := 0 }, { name := "negativeZeroDoubleBits", type := .long, accessFlags := 26, slot := 6, constantValue := 0 }, { name := "twoToTheDoubleScaleUp", type := .double, accessFlags := 8, slot := 7, constantValue := 0 }, { name := "twoToTheDoubleScaleDown", type := .double, accessFlags := 8, slot := 8, constantValue := 0 }, { name := "$assertionsDisabled", type := .boolean, accessFlags := 4120, slot := 9, constantValue := 0 }]
  methods := #[k13m0, k13m1, k13m2]
  instanceTypes := #[]
  staticTypes := #[.double, .double, .double, .double, .double, .long, .long, .double, .double, .boolean]
  resolved := Array.replicate 460 none
  statics := none }

def pool14 : Array CpInfo := pool [(2, .class_ 4), (1, u "java/lang/Object"), (0, u "<init>"), (0, u "()V"), (35, .class_ 44), (1, u "java/util/Objects"), (60, .methodref 106 107), (0, .class_ 108), (0, .nameAndType 109 110), (0, u "jdk/internal/util/Preconditions"), (0, u "checkIndex"), (0, u "(IILjava/util/function/BiFunction;)I"), (60, u "(II)I")] 12

def k14m0 : Method := { name := "<init>", desc := "()V", sig := { parameters := [], returnType := none }, accessFlags := 2, code := none }
def k14c1 : Code := { maxStack := 3, maxLocals := 2, code := jdk_31_method_17_code, exceptionTable := #[], attributes := #[] }
def k14m1 : Method := { name := "checkIndex", desc := "(II)I", sig := { parameters := [.int, .int], returnType := some .int }, accessFlags := 9, code := some k14c1 }
/-- java/util/Objects -/
def k14 : Class := { plain "java/util/Objects" (some 0) with
  accessFlags := 49
  interfaces := #[]
  cf := some (fileOf pool14 42 #[] #[{ accessFlags := 2, nameIndex := 5, descriptorIndex := 6, attributes := #[] }, { accessFlags := 9, nameIndex := 109, descriptorIndex := 171, attributes := #[] }] 49 2 #[] #[])
  fields := #[]
  methods := #[k14m0, k14m1]
  instanceTypes := #[]
  staticTypes := #[]
  resolved := Array.replicate 184 none
  statics := none }

def pool15 : Array CpInfo := pool [(2, .class_ 4), (1, u "java/lang/Object"), (0, u "<init>"), (0, u "()V"), (17, .class_ 26), (1, u "jdk/internal/util/Preconditions"), (6, u "checkIndex"), (21, .class_ 56), (0, u "jdk/internal/util/Preconditions$4"), (57, .class_ 115), (0, u "jdk/internal/util/Preconditions$1"), (7, u "SIOOBE_FORMATTER"), (0, u "Ljava/util/function/BiFunction;"), (0, .class_ 126), (0, u "jdk/internal/util/Preconditions$2"), (3, u "AIOOBE_FORMATTER"), (0, .class_ 132), (0, u "jdk/internal/util/Preconditions$3"), (3, u "IOOBE_FORMATTER"), (41, u "(IILjava/util/function/BiFunction;)I")] 15

def k15m0 : Method := { name := "<init>", desc := "()V", sig := { parameters := [], returnType := none }, accessFlags := 1, code := none }
def k15c1 : Code := { maxStack := 3, maxLocals := 3, code := jdk_41_method_11_code, exceptionTable := #[], attributes := #[] }
def k15m1 : Method := { name := "checkIndex", desc := "(IILjava/util/function/BiFunction;)I", sig := { parameters := [.int, .int, (.object "java/util/function/BiFunction")], returnType := some .int }, accessFlags := 9, code := some k15c1 }
/-- jdk/internal/util/Preconditions -/
def k15 : Class := { plain "jdk/internal/util/Preconditions" (some 0) with
  accessFlags := 33
  interfaces := #[]
  cf := some (fileOf pool15 24 #[.nestMembers #[55, 131, 125, 114]] #[{ accessFlags := 1, nameIndex := 5, descriptorIndex := 6, attributes := #[] }, { accessFlags := 9, nameIndex := 33, descriptorIndex := 178, attributes := #[] }] 33 2 #[] #[{ accessFlags := 25, nameIndex := 123, descriptorIndex := 124, attributes := #[] }, { accessFlags := 25, nameIndex := 130, descriptorIndex := 124, attributes := #[] }, { accessFlags := 25, nameIndex := 136, descriptorIndex := 124, attributes := #[] }])
  fields := #[{ name := "SIOOBE_FORMATTER", type := (.object "java/util/function/BiFunction"), accessFlags := 25, slot := 0, constantValue := 0 }, { name := "AIOOBE_FORMATTER", type := (.object "java/util/function/BiFunction"), accessFlags := 25, slot := 1, constantValue := 0 }, { name := "IOOBE_FORMATTER", type := (.object "java/util/function/BiFunction"), accessFlags := 25, slot := 2, constantValue := 0 }]
  methods := #[k15m0, k15m1]
  instanceTypes := #[]
  staticTypes := #[(.object "java/util/function/BiFunction"), (.object "java/util/function/BiFunction"), (.object "java/util/function/BiFunction")]
  resolved := Array.replicate 194 none
  statics := none }

/-- the primitive byte -/
def k16 : Class := { plain "byte" none with kind := .primitive 'B', accessFlags := 0x411 }
/-- [B -/
def k17 : Class := { plain "[B" (some 0) with kind := .array 16 .byte, interfaces := #[10, 11], accessFlags := 1041 }

/-- the primitive int -/
def k18 : Class := { plain "int" none with kind := .primitive 'I', accessFlags := 0x411 }
/-- [I -/
def k19 : Class := { plain "[I" (some 0) with kind := .array 18 .int, interfaces := #[10, 11], accessFlags := 1041 }

/-- [Ljava/lang/Object; -/
def k20 : Class := { plain "[Ljava/lang/Object;" (some 0) with kind := .array 0 (.object "java/lang/Object"), interfaces := #[10, 11], accessFlags := 1041 }

def heap : Heap := #[{ cls := 12, slots := #[.long 0, .int 0, .ref 1, .ref 2], vm := .statics 12 },
  { cls := 20, slots := #[], vm := .none },
  { cls := 20, slots := #[], vm := .none }]
def classes : Array Class := #[k0, k1, k2, k3, k4, k5, k6, k7, k8, k9, k10, k11, k12, k13, k14, k15, k16, k17, k18, k19, k20]
def interned : List (Array UInt16 × Addr) := []
def slotsUsed : Nat := 4
def theMethod : MethodId := ⟨1, 2⟩
def args0 : Array Value := #[.long 5, .long 5, .int 5, .long 5, .int 5, .int 5]
def aboutOver (below : List Frame) : State where
  vm := { classes := classes, interned := interned.toArray }
  heap := heap
  slotsUsed := slotsUsed
  threads := #[{ frames := .invoking theMethod args0 :: below }]
def below0 : List Frame := [.native { method := ⟨0, 0⟩, args := #[] }]
def about1 : State := aboutOver below0
def p0 : Program := .bare "" "" ""
def e0 : Env := launch0.env 0 0 0
theorem w_frames : about1.frames = Frame.invoking theMethod args0 :: below0 := rfl
set_option maxRecDepth 65536 in
theorem w_args : argsFit about1.vm theMethod args0 = true := by decide +kernel
set_option maxRecDepth 65536 in
theorem w_heap : heapFits about1 = true := by decide +kernel
set_option maxRecDepth 65536 in
theorem w_runnable : about1.curStatus? = some .runnable := by decide +kernel
set_option maxRecDepth 65536 in
theorem w_alone : about1.alone = true := by decide +kernel
set_option maxRecDepth 65536 in
theorem w_named : about1.methodNamed? x = some theMethod := by decide +kernel
set_option maxRecDepth 65536 in
theorem w_hears : about1.hears theMethod below0 = true := by decide +kernel
set_option maxRecDepth 65536 in
theorem w_ripe : about1.ripe theMethod args0 below0 = true := by decide +kernel
theorem w_running : about1.status = .running := rfl
set_option maxRecDepth 65536 in
theorem w_room : about1.hasRoom e0.platform room_1 = true :=
  launch0.hasRoom_least _ room_1 (by decide +kernel) (by decide +kernel) (by decide +kernel) (by decide +kernel) (by decide +kernel) (by decide +kernel)
theorem allAtoms_all (ts : List Jvm.Cond) (a : Array Jvm.Value) (st : Jvm.State) : (allAtoms ts).before a st = ts.all (fun c => c.before a st) := by
  induction ts with
  | nil => rfl
  | cons c t ih =>
    show (Jvm.Cond.and c (allAtoms t)).before a st = _
    rw [Jvm.Cond.before_and, ih, List.all_cons]
def words1 : List Jvm.Cond := Jvm.Cond.code x code maxLocals ret :: tables_1
/-- a 'code' word, met by the world's own term for the bytes: nothing is compared byte by byte -/
theorem code_word {y : MethodName} {bytes : ByteArray} {mx : Nat} {rt : Option FieldType} {a : Array Value} {s : State} {m : MethodId} {meth : Method} {c : Code} (h1 : s.methodNamed? y = some m) (h2 : s.vm.method? m = some meth) (h3 : meth.code = some c) (h4 : c.code = bytes)
    (h5 : (c.maxLocals == mx && c.exceptionTable.isEmpty && decide (c.maxStack ≤ mostOperands) && decide (meth.sig.returnType = rt) && !meth.locks && decide (parseMethodDescriptor y.desc = some meth.sig)) = true) : (Jvm.Cond.code y bytes mx rt).before a s = true := by
  simp only [Bool.and_eq_true, beq_iff_eq, Bool.not_eq_true', decide_eq_true_eq] at h5
  obtain ⟨⟨⟨⟨⟨g1, g2⟩, g3⟩, g4⟩, g5⟩, g6⟩ := h5
  simp [Cond.before, Cond.holds, Cond.value, h1, h2, h3, h4, g1, g2, g3, g4, g5, g6]
def isCode : Jvm.Cond → Bool
  | .code _ _ _ _ => true
  | _ => false
theorem all_split {L : List Jvm.Cond} {P : Jvm.Cond → Bool} (h1 : L.all (fun c => isCode c || P c) = true) (h2 : ∀ c ∈ L.filter isCode, P c = true) : L.all P = true := by
  refine List.all_eq_true.mpr fun c hc => ?_
  have h := List.all_eq_true.mp h1 c hc
  rcases Bool.eq_false_or_eq_true (isCode c) with hi | hi
  · exact h2 c (List.mem_filter.mpr ⟨hc, hi⟩)
  · simpa [hi] using h
set_option maxRecDepth 65536 in
theorem w_c0 : (Jvm.Cond.code x code maxLocals ret).before args0 about1 = true := code_word (m := ⟨1, 2⟩) (meth := k1m2) (c := k1c2) (by decide +kernel) rfl rfl rfl (by decide +kernel)
set_option maxRecDepth 65536 in
theorem w_c1 : (Jvm.Cond.code ({ cls := "com/example/narrow_sieve/narrowsieve/format/BitBuffer", name := "<init>", desc := "(J)V" } : Jvm.MethodName) prog_4_method_1_code (3 : Nat) (Option.none : Option Jvm.ClassFile.FieldType)).before args0 about1 = true := code_word (m := ⟨2, 0⟩) (meth := k2m0) (c := k2c0) (by decide +kernel) rfl rfl rfl (by decide +kernel)
set_option maxRecDepth 65536 in
theorem w_c2 : (Jvm.Cond.code ({ cls := "java/lang/Object", name := "<init>", desc := "()V" } : Jvm.MethodName) object_method_1_code (1 : Nat) (Option.none : Option Jvm.ClassFile.FieldType)).before args0 about1 = true := code_word (m := ⟨0, 0⟩) (meth := k0m0) (c := k0c0) (by decide +kernel) rfl rfl rfl (by decide +kernel)
set_option maxRecDepth 65536 in
theorem w_c3 : (Jvm.Cond.code ({ cls := "java/util/ArrayList", name := "<init>", desc := "()V" } : Jvm.MethodName) jdk_38_method_2_code (1 : Nat) (Option.none : Option Jvm.ClassFile.FieldType)).before args0 about1 = true := code_word (m := ⟨12, 0⟩) (meth := k12m0) (c := k12c0) (by decide +kernel) rfl rfl rfl (by decide +kernel)
set_option maxRecDepth 65536 in
theorem w_c4 : (Jvm.Cond.code ({ cls := "java/util/AbstractList", name := "<init>", desc := "()V" } : Jvm.MethodName) jdk_39_method_1_code (1 : Nat) (Option.none : Option Jvm.ClassFile.FieldType)).before args0 about1 = true := code_word (m := ⟨8, 0⟩) (meth := k8m0) (c := k8c0) (by decide +kernel) rfl rfl rfl (by decide +kernel)
set_option maxRecDepth 65536 in
theorem w_c5 : (Jvm.Cond.code ({ cls := "java/util/AbstractCollection", name := "<init>", desc := "()V" } : Jvm.MethodName) jdk_22_method_1_code (1 : Nat) (Option.none : Option Jvm.ClassFile.FieldType)).before args0 about1 = true := code_word (m := ⟨5, 0⟩) (meth := k5m0) (c := k5c0) (by decide +kernel) rfl rfl rfl (by decide +kernel)
set_option maxRecDepth 65536 in
theorem w_c6 : (Jvm.Cond.code ({ cls := "com/example/narrow_sieve/narrowsieve/format/BitBuffer", name := "byteLength", desc := "()J" } : Jvm.MethodName) prog_4_method_3_code (1 : Nat) (Option.some Jvm.ClassFile.FieldType.long)).before args0 about1 = true := code_word (m := ⟨2, 1⟩) (meth := k2m1) (c := k2c1) (by decide +kernel) rfl rfl rfl (by decide +kernel)
set_option maxRecDepth 65536 in
theorem w_c7 : (Jvm.Cond.code ({ cls := "com/example/narrow_sieve/narrowsieve/format/BitBuffer", name := "append", desc := "(JI)V" } : Jvm.MethodName) prog_4_method_4_code (5 : Nat) (Option.none : Option Jvm.ClassFile.FieldType)).before args0 about1 = true := code_word (m := ⟨2, 2⟩) (meth := k2m2) (c := k2c2) (by decide +kernel) rfl rfl rfl (by decide +kernel)
set_option maxRecDepth 65536 in
theorem w_c8 : (Jvm.Cond.code ({ cls := "com/example/narrow_sieve/narrowsieve/format/BitBufferByteLengthPinLaw", name := "ceil8", desc := "(J)J" } : Jvm.MethodName) method_2_code (2 : Nat) (Option.some Jvm.ClassFile.FieldType.long)).before args0 about1 = true := code_word (m := ⟨1, 1⟩) (meth := k1m1) (c := k1c1) (by decide +kernel) rfl rfl rfl (by decide +kernel)
set_option maxRecDepth 65536 in
theorem w_c9 : (Jvm.Cond.code ({ cls := "com/example/narrow_sieve/narrowsieve/format/BitBuffer", name := "appendZeros", desc := "(J)V" } : Jvm.MethodName) prog_4_method_5_code (6 : Nat) (Option.none : Option Jvm.ClassFile.FieldType)).before args0 about1 = true := code_word (m := ⟨2, 3⟩) (meth := k2m3) (c := k2c3) (by decide +kernel) rfl rfl rfl (by decide +kernel)
set_option maxRecDepth 65536 in
theorem w_c10 : (Jvm.Cond.code ({ cls := "com/example/narrow_sieve/narrowsieve/format/BitBuffer", name := "put", desc := "(B)V" } : Jvm.MethodName) prog_4_method_7_code (2 : Nat) (Option.none : Option Jvm.ClassFile.FieldType)).before args0 about1 = true := code_word (m := ⟨2, 4⟩) (meth := k2m4) (c := k2c4) (by decide +kernel) rfl rfl rfl (by decide +kernel)
set_option maxRecDepth 65536 in
theorem w_c11 : (Jvm.Cond.code ({ cls := "java/util/ArrayList", name := "isEmpty", desc := "()Z" } : Jvm.MethodName) jdk_38_method_9_code (1 : Nat) (Option.some Jvm.ClassFile.FieldType.boolean)).before args0 about1 = true := code_word (m := ⟨12, 4⟩) (meth := k12m4) (c := k12c4) (by decide +kernel) rfl rfl rfl (by decide +kernel)
set_option maxRecDepth 65536 in
theorem w_c12 : (Jvm.Cond.code ({ cls := "java/util/ArrayList", name := "add", desc := "(Ljava/lang/Object;)Z" } : Jvm.MethodName) jdk_38_method_25_code (2 : Nat) (Option.some Jvm.ClassFile.FieldType.boolean)).before args0 about1 = true := code_word (m := ⟨12, 8⟩) (meth := k12m8) (c := k12c8) (by decide +kernel) rfl rfl rfl (by decide +kernel)
set_option maxRecDepth 65536 in
theorem w_c13 : (Jvm.Cond.code ({ cls := "java/util/ArrayList", name := "add", desc := "(Ljava/lang/Object;[Ljava/lang/Object;I)V" } : Jvm.MethodName) jdk_38_method_24_code (4 : Nat) (Option.none : Option Jvm.ClassFile.FieldType)).before args0 about1 = true := code_word (m := ⟨12, 7⟩) (meth := k12m7) (c := k12c7) (by decide +kernel) rfl rfl rfl (by decide +kernel)
set_option maxRecDepth 65536 in
theorem w_c14 : (Jvm.Cond.code ({ cls := "java/util/ArrayList", name := "grow", desc := "()[Ljava/lang/Object;" } : Jvm.MethodName) jdk_38_method_7_code (1 : Nat) (Option.some (Jvm.ClassFile.FieldType.array (Jvm.ClassFile.FieldType.object "java/lang/Object")))).before args0 about1 = true := code_word (m := ⟨12, 2⟩) (meth := k12m2) (c := k12c2) (by decide +kernel) rfl rfl rfl (by decide +kernel)
set_option maxRecDepth 65536 in
theorem w_c15 : (Jvm.Cond.code ({ cls := "java/util/ArrayList", name := "grow", desc := "(I)[Ljava/lang/Object;" } : Jvm.MethodName) jdk_38_method_6_code (4 : Nat) (Option.some (Jvm.ClassFile.FieldType.array (Jvm.ClassFile.FieldType.object "java/lang/Object")))).before args0 about1 = true := code_word (m := ⟨12, 1⟩) (meth := k12m1) (c := k12c1) (by decide +kernel) rfl rfl rfl (by decide +kernel)
set_option maxRecDepth 65536 in
theorem w_c16 : (Jvm.Cond.code ({ cls := "java/lang/Math", name := "max", desc := "(II)I" } : Jvm.MethodName) jdk_29_method_65_code (2 : Nat) (Option.some Jvm.ClassFile.FieldType.int)).before args0 about1 = true := code_word (m := ⟨13, 1⟩) (meth := k13m1) (c := k13c1) (by decide +kernel) rfl rfl rfl (by decide +kernel)
set_option maxRecDepth 65536 in
theorem w_c17 : (Jvm.Cond.code ({ cls := "java/util/ArrayList", name := "size", desc := "()I" } : Jvm.MethodName) jdk_38_method_8_code (1 : Nat) (Option.some Jvm.ClassFile.FieldType.int)).before args0 about1 = true := code_word (m := ⟨12, 3⟩) (meth := k12m3) (c := k12c3) (by decide +kernel) rfl rfl rfl (by decide +kernel)
set_option maxRecDepth 65536 in
theorem w_c18 : (Jvm.Cond.code ({ cls := "java/util/ArrayList", name := "get", desc := "(I)Ljava/lang/Object;" } : Jvm.MethodName) jdk_38_method_20_code (2 : Nat) (Option.some (Jvm.ClassFile.FieldType.object "java/lang/Object"))).before args0 about1 = true := code_word (m := ⟨12, 6⟩) (meth := k12m6) (c := k12c6) (by decide +kernel) rfl rfl rfl (by decide +kernel)
set_option maxRecDepth 65536 in
theorem w_c19 : (Jvm.Cond.code ({ cls := "java/util/Objects", name := "checkIndex", desc := "(II)I" } : Jvm.MethodName) jdk_31_method_17_code (2 : Nat) (Option.some Jvm.ClassFile.FieldType.int)).before args0 about1 = true := code_word (m := ⟨14, 1⟩) (meth := k14m1) (c := k14c1) (by decide +kernel) rfl rfl rfl (by decide +kernel)
set_option maxRecDepth 65536 in
theorem w_c20 : (Jvm.Cond.code ({ cls := "jdk/internal/util/Preconditions", name := "checkIndex", desc := "(IILjava/util/function/BiFunction;)I" } : Jvm.MethodName) jdk_41_method_11_code (3 : Nat) (Option.some Jvm.ClassFile.FieldType.int)).before args0 about1 = true := code_word (m := ⟨15, 1⟩) (meth := k15m1) (c := k15c1) (by decide +kernel) rfl rfl rfl (by decide +kernel)
set_option maxRecDepth 65536 in
theorem w_c21 : (Jvm.Cond.code ({ cls := "java/util/ArrayList", name := "elementData", desc := "(I)Ljava/lang/Object;" } : Jvm.MethodName) jdk_38_method_18_code (2 : Nat) (Option.some (Jvm.ClassFile.FieldType.object "java/lang/Object"))).before args0 about1 = true := code_word (m := ⟨12, 5⟩) (meth := k12m5) (c := k12c5) (by decide +kernel) rfl rfl rfl (by decide +kernel)
set_option maxRecDepth 65536 in
theorem w_c22 : (Jvm.Cond.code ({ cls := "java/lang/Math", name := "min", desc := "(JJ)J" } : Jvm.MethodName) jdk_29_method_70_code (4 : Nat) (Option.some Jvm.ClassFile.FieldType.long)).before args0 about1 = true := code_word (m := ⟨13, 2⟩) (meth := k13m2) (c := k13c2) (by decide +kernel) rfl rfl rfl (by decide +kernel)
def codes1 : List Jvm.Cond := [Jvm.Cond.code x code maxLocals ret, Jvm.Cond.code ({ cls := "com/example/narrow_sieve/narrowsieve/format/BitBuffer", name := "<init>", desc := "(J)V" } : Jvm.MethodName) prog_4_method_1_code (3 : Nat) (Option.none : Option Jvm.ClassFile.FieldType), Jvm.Cond.code ({ cls := "java/lang/Object", name := "<init>", desc := "()V" } : Jvm.MethodName) object_method_1_code (1 : Nat) (Option.none : Option Jvm.ClassFile.FieldType), Jvm.Cond.code ({ cls := "java/util/ArrayList", name := "<init>", desc := "()V" } : Jvm.MethodName) jdk_38_method_2_code (1 : Nat) (Option.none : Option Jvm.ClassFile.FieldType), Jvm.Cond.code ({ cls := "java/util/AbstractList", name := "<init>", desc := "()V" } : Jvm.MethodName) jdk_39_method_1_code (1 : Nat) (Option.none : Option Jvm.ClassFile.FieldType), Jvm.Cond.code ({ cls := "java/util/AbstractCollection", name := "<init>", desc := "()V" } : Jvm.MethodName) jdk_22_method_1_code (1 : Nat) (Option.none : Option Jvm.ClassFile.FieldType), Jvm.Cond.code ({ cls := "com/example/narrow_sieve/narrowsieve/format/BitBuffer", name := "byteLength", desc := "()J" } : Jvm.MethodName) prog_4_method_3_code (1 : Nat) (Option.some Jvm.ClassFile.FieldType.long), Jvm.Cond.code ({ cls := "com/example/narrow_sieve/narrowsieve/format/BitBuffer", name := "append", desc := "(JI)V" } : Jvm.MethodName) prog_4_method_4_code (5 : Nat) (Option.none : Option Jvm.ClassFile.FieldType), Jvm.Cond.code ({ cls := "com/example/narrow_sieve/narrowsieve/format/BitBufferByteLengthPinLaw", name := "ceil8", desc := "(J)J" } : Jvm.MethodName) method_2_code (2 : Nat) (Option.some Jvm.ClassFile.FieldType.long), Jvm.Cond.code ({ cls := "com/example/narrow_sieve/narrowsieve/format/BitBuffer", name := "appendZeros", desc := "(J)V" } : Jvm.MethodName) prog_4_method_5_code (6 : Nat) (Option.none : Option Jvm.ClassFile.FieldType), Jvm.Cond.code ({ cls := "com/example/narrow_sieve/narrowsieve/format/BitBuffer", name := "put", desc := "(B)V" } : Jvm.MethodName) prog_4_method_7_code (2 : Nat) (Option.none : Option Jvm.ClassFile.FieldType), Jvm.Cond.code ({ cls := "java/util/ArrayList", name := "isEmpty", desc := "()Z" } : Jvm.MethodName) jdk_38_method_9_code (1 : Nat) (Option.some Jvm.ClassFile.FieldType.boolean), Jvm.Cond.code ({ cls := "java/util/ArrayList", name := "add", desc := "(Ljava/lang/Object;)Z" } : Jvm.MethodName) jdk_38_method_25_code (2 : Nat) (Option.some Jvm.ClassFile.FieldType.boolean), Jvm.Cond.code ({ cls := "java/util/ArrayList", name := "add", desc := "(Ljava/lang/Object;[Ljava/lang/Object;I)V" } : Jvm.MethodName) jdk_38_method_24_code (4 : Nat) (Option.none : Option Jvm.ClassFile.FieldType), Jvm.Cond.code ({ cls := "java/util/ArrayList", name := "grow", desc := "()[Ljava/lang/Object;" } : Jvm.MethodName) jdk_38_method_7_code (1 : Nat) (Option.some (Jvm.ClassFile.FieldType.array (Jvm.ClassFile.FieldType.object "java/lang/Object"))), Jvm.Cond.code ({ cls := "java/util/ArrayList", name := "grow", desc := "(I)[Ljava/lang/Object;" } : Jvm.MethodName) jdk_38_method_6_code (4 : Nat) (Option.some (Jvm.ClassFile.FieldType.array (Jvm.ClassFile.FieldType.object "java/lang/Object"))), Jvm.Cond.code ({ cls := "java/lang/Math", name := "max", desc := "(II)I" } : Jvm.MethodName) jdk_29_method_65_code (2 : Nat) (Option.some Jvm.ClassFile.FieldType.int), Jvm.Cond.code ({ cls := "java/util/ArrayList", name := "size", desc := "()I" } : Jvm.MethodName) jdk_38_method_8_code (1 : Nat) (Option.some Jvm.ClassFile.FieldType.int), Jvm.Cond.code ({ cls := "java/util/ArrayList", name := "get", desc := "(I)Ljava/lang/Object;" } : Jvm.MethodName) jdk_38_method_20_code (2 : Nat) (Option.some (Jvm.ClassFile.FieldType.object "java/lang/Object")), Jvm.Cond.code ({ cls := "java/util/Objects", name := "checkIndex", desc := "(II)I" } : Jvm.MethodName) jdk_31_method_17_code (2 : Nat) (Option.some Jvm.ClassFile.FieldType.int), Jvm.Cond.code ({ cls := "jdk/internal/util/Preconditions", name := "checkIndex", desc := "(IILjava/util/function/BiFunction;)I" } : Jvm.MethodName) jdk_41_method_11_code (3 : Nat) (Option.some Jvm.ClassFile.FieldType.int), Jvm.Cond.code ({ cls := "java/util/ArrayList", name := "elementData", desc := "(I)Ljava/lang/Object;" } : Jvm.MethodName) jdk_38_method_18_code (2 : Nat) (Option.some (Jvm.ClassFile.FieldType.object "java/lang/Object")), Jvm.Cond.code ({ cls := "java/lang/Math", name := "min", desc := "(JJ)J" } : Jvm.MethodName) jdk_29_method_70_code (4 : Nat) (Option.some Jvm.ClassFile.FieldType.long)]
set_option maxRecDepth 65536 in
theorem codes_eq : words1.filter isCode = codes1 := rfl
theorem w_codes : ∀ c ∈ words1.filter isCode, c.before args0 about1 = true := by
  rw [codes_eq]
  intro c hc
  simp only [codes1, List.mem_cons, List.not_mem_nil, or_false] at hc
  rcases hc with rfl | rfl | rfl | rfl | rfl | rfl | rfl | rfl | rfl | rfl | rfl | rfl | rfl | rfl | rfl | rfl | rfl | rfl | rfl | rfl | rfl | rfl | rfl
  · exact w_c0
  · exact w_c1
  · exact w_c2
  · exact w_c3
  · exact w_c4
  · exact w_c5
  · exact w_c6
  · exact w_c7
  · exact w_c8
  · exact w_c9
  · exact w_c10
  · exact w_c11
  · exact w_c12
  · exact w_c13
  · exact w_c14
  · exact w_c15
  · exact w_c16
  · exact w_c17
  · exact w_c18
  · exact w_c19
  · exact w_c20
  · exact w_c21
  · exact w_c22
set_option maxRecDepth 65536 in
theorem w_t1 : (words1.take 24).all (fun c => isCode c || c.before args0 about1) = true := by decide +kernel
set_option maxRecDepth 65536 in
theorem w_t2 : ((words1.drop 24).take 24).all (fun c => isCode c || c.before args0 about1) = true := by decide +kernel
set_option maxRecDepth 65536 in
theorem w_t3 : (((words1.drop 24).drop 24).take 24).all (fun c => isCode c || c.before args0 about1) = true := by decide +kernel
set_option maxRecDepth 65536 in
theorem w_t4 : ((((words1.drop 24).drop 24).drop 24).take 24).all (fun c => isCode c || c.before args0 about1) = true := by decide +kernel
set_option maxRecDepth 65536 in
theorem w_t5 : (((((words1.drop 24).drop 24).drop 24).drop 24).take 24).all (fun c => isCode c || c.before args0 about1) = true := by decide +kernel
set_option maxRecDepth 65536 in
theorem w_t6 : ((((((words1.drop 24).drop 24).drop 24).drop 24).drop 24).take 24).all (fun c => isCode c || c.before args0 about1) = true := by decide +kernel
set_option maxRecDepth 65536 in
theorem w_t7 : ((((((words1.drop 24).drop 24).drop 24).drop 24).drop 24).drop 24).all (fun c => isCode c || c.before args0 about1) = true := by decide +kernel
theorem w_tables : (allAtoms (Jvm.Cond.code x code maxLocals ret :: tables_1)).before args0 about1 = true := by
  rw [allAtoms_all]
  show words1.all (fun c => c.before args0 about1) = true
  refine all_split ?_ w_codes
  rw [← List.take_append_drop 24 words1, List.all_append, w_t1, ← List.take_append_drop 24 (words1.drop 24), List.all_append, w_t2, ← List.take_append_drop 24 ((words1.drop 24).drop 24), List.all_append, w_t3, ← List.take_append_drop 24 (((words1.drop 24).drop 24).drop 24), List.all_append, w_t4, ← List.take_append_drop 24 ((((words1.drop 24).drop 24).drop 24).drop 24), List.all_append, w_t5, ← List.take_append_drop 24 (((((words1.drop 24).drop 24).drop 24).drop 24).drop 24), List.all_append, w_t6, w_t7]
  rfl
set_option maxRecDepth 65536 in
theorem w_rest : rest_1_c.before args0 about1 = true := by decide +kernel
set_option maxRecDepth 65536 in
theorem w_case : (Jvm.Cond.and given_1 narrow_1).before args0 about1 = true := by decide +kernel
theorem w_applies : (headSpec (Jvm.Cond.code x code maxLocals ret :: tables_1) room_1).applies x e0.platform about1 = true :=
  (Spec.applies_iff w_frames).mpr ⟨w_running, w_runnable, w_alone, w_named, w_hears, w_ripe, w_room, w_tables⟩
theorem atStart : AtStart classFile x code maxLocals ret World_1 tables_1 room_1 Calls_1 rest_1 Pre_1 launch0 p0 e0 about1 theMethod args0 below0 :=
  ⟨lists_1, trivial, launch0.admits_env _ _ _, launch0.least_env, fairChoices_fair.cas, fairChoices_fair.clock, w_frames, w_args, w_heap, w_applies, trivial, w_rest, w_case⟩
end start1
theorem witness_1 : WitnessClaimed_1 := ⟨start1.p0, start1.e0, start1.about1, start1.theMethod, start1.args0, start1.below0, start1.atStart⟩
end Jvm.Pilot.@@N@@
