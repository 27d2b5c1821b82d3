import JvmDerived
import JvmDerived.Pilot.@@N@@Statement
import JvmDerived.Pilot.@@N@@Code
set_option linter.unusedVariables false
set_option linter.unusedSimpArgs false
namespace Jvm.Pilot.@@N@@
open Jvm Jvm.ClassFile Sem Op Lib Jvm.Free Jvm.Stand Jvm.LawKit Jvm.RoadKit Bundle Jvm.Pilot.@@N@@.Jvm.D
set_option maxRecDepth 4000
section OwnKit
/-- the goal of a walk: from S the run comes to a return that Q allows, and nothing old is touched -/
def own_Gl (p : Program) (e : Env) (below : List Frame) (s : State) (Q : Option Value → Heap → List Loc → Prop) (kc ks : Nat) (S : State) : Prop :=
  ∃ s₂ o, Steps p.tables e below S s₂ ∧ s₂.status = .running ∧ Ended s₂ below o ∧ ∃ v L, o = .returned v ∧ Q v s₂.heap L ∧ FrameEnd s o s₂ L kc ks
variable {p : Program} {l : Launch} {e : Env} {R : Room} {s : State} {m : MethodId} {args : Array Value} {below : List Frame} {meth : Method} {c : Code} {T : State} {locs : List Loc} {cells slots : Nat} {Z : State} {a0 : Array Value} {h : Heap} {Q : Option Value → Heap → List Loc → Prop} {kc ks : Nat} {pc pc' : Nat} {L L' : Array Slot} {S : List Value}
theorem own_Gl.go {S S' : State} (h : own_Gl p e below s Q kc ks S') (st : ∀ t, Steps p.tables e below S' t → Steps p.tables e below S t) : own_Gl p e below s Q kc ks S := by
  obtain ⟨s₂, o, h1, h2⟩ := h
  exact ⟨s₂, o, st _ h1, h2⟩
/-- what a method leaves that writes nothing and makes nothing -/
def own_Pure (w : Option Value) (h0 : Heap) (v : Option Value) (h : Heap) (L : List Loc) : Prop := v = w ∧ L = [] ∧ h = h0
theorem own_body {l : Launch} {Z : State} {y : MethodName} {bytes : ByteArray} {maxL : Nat} {ret : Option FieldType} {ws : List Jvm.Cond} {rm : Room} {as' : Array Value} {h0 : Heap} {Q : Option Value → Heap → List Loc → Prop} {L0 : Array Slot} {own : String}
    (hpl : plainName y.cls = true) (hyc : y.cls = own) (hef : ∀ m, entryFrame m as' maxL = mkF m 0 L0 [])
    (body : ∀ p e s m below meth c T, p.tables.exec = Jvm.exec → c.code = bytes → c.maxLocals = maxL → s.vm.findClass own = some m.cls → meth.name = y.name → meth.locks = false → meth.sig.returnType = ret → Z.Warmed39 s.vm → Stand p l e rm s m as' below meth c T [] 0 0 → T.heap = h0 →
      own_Gl p e below s Q rm.cells rm.slots (T.setTop (mkF m 0 L0 []))) :
    MetFree l y (head1 (Jvm.Cond.code y bytes maxL ret :: ws) rm) (fun a U => a = as' ∧ Z.Warmed39 U.vm ∧ U.heap = h0) (fun _ _ _ _ _ => True) (fun _ U o U' => ∃ v L, o = .returned v ∧ Q v U'.heap L ∧ FrameEnd U o U' L rm.cells rm.slots) := by
  refine MetFree.of_bodySF (plainFor_of_name hpl) hisR ?_
  intro p e s m args below meth c s₁ Bd hml0 hP hK
  obtain ⟨rfl, hZ, hh⟩ := hP
  have hown : s.vm.findClass y.cls = some m.cls := findClass_of_methodNamed Bd.named
  have hnm := (name_of_methodNamed Bd.named Bd.method).1
  have X0 : Stand p l e rm s m _ below meth c s₁ [] 0 0 := Stand.of_body Bd
  have e0 : s₁.heap = h0 := by rw [← hh, Bd.state]; rfl
  obtain ⟨s₂, o, h1, h2⟩ := body p e s m below meth c s₁ Bd.exec Bd.bytes hml0 (hyc ▸ hown) hnm Bd.notSynchronized Bd.returns hZ X0 e0
  exact ⟨s₂, o, castTop (hef m) h1, h2⟩
theorem own_ret (X : Stand p l e R s m args below meth c T locs cells slots) (hlk : meth.locks = false) {v : Option Value} (hv : meth.sig.returnType = none → v = none) (hQ : Q v T.heap locs) (hc : cells ≤ kc) (hs : slots ≤ ks) {S : State}
    (st : ∀ fs, (∀ (f : JFrame) (acts : List Action), f.method = m → f.locked = none → f.entered = [] → (doReturn e (T.setTop f) acts v).1 = T.setFrames fs) → Steps p.tables e below S (T.setFrames fs)) : own_Gl p e below s Q kc ks S := by
  obtain ⟨fs, hr, hrun, hended, hW, hsame⟩ := X.leave (v := v) hv hlk
  exact ⟨_, _, st fs hr, hrun, hended, v, locs, rfl, hQ, ⟨_, rfl⟩, hW, hsame.mono hc hs⟩
theorem g_retI (X : Stand p l e R s m args below meth c T locs cells slots) (hx : p.tables.exec = Jvm.exec) (hlk : meth.locks = false) {z : Int32} (hret : meth.sig.returnType = some .int) (hd : decode c.code pc = .ok (.ireturn, 1)) (hc : cells ≤ kc) (hs : slots ≤ ks) (hQ : Q (some (.int z)) T.heap locs) :
    own_Gl p e below s Q kc ks (T.setTop (mkF m pc L (.int z :: S))) :=
  own_ret X hlk (fun h => by rw [hret] at h; cases h) hQ hc hs fun fs hr => retOut X hx hret rfl (Or.inl ⟨rfl, Or.inl rfl, z, rfl⟩) hd hr
theorem g_retN (X : Stand p l e R s m args below meth c T locs cells slots) (hx : p.tables.exec = Jvm.exec) (hlk : meth.locks = false) {z z' : Int32} {t : FieldType} (hret : meth.sig.returnType = some t) (ht : t = .boolean ∨ t = .byte ∨ t = .char ∨ t = .short) (hz : nar t z = z') (hd : decode c.code pc = .ok (.ireturn, 1)) (hc : cells ≤ kc) (hs : slots ≤ ks) (hQ : Q (some (.int z')) T.heap locs) :
    own_Gl p e below s Q kc ks (T.setTop (mkF m pc L (.int z :: S))) := by
  subst hz
  exact own_ret X hlk (fun h => by rw [hret] at h; cases h) hQ hc hs fun fs hr => retN X hx hret ht hd hr
theorem g_retL (X : Stand p l e R s m args below meth c T locs cells slots) (hx : p.tables.exec = Jvm.exec) (hlk : meth.locks = false) {z : Int64} (hret : meth.sig.returnType = some .long) (hd : decode c.code pc = .ok (.lreturn, 1)) (hc : cells ≤ kc) (hs : slots ≤ ks) (hQ : Q (some (.long z)) T.heap locs) :
    own_Gl p e below s Q kc ks (T.setTop (mkF m pc L (.long z :: S))) :=
  own_ret X hlk (fun h => by rw [hret] at h; cases h) hQ hc hs fun fs hr => retOut X hx hret rfl (Or.inr (Or.inl ⟨rfl, rfl, z, rfl⟩)) hd hr
theorem g_retV (X : Stand p l e R s m args below meth c T locs cells slots) (hx : p.tables.exec = Jvm.exec) (hlk : meth.locks = false) (hret : meth.sig.returnType = none) (hd : decode c.code pc = .ok (.return_, 1)) (hc : cells ≤ kc) (hs : slots ≤ ks) (hQ : Q none T.heap locs) :
    own_Gl p e below s Q kc ks (T.setTop (mkF m pc L [])) :=
  own_ret X hlk (fun _ => rfl) hQ hc hs fun fs hr => X.returnOut hx hret hd hr
/-- a static call by the callee's contract -/
theorem g_callS (X : Stand p l e R s m args below meth c T locs cells slots) (hx : p.tables.exec = Jvm.exec) (hZ : Z.Warmed39 s.vm) {own : String} {index : Nat} {y : MethodName} {bytes : ByteArray} {maxL : Nat} {ret : Option FieldType} (hown : s.vm.findClass own = some m.cls)
    (w1 : (Jvm.Cond.methodLink own index y).before a0 Z = true) (w2 : (Jvm.Cond.static y).before a0 Z = true) (w3 : (Jvm.Cond.initialized y.cls).before a0 Z = true) (w4 : (Jvm.Cond.code y bytes maxL ret).before a0 Z = true) (hy : y.cls ≠ "java/lang/invoke/MethodHandle" ∧ y.cls ≠ "java/lang/invoke/VarHandle")
    {rm : Room} {as' : Array Value} {Qc : Option Value → Heap → List Loc → Prop}
    (hM : MetFree l y (head1 [Jvm.Cond.code y bytes maxL ret] rm) (fun a U => a = as' ∧ Z.Warmed39 U.vm ∧ U.heap = h) (fun _ _ _ _ _ => True) (fun _ U o U' => ∃ v L, o = .returned v ∧ Qc v U'.heap L ∧ FrameEnd U o U' L rm.cells rm.slots))
    (W : Nat) (hf : rm.frames + 1 ≤ R.frames) (hl : W + (maxL + 11) + rm.locals ≤ R.locals) (eT : T.heap = h) (hsize : L.size = c.maxLocals) (argsL rest : List Value) (hlen : ∀ sig, parseMethodDescriptor y.desc = some sig → argsL.length = sig.parameters.length)
    (hst : S = argsL.reverse ++ rest) (has : argsL.toArray = as') (hW : (rest.map fun v => v.category).sum ≤ W) (hd : decode c.code pc = .ok (.invokestatic index, 3)) (hp : pc + 3 = pc') {cells' slots' : Nat} (hcc : cells + rm.cells = cells') (hss : slots + rm.slots = slots') (hcl : cells' ≤ R.cells) (hsl : slots' ≤ R.slots)
    (k : ∀ (v : Option Value) (T' : State) (L' : List Loc), Stand p l e R s m args below meth c T' (locs ++ L') cells' slots' → Qc v T'.heap L' → own_Gl p e below s Q kc ks (T'.setTop (mkF m pc' L (v.toList ++ rest)))) :
    own_Gl p e below s Q kc ks (T.setTop (mkF m pc L S)) := by
  subst hp hst hcc hss
  obtain ⟨v, _, ⟨T', L', k', n'⟩, -, X', ⟨Lc, hQ, l', y', z'⟩, st⟩ := Jvm.LawKit.callS X hx (y := y) hown (mvT hZ w1) (mvT hZ w2) (mvT hZ w3) (mvT hZ w4) hy (backOf (W := W) hM hZ w4 w3 hf hl) (g := mkF m pc L (argsL.reverse ++ rest)) rfl hsize (argsL := argsL) (rest := rest) hlen rfl (by show 2 * 0 + _ ≤ _; omega) hd (fun _ _ => ⟨has, eT, hcl, hsl⟩)
  dsimp only [Pt.U, Pt.locs, Pt.cells, Pt.slots] at X' l' y' z' st hQ
  subst l' y' z'
  exact (k v T' Lc X' hQ).go st
/-- the same of a method that writes nothing -/
theorem g_callP (X : Stand p l e R s m args below meth c T locs cells slots) (hx : p.tables.exec = Jvm.exec) (hZ : Z.Warmed39 s.vm) {own : String} {index : Nat} {y : MethodName} {bytes : ByteArray} {maxL : Nat} {ret : Option FieldType} (hown : s.vm.findClass own = some m.cls)
    (w1 : (Jvm.Cond.methodLink own index y).before a0 Z = true) (w2 : (Jvm.Cond.static y).before a0 Z = true) (w3 : (Jvm.Cond.initialized y.cls).before a0 Z = true) (w4 : (Jvm.Cond.code y bytes maxL ret).before a0 Z = true) (hy : y.cls ≠ "java/lang/invoke/MethodHandle" ∧ y.cls ≠ "java/lang/invoke/VarHandle")
    {fr lo : Nat} {as' : Array Value} {w : Option Value}
    (hM : MetFree l y (head1 [Jvm.Cond.code y bytes maxL ret] ({ frames := fr, cells := 0, slots := 0, locals := lo } : Room)) (fun a U => a = as' ∧ Z.Warmed39 U.vm ∧ U.heap = h) (fun _ _ _ _ _ => True) (fun _ U o U' => ∃ v L, o = .returned v ∧ own_Pure w h v U'.heap L ∧ FrameEnd U o U' L ({ frames := fr, cells := 0, slots := 0, locals := lo } : Room).cells ({ frames := fr, cells := 0, slots := 0, locals := lo } : Room).slots))
    (W : Nat) (hf : fr + 1 ≤ R.frames) (hl : W + (maxL + 11) + lo ≤ R.locals) (eT : T.heap = h) (hsize : L.size = c.maxLocals) (argsL rest : List Value) (hlen : ∀ sig, parseMethodDescriptor y.desc = some sig → argsL.length = sig.parameters.length)
    (hst : S = argsL.reverse ++ rest) (has : argsL.toArray = as') (hW : (rest.map fun v => v.category).sum ≤ W) (hd : decode c.code pc = .ok (.invokestatic index, 3)) (hp : pc + 3 = pc') (hcl : cells ≤ R.cells) (hsl : slots ≤ R.slots)
    (k : ∀ (T' : State), Stand p l e R s m args below meth c T' locs cells slots → T'.heap = h → own_Gl p e below s Q kc ks (T'.setTop (mkF m pc' L (w.toList ++ rest)))) :
    own_Gl p e below s Q kc ks (T.setTop (mkF m pc L S)) := by
  refine g_callS X hx hZ hown w1 w2 w3 w4 hy hM W hf hl eT hsize argsL rest hlen hst has hW hd hp (cells' := cells) (slots' := slots) rfl rfl hcl hsl ?_
  intro v T' L' X' hQ
  obtain ⟨rfl, rfl, e'⟩ := hQ
  rw [List.append_nil] at X'
  exact k T' X' e'
theorem own_tltL {x y : Int64} (h : x < y) : ifCond.holds .lt (lcmpW x y) = true ∧ ifCond.holds .ge (lcmpW x y) = false ∧ ifCond.holds .gt (lcmpW y x) = true ∧ ifCond.holds .le (lcmpW y x) = false := by
  have h1 := (lw_lt x y).mpr h
  have h2 := (lw_gt y x).mpr h
  rw [if0, if0, if0, if0]
  exact ⟨(tlt h1).1, (tlt h1).2.1, (tlt h2).2.2.1, (tlt h2).2.2.2⟩
theorem own_fltL {x y : Int64} (h : ¬ x < y) : ifCond.holds .lt (lcmpW x y) = false ∧ ifCond.holds .ge (lcmpW x y) = true ∧ ifCond.holds .gt (lcmpW y x) = false ∧ ifCond.holds .le (lcmpW y x) = true := by
  have h1 := fun q => h ((lw_lt x y).mp q)
  have h2 := fun q => h ((lw_gt y x).mp q)
  rw [if0, if0, if0, if0]
  exact ⟨(flt h1).1, (flt h1).2.1, (flt h2).2.2.1, (flt h2).2.2.2⟩
theorem own_teqL {x y : Int64} (h : x = y) : ifCond.holds .eq (lcmpW x y) = true ∧ ifCond.holds .ne (lcmpW x y) = false := by
  have h1 := (lw_eq x y).mpr h
  rw [if0, if0]
  exact ⟨(teq h1).1, (teq h1).2⟩
theorem own_feqL {x y : Int64} (h : ¬ x = y) : ifCond.holds .eq (lcmpW x y) = false ∧ ifCond.holds .ne (lcmpW x y) = true := by
  have h1 := fun q => h ((lw_eq x y).mp q)
  rw [if0, if0]
  exact ⟨(feq h1).1, (feq h1).2⟩
theorem g_iloadN (h : At T m c below) (hx : p.tables.exec = Jvm.exec) {j : Fin 4} {v : Int32} (hd : decode c.code pc = .ok (.iload_n j, 1)) (hp : pc + 1 = pc') (hl : L[j.val]? = some (.val (.int v))) (hr : own_Gl p e below s Q kc ks (T.setTop (mkF m pc' L (.int v :: S)))) : own_Gl p e below s Q kc ks (T.setTop (mkF m pc L S)) := by
  subst hp; exact hr.go fun t k => XS.iloadN h hx rfl hd hl k
theorem g_lloadN (h : At T m c below) (hx : p.tables.exec = Jvm.exec) {j : Fin 4} {v : Int64} (hd : decode c.code pc = .ok (.lload_n j, 1)) (hp : pc + 1 = pc') (hl : L[j.val]? = some (.val (.long v))) (hr : own_Gl p e below s Q kc ks (T.setTop (mkF m pc' L (.long v :: S)))) : own_Gl p e below s Q kc ks (T.setTop (mkF m pc L S)) := by
  subst hp; exact hr.go fun t k => XS.lloadN h hx rfl hd hl k
theorem g_aloadN (h : At T m c below) (hx : p.tables.exec = Jvm.exec) {j : Fin 4} {v : Value} (hd : decode c.code pc = .ok (.aload_n j, 1)) (hp : pc + 1 = pc') (hl : L[j.val]? = some (.val v)) (hv : v.isRef = true) (hr : own_Gl p e below s Q kc ks (T.setTop (mkF m pc' L (v :: S)))) : own_Gl p e below s Q kc ks (T.setTop (mkF m pc L S)) := by
  subst hp; exact hr.go fun t k => XS.aloadN h hx rfl hd hl hv k
theorem g_istoreN (h : At T m c below) (hx : p.tables.exec = Jvm.exec) {j : Fin 4} {v : Int32} (hd : decode c.code pc = .ok (.istore_n j, 1)) (hp : pc + 1 = pc') (hl : storeLocals L j.val (.int v) = some L') (hr : own_Gl p e below s Q kc ks (T.setTop (mkF m pc' L' S))) : own_Gl p e below s Q kc ks (T.setTop (mkF m pc L (.int v :: S))) := by
  subst hp; exact hr.go fun t k => XS.istoreN h hx rfl hd rfl hl k
theorem g_lstoreN (h : At T m c below) (hx : p.tables.exec = Jvm.exec) {j : Fin 4} {v : Int64} (hd : decode c.code pc = .ok (.lstore_n j, 1)) (hp : pc + 1 = pc') (hl : storeLocals L j.val (.long v) = some L') (hr : own_Gl p e below s Q kc ks (T.setTop (mkF m pc' L' S))) : own_Gl p e below s Q kc ks (T.setTop (mkF m pc L (.long v :: S))) := by
  subst hp; exact hr.go fun t k => XS.lstoreN h hx rfl hd rfl hl k
theorem g_astoreN (h : At T m c below) (hx : p.tables.exec = Jvm.exec) {j : Fin 4} {v : Value} (hd : decode c.code pc = .ok (.astore_n j, 1)) (hp : pc + 1 = pc') (hv : v.isRef = true) (hl : storeLocals L j.val v = some L') (hr : own_Gl p e below s Q kc ks (T.setTop (mkF m pc' L' S))) : own_Gl p e below s Q kc ks (T.setTop (mkF m pc L (v :: S))) := by
  subst hp; exact hr.go fun t k => XS.astoreN h hx rfl hd rfl hv hl k
theorem g_iload (h : At T m c below) (hx : p.tables.exec = Jvm.exec) {j : Nat} {v : Int32} (hd : decode c.code pc = .ok (.iload j, 2)) (hp : pc + 2 = pc') (hl : L[j]? = some (.val (.int v))) (hr : own_Gl p e below s Q kc ks (T.setTop (mkF m pc' L (.int v :: S)))) : own_Gl p e below s Q kc ks (T.setTop (mkF m pc L S)) := by
  subst hp; exact hr.go fun t k => XS.iload h hx rfl hd hl k
theorem g_lload (h : At T m c below) (hx : p.tables.exec = Jvm.exec) {j : Nat} {v : Int64} (hd : decode c.code pc = .ok (.lload j, 2)) (hp : pc + 2 = pc') (hl : L[j]? = some (.val (.long v))) (hr : own_Gl p e below s Q kc ks (T.setTop (mkF m pc' L (.long v :: S)))) : own_Gl p e below s Q kc ks (T.setTop (mkF m pc L S)) := by
  subst hp; exact hr.go fun t k => XS.lload h hx rfl hd hl k
theorem g_aload (h : At T m c below) (hx : p.tables.exec = Jvm.exec) {j : Nat} {v : Value} (hd : decode c.code pc = .ok (.aload j, 2)) (hp : pc + 2 = pc') (hl : L[j]? = some (.val v)) (hv : v.isRef = true) (hr : own_Gl p e below s Q kc ks (T.setTop (mkF m pc' L (v :: S)))) : own_Gl p e below s Q kc ks (T.setTop (mkF m pc L S)) := by
  subst hp; exact hr.go fun t k => XS.aload h hx rfl hd hl hv k
theorem g_istore (h : At T m c below) (hx : p.tables.exec = Jvm.exec) {j : Nat} {v : Int32} (hd : decode c.code pc = .ok (.istore j, 2)) (hp : pc + 2 = pc') (hl : storeLocals L j (.int v) = some L') (hr : own_Gl p e below s Q kc ks (T.setTop (mkF m pc' L' S))) : own_Gl p e below s Q kc ks (T.setTop (mkF m pc L (.int v :: S))) := by
  subst hp; exact hr.go fun t k => XS.istore h hx rfl hd rfl hl k
theorem g_lstore (h : At T m c below) (hx : p.tables.exec = Jvm.exec) {j : Nat} {v : Int64} (hd : decode c.code pc = .ok (.lstore j, 2)) (hp : pc + 2 = pc') (hl : storeLocals L j (.long v) = some L') (hr : own_Gl p e below s Q kc ks (T.setTop (mkF m pc' L' S))) : own_Gl p e below s Q kc ks (T.setTop (mkF m pc L (.long v :: S))) := by
  subst hp; exact hr.go fun t k => XS.lstore h hx rfl hd rfl hl k
theorem g_astore (h : At T m c below) (hx : p.tables.exec = Jvm.exec) {j : Nat} {v : Value} (hd : decode c.code pc = .ok (.astore j, 2)) (hp : pc + 2 = pc') (hv : v.isRef = true) (hl : storeLocals L j v = some L') (hr : own_Gl p e below s Q kc ks (T.setTop (mkF m pc' L' S))) : own_Gl p e below s Q kc ks (T.setTop (mkF m pc L (v :: S))) := by
  subst hp; exact hr.go fun t k => XS.astore h hx rfl hd rfl hv hl k
theorem g_iconst (h : At T m c below) (hx : p.tables.exec = Jvm.exec) {i : Int} {z : Int32} (hd : decode c.code pc = .ok (.iconst i, 1)) (hp : pc + 1 = pc') (hz : Int32.ofInt i = z) (hr : own_Gl p e below s Q kc ks (T.setTop (mkF m pc' L (.int z :: S)))) : own_Gl p e below s Q kc ks (T.setTop (mkF m pc L S)) := by
  subst hp hz; exact hr.go fun t k => XS.iconst h hx rfl hd k
theorem g_bipush (h : At T m c below) (hx : p.tables.exec = Jvm.exec) {i : Int} {z : Int32} (hd : decode c.code pc = .ok (.bipush i, 2)) (hp : pc + 2 = pc') (hz : (Int8.ofInt i).toInt32 = z) (hr : own_Gl p e below s Q kc ks (T.setTop (mkF m pc' L (.int z :: S)))) : own_Gl p e below s Q kc ks (T.setTop (mkF m pc L S)) := by
  subst hp hz; exact hr.go fun t k => XS.bipush h hx rfl hd k
theorem g_sipush (h : At T m c below) (hx : p.tables.exec = Jvm.exec) {i : Int} {z : Int32} (hd : decode c.code pc = .ok (.sipush i, 3)) (hp : pc + 3 = pc') (hz : (Int16.ofInt i).toInt32 = z) (hr : own_Gl p e below s Q kc ks (T.setTop (mkF m pc' L (.int z :: S)))) : own_Gl p e below s Q kc ks (T.setTop (mkF m pc L S)) := by
  subst hp hz; exact hr.go fun t k => XS.sipush h hx rfl hd k
theorem g_lconst (h : At T m c below) (hx : p.tables.exec = Jvm.exec) {i : Fin 2} {z : Int64} (hd : decode c.code pc = .ok (.lconst i, 1)) (hp : pc + 1 = pc') (hz : Int64.ofNat i = z) (hr : own_Gl p e below s Q kc ks (T.setTop (mkF m pc' L (.long z :: S)))) : own_Gl p e below s Q kc ks (T.setTop (mkF m pc L S)) := by
  subst hp hz; exact hr.go fun t k => XS.lconst h hx rfl hd k
theorem g_aconstNull (h : At T m c below) (hx : p.tables.exec = Jvm.exec)  (hd : decode c.code pc = .ok (.aconst_null, 1)) (hp : pc + 1 = pc')  (hr : own_Gl p e below s Q kc ks (T.setTop (mkF m pc' L (.null :: S)))) : own_Gl p e below s Q kc ks (T.setTop (mkF m pc L S)) := by
  subst hp; exact hr.go fun t k => XS.aconstNull h hx rfl hd k
theorem g_iadd (h : At T m c below) (hx : p.tables.exec = Jvm.exec) {u v : Int32} (hd : decode c.code pc = .ok (.iadd, 1)) (hp : pc + 1 = pc')  (hr : own_Gl p e below s Q kc ks (T.setTop (mkF m pc' L (.int (u + v) :: S)))) : own_Gl p e below s Q kc ks (T.setTop (mkF m pc L (.int v :: .int u :: S))) := by
  subst hp; exact hr.go fun t k => XS.iadd h hx rfl hd rfl k
theorem g_ladd (h : At T m c below) (hx : p.tables.exec = Jvm.exec) {u v : Int64} (hd : decode c.code pc = .ok (.ladd, 1)) (hp : pc + 1 = pc')  (hr : own_Gl p e below s Q kc ks (T.setTop (mkF m pc' L (.long (u + v) :: S)))) : own_Gl p e below s Q kc ks (T.setTop (mkF m pc L (.long v :: .long u :: S))) := by
  subst hp; exact hr.go fun t k => XS.ladd h hx rfl hd rfl k
theorem g_isub (h : At T m c below) (hx : p.tables.exec = Jvm.exec) {u v : Int32} (hd : decode c.code pc = .ok (.isub, 1)) (hp : pc + 1 = pc')  (hr : own_Gl p e below s Q kc ks (T.setTop (mkF m pc' L (.int (u - v) :: S)))) : own_Gl p e below s Q kc ks (T.setTop (mkF m pc L (.int v :: .int u :: S))) := by
  subst hp; exact hr.go fun t k => XS.isub h hx rfl hd rfl k
theorem g_lsub (h : At T m c below) (hx : p.tables.exec = Jvm.exec) {u v : Int64} (hd : decode c.code pc = .ok (.lsub, 1)) (hp : pc + 1 = pc')  (hr : own_Gl p e below s Q kc ks (T.setTop (mkF m pc' L (.long (u - v) :: S)))) : own_Gl p e below s Q kc ks (T.setTop (mkF m pc L (.long v :: .long u :: S))) := by
  subst hp; exact hr.go fun t k => XS.lsub h hx rfl hd rfl k
theorem g_imul (h : At T m c below) (hx : p.tables.exec = Jvm.exec) {u v : Int32} (hd : decode c.code pc = .ok (.imul, 1)) (hp : pc + 1 = pc')  (hr : own_Gl p e below s Q kc ks (T.setTop (mkF m pc' L (.int (u * v) :: S)))) : own_Gl p e below s Q kc ks (T.setTop (mkF m pc L (.int v :: .int u :: S))) := by
  subst hp; exact hr.go fun t k => XS.imul h hx rfl hd rfl k
theorem g_lmul (h : At T m c below) (hx : p.tables.exec = Jvm.exec) {u v : Int64} (hd : decode c.code pc = .ok (.lmul, 1)) (hp : pc + 1 = pc')  (hr : own_Gl p e below s Q kc ks (T.setTop (mkF m pc' L (.long (u * v) :: S)))) : own_Gl p e below s Q kc ks (T.setTop (mkF m pc L (.long v :: .long u :: S))) := by
  subst hp; exact hr.go fun t k => XS.lmul h hx rfl hd rfl k
theorem g_iand (h : At T m c below) (hx : p.tables.exec = Jvm.exec) {u v : Int32} (hd : decode c.code pc = .ok (.iand, 1)) (hp : pc + 1 = pc')  (hr : own_Gl p e below s Q kc ks (T.setTop (mkF m pc' L (.int (u &&& v) :: S)))) : own_Gl p e below s Q kc ks (T.setTop (mkF m pc L (.int v :: .int u :: S))) := by
  subst hp; exact hr.go fun t k => XS.iand h hx rfl hd rfl k
theorem g_land (h : At T m c below) (hx : p.tables.exec = Jvm.exec) {u v : Int64} (hd : decode c.code pc = .ok (.land, 1)) (hp : pc + 1 = pc')  (hr : own_Gl p e below s Q kc ks (T.setTop (mkF m pc' L (.long (u &&& v) :: S)))) : own_Gl p e below s Q kc ks (T.setTop (mkF m pc L (.long v :: .long u :: S))) := by
  subst hp; exact hr.go fun t k => XS.land h hx rfl hd rfl k
theorem g_ior (h : At T m c below) (hx : p.tables.exec = Jvm.exec) {u v : Int32} (hd : decode c.code pc = .ok (.ior, 1)) (hp : pc + 1 = pc')  (hr : own_Gl p e below s Q kc ks (T.setTop (mkF m pc' L (.int (u ||| v) :: S)))) : own_Gl p e below s Q kc ks (T.setTop (mkF m pc L (.int v :: .int u :: S))) := by
  subst hp; exact hr.go fun t k => XS.ior h hx rfl hd rfl k
theorem g_lor (h : At T m c below) (hx : p.tables.exec = Jvm.exec) {u v : Int64} (hd : decode c.code pc = .ok (.lor, 1)) (hp : pc + 1 = pc')  (hr : own_Gl p e below s Q kc ks (T.setTop (mkF m pc' L (.long (u ||| v) :: S)))) : own_Gl p e below s Q kc ks (T.setTop (mkF m pc L (.long v :: .long u :: S))) := by
  subst hp; exact hr.go fun t k => XS.lor h hx rfl hd rfl k
theorem g_ixor (h : At T m c below) (hx : p.tables.exec = Jvm.exec) {u v : Int32} (hd : decode c.code pc = .ok (.ixor, 1)) (hp : pc + 1 = pc')  (hr : own_Gl p e below s Q kc ks (T.setTop (mkF m pc' L (.int (u ^^^ v) :: S)))) : own_Gl p e below s Q kc ks (T.setTop (mkF m pc L (.int v :: .int u :: S))) := by
  subst hp; exact hr.go fun t k => XS.ixor h hx rfl hd rfl k
theorem g_lxor (h : At T m c below) (hx : p.tables.exec = Jvm.exec) {u v : Int64} (hd : decode c.code pc = .ok (.lxor, 1)) (hp : pc + 1 = pc')  (hr : own_Gl p e below s Q kc ks (T.setTop (mkF m pc' L (.long (u ^^^ v) :: S)))) : own_Gl p e below s Q kc ks (T.setTop (mkF m pc L (.long v :: .long u :: S))) := by
  subst hp; exact hr.go fun t k => XS.lxor h hx rfl hd rfl k
theorem g_ishl (h : At T m c below) (hx : p.tables.exec = Jvm.exec) {u v : Int32} (hd : decode c.code pc = .ok (.ishl, 1)) (hp : pc + 1 = pc')  (hr : own_Gl p e below s Q kc ks (T.setTop (mkF m pc' L (.int (u <<< (v &&& 31)) :: S)))) : own_Gl p e below s Q kc ks (T.setTop (mkF m pc L (.int v :: .int u :: S))) := by
  subst hp; exact hr.go fun t k => XS.ishl h hx rfl hd rfl k
theorem g_ishr (h : At T m c below) (hx : p.tables.exec = Jvm.exec) {u v : Int32} (hd : decode c.code pc = .ok (.ishr, 1)) (hp : pc + 1 = pc')  (hr : own_Gl p e below s Q kc ks (T.setTop (mkF m pc' L (.int (u >>> (v &&& 31)) :: S)))) : own_Gl p e below s Q kc ks (T.setTop (mkF m pc L (.int v :: .int u :: S))) := by
  subst hp; exact hr.go fun t k => XS.ishr h hx rfl hd rfl k
theorem g_iushr (h : At T m c below) (hx : p.tables.exec = Jvm.exec) {u v : Int32} (hd : decode c.code pc = .ok (.iushr, 1)) (hp : pc + 1 = pc')  (hr : own_Gl p e below s Q kc ks (T.setTop (mkF m pc' L (.int ((u.toUInt32 >>> (v &&& 31).toUInt32).toInt32) :: S)))) : own_Gl p e below s Q kc ks (T.setTop (mkF m pc L (.int v :: .int u :: S))) := by
  subst hp; exact hr.go fun t k => XS.iushr h hx rfl hd rfl k
theorem g_lshl (h : At T m c below) (hx : p.tables.exec = Jvm.exec) {u : Int64} {v : Int32} (hd : decode c.code pc = .ok (.lshl, 1)) (hp : pc + 1 = pc')  (hr : own_Gl p e below s Q kc ks (T.setTop (mkF m pc' L (.long (u <<< (v &&& 0x3f).toInt64) :: S)))) : own_Gl p e below s Q kc ks (T.setTop (mkF m pc L (.int v :: .long u :: S))) := by
  subst hp; exact hr.go fun t k => XS.lshl h hx rfl hd rfl k
theorem g_lshr (h : At T m c below) (hx : p.tables.exec = Jvm.exec) {u : Int64} {v : Int32} (hd : decode c.code pc = .ok (.lshr, 1)) (hp : pc + 1 = pc')  (hr : own_Gl p e below s Q kc ks (T.setTop (mkF m pc' L (.long (u >>> (v &&& 0x3f).toInt64) :: S)))) : own_Gl p e below s Q kc ks (T.setTop (mkF m pc L (.int v :: .long u :: S))) := by
  subst hp; exact hr.go fun t k => XS.lshr h hx rfl hd rfl k
theorem g_lushr (h : At T m c below) (hx : p.tables.exec = Jvm.exec) {u : Int64} {v : Int32} (hd : decode c.code pc = .ok (.lushr, 1)) (hp : pc + 1 = pc')  (hr : own_Gl p e below s Q kc ks (T.setTop (mkF m pc' L (.long ((u.toUInt64 >>> (v &&& 0x3f).toInt64.toUInt64).toInt64) :: S)))) : own_Gl p e below s Q kc ks (T.setTop (mkF m pc L (.int v :: .long u :: S))) := by
  subst hp; exact hr.go fun t k => XS.lushr h hx rfl hd rfl k
theorem g_idiv (h : At T m c below) (hx : p.tables.exec = Jvm.exec) {u v : Int32} (hd : decode c.code pc = .ok (.idiv, 1)) (hp : pc + 1 = pc') (hy : v ≠ 0) (hr : own_Gl p e below s Q kc ks (T.setTop (mkF m pc' L (.int (u / v) :: S)))) : own_Gl p e below s Q kc ks (T.setTop (mkF m pc L (.int v :: .int u :: S))) := by
  subst hp; exact hr.go fun t k => XS.idiv h hx rfl hd rfl hy k
theorem g_ldiv (h : At T m c below) (hx : p.tables.exec = Jvm.exec) {u v : Int64} (hd : decode c.code pc = .ok (.ldiv, 1)) (hp : pc + 1 = pc') (hy : v ≠ 0) (hr : own_Gl p e below s Q kc ks (T.setTop (mkF m pc' L (.long (u / v) :: S)))) : own_Gl p e below s Q kc ks (T.setTop (mkF m pc L (.long v :: .long u :: S))) := by
  subst hp; exact hr.go fun t k => XS.ldiv h hx rfl hd rfl hy k
theorem g_irem (X : Stand p l e R s m args below meth c T locs cells slots) (hx : p.tables.exec = Jvm.exec) {u v : Int32} (hd : decode c.code pc = .ok (.irem, 1)) (hp : pc + 1 = pc') (hy : v ≠ 0) (hr : own_Gl p e below s Q kc ks (T.setTop (mkF m pc' L (.int (u % v) :: S)))) : own_Gl p e below s Q kc ks (T.setTop (mkF m pc L (.int v :: .int u :: S))) := by
  subst hp; exact hr.go fun t k => iremM X hx rfl hd rfl hy k
theorem g_lrem (h : At T m c below) (hx : p.tables.exec = Jvm.exec) {u v : Int64} (hd : decode c.code pc = .ok (.lrem, 1)) (hp : pc + 1 = pc') (hy : v ≠ 0) (hr : own_Gl p e below s Q kc ks (T.setTop (mkF m pc' L (.long (u % v) :: S)))) : own_Gl p e below s Q kc ks (T.setTop (mkF m pc L (.long v :: .long u :: S))) := by
  subst hp; exact hr.go fun t k => XS.lrem h hx rfl hd rfl hy (by rw [lrem_mod]; exact k)
theorem g_ineg (h : At T m c below) (hx : p.tables.exec = Jvm.exec) {u : Int32} (hd : decode c.code pc = .ok (.ineg, 1)) (hp : pc + 1 = pc')  (hr : own_Gl p e below s Q kc ks (T.setTop (mkF m pc' L (.int (-u) :: S)))) : own_Gl p e below s Q kc ks (T.setTop (mkF m pc L (.int u :: S))) := by
  subst hp; exact hr.go fun t k => XS.ineg h hx rfl hd rfl k
theorem g_lneg (h : At T m c below) (hx : p.tables.exec = Jvm.exec) {u : Int64} (hd : decode c.code pc = .ok (.lneg, 1)) (hp : pc + 1 = pc')  (hr : own_Gl p e below s Q kc ks (T.setTop (mkF m pc' L (.long (-u) :: S)))) : own_Gl p e below s Q kc ks (T.setTop (mkF m pc L (.long u :: S))) := by
  subst hp; exact hr.go fun t k => XS.lneg h hx rfl hd rfl k
theorem g_i2l (h : At T m c below) (hx : p.tables.exec = Jvm.exec) {u : Int32} (hd : decode c.code pc = .ok (.i2l, 1)) (hp : pc + 1 = pc')  (hr : own_Gl p e below s Q kc ks (T.setTop (mkF m pc' L (.long u.toInt64 :: S)))) : own_Gl p e below s Q kc ks (T.setTop (mkF m pc L (.int u :: S))) := by
  subst hp; exact hr.go fun t k => XS.i2l h hx rfl hd rfl k
theorem g_l2i (h : At T m c below) (hx : p.tables.exec = Jvm.exec) {u : Int64} (hd : decode c.code pc = .ok (.l2i, 1)) (hp : pc + 1 = pc')  (hr : own_Gl p e below s Q kc ks (T.setTop (mkF m pc' L (.int u.toInt32 :: S)))) : own_Gl p e below s Q kc ks (T.setTop (mkF m pc L (.long u :: S))) := by
  subst hp; exact hr.go fun t k => XS.l2i h hx rfl hd rfl k
theorem g_i2b (h : At T m c below) (hx : p.tables.exec = Jvm.exec) {u : Int32} (hd : decode c.code pc = .ok (.i2b, 1)) (hp : pc + 1 = pc')  (hr : own_Gl p e below s Q kc ks (T.setTop (mkF m pc' L (.int u.toInt8.toInt32 :: S)))) : own_Gl p e below s Q kc ks (T.setTop (mkF m pc L (.int u :: S))) := by
  subst hp; exact hr.go fun t k => XS.i2b h hx rfl hd rfl k
theorem g_i2s (h : At T m c below) (hx : p.tables.exec = Jvm.exec) {u : Int32} (hd : decode c.code pc = .ok (.i2s, 1)) (hp : pc + 1 = pc')  (hr : own_Gl p e below s Q kc ks (T.setTop (mkF m pc' L (.int u.toInt16.toInt32 :: S)))) : own_Gl p e below s Q kc ks (T.setTop (mkF m pc L (.int u :: S))) := by
  subst hp; exact hr.go fun t k => XS.i2s h hx rfl hd rfl k
theorem g_i2c (h : At T m c below) (hx : p.tables.exec = Jvm.exec) {u : Int32} (hd : decode c.code pc = .ok (.i2c, 1)) (hp : pc + 1 = pc')  (hr : own_Gl p e below s Q kc ks (T.setTop (mkF m pc' L (.int u.toUInt32.toUInt16.toUInt32.toInt32 :: S)))) : own_Gl p e below s Q kc ks (T.setTop (mkF m pc L (.int u :: S))) := by
  subst hp; exact hr.go fun t k => XS.i2c h hx rfl hd rfl k
theorem g_lcmp (h : At T m c below) (hx : p.tables.exec = Jvm.exec) {u v : Int64} (hd : decode c.code pc = .ok (.lcmp, 1)) (hp : pc + 1 = pc')  (hr : own_Gl p e below s Q kc ks (T.setTop (mkF m pc' L (.int (lcmpW u v) :: S)))) : own_Gl p e below s Q kc ks (T.setTop (mkF m pc L (.long v :: .long u :: S))) := by
  subst hp; exact hr.go fun t k => XS.lcmp h hx rfl hd rfl k
theorem g_dup (h : At T m c below) (hx : p.tables.exec = Jvm.exec) {v : Value} (hd : decode c.code pc = .ok (.dup, 1)) (hp : pc + 1 = pc') (hc : v.category = 1) (hr : own_Gl p e below s Q kc ks (T.setTop (mkF m pc' L (v :: v :: S)))) : own_Gl p e below s Q kc ks (T.setTop (mkF m pc L (v :: S))) := by
  subst hp; exact hr.go fun t k => XS.dup h hx rfl hd rfl hc k
theorem g_pop (h : At T m c below) (hx : p.tables.exec = Jvm.exec) {v : Value} (hd : decode c.code pc = .ok (.pop, 1)) (hp : pc + 1 = pc') (hc : v.category = 1) (hr : own_Gl p e below s Q kc ks (T.setTop (mkF m pc' L S))) : own_Gl p e below s Q kc ks (T.setTop (mkF m pc L (v :: S))) := by
  subst hp; exact hr.go fun t k => XS.pop h hx rfl hd rfl hc k
theorem g_dupX1 (h : At T m c below) (hx : p.tables.exec = Jvm.exec) {v w : Value} (hd : decode c.code pc = .ok (.dup_x1, 1)) (hp : pc + 1 = pc') (hc : v.category = 1) (hc' : w.category = 1) (hr : own_Gl p e below s Q kc ks (T.setTop (mkF m pc' L (v :: w :: v :: S)))) : own_Gl p e below s Q kc ks (T.setTop (mkF m pc L (v :: w :: S))) := by
  subst hp; exact hr.go fun t k => XS.dupX1 h hx rfl hd rfl hc hc' k
theorem g_dup2 (h : At T m c below) (hx : p.tables.exec = Jvm.exec) {v w : Value} (hd : decode c.code pc = .ok (.dup2, 1)) (hp : pc + 1 = pc') (hc : v.category = 1) (hc' : w.category = 1) (hr : own_Gl p e below s Q kc ks (T.setTop (mkF m pc' L (v :: w :: v :: w :: S)))) : own_Gl p e below s Q kc ks (T.setTop (mkF m pc L (v :: w :: S))) := by
  subst hp; exact hr.go fun t k => XT.dup2 h hx rfl hd rfl hc hc' k
theorem g_dup2L (h : At T m c below) (hx : p.tables.exec = Jvm.exec) {v : Int64} (hd : decode c.code pc = .ok (.dup2, 1)) (hp : pc + 1 = pc')  (hr : own_Gl p e below s Q kc ks (T.setTop (mkF m pc' L (.long v :: .long v :: S)))) : own_Gl p e below s Q kc ks (T.setTop (mkF m pc L (.long v :: S))) := by
  subst hp; exact hr.go fun t k => XT.dup2L h hx rfl hd rfl k
theorem g_pop2L (h : At T m c below) (hx : p.tables.exec = Jvm.exec) {v : Int64} (hd : decode c.code pc = .ok (.pop2, 1)) (hp : pc + 1 = pc') (hr : own_Gl p e below s Q kc ks (T.setTop (mkF m pc' L S))) : own_Gl p e below s Q kc ks (T.setTop (mkF m pc L (.long v :: S))) := by
  subst hp
  refine hr.go fun t k => ?_
  jvm_step h [h.top, hx, hd, Value.category]
  exact k
theorem g_iinc (h : At T m c below) (hx : p.tables.exec = Jvm.exec) {j : Nat} {i : Int} {v z : Int32} (hd : decode c.code pc = .ok (.iinc j i, 3)) (hp : pc + 3 = pc') (hz : Int32.ofInt i = z) (hl : L[j]? = some (.val (.int v))) (hl' : storeLocals L j (.int (v + z)) = some L') (hr : own_Gl p e below s Q kc ks (T.setTop (mkF m pc' L' S))) : own_Gl p e below s Q kc ks (T.setTop (mkF m pc L S)) := by
  subst hp; exact hr.go fun t k => XS.iinc h hx rfl hd hl (by rw [hz]; exact hl') k
theorem g_goto (h : At T m c below) (hx : p.tables.exec = Jvm.exec) {i : Int} (hd : decode c.code pc = .ok (.goto i, 3)) (ho : 0 ≤ (pc : Int) + i) (hp : ((pc : Int) + i).toNat = pc') (hr : own_Gl p e below s Q kc ks (T.setTop (mkF m pc' L S))) : own_Gl p e below s Q kc ks (T.setTop (mkF m pc L S)) := hr.go fun t k => XS.goto h hx rfl (pc0 := pc) rfl hd ho hp k
theorem g_ifY (h : At T m c below) (hx : p.tables.exec = Jvm.exec) {cd : ClassFile.Cond} {i : Int} {x : Int32} (hd : decode c.code pc = .ok (.ifCond cd i, 3)) (ho : 0 ≤ (pc : Int) + i) (hp : ((pc : Int) + i).toNat = pc') (hc : ifCond.holds cd x = true) (hr : own_Gl p e below s Q kc ks (T.setTop (mkF m pc' L S))) : own_Gl p e below s Q kc ks (T.setTop (mkF m pc L (.int x :: S))) := hr.go fun t k => XS.ifYes h hx rfl (pc0 := pc) rfl hd rfl hc ho hp k
theorem g_ifN (h : At T m c below) (hx : p.tables.exec = Jvm.exec) {cd : ClassFile.Cond} {i : Int} {x : Int32} (hd : decode c.code pc = .ok (.ifCond cd i, 3)) (hp : pc + 3 = pc') (hc : ifCond.holds cd x = false) (hr : own_Gl p e below s Q kc ks (T.setTop (mkF m pc' L S))) : own_Gl p e below s Q kc ks (T.setTop (mkF m pc L (.int x :: S))) := by
  subst hp; exact hr.go fun t k => XS.ifNo h hx rfl hd rfl hc k
theorem g_icY (h : At T m c below) (hx : p.tables.exec = Jvm.exec) {cd : ClassFile.Cond} {i : Int} {x y : Int32} (hd : decode c.code pc = .ok (.if_icmp cd i, 3)) (ho : 0 ≤ (pc : Int) + i) (hp : ((pc : Int) + i).toNat = pc') (hc : if_icmp.holds cd x y = true) (hr : own_Gl p e below s Q kc ks (T.setTop (mkF m pc' L S))) : own_Gl p e below s Q kc ks (T.setTop (mkF m pc L (.int y :: .int x :: S))) := hr.go fun t k => XS.icmpYes h hx rfl (pc0 := pc) rfl hd rfl hc ho hp k
theorem g_icN (h : At T m c below) (hx : p.tables.exec = Jvm.exec) {cd : ClassFile.Cond} {i : Int} {x y : Int32} (hd : decode c.code pc = .ok (.if_icmp cd i, 3)) (hp : pc + 3 = pc') (hc : if_icmp.holds cd x y = false) (hr : own_Gl p e below s Q kc ks (T.setTop (mkF m pc' L S))) : own_Gl p e below s Q kc ks (T.setTop (mkF m pc L (.int y :: .int x :: S))) := by
  subst hp; exact hr.go fun t k => XS.icmpNo h hx rfl hd rfl hc k
theorem g_ifnullY (h : At T m c below) (hx : p.tables.exec = Jvm.exec)  {i : Int} (hd : decode c.code pc = .ok (.ifnull i, 3)) (ho : 0 ≤ (pc : Int) + i) (hp : ((pc : Int) + i).toNat = pc') (hr : own_Gl p e below s Q kc ks (T.setTop (mkF m pc' L S))) : own_Gl p e below s Q kc ks (T.setTop (mkF m pc L (.null :: S))) := hr.go fun t k => XS.ifnullYes h hx rfl (pc0 := pc) rfl hd rfl ho hp k
theorem g_ifnullN (h : At T m c below) (hx : p.tables.exec = Jvm.exec) {b : Addr} {i : Int} (hd : decode c.code pc = .ok (.ifnull i, 3)) (hp : pc + 3 = pc') (hr : own_Gl p e below s Q kc ks (T.setTop (mkF m pc' L S))) : own_Gl p e below s Q kc ks (T.setTop (mkF m pc L (.ref b :: S))) := by
  subst hp; exact hr.go fun t k => XS.ifnullNo h hx rfl hd rfl k
theorem g_ifnonnullY (h : At T m c below) (hx : p.tables.exec = Jvm.exec) {b : Addr} {i : Int} (hd : decode c.code pc = .ok (.ifnonnull i, 3)) (ho : 0 ≤ (pc : Int) + i) (hp : ((pc : Int) + i).toNat = pc') (hr : own_Gl p e below s Q kc ks (T.setTop (mkF m pc' L S))) : own_Gl p e below s Q kc ks (T.setTop (mkF m pc L (.ref b :: S))) := hr.go fun t k => XS.ifnonnullYes h hx rfl (pc0 := pc) rfl hd rfl ho hp k
theorem g_ifnonnullN (h : At T m c below) (hx : p.tables.exec = Jvm.exec)  {i : Int} (hd : decode c.code pc = .ok (.ifnonnull i, 3)) (hp : pc + 3 = pc') (hr : own_Gl p e below s Q kc ks (T.setTop (mkF m pc' L S))) : own_Gl p e below s Q kc ks (T.setTop (mkF m pc L (.null :: S))) := by
  subst hp; exact hr.go fun t k => XS.ifnonnullNo h hx rfl hd rfl k
theorem g_ldc (X : Stand p l e R s m args below meth c T locs cells slots) (hx : p.tables.exec = Jvm.exec) (hZ : Z.Warmed39 s.vm) {own : String} {index : Nat} {v : Int32} (hown : s.vm.findClass own = some m.cls) (w : (Jvm.Cond.constant own index v).before a0 Z = true) (hd : decode c.code pc = .ok (.ldc index, 2)) (hp : pc + 2 = pc') (hr : own_Gl p e below s Q kc ks (T.setTop (mkF m pc' L (.int v :: S)))) : own_Gl p e below s Q kc ks (T.setTop (mkF m pc L S)) := by
  subst hp; exact hr.go (X.ldcInt hx hown (mvT hZ w) (g := mkF m pc L S) rfl hd)
theorem g_ldcw (X : Stand p l e R s m args below meth c T locs cells slots) (hx : p.tables.exec = Jvm.exec) (hZ : Z.Warmed39 s.vm) {own : String} {index : Nat} {v : Int32} (hown : s.vm.findClass own = some m.cls) (w : (Jvm.Cond.constant own index v).before a0 Z = true) (hd : decode c.code pc = .ok (.ldc_w index, 3)) (hp : pc + 3 = pc') (hr : own_Gl p e below s Q kc ks (T.setTop (mkF m pc' L (.int v :: S)))) : own_Gl p e below s Q kc ks (T.setTop (mkF m pc L S)) := by
  subst hp; exact hr.go (X.ldcwInt hx hown (mvT hZ w) (g := mkF m pc L S) rfl hd)
theorem g_ldc2 (X : Stand p l e R s m args below meth c T locs cells slots) (hx : p.tables.exec = Jvm.exec) (hZ : Z.Warmed39 s.vm) {own : String} {index : Nat} {v : Int64} (hown : s.vm.findClass own = some m.cls) (w : (Jvm.Cond.constantLong own index v).before a0 Z = true) (hd : decode c.code pc = .ok (.ldc2_w index, 3)) (hp : pc + 3 = pc') (hr : own_Gl p e below s Q kc ks (T.setTop (mkF m pc' L (.long v :: S)))) : own_Gl p e below s Q kc ks (T.setTop (mkF m pc L S)) := by
  subst hp; exact hr.go (X.ldc2Long hx hown (mvT hZ w) (g := mkF m pc L S) rfl hd)
end OwnKit

section OwnHeap
variable {p : Program} {l : Launch} {e : Env} {R : Room} {s : State} {m : MethodId} {args : Array Value} {below : List Frame} {meth : Method} {c : Code} {T : State} {locs : List Loc} {cells slots : Nat} {Z : State} {a0 : Array Value} {h : Heap} {Q : Option Value → Heap → List Loc → Prop} {kc ks : Nat} {pc pc' : Nat} {L L' : Array Slot} {S : List Value}
/-- an array of ints, bytes or booleans by what each place holds -/
def own_IA (Z : State) (h : Heap) (a : Addr) (ty : FieldType) (n : Nat) (f : Nat → Int32) : Prop := ∃ c : Cell, Arr Z h a c ty ∧ c.slots.size = n ∧ ∀ i, i < n → c.slots[i]? = some (.int (f i))
theorem own_IA.lt {a : Addr} {ty : FieldType} {n : Nat} {f : Nat → Int32} (V : own_IA Z h a ty n f) : a < h.size := by obtain ⟨c, A, -⟩ := V; exact A.lt
theorem own_IA.ext {h' : Heap} {a : Addr} {ty : FieldType} {n : Nat} {f : Nat → Int32} (V : own_IA Z h a ty n f) (E : Ext h h') : own_IA Z h' a ty n f := by obtain ⟨c, A, r⟩ := V; exact ⟨c, A.ext E, r⟩
theorem own_IA.other {h' : Heap} {a b : Addr} {ty : FieldType} {n sl : Nat} {v : Value} {f : Nat → Int32} (V : own_IA Z h b ty n f) (W : Wr h h' a sl v) (q : b ≠ a) : own_IA Z h' b ty n f := by obtain ⟨c, A, r⟩ := V; exact ⟨c, A.other W q, r⟩
theorem own_IA.keep {h' : Heap} {ws : List Addr} {a : Addr} {ty : FieldType} {n : Nat} {f : Nat → Int32} (V : own_IA Z h a ty n f) (K : Keep h h' ws) (q : a ∉ ws) : own_IA Z h' a ty n f := by obtain ⟨c, A, r⟩ := V; exact ⟨c, ⟨K.2.1 a c A.1 q, A.2⟩, r⟩
theorem own_IA.congr {a : Addr} {ty : FieldType} {n : Nat} {f g : Nat → Int32} (V : own_IA Z h a ty n f) (q : ∀ i, i < n → f i = g i) : own_IA Z h a ty n g := by obtain ⟨c, A, S, H⟩ := V; exact ⟨c, A, S, fun i hi => by rw [H i hi, q i hi]⟩
theorem own_clamp (j : Int32) : j.toNatClampNeg = j.toInt.toNat := rfl
theorem own_in {c : Cell} {n : Nat} (S : c.slots.size = n) {j : Int32} (hj : 0 ≤ j.toInt ∧ j.toInt < n) : ¬ (j < 0 ∨ c.slots.size ≤ j.toNatClampNeg) := by
  have k : (0 : Int32).toInt = 0 := by decide
  rw [Int32.lt_iff_toInt_lt, own_clamp, S, k]; omega
theorem own_IA.set {h' : Heap} {a : Addr} {ty : FieldType} {n : Nat} {x : Int32} {k : Nat} {f : Nat → Int32} (V : own_IA Z h a ty n f) (W : Wr h h' a k (.int x)) : own_IA Z h' a ty n (fun i => if i = k then x else f i) := by
  obtain ⟨c, A, S, H⟩ := V
  refine ⟨c.setSlot k (.int x), A.same W, by rw [sz_set]; exact S, fun i hi => ?_⟩
  show (c.slots.setIfInBounds k (.int x))[i]? = some (Value.int (if i = k then x else f i))
  by_cases q : i = k
  · subst q
    rw [Array.getElem?_setIfInBounds_self_of_lt (by omega), if_pos rfl]
  · rw [Array.getElem?_setIfInBounds_ne (fun z => q z.symm), H i hi, if_neg q]
theorem g_getF (X : Stand p l e R s m args below meth c T locs cells slots) (hx : p.tables.exec = Jvm.exec) (hZ : Z.Warmed39 s.vm) {own R0 O n d host : String} {index : Nat} (hown : s.vm.findClass own = some m.cls) (w : (Jvm.Cond.fieldLink own index R0 n d).before a0 Z = true ∨ (Jvm.Cond.fieldLinkNest own index R0 n d host).before a0 Z = true) (via : Via Z R0 O n d)
    (eT : T.heap = h) {a : Addr} {v : Value} (F : Fld Z h a O n d v) (hd : decode c.code pc = .ok (.getfield index, 3)) (hp : pc + 3 = pc') (k : ∀ T' : State, Stand p l e R s m args below meth c T' locs cells slots → T'.heap = h → own_Gl p e below s Q kc ks (T'.setTop (mkF m pc' L (v :: S)))) :
    own_Gl p e below s Q kc ks (T.setTop (mkF m pc L (.ref a :: S))) := by
  subst hp
  obtain ⟨T', X', e', st⟩ := getF X hx hZ hown w via eT F (g := mkF m pc L (.ref a :: S)) rfl rfl hd
  exact (k T' X' e').go st
theorem g_putF (X : Stand p l e R s m args below meth c T locs cells slots) (hx : p.tables.exec = Jvm.exec) (hZ : Z.Warmed39 s.vm) {own R0 O n d host C : String} {index kk : Nat} {ty : FieldType} (hown : s.vm.findClass own = some m.cls) (w : (Jvm.Cond.fieldLink own index R0 n d).before a0 Z = true ∨ (Jvm.Cond.fieldLinkNest own index R0 n d host).before a0 Z = true) (via : Via Z R0 O n d)
    (eT : T.heap = h) {a : Addr} {v old : Value} (F : Fld Z h a O n d old) (E : Exa Z h a C) (Ly : (Jvm.Cond.lays C O n d).before a0 Z = true ∨ ((Jvm.Cond.laysFinal C O n d).before a0 Z = true ∧ own = O ∧ meth.name = "<init>")) (wi : (Jvm.Cond.instantiable C kk).before a0 Z = true)
    (hty : parseFieldDescriptor d = some ty) (hn : narrow ty v = v) (hf : fits ty v = true) (hd : decode c.code pc = .ok (.putfield index, 3)) (hp : pc + 3 = pc')
    (k : ∀ (T' : State) (h' : Heap), Stand p l e R s m args below meth c T' (locs ++ [⟨a, Jvm.RoadKit.slotOf Z O n d⟩]) cells slots → T'.heap = h' → Wr h h' a (Jvm.RoadKit.slotOf Z O n d) v → own_Gl p e below s Q kc ks (T'.setTop (mkF m pc' L S))) :
    own_Gl p e below s Q kc ks (T.setTop (mkF m pc L (v :: .ref a :: S))) := by
  subst hp
  obtain ⟨T', h', X', e', W', st⟩ := putF X hx hZ hown w via eT F E Ly wi hty hn hf (g := mkF m pc L (v :: .ref a :: S)) rfl rfl hd
  exact (k T' h' X' e' W').go st
theorem g_putFN (X : Stand p l e R s m args below meth c T locs cells slots) (hx : p.tables.exec = Jvm.exec) (hZ : Z.Warmed39 s.vm) {own R0 O n d C : String} {index kk : Nat} {ty : FieldType} (hown : s.vm.findClass own = some m.cls) (w : (Jvm.Cond.fieldLink own index R0 n d).before a0 Z = true) (via : Via Z R0 O n d)
    (eT : T.heap = h) {a : Addr} {v v' old : Value} (F : Fld Z h a O n d old) (E : Exa Z h a C) (Ly : (Jvm.Cond.lays C O n d).before a0 Z = true ∨ ((Jvm.Cond.laysFinal C O n d).before a0 Z = true ∧ own = O ∧ meth.name = "<init>")) (wi : (Jvm.Cond.instantiable C kk).before a0 Z = true)
    (hty : parseFieldDescriptor d = some ty) (hn : narrow ty v = v') (hf : fits ty v' = true) (hd : decode c.code pc = .ok (.putfield index, 3)) (hp : pc + 3 = pc')
    (k : ∀ (T' : State) (h' : Heap), Stand p l e R s m args below meth c T' (locs ++ [⟨a, Jvm.RoadKit.slotOf Z O n d⟩]) cells slots → T'.heap = h' → Wr h h' a (Jvm.RoadKit.slotOf Z O n d) v' → own_Gl p e below s Q kc ks (T'.setTop (mkF m pc' L S))) :
    own_Gl p e below s Q kc ks (T.setTop (mkF m pc L (v :: .ref a :: S))) := by
  subst hp
  obtain ⟨T', h', X', e', W', st⟩ := putFN X hx hZ hown w via eT F E Ly wi hty hn hf (g := mkF m pc L (v :: .ref a :: S)) rfl rfl hd
  exact (k T' h' X' e' W').go st
theorem g_new (X : Stand p l e R s m args below meth c T locs cells slots) (hx : p.tables.exec = Jvm.exec) (hZ : Z.Warmed39 s.vm) {own C : String} {index n : Nat} (hown : s.vm.findClass own = some m.cls) (w : (Jvm.Cond.classLink own index C).before a0 Z = true) (wi : (Jvm.Cond.instantiable C n).before a0 Z = true) (wz : (Jvm.Cond.initialized C).before a0 Z = true) (eT : T.heap = h)
    (hd : decode c.code pc = .ok (.new index, 3)) (hp : pc + 3 = pc') {cells' slots' : Nat} (hcc : cells + 1 = cells') (hss : slots + n = slots') (hc : cells' ≤ R.cells) (hl : slots' ≤ R.slots)
    (k : ∀ (T' : State) (h' : Heap) (b : Addr), b = h.size → Stand p l e R s m args below meth c T' locs cells' slots' → T'.heap = h' → Ext h h' → Exa Z h' b C → (∀ {O nm d : String} {ty : FieldType}, Laid Z a0 C O nm d → parseFieldDescriptor d = some ty → Fld Z h' b O nm d (defaultValue ty)) → own_Gl p e below s Q kc ks (T'.setTop (mkF m pc' L (.ref b :: S)))) :
    own_Gl p e below s Q kc ks (T.setTop (mkF m pc L S)) := by
  subst hp hcc hss
  obtain ⟨T', h', X', e', E', A', D', -, st⟩ := newO X hx hZ hown w wi wz eT (g := mkF m pc L S) rfl hd hc hl
  exact (k T' h' _ rfl X' e' E' A' D').go st
theorem g_newarr (X : Stand p l e R s m args below meth c T locs cells slots) (hx : p.tables.exec = Jvm.exec) (hZ : Z.Warmed39 s.vm) {aty : ArrayType} {ty : FieldType} (hty : newarray.typeOf aty = ty) (hdv : defaultValue ty = .int 0) (w : (Jvm.Cond.arrayClass ty).before a0 Z = true) (eT : T.heap = h)
    (hd : decode c.code pc = .ok (.newarray aty, 2)) (hp : pc + 2 = pc') {z : Int32} {n : Nat} (hn : z.toInt = n) (cap : Nat) (hcap : n ≤ cap) (hb : cap * 8 ≤ 536870912) {cells' slots' : Nat} (hcc : cells + 1 = cells') (hss : slots + cap = slots') (hc : cells' ≤ R.cells) (hl : slots' ≤ R.slots)
    (k : ∀ (T' : State) (h' : Heap) (b : Addr), b = h.size → Stand p l e R s m args below meth c T' locs cells' slots' → T'.heap = h' → Ext h h' → own_IA Z h' b ty n (fun _ => 0) → own_Gl p e below s Q kc ks (T'.setTop (mkF m pc' L (.ref b :: S)))) :
    own_Gl p e below s Q kc ks (T.setTop (mkF m pc L (.int z :: S))) := by
  subst hp hcc hss hty
  have q : ¬ z < 0 := by
    have k0 : (0 : Int32).toInt = 0 := by decide
    rw [Int32.lt_iff_toInt_lt, k0]; omega
  have zn : z.toNatClampNeg = n := by rw [own_clamp]; omega
  obtain ⟨T', h', cA, X', e', E', A', st⟩ := newP X hx hZ w eT (g := mkF m pc L (.int z :: S)) rfl hd rfl q (cap := cap) (by omega) hb hc hl
  refine (k T' h' _ rfl X' e' E' ⟨_, A', by rw [sz_new, zn], fun i hi => ?_⟩).go st
  show (Array.replicate z.toNatClampNeg (defaultValue (newarray.typeOf aty)))[i]? = _
  rw [zn, hdv, Array.getElem?_replicate, if_pos hi]
theorem g_iastore (X : Stand p l e R s m args below meth c T locs cells slots) (hx : p.tables.exec = Jvm.exec) (hZ : Z.Warmed39 s.vm) (eT : T.heap = h) {a : Addr} {n : Nat} {f : Nat → Int32} {j x : Int32} (V : own_IA Z h a .int n f) (hj : 0 ≤ j.toInt ∧ j.toInt < n) (hd : decode c.code pc = .ok (.iastore, 1)) (hp : pc + 1 = pc')
    (k : ∀ (T' : State) (h' : Heap), Stand p l e R s m args below meth c T' (locs ++ [⟨a, j.toNatClampNeg⟩]) cells slots → T'.heap = h' → Wr h h' a j.toNatClampNeg (.int x) → own_IA Z h' a .int n (fun i => if i = j.toNatClampNeg then x else f i) → own_Gl p e below s Q kc ks (T'.setTop (mkF m pc' L S))) :
    own_Gl p e below s Q kc ks (T.setTop (mkF m pc L (.int x :: .int j :: .ref a :: S))) := by
  subst hp
  have V' := V
  obtain ⟨cl, A, Sz, H⟩ := V
  obtain ⟨T', h', X', e', W', st⟩ := stI X hx hZ eT A (own_in Sz hj) (g := mkF m pc L (.int x :: .int j :: .ref a :: S)) rfl rfl hd
  exact (k T' h' X' e' W' (V'.set W')).go st
theorem g_bastore (X : Stand p l e R s m args below meth c T locs cells slots) (hx : p.tables.exec = Jvm.exec) (hZ : Z.Warmed39 s.vm) (eT : T.heap = h) {a : Addr} {n : Nat} {f : Nat → Int32} {j x : Int32} (V : own_IA Z h a .byte n f) (hj : 0 ≤ j.toInt ∧ j.toInt < n) (hd : decode c.code pc = .ok (.bastore, 1)) (hp : pc + 1 = pc')
    (k : ∀ (T' : State) (h' : Heap), Stand p l e R s m args below meth c T' (locs ++ [⟨a, j.toNatClampNeg⟩]) cells slots → T'.heap = h' → Wr h h' a j.toNatClampNeg (.int x.toInt8.toInt32) → own_IA Z h' a .byte n (fun i => if i = j.toNatClampNeg then x.toInt8.toInt32 else f i) → own_Gl p e below s Q kc ks (T'.setTop (mkF m pc' L S))) :
    own_Gl p e below s Q kc ks (T.setTop (mkF m pc L (.int x :: .int j :: .ref a :: S))) := by
  subst hp
  have V' := V
  obtain ⟨cl, A, Sz, H⟩ := V
  obtain ⟨T', h', X', e', W', st⟩ := stB X hx hZ eT A (own_in Sz hj) (g := mkF m pc L (.int x :: .int j :: .ref a :: S)) rfl rfl hd
  exact (k T' h' X' e' W' (V'.set W')).go st
theorem g_zastore (X : Stand p l e R s m args below meth c T locs cells slots) (hx : p.tables.exec = Jvm.exec) (hZ : Z.Warmed39 s.vm) (eT : T.heap = h) {a : Addr} {n : Nat} {f : Nat → Int32} {j x x' : Int32} (V : own_IA Z h a .boolean n f) (hj : 0 ≤ j.toInt ∧ j.toInt < n) (hv : nar .boolean x = x') (hd : decode c.code pc = .ok (.bastore, 1)) (hp : pc + 1 = pc')
    (k : ∀ (T' : State) (h' : Heap), Stand p l e R s m args below meth c T' (locs ++ [⟨a, j.toNatClampNeg⟩]) cells slots → T'.heap = h' → Wr h h' a j.toNatClampNeg (.int x') → own_IA Z h' a .boolean n (fun i => if i = j.toNatClampNeg then x' else f i) → own_Gl p e below s Q kc ks (T'.setTop (mkF m pc' L S))) :
    own_Gl p e below s Q kc ks (T.setTop (mkF m pc L (.int x :: .int j :: .ref a :: S))) := by
  subst hp hv
  have V' := V
  obtain ⟨cl, A, Sz, H⟩ := V
  obtain ⟨T', h', X', e', W', st⟩ := stZ X hx hZ eT A (own_in Sz hj) (g := mkF m pc L (.int x :: .int j :: .ref a :: S)) rfl rfl hd
  exact (k T' h' X' e' W' (V'.set W')).go st
theorem own_at {a : Addr} {ty : FieldType} {n : Nat} {f : Nat → Int32} {c : Cell} (S : c.slots.size = n) (H : ∀ i, i < n → c.slots[i]? = some (.int (f i))) {j v : Int32} (hj : 0 ≤ j.toInt ∧ j.toInt < n) (hv : f j.toInt.toNat = v) : c.slots[j.toNatClampNeg]? = some (.int v) := by
  rw [own_clamp, H _ (by omega), hv]
theorem g_iaload (X : Stand p l e R s m args below meth c T locs cells slots) (hx : p.tables.exec = Jvm.exec) (hZ : Z.Warmed39 s.vm) (eT : T.heap = h) {a : Addr} {n : Nat} {f : Nat → Int32} {j v : Int32} (V : own_IA Z h a .int n f) (hj : 0 ≤ j.toInt ∧ j.toInt < n) (hv : f j.toInt.toNat = v) (hd : decode c.code pc = .ok (.iaload, 1)) (hp : pc + 1 = pc')
    (hr : own_Gl p e below s Q kc ks (T.setTop (mkF m pc' L (.int v :: S)))) : own_Gl p e below s Q kc ks (T.setTop (mkF m pc L (.int j :: .ref a :: S))) := by
  subst hp
  obtain ⟨cl, A, Sz, H⟩ := V
  exact hr.go fun t k => X.iaload hx (by rw [eT]; exact A.1) (State.isArrayOf_alike hZ.alike A.2.1) A.2.2 (own_in Sz hj) (own_at (a := a) (ty := .int) Sz H hj hv) (g := mkF m pc L (.int j :: .ref a :: S)) rfl rfl hd t k
theorem g_baload (X : Stand p l e R s m args below meth c T locs cells slots) (hx : p.tables.exec = Jvm.exec) (hZ : Z.Warmed39 s.vm) (eT : T.heap = h) {a : Addr} {n : Nat} {f : Nat → Int32} {j v : Int32} (V : own_IA Z h a .byte n f) (hj : 0 ≤ j.toInt ∧ j.toInt < n) (hv : f j.toInt.toNat = v) (hd : decode c.code pc = .ok (.baload, 1)) (hp : pc + 1 = pc')
    (hr : own_Gl p e below s Q kc ks (T.setTop (mkF m pc' L (.int v :: S)))) : own_Gl p e below s Q kc ks (T.setTop (mkF m pc L (.int j :: .ref a :: S))) := by
  subst hp
  obtain ⟨cl, A, Sz, H⟩ := V
  exact hr.go fun t k => X.baloadBytes hx (by rw [eT]; exact A.1) (State.isArrayOf_alike hZ.alike A.2.1) A.2.2 (own_in Sz hj) (own_at (a := a) (ty := .byte) Sz H hj hv) (g := mkF m pc L (.int j :: .ref a :: S)) rfl rfl hd t k
theorem g_zaload (X : Stand p l e R s m args below meth c T locs cells slots) (hx : p.tables.exec = Jvm.exec) (hZ : Z.Warmed39 s.vm) (eT : T.heap = h) {a : Addr} {n : Nat} {f : Nat → Int32} {j v : Int32} (V : own_IA Z h a .boolean n f) (hj : 0 ≤ j.toInt ∧ j.toInt < n) (hv : f j.toInt.toNat = v) (hd : decode c.code pc = .ok (.baload, 1)) (hp : pc + 1 = pc')
    (hr : own_Gl p e below s Q kc ks (T.setTop (mkF m pc' L (.int v :: S)))) : own_Gl p e below s Q kc ks (T.setTop (mkF m pc L (.int j :: .ref a :: S))) := by
  subst hp
  obtain ⟨cl, A, Sz, H⟩ := V
  exact hr.go fun t k => X.baloadBooleans hx (by rw [eT]; exact A.1) (State.isArrayOf_alike hZ.alike A.2.1) A.2.2 (own_in Sz hj) (own_at (a := a) (ty := .boolean) Sz H hj hv) (g := mkF m pc L (.int j :: .ref a :: S)) rfl rfl hd t k
theorem g_arraylength (X : Stand p l e R s m args below meth c T locs cells slots) (hx : p.tables.exec = Jvm.exec) (hZ : Z.Warmed39 s.vm) (eT : T.heap = h) {a : Addr} {ty : FieldType} {n : Nat} {f : Nat → Int32} {z : Int32} (V : own_IA Z h a ty n f) (hz : n.toInt32 = z) (hd : decode c.code pc = .ok (.arraylength, 1)) (hp : pc + 1 = pc')
    (hr : own_Gl p e below s Q kc ks (T.setTop (mkF m pc' L (.int z :: S)))) : own_Gl p e below s Q kc ks (T.setTop (mkF m pc L (.ref a :: S))) := by
  subst hp hz
  obtain ⟨cl, A, Sz, H⟩ := V
  subst Sz
  exact hr.go fun t k => X.arraylength hx (by rw [eT]; exact A.1) (State.isArrayOf_alike hZ.alike A.2.1) (g := mkF m pc L (.ref a :: S)) rfl rfl hd t k
theorem g_initO (X : Stand p l e R s m args below meth c T locs cells slots) (hx : p.tables.exec = Jvm.exec) (hZ : Z.Warmed39 s.vm) {own : String} {idx : Nat} (hown : s.vm.findClass own = some m.cls) (w1 : (Jvm.Cond.methodLink own idx Lib.objectInit).before a0 Z = true) (w2 : (Jvm.Cond.instanceMethod Lib.objectInit).before a0 Z = true)
    (w3 : (Jvm.Cond.code Lib.objectInit ⟨#[0xb1]⟩ 1 none).before a0 Z = true) (eT : T.heap = h) {a : Addr} (hsize : L.size = c.maxLocals) (hd : decode c.code pc = .ok (.invokespecial idx, 3)) (hp : pc + 3 = pc')
    (hf : 1 ≤ R.frames) (W : Nat) (hW : (S.map fun v => v.category).sum ≤ W) (hl : W + 12 ≤ R.locals) (k : ∀ T' : State, Stand p l e R s m args below meth c T' locs cells slots → T'.heap = h → own_Gl p e below s Q kc ks (T'.setTop (mkF m pc' L S))) :
    own_Gl p e below s Q kc ks (T.setTop (mkF m pc L (.ref a :: S))) := by
  subst hp
  obtain ⟨T', X', e', st⟩ := initO X hx hZ hown w1 w2 w3 eT (g := mkF m pc L (.ref a :: S)) rfl hsize rfl hd hf (W := W) (by show 2 * 0 + _ ≤ _; omega) hl
  exact (k T' X' e').go st
/-- a constructor by its contract -/
theorem g_callI (X : Stand p l e R s m args below meth c T locs cells slots) (hx : p.tables.exec = Jvm.exec) (hZ : Z.Warmed39 s.vm) {own : String} {index : Nat} {y : MethodName} {bytes : ByteArray} {maxL : Nat} (hy1 : y.name = "<init>") (hown : s.vm.findClass own = some m.cls)
    (w1 : (Jvm.Cond.methodLink own index y).before a0 Z = true) (w2 : (Jvm.Cond.instanceMethod y).before a0 Z = true) (w3 : (Jvm.Cond.initialized y.cls).before a0 Z = true) (w4 : (Jvm.Cond.code y bytes maxL none).before a0 Z = true) (hy : y.cls ≠ "java/lang/invoke/MethodHandle" ∧ y.cls ≠ "java/lang/invoke/VarHandle")
    {rm : Room} {as' : Array Value} {Qc : Option Value → Heap → List Loc → Prop}
    (hM : MetFree l y (head1 [Jvm.Cond.code y bytes maxL none] rm) (fun a U => a = as' ∧ Z.Warmed39 U.vm ∧ U.heap = h) (fun _ _ _ _ _ => True) (fun _ U o U' => ∃ v L, o = .returned v ∧ Qc v U'.heap L ∧ FrameEnd U o U' L rm.cells rm.slots))
    (W : Nat) (hf : rm.frames + 1 ≤ R.frames) (hl : W + (maxL + 11) + rm.locals ≤ R.locals) (eT : T.heap = h) (hsize : L.size = c.maxLocals) {a : Addr} (argsL rest : List Value) (hlen : ∀ sig, parseMethodDescriptor y.desc = some sig → argsL.length = sig.parameters.length)
    (hst : S = argsL.reverse ++ .ref a :: rest) (has : (Value.ref a :: argsL).toArray = as') (hW : (rest.map fun v => v.category).sum ≤ W) (hd : decode c.code pc = .ok (.invokespecial index, 3)) (hp : pc + 3 = pc') {cells' slots' : Nat} (hcc : cells + rm.cells = cells') (hss : slots + rm.slots = slots') (hcl : cells' ≤ R.cells) (hsl : slots' ≤ R.slots)
    (k : ∀ (v : Option Value) (T' : State) (L' : List Loc), Stand p l e R s m args below meth c T' (locs ++ L') cells' slots' → Qc v T'.heap L' → own_Gl p e below s Q kc ks (T'.setTop (mkF m pc' L (v.toList ++ rest)))) :
    own_Gl p e below s Q kc ks (T.setTop (mkF m pc L S)) := by
  subst hp hst hcc hss
  obtain ⟨v, _, ⟨T', L', k', n'⟩, -, X', ⟨Lc, hQ, l', y', z'⟩, st⟩ := X.specialBack hx (y := y) hy1 hown (mvT hZ w1) (mvT hZ w2) (mvT hZ w4) hy (backOf (W := W) hM hZ w4 w3 hf hl) (g := mkF m pc L (argsL.reverse ++ .ref a :: rest)) rfl hsize (Steps.refl _) (a := a) (argsL := argsL) (rest := rest) hlen rfl (by show 2 * 0 + _ ≤ _; omega) hd (fun _ _ => ⟨has, eT, hcl, hsl⟩)
  dsimp only [Pt.U, Pt.locs, Pt.cells, Pt.slots] at X' l' y' z' st hQ
  subst l' y' z'
  exact (k v T' Lc X' hQ).go fun t q => st.trans q
/-- an instance method by its contract -/
theorem g_callV (X : Stand p l e R s m args below meth c T locs cells slots) (hx : p.tables.exec = Jvm.exec) (hZ : Z.Warmed39 s.vm) {own C : String} {index : Nat} {y z : MethodName} {bytes : ByteArray} {maxL : Nat} {ret : Option FieldType} (hown : s.vm.findClass own = some m.cls)
    (w1 : (Jvm.Cond.methodLink own index y).before a0 Z = true) (w2 : (Jvm.Cond.declares y).before a0 Z = true) (nf : NotFace s y) (w5 : (Jvm.Cond.selects C y z).before a0 Z = true) (w6 : (Jvm.Cond.instanceMethod z).before a0 Z = true) (w3 : (Jvm.Cond.initialized z.cls).before a0 Z = true) (w4 : (Jvm.Cond.code z bytes maxL ret).before a0 Z = true) (hy : y.cls ≠ "java/lang/invoke/MethodHandle" ∧ y.cls ≠ "java/lang/invoke/VarHandle")
    {rm : Room} {as' : Array Value} {Qc : Option Value → Heap → List Loc → Prop}
    (hM : MetFree l z (head1 [Jvm.Cond.code z bytes maxL ret] rm) (fun a U => a = as' ∧ Z.Warmed39 U.vm ∧ U.heap = h) (fun _ _ _ _ _ => True) (fun _ U o U' => ∃ v L, o = .returned v ∧ Qc v U'.heap L ∧ FrameEnd U o U' L rm.cells rm.slots))
    (W : Nat) (hf : rm.frames + 1 ≤ R.frames) (hl : W + (maxL + 11) + rm.locals ≤ R.locals) (eT : T.heap = h) {a : Addr} (E : Exa Z h a C) (hsize : L.size = c.maxLocals) (argsL rest : List Value) (hlen : ∀ sig, parseMethodDescriptor y.desc = some sig → argsL.length = sig.parameters.length)
    (hst : S = argsL.reverse ++ .ref a :: rest) (has : (Value.ref a :: argsL).toArray = as') (hW : (rest.map fun v => v.category).sum ≤ W) (hd : decode c.code pc = .ok (.invokevirtual index, 3)) (hp : pc + 3 = pc') {cells' slots' : Nat} (hcc : cells + rm.cells = cells') (hss : slots + rm.slots = slots') (hcl : cells' ≤ R.cells) (hsl : slots' ≤ R.slots)
    (k : ∀ (v : Option Value) (T' : State) (L' : List Loc), Stand p l e R s m args below meth c T' (locs ++ L') cells' slots' → Qc v T'.heap L' → own_Gl p e below s Q kc ks (T'.setTop (mkF m pc' L (v.toList ++ rest)))) :
    own_Gl p e below s Q kc ks (T.setTop (mkF m pc L S)) := by
  subst hp hst hcc hss
  obtain ⟨cq, kq, qa, qb, qc⟩ := isOf hZ eT E
  obtain ⟨v, _, ⟨T', L', k', n'⟩, -, X', ⟨Lc, hQ, l', y', z'⟩, st⟩ := X.virtualBack hx (y := y) (z := z) hown (mvT hZ w1) (mvT hZ w2) nf (mvT hZ w5) (mvT hZ w6) hy (backOf (W := W) hM hZ w4 w3 hf hl) qa qc (g := mkF m pc L (argsL.reverse ++ .ref a :: rest)) rfl hsize (Steps.refl _) (argsL := argsL) (rest := rest) hlen rfl (by show 2 * 0 + _ ≤ _; omega) hd (fun _ _ => ⟨has, eT, hcl, hsl⟩)
  dsimp only [Pt.U, Pt.locs, Pt.cells, Pt.slots] at X' l' y' z' st hQ
  subst l' y' z'
  exact (k v T' Lc X' hQ).go fun t q => st.trans q
theorem own_nameL {n0 : Nat} (X : Stand p l e R s m args below meth c T locs cells slots) (N : Fr n0 locs) : ∃ lc, Fr n0 lc ∧ Stand p l e R s m args below meth c T lc cells slots := ⟨locs, N, X⟩
theorem own_nf {y : MethodName} {C : String} (hZ : Z.Warmed39 s.vm) (w5 : (Jvm.Cond.selects C y y).before a0 Z = true) : NotFace s y := notFace_of_selects (args := #[]) (mvT hZ w5)
end OwnHeap
def own_Q0 (n0 : Nat) (v : Option Value) (h : Heap) (L : List Loc) : Prop := v = some (.int 1) ∧ Fr n0 L
def own_BF (Z : State) (h : Heap) (a : Addr) (f_bytes : Addr) (f_position : Int32) (f_pending : Int64) (f_pendingCount : Int32) : Prop := Exa Z h a "com/example/tierstone/tierstone/compress/BitWriter" ∧ Fld Z h a "com/example/tierstone/tierstone/compress/BitWriter" "bytes" "[B" (.ref f_bytes) ∧ Fld Z h a "com/example/tierstone/tierstone/compress/BitWriter" "position" "I" (.int f_position) ∧ Fld Z h a "com/example/tierstone/tierstone/compress/BitWriter" "pending" "J" (.long f_pending) ∧ Fld Z h a "com/example/tierstone/tierstone/compress/BitWriter" "pendingCount" "I" (.int f_pendingCount)
def own_N (x : Int64) : Nat := x.toBitVec.toNat
theorem own_q (q : Int32) (k : Nat) (hq : q.toInt = k) (hk : k < 64) : q.toBitVec.toNat % 64 = k := by
  have h := BitVec.toInt_eq_toNat_cond q.toBitVec
  have h2 : q.toBitVec.toInt = k := hq
  have h3 := q.toBitVec.isLt
  rw [h2] at h
  split at h <;> omega
theorem own_Nshl (x : Int64) (q : Int32) (k : Nat) (hq : q.toInt = k) (hk : k < 64) : own_N (x <<< (q &&& 0x3f).toInt64) = own_N x * 2 ^ k % 2 ^ 64 := by
  have hk' := own_q q k hq hk
  show (x.toBitVec <<< ((q &&& 0x3f).toInt64.toBitVec.smod 64)).toNat = _
  rw [BitVec.shiftLeft_eq', (sm64 q k hk').1, smod64 k hk, BitVec.toNat_shiftLeft, Nat.shiftLeft_eq]
  rfl
theorem own_Nushr (x : Int64) (q : Int32) (k : Nat) (hq : q.toInt = k) (hk : k < 64) : own_N ((x.toUInt64 >>> (q &&& 0x3f).toInt64.toUInt64).toInt64) = own_N x / 2 ^ k := by
  have hk' := own_q q k hq hk
  show (x.toBitVec >>> ((q &&& 0x3f).toInt64.toBitVec % 64)).toNat = _
  rw [BitVec.ushiftRight_eq', BitVec.toNat_ushiftRight, Nat.shiftRight_eq_div_pow, BitVec.toNat_umod, (sm64 q k hk').1, BitVec.toNat_ofNat]
  have e : k % 2 ^ 64 % BitVec.toNat (64 : BitVec 64) = k := by show k % 2 ^ 64 % 64 = k; omega
  rw [e]
  rfl
theorem own_Nor (x y : Int64) (k : Nat) (hx : own_N x < 2 ^ k) (hy : own_N y % 2 ^ k = 0) : own_N (x ||| y) = own_N x + own_N y := by
  have h : own_N y = 2 ^ k * (own_N y / 2 ^ k) := by
    have := Nat.div_add_mod (own_N y) (2 ^ k)
    rw [hy] at this
    omega
  have e : own_N (x ||| y) = own_N y ||| own_N x := by
    show (x.toBitVec ||| y.toBitVec).toNat = y.toBitVec.toNat ||| x.toBitVec.toNat
    rw [BitVec.toNat_or, Nat.or_comm]
  rw [e, h, ← Nat.two_pow_add_eq_or_of_lt hx, Nat.add_comm]
def own_by (n : Nat) : Int32 := Int32.ofInt ((n : Int).bmod 256)
theorem own_byI (n : Nat) : ((own_by n).toInt - n) % 256 = 0 ∧ -128 ≤ (own_by n).toInt ∧ (own_by n).toInt < 128 := by
  have h1 := Int.bmod_emod (x := (n : Int)) (m := 256)
  have h2 := Int.le_bmod (x := (n : Int)) (m := 256) (by decide)
  have h3 := Int.bmod_lt (x := (n : Int)) (m := 256) (by decide)
  have e : (own_by n).toInt = (n : Int).bmod 256 := Int32.toInt_ofInt_of_le (by omega) (by omega)
  rw [e]
  omega
theorem own_byU (z : Int32) (n : Nat) (h1 : (z.toInt - n) % 256 = 0) (h2 : -128 ≤ z.toInt) (h3 : z.toInt < 128) : z = own_by n := by
  have q := own_byI n
  apply Int32.toInt_inj.mp
  omega
theorem own_byM (a b : Nat) (h : a % 256 = b % 256) : own_by a = own_by b := by
  have q := own_byI a
  exact own_byU _ _ (by omega) q.2.1 q.2.2
theorem own_byL (x : Int64) : x.toInt32.toInt8.toInt32 = own_by (own_N x) := by
  have e1 := c_l2i x
  have e2 := c_i2b x.toInt32
  have h := BitVec.toInt_eq_toNat_cond x.toBitVec
  have h2 : x.toBitVec.toInt = x.toInt := rfl
  rw [h2] at h
  refine own_byU _ _ ?_ e2.2.1 e2.2.2
  have h3 : own_N x = x.toBitVec.toNat := rfl
  split at h <;> omega
theorem own_id (z : Int32) : z.toInt8.toInt32.toInt8.toInt32 = z.toInt8.toInt32 := by
  have e1 := c_i2b z
  have e2 := c_i2b z.toInt8.toInt32
  apply Int32.toInt_inj.mp
  omega
theorem own_Nlt (x : Int64) : own_N x < 2 ^ 64 := x.toBitVec.isLt
/-- A with X more at the place 2^M: what lies at 2^M and above, and the bytes beneath -/
theorem own_hi (A X M : Nat) : (A + X * 2 ^ M) / 2 ^ M = A / 2 ^ M + X := Nat.add_mul_div_right A X (Nat.two_pow_pos M)
theorem own_lo (A X M j : Nat) (h : 8 * j + 8 ≤ M) : own_by ((A + X * 2 ^ M) / 2 ^ (8 * j)) = own_by (A / 2 ^ (8 * j)) := by
  apply own_byM
  have e : 2 ^ M = 2 ^ (M - 8 * j - 8) * 256 * 2 ^ (8 * j) := by
    rw [show (256 : Nat) = 2 ^ 8 from rfl, ← Nat.pow_add, ← Nat.pow_add]
    congr 1
    omega
  rw [e, ← Nat.mul_assoc, Nat.add_mul_div_right _ _ (Nat.two_pow_pos _), ← Nat.mul_assoc, Nat.add_mul_mod_self_right]
theorem own_msk (x : Int64) (q : Int32) (k : Nat) (hq : q.toInt = k) (hk : k ≤ 32) : own_N (x &&& (((1 : Int64) <<< (q &&& 0x3f).toInt64) - (1 : Int64))) < 2 ^ k := by
  have h1 := own_Nshl 1 q k hq (by omega)
  have e : own_N 1 = 1 := by decide
  have p : 2 ^ k ≤ 2 ^ 32 := Nat.pow_le_pow_right (by decide) hk
  have p2 := Nat.two_pow_pos k
  rw [e, Nat.one_mul, Nat.mod_eq_of_lt (by omega)] at h1
  have h2 : own_N (((1 : Int64) <<< (q &&& 0x3f).toInt64) - 1) = 2 ^ k - 1 := by
    show (((1 : Int64) <<< (q &&& 0x3f).toInt64).toBitVec - (1 : Int64).toBitVec).toNat = _
    have h1' : ((1 : Int64) <<< (q &&& 0x3f).toInt64).toBitVec.toNat = 2 ^ k := h1
    rw [BitVec.toNat_sub, h1', show (1 : Int64).toBitVec.toNat = 1 by decide]
    omega
  have h3 : own_N (x &&& (((1 : Int64) <<< (q &&& 0x3f).toInt64) - (1 : Int64))) ≤ own_N (((1 : Int64) <<< (q &&& 0x3f).toInt64) - 1) := by
    show (x.toBitVec &&& _).toNat ≤ _
    rw [BitVec.toNat_and]
    exact Nat.and_le_right
  omega
/-- the bytes of a buffer of 16: from S on the first j of the number A, else fill -/
def own_fb (S j A : Nat) (fill : Int32) (i : Nat) : Int32 := if S ≤ i ∧ i < S + j then own_by (A / 2 ^ (8 * (i - S))) else fill
def own_BW (Z : State) (h : Heap) (x0 b : Addr) (S : Nat) (fill : Int32) (A t m : Nat) : Prop := ∃ (po : Int32) (pe : Int64) (pk : Int32), own_BF Z h x0 b po pe pk ∧ own_IA Z h b .byte 16 (own_fb S (4 * m) A fill) ∧ po.toInt = S + 4 * m ∧ own_N pe = A / 2 ^ (32 * m) ∧ pk.toInt = t - 32 * m ∧ 0 ≤ pk.toInt ∧ pk.toInt < 32
def own_Q1 (Z : State) (n0 : Nat) (x0 x1 : Addr) (x2 : Int32) (h0 : Heap) (v : Option Value) (h : Heap) (L : List Loc) : Prop := v = none ∧ Fr n0 L ∧ Keep h0 h [x0] ∧ own_BF Z h x0 x1 x2 (0 : Int64) (0 : Int32)
theorem d1_0 : decode prog_142_method_1_code 0 = .ok (.aload_n 0, 1) := by decide +kernel
theorem d1_1 : decode prog_142_method_1_code 1 = .ok (.invokespecial 1, 3) := by decide +kernel
theorem d1_4 : decode prog_142_method_1_code 4 = .ok (.aload_n 0, 1) := by decide +kernel
theorem d1_5 : decode prog_142_method_1_code 5 = .ok (.aload_n 1, 1) := by decide +kernel
theorem d1_6 : decode prog_142_method_1_code 6 = .ok (.putfield 7, 3) := by decide +kernel
theorem d1_9 : decode prog_142_method_1_code 9 = .ok (.aload_n 0, 1) := by decide +kernel
theorem d1_10 : decode prog_142_method_1_code 10 = .ok (.iload_n 2, 1) := by decide +kernel
theorem d1_11 : decode prog_142_method_1_code 11 = .ok (.putfield 13, 3) := by decide +kernel
theorem d1_14 : decode prog_142_method_1_code 14 = .ok (.return_, 1) := by decide +kernel
theorem pn_0 : plainName "com/example/tierstone/tierstone/compress/BitWriter" = true := by first | (simp [plainName, overriddenIn]; done) | decide +kernel
theorem ef_1 (m : MethodId) (x0 : Addr) (x1 : Addr) (x2 : Int32) : entryFrame m #[(.ref x0), (.ref x1), (.int x2)] 3 = mkF m 0 #[.val (.ref x0), .val (.ref x1), .val (.int x2)] [] := by first | (simp [entryFrame, mkF, argsToLocals, Value.category]; done) | rfl
set_option maxRecDepth 65536 in
set_option maxHeartbeats 40000000 in
theorem rm1 (l : Launch) (Z : State) (a0 : Array Value) (hw : ∀ d ∈ tables_1, d.before a0 Z = true) (ws : List Jvm.Cond) (x0 : Addr) (x1 : Addr) (x2 : Int32) (h0 : Heap) (n0 : Nat) (Z0 : n0 ≤ h0.size) (g0 : n0 ≤ x0) (E0 : Exa Z h0 x0 "com/example/tierstone/tierstone/compress/BitWriter") (F_bytes : Fld Z h0 x0 "com/example/tierstone/tierstone/compress/BitWriter" "bytes" "[B" .null) (F_position : Fld Z h0 x0 "com/example/tierstone/tierstone/compress/BitWriter" "position" "I" (.int (0 : Int32))) (F_pending : Fld Z h0 x0 "com/example/tierstone/tierstone/compress/BitWriter" "pending" "J" (.long (0 : Int64))) (F_pendingCount : Fld Z h0 x0 "com/example/tierstone/tierstone/compress/BitWriter" "pendingCount" "I" (.int (0 : Int32))) :
    MetFree l (⟨"com/example/tierstone/tierstone/compress/BitWriter", "<init>", "([BI)V"⟩ : MethodName) (head1 (Jvm.Cond.code (⟨"com/example/tierstone/tierstone/compress/BitWriter", "<init>", "([BI)V"⟩ : MethodName) prog_142_method_1_code 3 none :: ws) ({ frames := 1, cells := 0, slots := 0, locals := 12 } : Room)) (fun a U => a = #[(.ref x0), (.ref x1), (.int x2)] ∧ Z.Warmed39 U.vm ∧ U.heap = h0) (fun _ _ _ _ _ => True) (fun _ U o U' => ∃ v L, o = .returned v ∧ (own_Q1 Z n0 x0 x1 x2 h0) v U'.heap L ∧ FrameEnd U o U' L ({ frames := 1, cells := 0, slots := 0, locals := 12 } : Room).cells ({ frames := 1, cells := 0, slots := 0, locals := 12 } : Room).slots) := by
  refine own_body (own := "com/example/tierstone/tierstone/compress/BitWriter") pn_0 rfl (fun m => ef_1 m x0 x1 x2) ?_
  intro p e s m below meth c T0 hx hby hml hown hnm hlk hret hZ X0 e0
  have w_3 := hw _ (List.mem_of_getElem? (i := 3) rfl)
  have w_8 := hw _ (List.mem_of_getElem? (i := 8) rfl)
  have w_9 := hw _ (List.mem_of_getElem? (i := 9) rfl)
  have w_10 := hw _ (List.mem_of_getElem? (i := 10) rfl)
  have w_11 := hw _ (List.mem_of_getElem? (i := 11) rfl)
  have w_12 := hw _ (List.mem_of_getElem? (i := 12) rfl)
  have w_13 := hw _ (List.mem_of_getElem? (i := 13) rfl)
  have w_14 := hw _ (List.mem_of_getElem? (i := 14) rfl)
  have w_21 := hw _ (List.mem_of_getElem? (i := 21) rfl)
  have w_23 := hw _ (List.mem_of_getElem? (i := 23) rfl)
  have N0 := Fr.nil n0
  refine g_aloadN X0.here hx (Jvm.hb hby d1_0) (pc' := 1) rfl rfl rfl ?_
  refine g_initO X0 hx hZ hown w_8 w_9 w_10 e0 (by rw [hml]; rfl) (Jvm.hb hby d1_1) (pc' := 4) rfl (by decide) 0 (by decide) (by decide) ?_
  intro T1 X1 e1
  refine g_aloadN X1.here hx (Jvm.hb hby d1_4) (pc' := 5) rfl rfl rfl ?_
  refine g_aloadN X1.here hx (Jvm.hb hby d1_5) (pc' := 6) rfl rfl rfl ?_
  refine g_putF X1 hx hZ hown (host := "") (Or.inl w_11) Via.refl e1 F_bytes E0 (Or.inr ⟨w_12, rfl, hnm⟩) w_3 (ty := (.array .byte)) (by decide) rfl rfl (Jvm.hb hby d1_6) (pc' := 9) rfl ?_
  intro T2 hh2 X2 e2 W2
  have Fw2 := F_bytes.same W2
  have N2 := Fr.snoc X2 N0 g0
  have Z3 : n0 ≤ hh2.size := (by rw [W2.size]; exact Z0)
  have z4 : h0.size ≤ hh2.size := (by rw [W2.size]; exact (Nat.le_refl _))
  refine g_aloadN X2.here hx (Jvm.hb hby d1_9) (pc' := 10) rfl rfl rfl ?_
  refine g_iloadN X2.here hx (Jvm.hb hby d1_10) (pc' := 11) rfl rfl ?_
  have F5 := (F_position.other W2 (Or.inr (slot_ne (Or.inl w_14) (Or.inr w_12) (by decide) (t := .int) (t' := (.array .byte)) (by decide) (by decide))))
  have F6 := (E0.wr W2)
  refine g_putF X2 hx hZ hown (host := "") (Or.inl w_13) Via.refl e2 F5 F6 (Or.inl w_14) w_3 (ty := .int) (by decide) rfl rfl (Jvm.hb hby d1_11) (pc' := 14) rfl ?_
  intro T7 hh7 X7 e7 W7
  have Fw7 := F5.same W7
  have N7 := Fr.snoc X7 N2 g0
  have Z8 : n0 ≤ hh7.size := (by rw [W7.size]; exact Z3)
  have z9 : h0.size ≤ hh7.size := (by rw [W7.size]; exact z4)
  have F10 := (F6.wr W7)
  have F11 := (Fw2.other W7 (Or.inr (slot_ne (Or.inr w_12) (Or.inl w_14) (by decide) (t := (.array .byte)) (t' := .int) (by decide) (by decide))))
  have F12 := ((F_pending.other W2 (Or.inr (slot_ne (Or.inl w_21) (Or.inr w_12) (by decide) (t := .long) (t' := (.array .byte)) (by decide) (by decide)))).other W7 (Or.inr (slot_ne (Or.inl w_21) (Or.inl w_14) (by decide) (t := .long) (t' := .int) (by decide) (by decide))))
  have F13 := ((F_pendingCount.other W2 (Or.inr (slot_ne (Or.inl w_23) (Or.inr w_12) (by decide) (t := .int) (t' := (.array .byte)) (by decide) (by decide)))).other W7 (Or.inr (slot_ne (Or.inl w_23) (Or.inl w_14) (by decide) (t := .int) (t' := .int) (by decide) (by decide))))
  have KK := (((Keep.refl h0 [x0]).wr W2 (Or.inl (List.mem_of_getElem? (i := 0) rfl))).wr W7 (Or.inl (List.mem_of_getElem? (i := 0) rfl)))
  exact g_retV X7 hx hlk hret (Jvm.hb hby d1_14) (Nat.zero_le _) (Nat.zero_le _) (by rw [e7]; exact ⟨rfl, N7, KK, ⟨F10, F11, Fw7, F12, F13⟩⟩)
/-- what 'add' reckons: the pending bits with the new ones above them -/
theorem own_add (pe v : Int64) (pk : Int32) (A t m k c : Nat) (hk : pk.toInt = k) (hk2 : k < 32) (ht : t = 32 * m + k) (hA : A < 2 ^ t) (hpe : own_N pe = A / 2 ^ (32 * m)) (hc : c ≤ 32) (hv : own_N v < 2 ^ c) :
    own_N (pe ||| (v <<< (pk &&& 0x3f).toInt64)) = (A + own_N v * 2 ^ t) / 2 ^ (32 * m) ∧ A + own_N v * 2 ^ t = A + (own_N v * 2 ^ k) * 2 ^ (32 * m) ∧ A + own_N v * 2 ^ t < 2 ^ (t + c) := by
  have e1 : A + own_N v * 2 ^ t = A + (own_N v * 2 ^ k) * 2 ^ (32 * m) := by
    rw [ht, Nat.mul_assoc, ← Nat.pow_add, Nat.add_comm k]
  have hP : own_N pe < 2 ^ k := by
    rw [hpe]
    apply Nat.div_lt_of_lt_mul
    rw [← Nat.pow_add, ← ht]
    exact hA
  have p1 := Nat.two_pow_pos k
  have hX : own_N v * 2 ^ k < 2 ^ (c + k) := by
    rw [Nat.pow_add]
    exact Nat.mul_lt_mul_of_pos_right hv p1
  have p2 : 2 ^ (c + k) ≤ 2 ^ 64 := Nat.pow_le_pow_right (by decide) (by omega)
  have h1 := own_Nshl v pk k hk (by omega)
  rw [Nat.mod_eq_of_lt (by omega)] at h1
  have h2 := own_Nor pe (v <<< (pk &&& 0x3f).toInt64) k hP (by rw [h1]; exact Nat.mul_mod_left _ _)
  refine ⟨?_, e1, ?_⟩
  · rw [h2, h1, e1, own_hi, hpe]
  · have h3 : own_N v * 2 ^ t ≤ (2 ^ c - 1) * 2 ^ t := Nat.mul_le_mul_right _ (by omega)
    rw [Nat.pow_add, Nat.mul_comm (2 ^ t) (2 ^ c)]
    have h4 : (2 ^ c - 1) * 2 ^ t + 2 ^ t = 2 ^ c * 2 ^ t := by
      have := Nat.two_pow_pos c
      rw [← Nat.succ_mul]
      congr 1
      omega
    omega
theorem own_fb_add (S m A X : Nat) (fill : Int32) (i : Nat) : own_fb S (4 * m) A fill i = own_fb S (4 * m) (A + X * 2 ^ (32 * m)) fill i := by
  unfold own_fb
  by_cases q : S ≤ i ∧ i < S + 4 * m
  · rw [if_pos q, if_pos q, own_lo _ _ _ _ (by omega)]
  · rw [if_neg q, if_neg q]
/-- the four bytes of a word that 'add' lays down -/
theorem own_fb4 (S m A : Nat) (fill : Int32) (b0 b1 b2 b3 : Int32) (p0 p1 p2 p3 : Nat) (h0 : p0 = S + 4 * m) (h1 : p1 = S + 4 * m + 1) (h2 : p2 = S + 4 * m + 2) (h3 : p3 = S + 4 * m + 3)
    (e0 : b0 = own_by (A / 2 ^ (32 * m))) (e1 : b1 = own_by (A / 2 ^ (32 * m) / 2 ^ 8)) (e2 : b2 = own_by (A / 2 ^ (32 * m) / 2 ^ 16)) (e3 : b3 = own_by (A / 2 ^ (32 * m) / 2 ^ 24)) (i : Nat) :
    (if i = p3 then b3 else if i = p2 then b2 else if i = p1 then b1 else if i = p0 then b0 else own_fb S (4 * m) A fill i) = own_fb S (4 * (m + 1)) A fill i := by
  have dv : ∀ j : Nat, A / 2 ^ (32 * m) / 2 ^ (8 * j) = A / 2 ^ (8 * (4 * m + j)) := fun j => by
    rw [Nat.div_div_eq_div_mul, ← Nat.pow_add]
    congr 2
    omega
  have d0 := dv 0
  have d1 := dv 1
  have d2 := dv 2
  have d3 := dv 3
  simp only [Nat.mul_zero, Nat.pow_zero, Nat.div_one] at d0
  rw [show 8 * 1 = 8 from rfl] at d1
  rw [show 8 * 2 = 16 from rfl] at d2
  rw [show 8 * 3 = 24 from rfl] at d3
  by_cases q3 : i = p3
  · rw [if_pos q3, e3, d3, own_fb, if_pos (by omega), show i - S = 4 * m + 3 by omega]
  · rw [if_neg q3]
    by_cases q2 : i = p2
    · rw [if_pos q2, e2, d2, own_fb, if_pos (by omega), show i - S = 4 * m + 2 by omega]
    · rw [if_neg q2]
      by_cases q1 : i = p1
      · rw [if_pos q1, e1, d1, own_fb, if_pos (by omega), show i - S = 4 * m + 1 by omega]
      · rw [if_neg q1]
        by_cases q0 : i = p0
        · rw [if_pos q0, e0, d0, own_fb, if_pos (by omega), show i - S = 4 * m + 0 by omega]
        · rw [if_neg q0]
          unfold own_fb
          by_cases q : S ≤ i ∧ i < S + 4 * m
          · rw [if_pos q, if_pos (by omega)]
          · rw [if_neg q, if_neg (by omega)]
theorem own_pos (po k : Int32) (p K : Nat) (h : po.toInt = p) (hk : k.toInt = K) (hp : p + K < 1000) : (po + k).toInt = ((p + K : Nat) : Int) := by
  have e := c_iadd po k
  have r := rng32 (po + k)
  omega
def own_Q3 (Z : State) (n0 : Nat) (x0 b : Addr) (S : Nat) (fill : Int32) (A t : Nat) (h0 : Heap) (v : Option Value) (h : Heap) (L : List Loc) : Prop := v = none ∧ Fr n0 L ∧ Keep h0 h [x0, b] ∧ ∃ m', own_BW Z h x0 b S fill A t m'
theorem d3_0 : decode prog_142_method_2_code 0 = .ok (.aload_n 0, 1) := by decide +kernel
theorem d3_1 : decode prog_142_method_2_code 1 = .ok (.dup, 1) := by decide +kernel
theorem d3_2 : decode prog_142_method_2_code 2 = .ok (.getfield 17, 3) := by decide +kernel
theorem d3_5 : decode prog_142_method_2_code 5 = .ok (.lload_n 1, 1) := by decide +kernel
theorem d3_6 : decode prog_142_method_2_code 6 = .ok (.aload_n 0, 1) := by decide +kernel
theorem d3_7 : decode prog_142_method_2_code 7 = .ok (.getfield 21, 3) := by decide +kernel
theorem d3_10 : decode prog_142_method_2_code 10 = .ok (.lshl, 1) := by decide +kernel
theorem d3_11 : decode prog_142_method_2_code 11 = .ok (.lor, 1) := by decide +kernel
theorem d3_12 : decode prog_142_method_2_code 12 = .ok (.putfield 17, 3) := by decide +kernel
theorem d3_15 : decode prog_142_method_2_code 15 = .ok (.aload_n 0, 1) := by decide +kernel
theorem d3_16 : decode prog_142_method_2_code 16 = .ok (.dup, 1) := by decide +kernel
theorem d3_17 : decode prog_142_method_2_code 17 = .ok (.getfield 21, 3) := by decide +kernel
theorem d3_20 : decode prog_142_method_2_code 20 = .ok (.iload_n 3, 1) := by decide +kernel
theorem d3_21 : decode prog_142_method_2_code 21 = .ok (.iadd, 1) := by decide +kernel
theorem d3_22 : decode prog_142_method_2_code 22 = .ok (.putfield 21, 3) := by decide +kernel
theorem d3_25 : decode prog_142_method_2_code 25 = .ok (.aload_n 0, 1) := by decide +kernel
theorem d3_26 : decode prog_142_method_2_code 26 = .ok (.getfield 21, 3) := by decide +kernel
theorem d3_29 : decode prog_142_method_2_code 29 = .ok (.bipush 32, 2) := by decide +kernel
theorem d3_31 : decode prog_142_method_2_code 31 = .ok (.if_icmp .lt 110, 3) := by decide +kernel
theorem d3_141 : decode prog_142_method_2_code 141 = .ok (.return_, 1) := by decide +kernel
theorem d3_34 : decode prog_142_method_2_code 34 = .ok (.aload_n 0, 1) := by decide +kernel
theorem d3_35 : decode prog_142_method_2_code 35 = .ok (.getfield 7, 3) := by decide +kernel
theorem d3_38 : decode prog_142_method_2_code 38 = .ok (.aload_n 0, 1) := by decide +kernel
theorem d3_39 : decode prog_142_method_2_code 39 = .ok (.getfield 13, 3) := by decide +kernel
theorem d3_42 : decode prog_142_method_2_code 42 = .ok (.aload_n 0, 1) := by decide +kernel
theorem d3_43 : decode prog_142_method_2_code 43 = .ok (.getfield 17, 3) := by decide +kernel
theorem d3_46 : decode prog_142_method_2_code 46 = .ok (.l2i, 1) := by decide +kernel
theorem d3_47 : decode prog_142_method_2_code 47 = .ok (.i2b, 1) := by decide +kernel
theorem d3_48 : decode prog_142_method_2_code 48 = .ok (.bastore, 1) := by decide +kernel
theorem d3_49 : decode prog_142_method_2_code 49 = .ok (.aload_n 0, 1) := by decide +kernel
theorem d3_50 : decode prog_142_method_2_code 50 = .ok (.getfield 7, 3) := by decide +kernel
theorem d3_53 : decode prog_142_method_2_code 53 = .ok (.aload_n 0, 1) := by decide +kernel
theorem d3_54 : decode prog_142_method_2_code 54 = .ok (.getfield 13, 3) := by decide +kernel
theorem d3_57 : decode prog_142_method_2_code 57 = .ok (.iconst 1, 1) := by decide +kernel
theorem d3_58 : decode prog_142_method_2_code 58 = .ok (.iadd, 1) := by decide +kernel
theorem d3_59 : decode prog_142_method_2_code 59 = .ok (.aload_n 0, 1) := by decide +kernel
theorem d3_60 : decode prog_142_method_2_code 60 = .ok (.getfield 17, 3) := by decide +kernel
theorem d3_63 : decode prog_142_method_2_code 63 = .ok (.bipush 8, 2) := by decide +kernel
theorem d3_65 : decode prog_142_method_2_code 65 = .ok (.lushr, 1) := by decide +kernel
theorem d3_66 : decode prog_142_method_2_code 66 = .ok (.l2i, 1) := by decide +kernel
theorem d3_67 : decode prog_142_method_2_code 67 = .ok (.i2b, 1) := by decide +kernel
theorem d3_68 : decode prog_142_method_2_code 68 = .ok (.bastore, 1) := by decide +kernel
theorem d3_69 : decode prog_142_method_2_code 69 = .ok (.aload_n 0, 1) := by decide +kernel
theorem d3_70 : decode prog_142_method_2_code 70 = .ok (.getfield 7, 3) := by decide +kernel
theorem d3_73 : decode prog_142_method_2_code 73 = .ok (.aload_n 0, 1) := by decide +kernel
theorem d3_74 : decode prog_142_method_2_code 74 = .ok (.getfield 13, 3) := by decide +kernel
theorem d3_77 : decode prog_142_method_2_code 77 = .ok (.iconst 2, 1) := by decide +kernel
theorem d3_78 : decode prog_142_method_2_code 78 = .ok (.iadd, 1) := by decide +kernel
theorem d3_79 : decode prog_142_method_2_code 79 = .ok (.aload_n 0, 1) := by decide +kernel
theorem d3_80 : decode prog_142_method_2_code 80 = .ok (.getfield 17, 3) := by decide +kernel
theorem d3_83 : decode prog_142_method_2_code 83 = .ok (.bipush 16, 2) := by decide +kernel
theorem d3_85 : decode prog_142_method_2_code 85 = .ok (.lushr, 1) := by decide +kernel
theorem d3_86 : decode prog_142_method_2_code 86 = .ok (.l2i, 1) := by decide +kernel
theorem d3_87 : decode prog_142_method_2_code 87 = .ok (.i2b, 1) := by decide +kernel
theorem d3_88 : decode prog_142_method_2_code 88 = .ok (.bastore, 1) := by decide +kernel
theorem d3_89 : decode prog_142_method_2_code 89 = .ok (.aload_n 0, 1) := by decide +kernel
theorem d3_90 : decode prog_142_method_2_code 90 = .ok (.getfield 7, 3) := by decide +kernel
theorem d3_93 : decode prog_142_method_2_code 93 = .ok (.aload_n 0, 1) := by decide +kernel
theorem d3_94 : decode prog_142_method_2_code 94 = .ok (.getfield 13, 3) := by decide +kernel
theorem d3_97 : decode prog_142_method_2_code 97 = .ok (.iconst 3, 1) := by decide +kernel
theorem d3_98 : decode prog_142_method_2_code 98 = .ok (.iadd, 1) := by decide +kernel
theorem d3_99 : decode prog_142_method_2_code 99 = .ok (.aload_n 0, 1) := by decide +kernel
theorem d3_100 : decode prog_142_method_2_code 100 = .ok (.getfield 17, 3) := by decide +kernel
theorem d3_103 : decode prog_142_method_2_code 103 = .ok (.bipush 24, 2) := by decide +kernel
theorem d3_105 : decode prog_142_method_2_code 105 = .ok (.lushr, 1) := by decide +kernel
theorem d3_106 : decode prog_142_method_2_code 106 = .ok (.l2i, 1) := by decide +kernel
theorem d3_107 : decode prog_142_method_2_code 107 = .ok (.i2b, 1) := by decide +kernel
theorem d3_108 : decode prog_142_method_2_code 108 = .ok (.bastore, 1) := by decide +kernel
theorem d3_109 : decode prog_142_method_2_code 109 = .ok (.aload_n 0, 1) := by decide +kernel
theorem d3_110 : decode prog_142_method_2_code 110 = .ok (.dup, 1) := by decide +kernel
theorem d3_111 : decode prog_142_method_2_code 111 = .ok (.getfield 13, 3) := by decide +kernel
theorem d3_114 : decode prog_142_method_2_code 114 = .ok (.iconst 4, 1) := by decide +kernel
theorem d3_115 : decode prog_142_method_2_code 115 = .ok (.iadd, 1) := by decide +kernel
theorem d3_116 : decode prog_142_method_2_code 116 = .ok (.putfield 13, 3) := by decide +kernel
theorem d3_119 : decode prog_142_method_2_code 119 = .ok (.aload_n 0, 1) := by decide +kernel
theorem d3_120 : decode prog_142_method_2_code 120 = .ok (.dup, 1) := by decide +kernel
theorem d3_121 : decode prog_142_method_2_code 121 = .ok (.getfield 17, 3) := by decide +kernel
theorem d3_124 : decode prog_142_method_2_code 124 = .ok (.bipush 32, 2) := by decide +kernel
theorem d3_126 : decode prog_142_method_2_code 126 = .ok (.lushr, 1) := by decide +kernel
theorem d3_127 : decode prog_142_method_2_code 127 = .ok (.putfield 17, 3) := by decide +kernel
theorem d3_130 : decode prog_142_method_2_code 130 = .ok (.aload_n 0, 1) := by decide +kernel
theorem d3_131 : decode prog_142_method_2_code 131 = .ok (.dup, 1) := by decide +kernel
theorem d3_132 : decode prog_142_method_2_code 132 = .ok (.getfield 21, 3) := by decide +kernel
theorem d3_135 : decode prog_142_method_2_code 135 = .ok (.bipush 32, 2) := by decide +kernel
theorem d3_137 : decode prog_142_method_2_code 137 = .ok (.isub, 1) := by decide +kernel
theorem d3_138 : decode prog_142_method_2_code 138 = .ok (.putfield 21, 3) := by decide +kernel
theorem ef_3 (m : MethodId) (x0 : Addr) (x1 : Int64) (x2 : Int32) : entryFrame m #[(.ref x0), (.long x1), (.int x2)] 4 = mkF m 0 #[.val (.ref x0), .val (.long x1), .second, .val (.int x2)] [] := by first | (simp [entryFrame, mkF, argsToLocals, Value.category]; done) | rfl
set_option maxRecDepth 65536 in
set_option maxHeartbeats 40000000 in
theorem rm3 (l : Launch) (Z : State) (a0 : Array Value) (hw : ∀ d ∈ tables_1, d.before a0 Z = true) (ws : List Jvm.Cond) (x0 : Addr) (x1 : Int64) (x2 : Int32) (b : Addr) (S : Nat) (fill : Int32) (A t mw c2 : Nat) (h0 : Heap) (n0 : Nat) (Z0 : n0 ≤ h0.size) (g0 : n0 ≤ x0) (g1 : n0 ≤ b) (ne0 : b ≠ x0) (W0 : own_BW Z h0 x0 b S fill A t mw) (hA : A < 2 ^ t) (hc2 : x2.toInt = c2) (hc : c2 ≤ 32) (hv : own_N x1 < 2 ^ c2) (hS : S ≤ 3) (ht : t + c2 ≤ 96) :
    MetFree l (⟨"com/example/tierstone/tierstone/compress/BitWriter", "add", "(JI)V"⟩ : MethodName) (head1 (Jvm.Cond.code (⟨"com/example/tierstone/tierstone/compress/BitWriter", "add", "(JI)V"⟩ : MethodName) prog_142_method_2_code 4 none :: ws) ({ frames := 0, cells := 0, slots := 0, locals := 0 } : Room)) (fun a U => a = #[(.ref x0), (.long x1), (.int x2)] ∧ Z.Warmed39 U.vm ∧ U.heap = h0) (fun _ _ _ _ _ => True) (fun _ U o U' => ∃ v L, o = .returned v ∧ (own_Q3 Z n0 x0 b S fill (A + own_N x1 * 2 ^ t) (t + c2) h0) v U'.heap L ∧ FrameEnd U o U' L ({ frames := 0, cells := 0, slots := 0, locals := 0 } : Room).cells ({ frames := 0, cells := 0, slots := 0, locals := 0 } : Room).slots) := by
  refine own_body (own := "com/example/tierstone/tierstone/compress/BitWriter") pn_0 rfl (fun m => ef_3 m x0 x1 x2) ?_
  intro p e s m below meth c T0 hx hby hml hown hnm hlk hret hZ X0 e0
  have w_3 := hw _ (List.mem_of_getElem? (i := 3) rfl)
  have w_11 := hw _ (List.mem_of_getElem? (i := 11) rfl)
  have w_12 := hw _ (List.mem_of_getElem? (i := 12) rfl)
  have w_13 := hw _ (List.mem_of_getElem? (i := 13) rfl)
  have w_14 := hw _ (List.mem_of_getElem? (i := 14) rfl)
  have w_20 := hw _ (List.mem_of_getElem? (i := 20) rfl)
  have w_21 := hw _ (List.mem_of_getElem? (i := 21) rfl)
  have w_22 := hw _ (List.mem_of_getElem? (i := 22) rfl)
  have w_23 := hw _ (List.mem_of_getElem? (i := 23) rfl)
  have N0 := Fr.nil n0
  obtain ⟨po, pe, pk, B0, V0, hpo, hpe, hpk, hp0, hp1⟩ := W0
  obtain ⟨k, hk⟩ : ∃ k : Nat, pk.toInt = k := ⟨pk.toInt.toNat, by omega⟩
  obtain ⟨f1, f2, f3⟩ := own_add pe x1 pk A t mw k c2 hk (by omega) (by omega) hA hpe hc hv
  have hsum := own_pos pk x2 k c2 hk hc2 (by omega)
  obtain ⟨EB1, FB1_bytes, FB1_position, FB1_pending, FB1_pendingCount⟩ := B0
  refine g_aloadN X0.here hx (Jvm.hb hby d3_0) (pc' := 1) rfl rfl rfl ?_
  refine g_dup X0.here hx (Jvm.hb hby d3_1) (pc' := 2) rfl rfl ?_
  refine g_getF X0 hx hZ hown (host := "") (Or.inl w_20) Via.refl e0 FB1_pending (Jvm.hb hby d3_2) (pc' := 5) rfl ?_
  intro T2 X2 e2
  refine g_lloadN X2.here hx (Jvm.hb hby d3_5) (pc' := 6) rfl rfl ?_
  refine g_aloadN X2.here hx (Jvm.hb hby d3_6) (pc' := 7) rfl rfl rfl ?_
  refine g_getF X2 hx hZ hown (host := "") (Or.inl w_22) Via.refl e2 FB1_pendingCount (Jvm.hb hby d3_7) (pc' := 10) rfl ?_
  intro T3 X3 e3
  refine g_lshl X3.here hx (Jvm.hb hby d3_10) (pc' := 11) rfl ?_
  refine g_lor X3.here hx (Jvm.hb hby d3_11) (pc' := 12) rfl ?_
  refine g_putF X3 hx hZ hown (host := "") (Or.inl w_20) Via.refl e3 FB1_pending EB1 (Or.inl w_21) w_3 (ty := .long) (by decide) rfl rfl (Jvm.hb hby d3_12) (pc' := 15) rfl ?_
  intro T4 hh4 X4 e4 W4
  have Fw4 := FB1_pending.same W4
  have N4 := Fr.snoc X4 N0 g0
  have Z5 : n0 ≤ hh4.size := (by rw [W4.size]; exact Z0)
  have z6 : h0.size ≤ hh4.size := (by rw [W4.size]; exact (Nat.le_refl _))
  refine g_aloadN X4.here hx (Jvm.hb hby d3_15) (pc' := 16) rfl rfl rfl ?_
  refine g_dup X4.here hx (Jvm.hb hby d3_16) (pc' := 17) rfl rfl ?_
  have F7 := (FB1_pendingCount.other W4 (Or.inr (slot_ne (Or.inl w_23) (Or.inl w_21) (by decide) (t := .int) (t' := .long) (by decide) (by decide))))
  refine g_getF X4 hx hZ hown (host := "") (Or.inl w_22) Via.refl e4 F7 (Jvm.hb hby d3_17) (pc' := 20) rfl ?_
  intro T8 X8 e8
  refine g_iloadN X8.here hx (Jvm.hb hby d3_20) (pc' := 21) rfl rfl ?_
  refine g_iadd X8.here hx (Jvm.hb hby d3_21) (pc' := 22) rfl ?_
  have F9 := (EB1.wr W4)
  refine g_putF X8 hx hZ hown (host := "") (Or.inl w_22) Via.refl e8 F7 F9 (Or.inl w_23) w_3 (ty := .int) (by decide) rfl rfl (Jvm.hb hby d3_22) (pc' := 25) rfl ?_
  intro T10 hh10 X10 e10 W10
  have Fw10 := F7.same W10
  have N10 := Fr.snoc X10 N4 g0
  have Z11 : n0 ≤ hh10.size := (by rw [W10.size]; exact Z5)
  have z12 : h0.size ≤ hh10.size := (by rw [W10.size]; exact z6)
  refine g_aloadN X10.here hx (Jvm.hb hby d3_25) (pc' := 26) rfl rfl rfl ?_
  refine g_getF X10 hx hZ hown (host := "") (Or.inl w_22) Via.refl e10 Fw10 (Jvm.hb hby d3_26) (pc' := 29) rfl ?_
  intro T13 X13 e13
  refine g_bipush X13.here hx (Jvm.hb hby d3_29) (pc' := 31) rfl (z := (32 : Int32)) rfl ?_
  by_cases hc31 : (pk + x2) < (32 : Int32)
  · refine g_icY X13.here hx (Jvm.hb hby d3_31) (by decide) (pc' := 141) (by decide) (tlt hc31).1 ?_
    have F14 := (F9.wr W10)
    have F15 := ((FB1_bytes.other W4 (Or.inr (slot_ne (Or.inr w_12) (Or.inl w_21) (by decide) (t := (.array .byte)) (t' := .long) (by decide) (by decide)))).other W10 (Or.inr (slot_ne (Or.inr w_12) (Or.inl w_23) (by decide) (t := (.array .byte)) (t' := .int) (by decide) (by decide))))
    have F16 := ((FB1_position.other W4 (Or.inr (slot_ne (Or.inl w_14) (Or.inl w_21) (by decide) (t := .int) (t' := .long) (by decide) (by decide)))).other W10 (Or.inr (slot_ne (Or.inl w_14) (Or.inl w_23) (by decide) (t := .int) (t' := .int) (by decide) (by decide))))
    have F17 := (Fw4.other W10 (Or.inr (slot_ne (Or.inl w_21) (Or.inl w_23) (by decide) (t := .long) (t' := .int) (by decide) (by decide))))
    have F18 := ((V0.other W4 ne0).other W10 ne0)
    have KK := (((Keep.refl h0 [x0, b]).wr W4 (Or.inl (List.mem_of_getElem? (i := 0) rfl))).wr W10 (Or.inl (List.mem_of_getElem? (i := 0) rfl)))
    rw [Int32.lt_iff_toInt_lt, hsum] at hc31
    simp only [Int32.reduceToInt] at hc31
    exact g_retV X13 hx hlk hret (Jvm.hb hby d3_141) (Nat.zero_le _) (Nat.zero_le _) (by rw [e13]; exact ⟨rfl, N10, KK, mw, _, _, _, ⟨F14, F15, F16, F17, Fw10⟩, F18.congr (fun i _ => by rw [f2]; exact own_fb_add S mw A _ fill i), hpo, f1, by rw [hsum]; omega, by omega, by omega⟩)
  · refine g_icN X13.here hx (Jvm.hb hby d3_31) (pc' := 34) rfl (flt hc31).1 ?_
    rw [Int32.lt_iff_toInt_lt, hsum] at hc31
    simp only [Int32.reduceToInt] at hc31
    have hm : S + 4 * mw + 4 ≤ 16 := by omega
    have z1 := own_pos po (1 : Int32) (S + 4 * mw) 1 (by omega) (by decide) (by omega)
    have z2 := own_pos po (2 : Int32) (S + 4 * mw) 2 (by omega) (by decide) (by omega)
    have z3 := own_pos po (3 : Int32) (S + 4 * mw) 3 (by omega) (by decide) (by omega)
    have z4 := own_pos po (4 : Int32) (S + 4 * mw) 4 (by omega) (by decide) (by omega)
    refine g_aloadN X13.here hx (Jvm.hb hby d3_34) (pc' := 35) rfl rfl rfl ?_
    have F19 := ((FB1_bytes.other W4 (Or.inr (slot_ne (Or.inr w_12) (Or.inl w_21) (by decide) (t := (.array .byte)) (t' := .long) (by decide) (by decide)))).other W10 (Or.inr (slot_ne (Or.inr w_12) (Or.inl w_23) (by decide) (t := (.array .byte)) (t' := .int) (by decide) (by decide))))
    refine g_getF X13 hx hZ hown (host := "") (Or.inl w_11) Via.refl e13 F19 (Jvm.hb hby d3_35) (pc' := 38) rfl ?_
    intro T20 X20 e20
    refine g_aloadN X20.here hx (Jvm.hb hby d3_38) (pc' := 39) rfl rfl rfl ?_
    have F21 := ((FB1_position.other W4 (Or.inr (slot_ne (Or.inl w_14) (Or.inl w_21) (by decide) (t := .int) (t' := .long) (by decide) (by decide)))).other W10 (Or.inr (slot_ne (Or.inl w_14) (Or.inl w_23) (by decide) (t := .int) (t' := .int) (by decide) (by decide))))
    refine g_getF X20 hx hZ hown (host := "") (Or.inl w_13) Via.refl e20 F21 (Jvm.hb hby d3_39) (pc' := 42) rfl ?_
    intro T22 X22 e22
    refine g_aloadN X22.here hx (Jvm.hb hby d3_42) (pc' := 43) rfl rfl rfl ?_
    have F23 := (Fw4.other W10 (Or.inr (slot_ne (Or.inl w_21) (Or.inl w_23) (by decide) (t := .long) (t' := .int) (by decide) (by decide))))
    refine g_getF X22 hx hZ hown (host := "") (Or.inl w_20) Via.refl e22 F23 (Jvm.hb hby d3_43) (pc' := 46) rfl ?_
    intro T24 X24 e24
    refine g_l2i X24.here hx (Jvm.hb hby d3_46) (pc' := 47) rfl ?_
    refine g_i2b X24.here hx (Jvm.hb hby d3_47) (pc' := 48) rfl ?_
    have F25 := ((V0.other W4 ne0).other W10 ne0)
    refine g_bastore X24 hx hZ e24 F25 (by omega) (Jvm.hb hby d3_48) (pc' := 49) rfl ?_
    intro T26 hh26 X26 e26 W26 V26
    have N26 := Fr.snoc X26 N10 g1
    have Z27 : n0 ≤ hh26.size := (by rw [W26.size]; exact Z11)
    have z28 : h0.size ≤ hh26.size := (by rw [W26.size]; exact z12)
    refine g_aloadN X26.here hx (Jvm.hb hby d3_49) (pc' := 50) rfl rfl rfl ?_
    have F29 := (F19.other W26 (Or.inl (Ne.symm ne0)))
    refine g_getF X26 hx hZ hown (host := "") (Or.inl w_11) Via.refl e26 F29 (Jvm.hb hby d3_50) (pc' := 53) rfl ?_
    intro T30 X30 e30
    refine g_aloadN X30.here hx (Jvm.hb hby d3_53) (pc' := 54) rfl rfl rfl ?_
    have F31 := (F21.other W26 (Or.inl (Ne.symm ne0)))
    refine g_getF X30 hx hZ hown (host := "") (Or.inl w_13) Via.refl e30 F31 (Jvm.hb hby d3_54) (pc' := 57) rfl ?_
    intro T32 X32 e32
    refine g_iconst X32.here hx (Jvm.hb hby d3_57) (pc' := 58) rfl (z := (1 : Int32)) rfl ?_
    refine g_iadd X32.here hx (Jvm.hb hby d3_58) (pc' := 59) rfl ?_
    refine g_aloadN X32.here hx (Jvm.hb hby d3_59) (pc' := 60) rfl rfl rfl ?_
    have F33 := (F23.other W26 (Or.inl (Ne.symm ne0)))
    refine g_getF X32 hx hZ hown (host := "") (Or.inl w_20) Via.refl e32 F33 (Jvm.hb hby d3_60) (pc' := 63) rfl ?_
    intro T34 X34 e34
    refine g_bipush X34.here hx (Jvm.hb hby d3_63) (pc' := 65) rfl (z := (8 : Int32)) rfl ?_
    refine g_lushr X34.here hx (Jvm.hb hby d3_65) (pc' := 66) rfl ?_
    refine g_l2i X34.here hx (Jvm.hb hby d3_66) (pc' := 67) rfl ?_
    refine g_i2b X34.here hx (Jvm.hb hby d3_67) (pc' := 68) rfl ?_
    refine g_bastore X34 hx hZ e34 V26 (by omega) (Jvm.hb hby d3_68) (pc' := 69) rfl ?_
    intro T35 hh35 X35 e35 W35 V35
    have N35 := Fr.snoc X35 N26 g1
    have Z36 : n0 ≤ hh35.size := (by rw [W35.size]; exact Z27)
    have z37 : h0.size ≤ hh35.size := (by rw [W35.size]; exact z28)
    refine g_aloadN X35.here hx (Jvm.hb hby d3_69) (pc' := 70) rfl rfl rfl ?_
    have F38 := (F29.other W35 (Or.inl (Ne.symm ne0)))
    refine g_getF X35 hx hZ hown (host := "") (Or.inl w_11) Via.refl e35 F38 (Jvm.hb hby d3_70) (pc' := 73) rfl ?_
    intro T39 X39 e39
    refine g_aloadN X39.here hx (Jvm.hb hby d3_73) (pc' := 74) rfl rfl rfl ?_
    have F40 := (F31.other W35 (Or.inl (Ne.symm ne0)))
    refine g_getF X39 hx hZ hown (host := "") (Or.inl w_13) Via.refl e39 F40 (Jvm.hb hby d3_74) (pc' := 77) rfl ?_
    intro T41 X41 e41
    refine g_iconst X41.here hx (Jvm.hb hby d3_77) (pc' := 78) rfl (z := (2 : Int32)) rfl ?_
    refine g_iadd X41.here hx (Jvm.hb hby d3_78) (pc' := 79) rfl ?_
    refine g_aloadN X41.here hx (Jvm.hb hby d3_79) (pc' := 80) rfl rfl rfl ?_
    have F42 := (F33.other W35 (Or.inl (Ne.symm ne0)))
    refine g_getF X41 hx hZ hown (host := "") (Or.inl w_20) Via.refl e41 F42 (Jvm.hb hby d3_80) (pc' := 83) rfl ?_
    intro T43 X43 e43
    refine g_bipush X43.here hx (Jvm.hb hby d3_83) (pc' := 85) rfl (z := (16 : Int32)) rfl ?_
    refine g_lushr X43.here hx (Jvm.hb hby d3_85) (pc' := 86) rfl ?_
    refine g_l2i X43.here hx (Jvm.hb hby d3_86) (pc' := 87) rfl ?_
    refine g_i2b X43.here hx (Jvm.hb hby d3_87) (pc' := 88) rfl ?_
    refine g_bastore X43 hx hZ e43 V35 (by omega) (Jvm.hb hby d3_88) (pc' := 89) rfl ?_
    intro T44 hh44 X44 e44 W44 V44
    have N44 := Fr.snoc X44 N35 g1
    have Z45 : n0 ≤ hh44.size := (by rw [W44.size]; exact Z36)
    have z46 : h0.size ≤ hh44.size := (by rw [W44.size]; exact z37)
    refine g_aloadN X44.here hx (Jvm.hb hby d3_89) (pc' := 90) rfl rfl rfl ?_
    have F47 := (F38.other W44 (Or.inl (Ne.symm ne0)))
    refine g_getF X44 hx hZ hown (host := "") (Or.inl w_11) Via.refl e44 F47 (Jvm.hb hby d3_90) (pc' := 93) rfl ?_
    intro T48 X48 e48
    refine g_aloadN X48.here hx (Jvm.hb hby d3_93) (pc' := 94) rfl rfl rfl ?_
    have F49 := (F40.other W44 (Or.inl (Ne.symm ne0)))
    refine g_getF X48 hx hZ hown (host := "") (Or.inl w_13) Via.refl e48 F49 (Jvm.hb hby d3_94) (pc' := 97) rfl ?_
    intro T50 X50 e50
    refine g_iconst X50.here hx (Jvm.hb hby d3_97) (pc' := 98) rfl (z := (3 : Int32)) rfl ?_
    refine g_iadd X50.here hx (Jvm.hb hby d3_98) (pc' := 99) rfl ?_
    refine g_aloadN X50.here hx (Jvm.hb hby d3_99) (pc' := 100) rfl rfl rfl ?_
    have F51 := (F42.other W44 (Or.inl (Ne.symm ne0)))
    refine g_getF X50 hx hZ hown (host := "") (Or.inl w_20) Via.refl e50 F51 (Jvm.hb hby d3_100) (pc' := 103) rfl ?_
    intro T52 X52 e52
    refine g_bipush X52.here hx (Jvm.hb hby d3_103) (pc' := 105) rfl (z := (24 : Int32)) rfl ?_
    refine g_lushr X52.here hx (Jvm.hb hby d3_105) (pc' := 106) rfl ?_
    refine g_l2i X52.here hx (Jvm.hb hby d3_106) (pc' := 107) rfl ?_
    refine g_i2b X52.here hx (Jvm.hb hby d3_107) (pc' := 108) rfl ?_
    refine g_bastore X52 hx hZ e52 V44 (by omega) (Jvm.hb hby d3_108) (pc' := 109) rfl ?_
    intro T53 hh53 X53 e53 W53 V53
    have N53 := Fr.snoc X53 N44 g1
    have Z54 : n0 ≤ hh53.size := (by rw [W53.size]; exact Z45)
    have z55 : h0.size ≤ hh53.size := (by rw [W53.size]; exact z46)
    refine g_aloadN X53.here hx (Jvm.hb hby d3_109) (pc' := 110) rfl rfl rfl ?_
    refine g_dup X53.here hx (Jvm.hb hby d3_110) (pc' := 111) rfl rfl ?_
    have F56 := (F49.other W53 (Or.inl (Ne.symm ne0)))
    refine g_getF X53 hx hZ hown (host := "") (Or.inl w_13) Via.refl e53 F56 (Jvm.hb hby d3_111) (pc' := 114) rfl ?_
    intro T57 X57 e57
    refine g_iconst X57.here hx (Jvm.hb hby d3_114) (pc' := 115) rfl (z := (4 : Int32)) rfl ?_
    refine g_iadd X57.here hx (Jvm.hb hby d3_115) (pc' := 116) rfl ?_
    have F58 := (((((F9.wr W10).wr W26).wr W35).wr W44).wr W53)
    refine g_putF X57 hx hZ hown (host := "") (Or.inl w_13) Via.refl e57 F56 F58 (Or.inl w_14) w_3 (ty := .int) (by decide) rfl rfl (Jvm.hb hby d3_116) (pc' := 119) rfl ?_
    intro T59 hh59 X59 e59 W59
    have Fw59 := F56.same W59
    have N59 := Fr.snoc X59 N53 g0
    have Z60 : n0 ≤ hh59.size := (by rw [W59.size]; exact Z54)
    have z61 : h0.size ≤ hh59.size := (by rw [W59.size]; exact z55)
    refine g_aloadN X59.here hx (Jvm.hb hby d3_119) (pc' := 120) rfl rfl rfl ?_
    refine g_dup X59.here hx (Jvm.hb hby d3_120) (pc' := 121) rfl rfl ?_
    have F62 := ((F51.other W53 (Or.inl (Ne.symm ne0))).other W59 (Or.inr (slot_ne (Or.inl w_21) (Or.inl w_14) (by decide) (t := .long) (t' := .int) (by decide) (by decide))))
    refine g_getF X59 hx hZ hown (host := "") (Or.inl w_20) Via.refl e59 F62 (Jvm.hb hby d3_121) (pc' := 124) rfl ?_
    intro T63 X63 e63
    refine g_bipush X63.here hx (Jvm.hb hby d3_124) (pc' := 126) rfl (z := (32 : Int32)) rfl ?_
    refine g_lushr X63.here hx (Jvm.hb hby d3_126) (pc' := 127) rfl ?_
    have F64 := (F58.wr W59)
    refine g_putF X63 hx hZ hown (host := "") (Or.inl w_20) Via.refl e63 F62 F64 (Or.inl w_21) w_3 (ty := .long) (by decide) rfl rfl (Jvm.hb hby d3_127) (pc' := 130) rfl ?_
    intro T65 hh65 X65 e65 W65
    have Fw65 := F62.same W65
    have N65 := Fr.snoc X65 N59 g0
    have Z66 : n0 ≤ hh65.size := (by rw [W65.size]; exact Z60)
    have z67 : h0.size ≤ hh65.size := (by rw [W65.size]; exact z61)
    refine g_aloadN X65.here hx (Jvm.hb hby d3_130) (pc' := 131) rfl rfl rfl ?_
    refine g_dup X65.here hx (Jvm.hb hby d3_131) (pc' := 132) rfl rfl ?_
    have F68 := ((((((Fw10.other W26 (Or.inl (Ne.symm ne0))).other W35 (Or.inl (Ne.symm ne0))).other W44 (Or.inl (Ne.symm ne0))).other W53 (Or.inl (Ne.symm ne0))).other W59 (Or.inr (slot_ne (Or.inl w_23) (Or.inl w_14) (by decide) (t := .int) (t' := .int) (by decide) (by decide)))).other W65 (Or.inr (slot_ne (Or.inl w_23) (Or.inl w_21) (by decide) (t := .int) (t' := .long) (by decide) (by decide))))
    refine g_getF X65 hx hZ hown (host := "") (Or.inl w_22) Via.refl e65 F68 (Jvm.hb hby d3_132) (pc' := 135) rfl ?_
    intro T69 X69 e69
    refine g_bipush X69.here hx (Jvm.hb hby d3_135) (pc' := 137) rfl (z := (32 : Int32)) rfl ?_
    refine g_isub X69.here hx (Jvm.hb hby d3_137) (pc' := 138) rfl ?_
    have F70 := (F64.wr W65)
    refine g_putF X69 hx hZ hown (host := "") (Or.inl w_22) Via.refl e69 F68 F70 (Or.inl w_23) w_3 (ty := .int) (by decide) rfl rfl (Jvm.hb hby d3_138) (pc' := 141) rfl ?_
    intro T71 hh71 X71 e71 W71
    have Fw71 := F68.same W71
    have N71 := Fr.snoc X71 N65 g0
    have Z72 : n0 ≤ hh71.size := (by rw [W71.size]; exact Z66)
    have z73 : h0.size ≤ hh71.size := (by rw [W71.size]; exact z67)
    have F74 := (F70.wr W71)
    have F75 := ((((F47.other W53 (Or.inl (Ne.symm ne0))).other W59 (Or.inr (slot_ne (Or.inr w_12) (Or.inl w_14) (by decide) (t := (.array .byte)) (t' := .int) (by decide) (by decide)))).other W65 (Or.inr (slot_ne (Or.inr w_12) (Or.inl w_21) (by decide) (t := (.array .byte)) (t' := .long) (by decide) (by decide)))).other W71 (Or.inr (slot_ne (Or.inr w_12) (Or.inl w_23) (by decide) (t := (.array .byte)) (t' := .int) (by decide) (by decide))))
    have F76 := ((Fw59.other W65 (Or.inr (slot_ne (Or.inl w_14) (Or.inl w_21) (by decide) (t := .int) (t' := .long) (by decide) (by decide)))).other W71 (Or.inr (slot_ne (Or.inl w_14) (Or.inl w_23) (by decide) (t := .int) (t' := .int) (by decide) (by decide))))
    have F77 := (Fw65.other W71 (Or.inr (slot_ne (Or.inl w_21) (Or.inl w_23) (by decide) (t := .long) (t' := .int) (by decide) (by decide))))
    have F78 := (((V53.other W59 ne0).other W65 ne0).other W71 ne0)
    have KK := ((((((((((Keep.refl h0 [x0, b]).wr W4 (Or.inl (List.mem_of_getElem? (i := 0) rfl))).wr W10 (Or.inl (List.mem_of_getElem? (i := 0) rfl))).wr W26 (Or.inl (List.mem_of_getElem? (i := 1) rfl))).wr W35 (Or.inl (List.mem_of_getElem? (i := 1) rfl))).wr W44 (Or.inl (List.mem_of_getElem? (i := 1) rfl))).wr W53 (Or.inl (List.mem_of_getElem? (i := 1) rfl))).wr W59 (Or.inl (List.mem_of_getElem? (i := 0) rfl))).wr W65 (Or.inl (List.mem_of_getElem? (i := 0) rfl))).wr W71 (Or.inl (List.mem_of_getElem? (i := 0) rfl)))
    have hsub : ((pk + x2) - (32 : Int32)).toInt = (k + c2 : Nat) - 32 := by
      have e := c_isub (pk + x2) 32
      have r := rng32 ((pk + x2) - 32)
      simp only [Int32.reduceToInt] at e
      omega
    generalize hp' : (pe ||| (x1 <<< (pk &&& 0x3f).toInt64)) = p' at *
    have y0 := own_byL p'
    have y1 := own_byL (p'.toUInt64 >>> ((8 : Int32) &&& 0x3f).toInt64.toUInt64).toInt64
    have y2 := own_byL (p'.toUInt64 >>> ((16 : Int32) &&& 0x3f).toInt64.toUInt64).toInt64
    have y3 := own_byL (p'.toUInt64 >>> ((24 : Int32) &&& 0x3f).toInt64.toUInt64).toInt64
    rw [own_Nushr p' 8 8 (by decide) (by decide), f1] at y1
    rw [own_Nushr p' 16 16 (by decide) (by decide), f1] at y2
    rw [own_Nushr p' 24 24 (by decide) (by decide), f1] at y3
    rw [f1] at y0
    have y4 := own_Nushr p' 32 32 (by decide) (by decide)
    rw [f1, Nat.div_div_eq_div_mul, ← Nat.pow_add] at y4
    exact g_retV X71 hx hlk hret (Jvm.hb hby d3_141) (Nat.zero_le _) (Nat.zero_le _) (by
      rw [e71]
      refine ⟨rfl, N71, KK, mw + 1, _, _, _, ⟨F74, F75, F76, F77, Fw71⟩, F78.congr (fun i _ => ?_), by rw [z4]; omega, by rw [y4]; congr 2, by rw [hsub]; omega, by omega, by omega⟩
      rw [own_id, own_id, own_id, own_id, y0, y1, y2, y3, f2] at *
      rw [own_fb_add S mw A (own_N x1 * 2 ^ k) fill i]
      exact own_fb4 S mw _ fill _ _ _ _ _ _ _ _ (by rw [own_clamp]; omega) (by rw [own_clamp]; omega) (by rw [own_clamp]; omega) (by rw [own_clamp]; omega) rfl rfl rfl rfl i)
def own_Q4 (Z : State) (n0 : Nat) (x0 b : Addr) (S : Nat) (fill : Int32) (A t : Nat) (h0 : Heap) (v : Option Value) (h : Heap) (L : List Loc) : Prop := (∃ z : Int32, v = some (.int z) ∧ z.toInt = ((S + (t + 7) / 8 : Nat) : Int)) ∧ Fr n0 L ∧ Keep h0 h [x0, b] ∧ own_IA Z h b .byte 16 (own_fb S ((t + 7) / 8) A fill)
theorem own_fb1 (S j A : Nat) (fill b0 : Int32) (p0 : Nat) (h0 : p0 = S + j) (e0 : b0 = own_by (A / 2 ^ (8 * j))) (i : Nat) : (if i = p0 then b0 else own_fb S j A fill i) = own_fb S (j + 1) A fill i := by
  by_cases q0 : i = p0
  · rw [if_pos q0, e0, own_fb, if_pos (by omega), show i - S = j by omega]
  · rw [if_neg q0]
    unfold own_fb
    by_cases q : S ≤ i ∧ i < S + j
    · rw [if_pos q, if_pos (by omega)]
    · rw [if_neg q, if_neg (by omega)]
theorem d4_0 : decode prog_142_method_4_code 0 = .ok (.aload_n 0, 1) := by decide +kernel
theorem d4_1 : decode prog_142_method_4_code 1 = .ok (.getfield 21, 3) := by decide +kernel
theorem d4_4 : decode prog_142_method_4_code 4 = .ok (.ifCond .le 50, 3) := by decide +kernel
theorem d4_54 : decode prog_142_method_4_code 54 = .ok (.aload_n 0, 1) := by decide +kernel
theorem d4_55 : decode prog_142_method_4_code 55 = .ok (.iconst 0, 1) := by decide +kernel
theorem d4_56 : decode prog_142_method_4_code 56 = .ok (.putfield 21, 3) := by decide +kernel
theorem d4_59 : decode prog_142_method_4_code 59 = .ok (.aload_n 0, 1) := by decide +kernel
theorem d4_60 : decode prog_142_method_4_code 60 = .ok (.getfield 13, 3) := by decide +kernel
theorem d4_63 : decode prog_142_method_4_code 63 = .ok (.ireturn, 1) := by decide +kernel
theorem d4_7 : decode prog_142_method_4_code 7 = .ok (.aload_n 0, 1) := by decide +kernel
theorem d4_8 : decode prog_142_method_4_code 8 = .ok (.getfield 7, 3) := by decide +kernel
theorem d4_11 : decode prog_142_method_4_code 11 = .ok (.aload_n 0, 1) := by decide +kernel
theorem d4_12 : decode prog_142_method_4_code 12 = .ok (.dup, 1) := by decide +kernel
theorem d4_13 : decode prog_142_method_4_code 13 = .ok (.getfield 13, 3) := by decide +kernel
theorem d4_16 : decode prog_142_method_4_code 16 = .ok (.dup_x1, 1) := by decide +kernel
theorem d4_17 : decode prog_142_method_4_code 17 = .ok (.iconst 1, 1) := by decide +kernel
theorem d4_18 : decode prog_142_method_4_code 18 = .ok (.iadd, 1) := by decide +kernel
theorem d4_19 : decode prog_142_method_4_code 19 = .ok (.putfield 13, 3) := by decide +kernel
theorem d4_22 : decode prog_142_method_4_code 22 = .ok (.aload_n 0, 1) := by decide +kernel
theorem d4_23 : decode prog_142_method_4_code 23 = .ok (.getfield 17, 3) := by decide +kernel
theorem d4_26 : decode prog_142_method_4_code 26 = .ok (.l2i, 1) := by decide +kernel
theorem d4_27 : decode prog_142_method_4_code 27 = .ok (.i2b, 1) := by decide +kernel
theorem d4_28 : decode prog_142_method_4_code 28 = .ok (.bastore, 1) := by decide +kernel
theorem d4_29 : decode prog_142_method_4_code 29 = .ok (.aload_n 0, 1) := by decide +kernel
theorem d4_30 : decode prog_142_method_4_code 30 = .ok (.dup, 1) := by decide +kernel
theorem d4_31 : decode prog_142_method_4_code 31 = .ok (.getfield 17, 3) := by decide +kernel
theorem d4_34 : decode prog_142_method_4_code 34 = .ok (.bipush 8, 2) := by decide +kernel
theorem d4_36 : decode prog_142_method_4_code 36 = .ok (.lushr, 1) := by decide +kernel
theorem d4_37 : decode prog_142_method_4_code 37 = .ok (.putfield 17, 3) := by decide +kernel
theorem d4_40 : decode prog_142_method_4_code 40 = .ok (.aload_n 0, 1) := by decide +kernel
theorem d4_41 : decode prog_142_method_4_code 41 = .ok (.dup, 1) := by decide +kernel
theorem d4_42 : decode prog_142_method_4_code 42 = .ok (.getfield 21, 3) := by decide +kernel
theorem d4_45 : decode prog_142_method_4_code 45 = .ok (.bipush 8, 2) := by decide +kernel
theorem d4_47 : decode prog_142_method_4_code 47 = .ok (.isub, 1) := by decide +kernel
theorem d4_48 : decode prog_142_method_4_code 48 = .ok (.putfield 21, 3) := by decide +kernel
theorem d4_51 : decode prog_142_method_4_code 51 = .ok (.goto (-51), 3) := by decide +kernel
theorem ef_4 (m : MethodId) (x0 : Addr) : entryFrame m #[(.ref x0)] 1 = mkF m 0 #[.val (.ref x0)] [] := by first | (simp [entryFrame, mkF, argsToLocals, Value.category]; done) | rfl
set_option maxRecDepth 65536 in
set_option maxHeartbeats 40000000 in
theorem rm4 (l : Launch) (Z : State) (a0 : Array Value) (hw : ∀ d ∈ tables_1, d.before a0 Z = true) (ws : List Jvm.Cond) (x0 b : Addr) (S : Nat) (fill : Int32) (A t mw : Nat) (h0 : Heap) (n0 : Nat) (Z0 : n0 ≤ h0.size) (g0 : n0 ≤ x0) (g1 : n0 ≤ b) (ne0 : b ≠ x0) (W0 : own_BW Z h0 x0 b S fill A t mw) (hS : S ≤ 3) (ht : t ≤ 96) :
    MetFree l (⟨"com/example/tierstone/tierstone/compress/BitWriter", "end", "()I"⟩ : MethodName) (head1 (Jvm.Cond.code (⟨"com/example/tierstone/tierstone/compress/BitWriter", "end", "()I"⟩ : MethodName) prog_142_method_4_code 1 (some .int) :: ws) ({ frames := 0, cells := 0, slots := 0, locals := 0 } : Room)) (fun a U => a = #[(.ref x0)] ∧ Z.Warmed39 U.vm ∧ U.heap = h0) (fun _ _ _ _ _ => True) (fun _ U o U' => ∃ v L, o = .returned v ∧ (own_Q4 Z n0 x0 b S fill A t h0) v U'.heap L ∧ FrameEnd U o U' L ({ frames := 0, cells := 0, slots := 0, locals := 0 } : Room).cells ({ frames := 0, cells := 0, slots := 0, locals := 0 } : Room).slots) := by
  refine own_body (own := "com/example/tierstone/tierstone/compress/BitWriter") pn_0 rfl (fun m => ef_4 m x0) ?_
  intro p e s m below meth c T0 hx hby hml hown hnm hlk hret hZ X0 e0
  have w_3 := hw _ (List.mem_of_getElem? (i := 3) rfl)
  have w_11 := hw _ (List.mem_of_getElem? (i := 11) rfl)
  have w_12 := hw _ (List.mem_of_getElem? (i := 12) rfl)
  have w_13 := hw _ (List.mem_of_getElem? (i := 13) rfl)
  have w_14 := hw _ (List.mem_of_getElem? (i := 14) rfl)
  have w_20 := hw _ (List.mem_of_getElem? (i := 20) rfl)
  have w_21 := hw _ (List.mem_of_getElem? (i := 21) rfl)
  have w_22 := hw _ (List.mem_of_getElem? (i := 22) rfl)
  have w_23 := hw _ (List.mem_of_getElem? (i := 23) rfl)
  have N0 := Fr.nil n0
  obtain ⟨po, pe, pk, B0, V0, hpo, hpe, hpk, hp0, hp1⟩ := W0
  have lp : ∀ (k : Nat), ∀ (Tk1 : State), ∀ (hk1 : Heap), ∀ (lck1 : List Loc), ∀ (Xk1 : Stand p l e ({ frames := 0, cells := 0, slots := 0, locals := 0 } : Room) s m #[(.ref x0)] below meth c Tk1 lck1 0 0), ∀ (ek1 : Tk1.heap = hk1), ∀ (Nk1 : Fr n0 lck1), ∀ (Zk1 : n0 ≤ hk1.size), ∀ (j : Nat), ∀ (qo : Int32), ∀ (qe : Int64), ∀ (qk : Int32), ∀ (Fk1_0 : Exa Z hk1 x0 "com/example/tierstone/tierstone/compress/BitWriter"), ∀ (Fk1_1 : Fld Z hk1 x0 "com/example/tierstone/tierstone/compress/BitWriter" "bytes" "[B" (.ref b)), ∀ (Fk1_2 : Fld Z hk1 x0 "com/example/tierstone/tierstone/compress/BitWriter" "position" "I" (.int qo)), ∀ (Fk1_3 : Fld Z hk1 x0 "com/example/tierstone/tierstone/compress/BitWriter" "pending" "J" (.long qe)), ∀ (Fk1_4 : Fld Z hk1 x0 "com/example/tierstone/tierstone/compress/BitWriter" "pendingCount" "I" (.int qk)), ∀ (Fk1_5 : own_IA Z hk1 b .byte 16 (own_fb S j A fill)), ∀ (KK : Keep h0 hk1 [x0, b]), ∀ (hqo : qo.toInt = S + j), ∀ (hqe : own_N qe = A / 2 ^ (8 * j)), ∀ (hqk : qk.toInt = t - 8 * j), ∀ (hjk : j + k = (t + 7) / 8), ∀ (hj2 : 8 * j ≤ t + 7), own_Gl p e below s (own_Q4 Z n0 x0 b S fill A t h0) ({ frames := 0, cells := 0, slots := 0, locals := 0 } : Room).cells ({ frames := 0, cells := 0, slots := 0, locals := 0 } : Room).slots (Tk1.setTop (mkF m 0 #[.val (.ref x0)] [])) := by
    intro k
    induction k with
    | zero =>
      intro Tk1 hk1 lck1 Xk1 ek1 Nk1 Zk1 j qo qe qk Fk1_0 Fk1_1 Fk1_2 Fk1_3 Fk1_4 Fk1_5 KK hqo hqe hqk hjk hj2
      refine g_aloadN Xk1.here hx (Jvm.hb hby d4_0) (pc' := 1) rfl rfl rfl ?_
      refine g_getF Xk1 hx hZ hown (host := "") (Or.inl w_22) Via.refl ek1 Fk1_4 (Jvm.hb hby d4_1) (pc' := 4) rfl ?_
      intro T2 X2 e2
      refine g_ifY X2.here hx (Jvm.hb hby d4_4) (by decide) (pc' := 54) (by decide) ((if0 _ _).trans (flt (by rw [Int32.lt_iff_toInt_lt]; simp only [Int32.reduceToInt]; omega)).2.2.2) ?_
      refine g_aloadN X2.here hx (Jvm.hb hby d4_54) (pc' := 55) rfl rfl rfl ?_
      refine g_iconst X2.here hx (Jvm.hb hby d4_55) (pc' := 56) rfl (z := (0 : Int32)) rfl ?_
      refine g_putF X2 hx hZ hown (host := "") (Or.inl w_22) Via.refl e2 Fk1_4 Fk1_0 (Or.inl w_23) w_3 (ty := .int) (by decide) rfl rfl (Jvm.hb hby d4_56) (pc' := 59) rfl ?_
      intro T3 hh3 X3 e3 W3
      have Fw3 := Fk1_4.same W3
      have N3 := Fr.snoc X3 Nk1 g0
      have Z4 : n0 ≤ hh3.size := (by rw [W3.size]; exact Zk1)
      refine g_aloadN X3.here hx (Jvm.hb hby d4_59) (pc' := 60) rfl rfl rfl ?_
      have F5 := (Fk1_2.other W3 (Or.inr (slot_ne (Or.inl w_14) (Or.inl w_23) (by decide) (t := .int) (t' := .int) (by decide) (by decide))))
      refine g_getF X3 hx hZ hown (host := "") (Or.inl w_13) Via.refl e3 F5 (Jvm.hb hby d4_60) (pc' := 63) rfl ?_
      intro T6 X6 e6
      have F7 := (Fk1_5.other W3 ne0)
      have K2 := KK.wr W3 (Or.inl (List.mem_of_getElem? (i := 0) rfl))
      have hj : j = (t + 7) / 8 := by omega
      subst hj
      exact g_retI X6 hx hlk hret (Jvm.hb hby d4_63) (Nat.zero_le _) (Nat.zero_le _) (by rw [e6]; exact ⟨⟨qo, rfl, by omega⟩, N3, K2, F7⟩)
    | succ k ih =>
      intro Tk1 hk1 lck1 Xk1 ek1 Nk1 Zk1 j qo qe qk Fk1_0 Fk1_1 Fk1_2 Fk1_3 Fk1_4 Fk1_5 KK hqo hqe hqk hjk hj2
      refine g_aloadN Xk1.here hx (Jvm.hb hby d4_0) (pc' := 1) rfl rfl rfl ?_
      refine g_getF Xk1 hx hZ hown (host := "") (Or.inl w_22) Via.refl ek1 Fk1_4 (Jvm.hb hby d4_1) (pc' := 4) rfl ?_
      intro T8 X8 e8
      refine g_ifN X8.here hx (Jvm.hb hby d4_4) (pc' := 7) rfl ((if0 _ _).trans (tlt (by rw [Int32.lt_iff_toInt_lt]; simp only [Int32.reduceToInt]; omega)).2.2.2) ?_
      refine g_aloadN X8.here hx (Jvm.hb hby d4_7) (pc' := 8) rfl rfl rfl ?_
      refine g_getF X8 hx hZ hown (host := "") (Or.inl w_11) Via.refl e8 Fk1_1 (Jvm.hb hby d4_8) (pc' := 11) rfl ?_
      intro T9 X9 e9
      refine g_aloadN X9.here hx (Jvm.hb hby d4_11) (pc' := 12) rfl rfl rfl ?_
      refine g_dup X9.here hx (Jvm.hb hby d4_12) (pc' := 13) rfl rfl ?_
      refine g_getF X9 hx hZ hown (host := "") (Or.inl w_13) Via.refl e9 Fk1_2 (Jvm.hb hby d4_13) (pc' := 16) rfl ?_
      intro T10 X10 e10
      refine g_dupX1 X10.here hx (Jvm.hb hby d4_16) (pc' := 17) rfl rfl rfl ?_
      refine g_iconst X10.here hx (Jvm.hb hby d4_17) (pc' := 18) rfl (z := (1 : Int32)) rfl ?_
      refine g_iadd X10.here hx (Jvm.hb hby d4_18) (pc' := 19) rfl ?_
      refine g_putF X10 hx hZ hown (host := "") (Or.inl w_13) Via.refl e10 Fk1_2 Fk1_0 (Or.inl w_14) w_3 (ty := .int) (by decide) rfl rfl (Jvm.hb hby d4_19) (pc' := 22) rfl ?_
      intro T11 hh11 X11 e11 W11
      have Fw11 := Fk1_2.same W11
      have N11 := Fr.snoc X11 Nk1 g0
      have Z12 : n0 ≤ hh11.size := (by rw [W11.size]; exact Zk1)
      refine g_aloadN X11.here hx (Jvm.hb hby d4_22) (pc' := 23) rfl rfl rfl ?_
      have F13 := (Fk1_3.other W11 (Or.inr (slot_ne (Or.inl w_21) (Or.inl w_14) (by decide) (t := .long) (t' := .int) (by decide) (by decide))))
      refine g_getF X11 hx hZ hown (host := "") (Or.inl w_20) Via.refl e11 F13 (Jvm.hb hby d4_23) (pc' := 26) rfl ?_
      intro T14 X14 e14
      refine g_l2i X14.here hx (Jvm.hb hby d4_26) (pc' := 27) rfl ?_
      refine g_i2b X14.here hx (Jvm.hb hby d4_27) (pc' := 28) rfl ?_
      have F15 := (Fk1_5.other W11 ne0)
      refine g_bastore X14 hx hZ e14 F15 (by omega) (Jvm.hb hby d4_28) (pc' := 29) rfl ?_
      intro T16 hh16 X16 e16 W16 V16
      have N16 := Fr.snoc X16 N11 g1
      have Z17 : n0 ≤ hh16.size := (by rw [W16.size]; exact Z12)
      refine g_aloadN X16.here hx (Jvm.hb hby d4_29) (pc' := 30) rfl rfl rfl ?_
      refine g_dup X16.here hx (Jvm.hb hby d4_30) (pc' := 31) rfl rfl ?_
      have F18 := (F13.other W16 (Or.inl (Ne.symm ne0)))
      refine g_getF X16 hx hZ hown (host := "") (Or.inl w_20) Via.refl e16 F18 (Jvm.hb hby d4_31) (pc' := 34) rfl ?_
      intro T19 X19 e19
      refine g_bipush X19.here hx (Jvm.hb hby d4_34) (pc' := 36) rfl (z := (8 : Int32)) rfl ?_
      refine g_lushr X19.here hx (Jvm.hb hby d4_36) (pc' := 37) rfl ?_
      have F20 := ((Fk1_0.wr W11).wr W16)
      refine g_putF X19 hx hZ hown (host := "") (Or.inl w_20) Via.refl e19 F18 F20 (Or.inl w_21) w_3 (ty := .long) (by decide) rfl rfl (Jvm.hb hby d4_37) (pc' := 40) rfl ?_
      intro T21 hh21 X21 e21 W21
      have Fw21 := F18.same W21
      have N21 := Fr.snoc X21 N16 g0
      have Z22 : n0 ≤ hh21.size := (by rw [W21.size]; exact Z17)
      refine g_aloadN X21.here hx (Jvm.hb hby d4_40) (pc' := 41) rfl rfl rfl ?_
      refine g_dup X21.here hx (Jvm.hb hby d4_41) (pc' := 42) rfl rfl ?_
      have F23 := (((Fk1_4.other W11 (Or.inr (slot_ne (Or.inl w_23) (Or.inl w_14) (by decide) (t := .int) (t' := .int) (by decide) (by decide)))).other W16 (Or.inl (Ne.symm ne0))).other W21 (Or.inr (slot_ne (Or.inl w_23) (Or.inl w_21) (by decide) (t := .int) (t' := .long) (by decide) (by decide))))
      refine g_getF X21 hx hZ hown (host := "") (Or.inl w_22) Via.refl e21 F23 (Jvm.hb hby d4_42) (pc' := 45) rfl ?_
      intro T24 X24 e24
      refine g_bipush X24.here hx (Jvm.hb hby d4_45) (pc' := 47) rfl (z := (8 : Int32)) rfl ?_
      refine g_isub X24.here hx (Jvm.hb hby d4_47) (pc' := 48) rfl ?_
      have F25 := (F20.wr W21)
      refine g_putF X24 hx hZ hown (host := "") (Or.inl w_22) Via.refl e24 F23 F25 (Or.inl w_23) w_3 (ty := .int) (by decide) rfl rfl (Jvm.hb hby d4_48) (pc' := 51) rfl ?_
      intro T26 hh26 X26 e26 W26
      have Fw26 := F23.same W26
      have N26 := Fr.snoc X26 N21 g0
      have Z27 : n0 ≤ hh26.size := (by rw [W26.size]; exact Z22)
      refine g_goto X26.here hx (Jvm.hb hby d4_51) (by decide) (pc' := 0) (by decide) ?_
      have F28 := (F25.wr W26)
      have F29 := ((((Fk1_1.other W11 (Or.inr (slot_ne (Or.inr w_12) (Or.inl w_14) (by decide) (t := (.array .byte)) (t' := .int) (by decide) (by decide)))).other W16 (Or.inl (Ne.symm ne0))).other W21 (Or.inr (slot_ne (Or.inr w_12) (Or.inl w_21) (by decide) (t := (.array .byte)) (t' := .long) (by decide) (by decide)))).other W26 (Or.inr (slot_ne (Or.inr w_12) (Or.inl w_23) (by decide) (t := (.array .byte)) (t' := .int) (by decide) (by decide))))
      have F30 := (((Fw11.other W16 (Or.inl (Ne.symm ne0))).other W21 (Or.inr (slot_ne (Or.inl w_14) (Or.inl w_21) (by decide) (t := .int) (t' := .long) (by decide) (by decide)))).other W26 (Or.inr (slot_ne (Or.inl w_14) (Or.inl w_23) (by decide) (t := .int) (t' := .int) (by decide) (by decide))))
      have F31 := (Fw21.other W26 (Or.inr (slot_ne (Or.inl w_21) (Or.inl w_23) (by decide) (t := .long) (t' := .int) (by decide) (by decide))))
      have F32 := ((V16.other W21 ne0).other W26 ne0)
      have z1 := own_pos qo (1 : Int32) (S + j) 1 (by omega) (by decide) (by omega)
      have z2 : (qk - (8 : Int32)).toInt = qk.toInt - 8 := by
        have e := c_isub qk 8
        have r := rng32 (qk - 8)
        have r2 := rng32 qk
        simp only [Int32.reduceToInt] at e
        omega
      refine ih T26 hh26 _ X26 e26 N26 Z27 (j + 1) _ _ _ F28 F29 F30 F31 Fw26 (F32.congr (fun i _ => own_fb1 S j A fill _ _ (by rw [own_clamp]; omega) (by rw [own_id, own_byL, hqe]) i)) ((((KK.wr W11 (Or.inl (List.mem_of_getElem? (i := 0) rfl))).wr W16 (Or.inl (List.mem_of_getElem? (i := 1) rfl))).wr W21 (Or.inl (List.mem_of_getElem? (i := 0) rfl))).wr W26 (Or.inl (List.mem_of_getElem? (i := 0) rfl))) (by rw [z1]; omega) ?_ (by rw [z2]; omega) (by omega) (by omega)
      rw [own_Nushr qe 8 8 (by decide) (by decide), hqe, Nat.div_div_eq_div_mul, ← Nat.pow_add]
      congr 2
  obtain ⟨E1, F1, F2, F3, F4⟩ := B0
  exact lp ((t + 7) / 8 - 4 * mw) T0 h0 [] X0 e0 N0 Z0 (4 * mw) po pe pk E1 F1 F2 F3 F4 V0 (Keep.refl h0 [x0, b]) (by omega) (by rw [hpe]; congr 2; omega) (by omega) (by omega) (by omega)
def f_e (x1 x2 x3 x4 : Int32) (x5 x6 : Int64) : Int32 := if (x1 - x2) < (0 : Int32) then x4 else if (x1 - x2) < x3 then (if (x1 - x2) < (8 : Int32) then (((x5.toUInt64 >>> (((8 : Int32) * (x1 - x2)) &&& 0x3f).toInt64.toUInt64).toInt64).toInt32.toInt8.toInt32) else (((x6.toUInt64 >>> (((8 : Int32) * ((x1 - x2) - (8 : Int32))) &&& 0x3f).toInt64.toUInt64).toInt64).toInt32.toInt8.toInt32)) else x4
def f_ok (f : Nat → Int32) (x1 x2 x3 x4 : Int32) (x5 x6 : Int64) : Int32 := if f x1.toNatClampNeg = f_e x1 x2 x3 x4 x5 x6 then (1 : Int32) else (0 : Int32)
theorem d5_0 : decode method_3_code 0 = .ok (.iload_n 1, 1) := by decide +kernel
theorem d5_1 : decode method_3_code 1 = .ok (.iload_n 2, 1) := by decide +kernel
theorem d5_2 : decode method_3_code 2 = .ok (.isub, 1) := by decide +kernel
theorem d5_3 : decode method_3_code 3 = .ok (.istore 9, 2) := by decide +kernel
theorem d5_60 : decode method_3_code 60 = .ok (.aload_n 0, 1) := by decide +kernel
theorem d5_61 : decode method_3_code 61 = .ok (.iload_n 1, 1) := by decide +kernel
theorem d5_62 : decode method_3_code 62 = .ok (.baload, 1) := by decide +kernel
theorem d5_63 : decode method_3_code 63 = .ok (.iload 10, 2) := by decide +kernel
theorem d5_65 : decode method_3_code 65 = .ok (.if_icmp .ne 7, 3) := by decide +kernel
theorem d5_68 : decode method_3_code 68 = .ok (.iconst 1, 1) := by decide +kernel
theorem d5_69 : decode method_3_code 69 = .ok (.goto 4, 3) := by decide +kernel
theorem d5_73 : decode method_3_code 73 = .ok (.ireturn, 1) := by decide +kernel
theorem d5_72 : decode method_3_code 72 = .ok (.iconst 0, 1) := by decide +kernel
theorem d5_5 : decode method_3_code 5 = .ok (.iload 9, 2) := by decide +kernel
theorem d5_7 : decode method_3_code 7 = .ok (.ifCond .lt 9, 3) := by decide +kernel
theorem d5_16 : decode method_3_code 16 = .ok (.iload 4, 2) := by decide +kernel
theorem d5_18 : decode method_3_code 18 = .ok (.istore 10, 2) := by decide +kernel
theorem d5_20 : decode method_3_code 20 = .ok (.goto 40, 3) := by decide +kernel
theorem d5_10 : decode method_3_code 10 = .ok (.iload 9, 2) := by decide +kernel
theorem d5_12 : decode method_3_code 12 = .ok (.iload_n 3, 1) := by decide +kernel
theorem d5_13 : decode method_3_code 13 = .ok (.if_icmp .lt 10, 3) := by decide +kernel
theorem d5_23 : decode method_3_code 23 = .ok (.iload 9, 2) := by decide +kernel
theorem d5_25 : decode method_3_code 25 = .ok (.bipush 8, 2) := by decide +kernel
theorem d5_27 : decode method_3_code 27 = .ok (.if_icmp .ge 18, 3) := by decide +kernel
theorem d5_30 : decode method_3_code 30 = .ok (.lload 5, 2) := by decide +kernel
theorem d5_32 : decode method_3_code 32 = .ok (.bipush 8, 2) := by decide +kernel
theorem d5_34 : decode method_3_code 34 = .ok (.iload 9, 2) := by decide +kernel
theorem d5_36 : decode method_3_code 36 = .ok (.imul, 1) := by decide +kernel
theorem d5_37 : decode method_3_code 37 = .ok (.lushr, 1) := by decide +kernel
theorem d5_38 : decode method_3_code 38 = .ok (.l2i, 1) := by decide +kernel
theorem d5_39 : decode method_3_code 39 = .ok (.i2b, 1) := by decide +kernel
theorem d5_40 : decode method_3_code 40 = .ok (.istore 10, 2) := by decide +kernel
theorem d5_42 : decode method_3_code 42 = .ok (.goto 18, 3) := by decide +kernel
theorem d5_45 : decode method_3_code 45 = .ok (.lload 7, 2) := by decide +kernel
theorem d5_47 : decode method_3_code 47 = .ok (.bipush 8, 2) := by decide +kernel
theorem d5_49 : decode method_3_code 49 = .ok (.iload 9, 2) := by decide +kernel
theorem d5_51 : decode method_3_code 51 = .ok (.bipush 8, 2) := by decide +kernel
theorem d5_53 : decode method_3_code 53 = .ok (.isub, 1) := by decide +kernel
theorem d5_54 : decode method_3_code 54 = .ok (.imul, 1) := by decide +kernel
theorem d5_55 : decode method_3_code 55 = .ok (.lushr, 1) := by decide +kernel
theorem d5_56 : decode method_3_code 56 = .ok (.l2i, 1) := by decide +kernel
theorem d5_57 : decode method_3_code 57 = .ok (.i2b, 1) := by decide +kernel
theorem d5_58 : decode method_3_code 58 = .ok (.istore 10, 2) := by decide +kernel
theorem pn_1 : plainName "com/example/tierstone/tierstone/compress/BitWriterAddPinLaw" = true := by first | (simp [plainName, overriddenIn]; done) | decide +kernel
theorem ef_5 (m : MethodId) (x0 : Addr) (x1 : Int32) (x2 : Int32) (x3 : Int32) (x4 : Int32) (x5 : Int64) (x6 : Int64) : entryFrame m #[(.ref x0), (.int x1), (.int x2), (.int x3), (.int x4), (.long x5), (.long x6)] 11 = mkF m 0 #[.val (.ref x0), .val (.int x1), .val (.int x2), .val (.int x3), .val (.int x4), .val (.long x5), .second, .val (.long x6), .second, .unset, .unset] [] := by first | (simp [entryFrame, mkF, argsToLocals, Value.category]; done) | rfl
set_option maxRecDepth 65536 in
set_option maxHeartbeats 40000000 in
theorem rm5 (l : Launch) (Z : State) (a0 : Array Value) (hw : ∀ d ∈ tables_1, d.before a0 Z = true) (ws : List Jvm.Cond) (x0 : Addr) (x1 : Int32) (x2 : Int32) (x3 : Int32) (x4 : Int32) (x5 : Int64) (x6 : Int64) (f : Nat → Int32) (h0 : Heap) (V0 : own_IA Z h0 x0 .byte 16 f) (hin : 0 ≤ x1.toInt ∧ x1.toInt < (16 : Nat)) :
    MetFree l (⟨"com/example/tierstone/tierstone/compress/BitWriterAddPinLaw", "ok", "([BIIIBJJ)Z"⟩ : MethodName) (head1 (Jvm.Cond.code (⟨"com/example/tierstone/tierstone/compress/BitWriterAddPinLaw", "ok", "([BIIIBJJ)Z"⟩ : MethodName) method_3_code 11 (some .boolean) :: ws) ({ frames := 0, cells := 0, slots := 0, locals := 0 } : Room)) (fun a U => a = #[(.ref x0), (.int x1), (.int x2), (.int x3), (.int x4), (.long x5), (.long x6)] ∧ Z.Warmed39 U.vm ∧ U.heap = h0) (fun _ _ _ _ _ => True) (fun _ U o U' => ∃ v L, o = .returned v ∧ (own_Pure (some (.int (f_ok f x1 x2 x3 x4 x5 x6))) h0) v U'.heap L ∧ FrameEnd U o U' L ({ frames := 0, cells := 0, slots := 0, locals := 0 } : Room).cells ({ frames := 0, cells := 0, slots := 0, locals := 0 } : Room).slots) := by
  refine own_body (own := "com/example/tierstone/tierstone/compress/BitWriterAddPinLaw") pn_1 rfl (fun m => ef_5 m x0 x1 x2 x3 x4 x5 x6) ?_
  intro p e s m below meth c T0 hx hby hml hown hnm hlk hret hZ X0 e0
  refine g_iloadN X0.here hx (Jvm.hb hby d5_0) (pc' := 1) rfl rfl ?_
  refine g_iloadN X0.here hx (Jvm.hb hby d5_1) (pc' := 2) rfl rfl ?_
  refine g_isub X0.here hx (Jvm.hb hby d5_2) (pc' := 3) rfl ?_
  refine g_istore X0.here hx (Jvm.hb hby d5_3) (pc' := 5) rfl (L' := #[.val (.ref x0), .val (.int x1), .val (.int x2), .val (.int x3), .val (.int x4), .val (.long x5), .second, .val (.long x6), .second, .val (.int (x1 - x2)), .unset]) rfl ?_
  have k60 : ∀ (ev : Int32), ∀ (hev : f_e x1 x2 x3 x4 x5 x6 = ev), own_Gl p e below s (own_Pure (some (.int (f_ok f x1 x2 x3 x4 x5 x6))) h0) ({ frames := 0, cells := 0, slots := 0, locals := 0 } : Room).cells ({ frames := 0, cells := 0, slots := 0, locals := 0 } : Room).slots (T0.setTop (mkF m 60 #[.val (.ref x0), .val (.int x1), .val (.int x2), .val (.int x3), .val (.int x4), .val (.long x5), .second, .val (.long x6), .second, .val (.int (x1 - x2)), .val (.int ev)] [])) := by
    intro ev hev
    refine g_aloadN X0.here hx (Jvm.hb hby d5_60) (pc' := 61) rfl rfl rfl ?_
    refine g_iloadN X0.here hx (Jvm.hb hby d5_61) (pc' := 62) rfl rfl ?_
    refine g_baload X0 hx hZ e0 V0 hin (v := (f x1.toNatClampNeg)) rfl (Jvm.hb hby d5_62) (pc' := 63) rfl ?_
    refine g_iload X0.here hx (Jvm.hb hby d5_63) (pc' := 65) rfl rfl ?_
    by_cases hc65 : (f x1.toNatClampNeg) = ev
    · refine g_icN X0.here hx (Jvm.hb hby d5_65) (pc' := 68) rfl (teq hc65).2 ?_
      refine g_iconst X0.here hx (Jvm.hb hby d5_68) (pc' := 69) rfl (z := (1 : Int32)) rfl ?_
      refine g_goto X0.here hx (Jvm.hb hby d5_69) (by decide) (pc' := 73) (by decide) ?_
      exact g_retN X0 hx hlk (t := .boolean) hret (by simp) (z' := (1 : Int32)) rfl (Jvm.hb hby d5_73) (Nat.zero_le _) (Nat.zero_le _) ⟨congrArg (fun z => some (Value.int z)) (by rw [f_ok, hev, if_pos hc65]), rfl, e0⟩
    · refine g_icY X0.here hx (Jvm.hb hby d5_65) (by decide) (pc' := 72) (by decide) (feq hc65).2 ?_
      refine g_iconst X0.here hx (Jvm.hb hby d5_72) (pc' := 73) rfl (z := (0 : Int32)) rfl ?_
      exact g_retN X0 hx hlk (t := .boolean) hret (by simp) (z' := (0 : Int32)) rfl (Jvm.hb hby d5_73) (Nat.zero_le _) (Nat.zero_le _) ⟨congrArg (fun z => some (Value.int z)) (by rw [f_ok, hev, if_neg hc65]), rfl, e0⟩
  refine g_iload X0.here hx (Jvm.hb hby d5_5) (pc' := 7) rfl rfl ?_
  by_cases hc7 : (x1 - x2) < (0 : Int32)
  · refine g_ifY X0.here hx (Jvm.hb hby d5_7) (by decide) (pc' := 16) (by decide) ((if0 _ _).trans (tlt hc7).1) ?_
    refine g_iload X0.here hx (Jvm.hb hby d5_16) (pc' := 18) rfl rfl ?_
    refine g_istore X0.here hx (Jvm.hb hby d5_18) (pc' := 20) rfl (L' := #[.val (.ref x0), .val (.int x1), .val (.int x2), .val (.int x3), .val (.int x4), .val (.long x5), .second, .val (.long x6), .second, .val (.int (x1 - x2)), .val (.int x4)]) rfl ?_
    refine g_goto X0.here hx (Jvm.hb hby d5_20) (by decide) (pc' := 60) (by decide) ?_
    exact k60 _ (by rw [f_e, if_pos hc7])
  · refine g_ifN X0.here hx (Jvm.hb hby d5_7) (pc' := 10) rfl ((if0 _ _).trans (flt hc7).1) ?_
    refine g_iload X0.here hx (Jvm.hb hby d5_10) (pc' := 12) rfl rfl ?_
    refine g_iloadN X0.here hx (Jvm.hb hby d5_12) (pc' := 13) rfl rfl ?_
    by_cases hc13 : (x1 - x2) < x3
    · refine g_icY X0.here hx (Jvm.hb hby d5_13) (by decide) (pc' := 23) (by decide) (tlt hc13).1 ?_
      refine g_iload X0.here hx (Jvm.hb hby d5_23) (pc' := 25) rfl rfl ?_
      refine g_bipush X0.here hx (Jvm.hb hby d5_25) (pc' := 27) rfl (z := (8 : Int32)) rfl ?_
      by_cases hc27 : (x1 - x2) < (8 : Int32)
      · refine g_icN X0.here hx (Jvm.hb hby d5_27) (pc' := 30) rfl (tlt hc27).2.1 ?_
        refine g_lload X0.here hx (Jvm.hb hby d5_30) (pc' := 32) rfl rfl ?_
        refine g_bipush X0.here hx (Jvm.hb hby d5_32) (pc' := 34) rfl (z := (8 : Int32)) rfl ?_
        refine g_iload X0.here hx (Jvm.hb hby d5_34) (pc' := 36) rfl rfl ?_
        refine g_imul X0.here hx (Jvm.hb hby d5_36) (pc' := 37) rfl ?_
        refine g_lushr X0.here hx (Jvm.hb hby d5_37) (pc' := 38) rfl ?_
        refine g_l2i X0.here hx (Jvm.hb hby d5_38) (pc' := 39) rfl ?_
        refine g_i2b X0.here hx (Jvm.hb hby d5_39) (pc' := 40) rfl ?_
        refine g_istore X0.here hx (Jvm.hb hby d5_40) (pc' := 42) rfl (L' := #[.val (.ref x0), .val (.int x1), .val (.int x2), .val (.int x3), .val (.int x4), .val (.long x5), .second, .val (.long x6), .second, .val (.int (x1 - x2)), .val (.int ((((x5.toUInt64 >>> (((8 : Int32) * (x1 - x2)) &&& 0x3f).toInt64.toUInt64).toInt64).toInt32).toInt8.toInt32))]) rfl ?_
        refine g_goto X0.here hx (Jvm.hb hby d5_42) (by decide) (pc' := 60) (by decide) ?_
        exact k60 _ (by rw [f_e, if_neg hc7, if_pos hc13, if_pos hc27])
      · refine g_icY X0.here hx (Jvm.hb hby d5_27) (by decide) (pc' := 45) (by decide) (flt hc27).2.1 ?_
        refine g_lload X0.here hx (Jvm.hb hby d5_45) (pc' := 47) rfl rfl ?_
        refine g_bipush X0.here hx (Jvm.hb hby d5_47) (pc' := 49) rfl (z := (8 : Int32)) rfl ?_
        refine g_iload X0.here hx (Jvm.hb hby d5_49) (pc' := 51) rfl rfl ?_
        refine g_bipush X0.here hx (Jvm.hb hby d5_51) (pc' := 53) rfl (z := (8 : Int32)) rfl ?_
        refine g_isub X0.here hx (Jvm.hb hby d5_53) (pc' := 54) rfl ?_
        refine g_imul X0.here hx (Jvm.hb hby d5_54) (pc' := 55) rfl ?_
        refine g_lushr X0.here hx (Jvm.hb hby d5_55) (pc' := 56) rfl ?_
        refine g_l2i X0.here hx (Jvm.hb hby d5_56) (pc' := 57) rfl ?_
        refine g_i2b X0.here hx (Jvm.hb hby d5_57) (pc' := 58) rfl ?_
        refine g_istore X0.here hx (Jvm.hb hby d5_58) (pc' := 60) rfl (L' := #[.val (.ref x0), .val (.int x1), .val (.int x2), .val (.int x3), .val (.int x4), .val (.long x5), .second, .val (.long x6), .second, .val (.int (x1 - x2)), .val (.int ((((x6.toUInt64 >>> (((8 : Int32) * ((x1 - x2) - (8 : Int32))) &&& 0x3f).toInt64.toUInt64).toInt64).toInt32).toInt8.toInt32))]) rfl ?_
        exact k60 _ (by rw [f_e, if_neg hc7, if_pos hc13, if_neg hc27])
    · refine g_icN X0.here hx (Jvm.hb hby d5_13) (pc' := 16) rfl (flt hc13).1 ?_
      refine g_iload X0.here hx (Jvm.hb hby d5_16) (pc' := 18) rfl rfl ?_
      refine g_istore X0.here hx (Jvm.hb hby d5_18) (pc' := 20) rfl (L' := #[.val (.ref x0), .val (.int x1), .val (.int x2), .val (.int x3), .val (.int x4), .val (.long x5), .second, .val (.long x6), .second, .val (.int (x1 - x2)), .val (.int x4)]) rfl ?_
      refine g_goto X0.here hx (Jvm.hb hby d5_20) (by decide) (pc' := 60) (by decide) ?_
      exact k60 _ (by rw [f_e, if_neg hc7, if_neg hc13])
theorem own_grow (A W t k : Nat) (hA : A < 2 ^ t) (hW : W < 2 ^ k) : A + W * 2 ^ t < 2 ^ (t + k) := by
  have h3 : W * 2 ^ t ≤ (2 ^ k - 1) * 2 ^ t := Nat.mul_le_mul_right _ (by omega)
  have h4 : (2 ^ k - 1) * 2 ^ t + 2 ^ t = 2 ^ k * 2 ^ t := by
    have := Nat.two_pow_pos k
    rw [← Nat.succ_mul]
    congr 1
    omega
  rw [Nat.pow_add, Nat.mul_comm (2 ^ t) (2 ^ k)]
  omega
theorem own_fb0 (S A : Nat) (fill : Int32) (i : Nat) : own_fb S (4 * 0) A fill i = fill := if_neg (by omega)
theorem own_okT (i st nn fill : Int32) (lo hi : Int64) (I S n A : Nat) (hi1 : i.toInt = I) (hI : I < 16) (hs : st.toInt = S) (hS : S ≤ 3) (hn : nn.toInt = n) (hn2 : n ≤ 12) (hlo : own_N lo = A % 2 ^ 64) (hhi : own_N hi = A / 2 ^ 64) : ¬ f_ok (own_fb S n A fill) i st nn fill lo hi = (0 : Int32) := by
  have e1 := c_isub i st
  have r1 := rng32 (i - st)
  have e2 : (i - st).toInt = (I : Int) - S := by omega
  have key : own_fb S n A fill i.toNatClampNeg = f_e i st nn fill lo hi := by
    rw [own_clamp, show i.toInt.toNat = I by omega, own_fb, f_e]
    simp only [Int32.lt_iff_toInt_lt, e2, hn, Int32.reduceToInt]
    by_cases q1 : (I : Int) - S < 0
    · rw [if_pos q1, if_neg (by omega)]
    · rw [if_neg q1]
      by_cases q2 : (I : Int) - S < n
      · rw [if_pos q2, if_pos (by omega)]
        by_cases q3 : (I : Int) - S < 8
        · rw [if_pos q3, own_byL]
          have e3 := c_imul 8 (i - st)
          have r3 := rng32 (8 * (i - st))
          simp only [Int32.reduceToInt] at e3
          rw [own_Nushr lo (8 * (i - st)) (8 * (I - S)) (by omega) (by omega), hlo]
          apply own_byM
          have p : 2 ^ 64 = 2 ^ (8 * (I - S)) * 2 ^ (64 - 8 * (I - S)) := by rw [← Nat.pow_add]; congr 1; omega
          have p2 : 2 ^ (64 - 8 * (I - S)) = 256 * 2 ^ (56 - 8 * (I - S)) := by rw [show (256 : Nat) = 2 ^ 8 from rfl, ← Nat.pow_add]; congr 1; omega
          rw [p, Nat.mod_mul_right_div_self, p2, Nat.mod_mul_right_mod]
        · rw [if_neg q3, own_byL]
          have e3 := c_isub (i - st) 8
          have r3 := rng32 ((i - st) - 8)
          have e4 := c_imul 8 ((i - st) - 8)
          have r4 := rng32 (8 * ((i - st) - 8))
          simp only [Int32.reduceToInt] at e3 e4
          rw [own_Nushr hi (8 * ((i - st) - 8)) (8 * (I - S - 8)) (by omega) (by omega), hhi, Nat.div_div_eq_div_mul, ← Nat.pow_add]
          congr 3
          omega
      · rw [if_neg q2, if_neg (by omega)]
  rw [f_ok, if_pos key]
  decide
theorem own_cnt (x : Int32) : ∃ k : Nat, ((x &&& (65535 : Int32)) % (33 : Int32)).toInt = k ∧ k ≤ 32 := by
  have e1 := c_mask x 65535 16 (by decide) (by decide)
  have e2 := c_irem (x &&& 65535) 33 33 (by decide)
  simp only [Nat.reducePow] at e1
  exact ⟨((x &&& (65535 : Int32)) % (33 : Int32)).toInt.toNat, by omega, by omega⟩
theorem own_start (x : Int32) : ∃ k : Nat, (((x.toUInt32 >>> ((16 : Int32) &&& 31).toUInt32).toInt32) &&& (3 : Int32)).toInt = k ∧ k ≤ 3 := by
  have e1 := c_mask ((x.toUInt32 >>> ((16 : Int32) &&& 31).toUInt32).toInt32) 3 2 (by decide) (by decide)
  simp only [Nat.reducePow] at e1
  exact ⟨(((x.toUInt32 >>> ((16 : Int32) &&& 31).toUInt32).toInt32) &&& (3 : Int32)).toInt.toNat, by omega, by omega⟩
theorem own_loA (w1 w2 : Int64) (c1 : Int32) (k1 k2 : Nat) (h1 : c1.toInt = k1) (hk1 : k1 ≤ 32) (hk2 : k2 ≤ 32) (hw1 : own_N w1 < 2 ^ k1) (hw2 : own_N w2 < 2 ^ k2) : own_N (w1 ||| (w2 <<< (c1 &&& 0x3f).toInt64)) = own_N w1 + own_N w2 * 2 ^ k1 ∧ own_N w1 + own_N w2 * 2 ^ k1 < 2 ^ (k1 + k2) := by
  have hX : own_N w2 * 2 ^ k1 ≤ (2 ^ k2 - 1) * 2 ^ k1 := Nat.mul_le_mul_right _ (by omega)
  have h4 : (2 ^ k2 - 1) * 2 ^ k1 + 2 ^ k1 = 2 ^ (k1 + k2) := by
    have := Nat.two_pow_pos k2
    rw [← Nat.succ_mul, Nat.add_comm k1, Nat.pow_add]
    congr 1
    omega
  have p : 2 ^ (k1 + k2) ≤ 2 ^ 64 := Nat.pow_le_pow_right (by decide) (by omega)
  have s := own_Nshl w2 c1 k1 h1 (by omega)
  have p0 := Nat.two_pow_pos k1
  rw [Nat.mod_eq_of_lt (by omega)] at s
  have o := own_Nor w1 (w2 <<< (c1 &&& 0x3f).toInt64) k1 hw1 (by rw [s]; exact Nat.mul_mod_left _ _)
  rw [o, s]
  exact ⟨rfl, by omega⟩
theorem own_loB (u w3 : Int64) (s : Int32) (k : Nat) (hs : s.toInt = k) (hk : k < 64) (hu : own_N u < 2 ^ k) : own_N (u ||| (w3 <<< (s &&& 0x3f).toInt64)) = (own_N u + own_N w3 * 2 ^ k) % 2 ^ 64 := by
  have sh := own_Nshl w3 s k hs hk
  have p : 2 ^ 64 = 2 ^ k * 2 ^ (64 - k) := by rw [← Nat.pow_add]; congr 1; omega
  have z : own_N w3 * 2 ^ k % 2 ^ 64 = 2 ^ k * (own_N w3 % 2 ^ (64 - k)) := by rw [p, Nat.mul_comm (own_N w3), Nat.mul_mod_mul_left]
  have o := own_Nor u (w3 <<< (s &&& 0x3f).toInt64) k hu (by rw [sh, z]; exact Nat.mul_mod_right _ _)
  rw [o, sh]
  have b : own_N w3 * 2 ^ k % 2 ^ 64 + own_N u < 2 ^ 64 := by
    have q : own_N w3 % 2 ^ (64 - k) < 2 ^ (64 - k) := Nat.mod_lt _ (Nat.two_pow_pos _)
    have q2 : 2 ^ k * (own_N w3 % 2 ^ (64 - k)) + 2 ^ k ≤ 2 ^ k * 2 ^ (64 - k) := by
      rw [← Nat.mul_succ]
      exact Nat.mul_le_mul_left _ q
    rw [z]
    omega
  have b2 : (own_N u + own_N w3 * 2 ^ k % 2 ^ 64) % 2 ^ 64 = own_N u + own_N w3 * 2 ^ k % 2 ^ 64 := Nat.mod_eq_of_lt (by omega)
  rw [Nat.add_mod, Nat.mod_eq_of_lt (show own_N u < 2 ^ 64 from own_Nlt u), b2]
theorem own_hiA (A W : Nat) (k : Nat) (hA : A < 2 ^ k) (hk : k ≤ 64) : (A + W * 2 ^ k) / 2 ^ 64 = W / 2 ^ (64 - k) := by
  have p : 2 ^ 64 = 2 ^ k * 2 ^ (64 - k) := by rw [← Nat.pow_add]; congr 1; omega
  rw [p, ← Nat.div_div_eq_div_mul, own_hi, Nat.div_eq_of_lt hA, Nat.zero_add]
theorem pd_0 : parseMethodDescriptor "([BI)V" = some ⟨[(.array .byte), .int], none⟩ := by decide +kernel
theorem pd_1 : parseMethodDescriptor "(JI)V" = some ⟨[.long, .int], none⟩ := by decide +kernel
theorem pd_2 : parseMethodDescriptor "()I" = some ⟨[], some .int⟩ := by decide +kernel
theorem pd_3 : parseMethodDescriptor "([BIIIBJJ)Z" = some ⟨[(.array .byte), .int, .int, .int, .byte, .long, .long], some .boolean⟩ := by decide +kernel
theorem ef_0 (m : MethodId) (x0 : Int64) (x1 : Int64) (x2 : Int64) (x3 : Int32) (x4 : Int32) (x5 : Int32) : entryFrame m #[(.long x0), (.long x1), (.long x2), (.int x3), (.int x4), (.int x5)] maxLocals = mkF m 0 #[.val (.long x0), .second, .val (.long x1), .second, .val (.long x2), .second, .val (.int x3), .val (.int x4), .val (.int x5), .unset, .unset, .unset, .unset, .unset, .unset, .unset, .unset, .unset, .unset, .unset, .unset, .unset, .unset, .unset, .unset, .unset, .unset, .unset, .unset, .unset] [] := by first | (simp [entryFrame, mkF, argsToLocals, Value.category, maxLocals]; done) | rfl
set_option maxRecDepth 65536 in
set_option maxHeartbeats 40000000 in
theorem rm0 (l : Launch) (Z : State) (a0 : Array Value) (hw : ∀ d ∈ tables_1, d.before a0 Z = true) (ws : List Jvm.Cond) (x0 : Int64) (x1 : Int64) (x2 : Int64) (x3 : Int32) (x4 : Int32) (x5 : Int32) (h0 : Heap) (n0 : Nat) (Z0 : n0 ≤ h0.size) :
    MetFree l x (head1 (Jvm.Cond.code x code maxLocals ret :: ws) room_1) (fun a U => a = #[(.long x0), (.long x1), (.long x2), (.int x3), (.int x4), (.int x5)] ∧ Z.Warmed39 U.vm ∧ U.heap = h0) (fun _ _ _ _ _ => True) (fun _ U o U' => ∃ v L, o = .returned v ∧ (own_Q0 n0) v U'.heap L ∧ FrameEnd U o U' L room_1.cells room_1.slots) := by
  refine own_body (own := "com/example/tierstone/tierstone/compress/BitWriterAddPinLaw") pn_1 rfl (fun m => ef_0 m x0 x1 x2 x3 x4 x5) ?_
  intro p e s m below meth c T0 hx hby hml hown hnm hlk hret hZ X0 e0
  have w_0 := hw _ (List.mem_of_getElem? (i := 0) rfl)
  have w_1 := hw _ (List.mem_of_getElem? (i := 1) rfl)
  have w_2 := hw _ (List.mem_of_getElem? (i := 2) rfl)
  have w_3 := hw _ (List.mem_of_getElem? (i := 3) rfl)
  have w_4 := hw _ (List.mem_of_getElem? (i := 4) rfl)
  have w_5 := hw _ (List.mem_of_getElem? (i := 5) rfl)
  have w_6 := hw _ (List.mem_of_getElem? (i := 6) rfl)
  have w_7 := hw _ (List.mem_of_getElem? (i := 7) rfl)
  have w_12 := hw _ (List.mem_of_getElem? (i := 12) rfl)
  have w_14 := hw _ (List.mem_of_getElem? (i := 14) rfl)
  have w_15 := hw _ (List.mem_of_getElem? (i := 15) rfl)
  have w_16 := hw _ (List.mem_of_getElem? (i := 16) rfl)
  have w_17 := hw _ (List.mem_of_getElem? (i := 17) rfl)
  have w_18 := hw _ (List.mem_of_getElem? (i := 18) rfl)
  have w_19 := hw _ (List.mem_of_getElem? (i := 19) rfl)
  have w_21 := hw _ (List.mem_of_getElem? (i := 21) rfl)
  have w_23 := hw _ (List.mem_of_getElem? (i := 23) rfl)
  have w_24 := hw _ (List.mem_of_getElem? (i := 24) rfl)
  have w_25 := hw _ (List.mem_of_getElem? (i := 25) rfl)
  have w_26 := hw _ (List.mem_of_getElem? (i := 26) rfl)
  have w_27 := hw _ (List.mem_of_getElem? (i := 27) rfl)
  have w_28 := hw _ (List.mem_of_getElem? (i := 28) rfl)
  have w_29 := hw _ (List.mem_of_getElem? (i := 29) rfl)
  have w_30 := hw _ (List.mem_of_getElem? (i := 30) rfl)
  have w_31 := hw _ (List.mem_of_getElem? (i := 31) rfl)
  have w_32 := hw _ (List.mem_of_getElem? (i := 32) rfl)
  have N0 := Fr.nil n0
  refine g_iload X0.here hx (Jvm.hb hby at_0) (pc' := 2) rfl rfl ?_
  refine g_ldc X0 hx hZ hown w_0 (Jvm.hb hby at_2) (pc' := 4) rfl ?_
  refine g_iand X0.here hx (Jvm.hb hby at_4) (pc' := 5) rfl ?_
  refine g_bipush X0.here hx (Jvm.hb hby at_5) (pc' := 7) rfl (z := (33 : Int32)) rfl ?_
  refine g_irem X0 hx (Jvm.hb hby at_7) (pc' := 8) rfl (by decide) ?_
  refine g_istore X0.here hx (Jvm.hb hby at_8) (pc' := 10) rfl (L' := #[.val (.long x0), .second, .val (.long x1), .second, .val (.long x2), .second, .val (.int x3), .val (.int x4), .val (.int x5), .val (.int ((x3 &&& (65535 : Int32)) % (33 : Int32))), .unset, .unset, .unset, .unset, .unset, .unset, .unset, .unset, .unset, .unset, .unset, .unset, .unset, .unset, .unset, .unset, .unset, .unset, .unset, .unset]) rfl ?_
  obtain ⟨k1, hk1, hk1'⟩ := own_cnt x3
  generalize h_c1 : ((x3 &&& (65535 : Int32)) % (33 : Int32)) = c1
  rw [h_c1] at hk1
  refine g_iload X0.here hx (Jvm.hb hby at_10) (pc' := 12) rfl rfl ?_
  refine g_ldc X0 hx hZ hown w_0 (Jvm.hb hby at_12) (pc' := 14) rfl ?_
  refine g_iand X0.here hx (Jvm.hb hby at_14) (pc' := 15) rfl ?_
  refine g_bipush X0.here hx (Jvm.hb hby at_15) (pc' := 17) rfl (z := (33 : Int32)) rfl ?_
  refine g_irem X0 hx (Jvm.hb hby at_17) (pc' := 18) rfl (by decide) ?_
  refine g_istore X0.here hx (Jvm.hb hby at_18) (pc' := 20) rfl (L' := #[.val (.long x0), .second, .val (.long x1), .second, .val (.long x2), .second, .val (.int x3), .val (.int x4), .val (.int x5), .val (.int c1), .val (.int ((x4 &&& (65535 : Int32)) % (33 : Int32))), .unset, .unset, .unset, .unset, .unset, .unset, .unset, .unset, .unset, .unset, .unset, .unset, .unset, .unset, .unset, .unset, .unset, .unset, .unset]) rfl ?_
  obtain ⟨k2, hk2, hk2'⟩ := own_cnt x4
  generalize h_c2 : ((x4 &&& (65535 : Int32)) % (33 : Int32)) = c2
  rw [h_c2] at hk2
  refine g_iload X0.here hx (Jvm.hb hby at_20) (pc' := 22) rfl rfl ?_
  refine g_ldc X0 hx hZ hown w_0 (Jvm.hb hby at_22) (pc' := 24) rfl ?_
  refine g_iand X0.here hx (Jvm.hb hby at_24) (pc' := 25) rfl ?_
  refine g_bipush X0.here hx (Jvm.hb hby at_25) (pc' := 27) rfl (z := (33 : Int32)) rfl ?_
  refine g_irem X0 hx (Jvm.hb hby at_27) (pc' := 28) rfl (by decide) ?_
  refine g_istore X0.here hx (Jvm.hb hby at_28) (pc' := 30) rfl (L' := #[.val (.long x0), .second, .val (.long x1), .second, .val (.long x2), .second, .val (.int x3), .val (.int x4), .val (.int x5), .val (.int c1), .val (.int c2), .val (.int ((x5 &&& (65535 : Int32)) % (33 : Int32))), .unset, .unset, .unset, .unset, .unset, .unset, .unset, .unset, .unset, .unset, .unset, .unset, .unset, .unset, .unset, .unset, .unset, .unset]) rfl ?_
  obtain ⟨k3, hk3, hk3'⟩ := own_cnt x5
  generalize h_c3 : ((x5 &&& (65535 : Int32)) % (33 : Int32)) = c3
  rw [h_c3] at hk3
  refine g_iload X0.here hx (Jvm.hb hby at_30) (pc' := 32) rfl rfl ?_
  refine g_bipush X0.here hx (Jvm.hb hby at_32) (pc' := 34) rfl (z := (16 : Int32)) rfl ?_
  refine g_iushr X0.here hx (Jvm.hb hby at_34) (pc' := 35) rfl ?_
  refine g_iconst X0.here hx (Jvm.hb hby at_35) (pc' := 36) rfl (z := (3 : Int32)) rfl ?_
  refine g_iand X0.here hx (Jvm.hb hby at_36) (pc' := 37) rfl ?_
  refine g_istore X0.here hx (Jvm.hb hby at_37) (pc' := 39) rfl (L' := #[.val (.long x0), .second, .val (.long x1), .second, .val (.long x2), .second, .val (.int x3), .val (.int x4), .val (.int x5), .val (.int c1), .val (.int c2), .val (.int c3), .val (.int (((x3.toUInt32 >>> ((16 : Int32) &&& 31).toUInt32).toInt32) &&& (3 : Int32))), .unset, .unset, .unset, .unset, .unset, .unset, .unset, .unset, .unset, .unset, .unset, .unset, .unset, .unset, .unset, .unset, .unset]) rfl ?_
  obtain ⟨S, hS, hS'⟩ := own_start x3
  generalize h_st : (((x3.toUInt32 >>> ((16 : Int32) &&& 31).toUInt32).toInt32) &&& (3 : Int32)) = st
  rw [h_st] at hS
  refine g_iload X0.here hx (Jvm.hb hby at_39) (pc' := 41) rfl rfl ?_
  refine g_bipush X0.here hx (Jvm.hb hby at_41) (pc' := 43) rfl (z := (16 : Int32)) rfl ?_
  refine g_iushr X0.here hx (Jvm.hb hby at_43) (pc' := 44) rfl ?_
  refine g_i2b X0.here hx (Jvm.hb hby at_44) (pc' := 45) rfl ?_
  refine g_istore X0.here hx (Jvm.hb hby at_45) (pc' := 47) rfl (L' := #[.val (.long x0), .second, .val (.long x1), .second, .val (.long x2), .second, .val (.int x3), .val (.int x4), .val (.int x5), .val (.int c1), .val (.int c2), .val (.int c3), .val (.int st), .val (.int (((x4.toUInt32 >>> ((16 : Int32) &&& 31).toUInt32).toInt32).toInt8.toInt32)), .unset, .unset, .unset, .unset, .unset, .unset, .unset, .unset, .unset, .unset, .unset, .unset, .unset, .unset, .unset, .unset]) rfl ?_
  have hfl := own_id ((x4.toUInt32 >>> ((16 : Int32) &&& 31).toUInt32).toInt32)
  generalize h_fill : (((x4.toUInt32 >>> ((16 : Int32) &&& 31).toUInt32).toInt32).toInt8.toInt32) = fill
  rw [h_fill] at hfl
  refine g_lloadN X0.here hx (Jvm.hb hby at_47) (pc' := 48) rfl rfl ?_
  refine g_lconst X0.here hx (Jvm.hb hby at_48) (pc' := 49) rfl (z := (1 : Int64)) rfl ?_
  refine g_iload X0.here hx (Jvm.hb hby at_49) (pc' := 51) rfl rfl ?_
  refine g_lshl X0.here hx (Jvm.hb hby at_51) (pc' := 52) rfl ?_
  refine g_lconst X0.here hx (Jvm.hb hby at_52) (pc' := 53) rfl (z := (1 : Int64)) rfl ?_
  refine g_lsub X0.here hx (Jvm.hb hby at_53) (pc' := 54) rfl ?_
  refine g_land X0.here hx (Jvm.hb hby at_54) (pc' := 55) rfl ?_
  refine g_lstore X0.here hx (Jvm.hb hby at_55) (pc' := 57) rfl (L' := #[.val (.long x0), .second, .val (.long x1), .second, .val (.long x2), .second, .val (.int x3), .val (.int x4), .val (.int x5), .val (.int c1), .val (.int c2), .val (.int c3), .val (.int st), .val (.int fill), .val (.long (x0 &&& (((1 : Int64) <<< (c1 &&& 0x3f).toInt64) - (1 : Int64)))), .second, .unset, .unset, .unset, .unset, .unset, .unset, .unset, .unset, .unset, .unset, .unset, .unset, .unset, .unset]) rfl ?_
  have m1 := own_msk x0 c1 k1 hk1 hk1'
  generalize h_w1 : (x0 &&& (((1 : Int64) <<< (c1 &&& 0x3f).toInt64) - (1 : Int64))) = w1
  rw [h_w1] at m1
  refine g_lloadN X0.here hx (Jvm.hb hby at_57) (pc' := 58) rfl rfl ?_
  refine g_lconst X0.here hx (Jvm.hb hby at_58) (pc' := 59) rfl (z := (1 : Int64)) rfl ?_
  refine g_iload X0.here hx (Jvm.hb hby at_59) (pc' := 61) rfl rfl ?_
  refine g_lshl X0.here hx (Jvm.hb hby at_61) (pc' := 62) rfl ?_
  refine g_lconst X0.here hx (Jvm.hb hby at_62) (pc' := 63) rfl (z := (1 : Int64)) rfl ?_
  refine g_lsub X0.here hx (Jvm.hb hby at_63) (pc' := 64) rfl ?_
  refine g_land X0.here hx (Jvm.hb hby at_64) (pc' := 65) rfl ?_
  refine g_lstore X0.here hx (Jvm.hb hby at_65) (pc' := 67) rfl (L' := #[.val (.long x0), .second, .val (.long x1), .second, .val (.long x2), .second, .val (.int x3), .val (.int x4), .val (.int x5), .val (.int c1), .val (.int c2), .val (.int c3), .val (.int st), .val (.int fill), .val (.long w1), .second, .val (.long (x1 &&& (((1 : Int64) <<< (c2 &&& 0x3f).toInt64) - (1 : Int64)))), .second, .unset, .unset, .unset, .unset, .unset, .unset, .unset, .unset, .unset, .unset, .unset, .unset]) rfl ?_
  have m2 := own_msk x1 c2 k2 hk2 hk2'
  generalize h_w2 : (x1 &&& (((1 : Int64) <<< (c2 &&& 0x3f).toInt64) - (1 : Int64))) = w2
  rw [h_w2] at m2
  refine g_lload X0.here hx (Jvm.hb hby at_67) (pc' := 69) rfl rfl ?_
  refine g_lconst X0.here hx (Jvm.hb hby at_69) (pc' := 70) rfl (z := (1 : Int64)) rfl ?_
  refine g_iload X0.here hx (Jvm.hb hby at_70) (pc' := 72) rfl rfl ?_
  refine g_lshl X0.here hx (Jvm.hb hby at_72) (pc' := 73) rfl ?_
  refine g_lconst X0.here hx (Jvm.hb hby at_73) (pc' := 74) rfl (z := (1 : Int64)) rfl ?_
  refine g_lsub X0.here hx (Jvm.hb hby at_74) (pc' := 75) rfl ?_
  refine g_land X0.here hx (Jvm.hb hby at_75) (pc' := 76) rfl ?_
  refine g_lstore X0.here hx (Jvm.hb hby at_76) (pc' := 78) rfl (L' := #[.val (.long x0), .second, .val (.long x1), .second, .val (.long x2), .second, .val (.int x3), .val (.int x4), .val (.int x5), .val (.int c1), .val (.int c2), .val (.int c3), .val (.int st), .val (.int fill), .val (.long w1), .second, .val (.long w2), .second, .val (.long (x2 &&& (((1 : Int64) <<< (c3 &&& 0x3f).toInt64) - (1 : Int64)))), .second, .unset, .unset, .unset, .unset, .unset, .unset, .unset, .unset, .unset, .unset]) rfl ?_
  have m3 := own_msk x2 c3 k3 hk3 hk3'
  generalize h_w3 : (x2 &&& (((1 : Int64) <<< (c3 &&& 0x3f).toInt64) - (1 : Int64))) = w3
  rw [h_w3] at m3
  refine g_bipush X0.here hx (Jvm.hb hby at_78) (pc' := 80) rfl (z := (16 : Int32)) rfl ?_
  refine g_newarr X0 hx hZ (ty := .byte) rfl rfl w_1 e0 (Jvm.hb hby at_80) (pc' := 82) rfl (n := 16) (by decide) 16 (by decide) (by decide) (cells' := 1) (slots' := 16) rfl rfl (by decide) (by decide) ?_
  intro T1 hh1 ad1 gb1 X1 e1 E1 V1
  have g_ad1 : n0 ≤ ad1 := by rw [gb1]; exact Z0
  have Z2 : n0 ≤ hh1.size := Nat.le_trans Z0 E1.1
  refine g_dup X1.here hx (Jvm.hb hby at_82) (pc' := 83) rfl rfl ?_
  refine g_iconst X1.here hx (Jvm.hb hby at_83) (pc' := 84) rfl (z := (0 : Int32)) rfl ?_
  refine g_iload X1.here hx (Jvm.hb hby at_84) (pc' := 86) rfl rfl ?_
  refine g_bastore X1 hx hZ e1 V1 ⟨by decide, by decide⟩ (Jvm.hb hby at_86) (pc' := 87) rfl ?_
  intro T3 hh3 X3 e3 W3 V3
  have N3 := Fr.snoc X3 N0 g_ad1
  have Z4 : n0 ≤ hh3.size := (by rw [W3.size]; exact Z2)
  refine g_dup X3.here hx (Jvm.hb hby at_87) (pc' := 88) rfl rfl ?_
  refine g_iconst X3.here hx (Jvm.hb hby at_88) (pc' := 89) rfl (z := (1 : Int32)) rfl ?_
  refine g_iload X3.here hx (Jvm.hb hby at_89) (pc' := 91) rfl rfl ?_
  refine g_bastore X3 hx hZ e3 V3 ⟨by decide, by decide⟩ (Jvm.hb hby at_91) (pc' := 92) rfl ?_
  intro T5 hh5 X5 e5 W5 V5
  have N5 := Fr.snoc X5 N3 g_ad1
  have Z6 : n0 ≤ hh5.size := (by rw [W5.size]; exact Z4)
  refine g_dup X5.here hx (Jvm.hb hby at_92) (pc' := 93) rfl rfl ?_
  refine g_iconst X5.here hx (Jvm.hb hby at_93) (pc' := 94) rfl (z := (2 : Int32)) rfl ?_
  refine g_iload X5.here hx (Jvm.hb hby at_94) (pc' := 96) rfl rfl ?_
  refine g_bastore X5 hx hZ e5 V5 ⟨by decide, by decide⟩ (Jvm.hb hby at_96) (pc' := 97) rfl ?_
  intro T7 hh7 X7 e7 W7 V7
  have N7 := Fr.snoc X7 N5 g_ad1
  have Z8 : n0 ≤ hh7.size := (by rw [W7.size]; exact Z6)
  refine g_dup X7.here hx (Jvm.hb hby at_97) (pc' := 98) rfl rfl ?_
  refine g_iconst X7.here hx (Jvm.hb hby at_98) (pc' := 99) rfl (z := (3 : Int32)) rfl ?_
  refine g_iload X7.here hx (Jvm.hb hby at_99) (pc' := 101) rfl rfl ?_
  refine g_bastore X7 hx hZ e7 V7 ⟨by decide, by decide⟩ (Jvm.hb hby at_101) (pc' := 102) rfl ?_
  intro T9 hh9 X9 e9 W9 V9
  have N9 := Fr.snoc X9 N7 g_ad1
  have Z10 : n0 ≤ hh9.size := (by rw [W9.size]; exact Z8)
  refine g_dup X9.here hx (Jvm.hb hby at_102) (pc' := 103) rfl rfl ?_
  refine g_iconst X9.here hx (Jvm.hb hby at_103) (pc' := 104) rfl (z := (4 : Int32)) rfl ?_
  refine g_iload X9.here hx (Jvm.hb hby at_104) (pc' := 106) rfl rfl ?_
  refine g_bastore X9 hx hZ e9 V9 ⟨by decide, by decide⟩ (Jvm.hb hby at_106) (pc' := 107) rfl ?_
  intro T11 hh11 X11 e11 W11 V11
  have N11 := Fr.snoc X11 N9 g_ad1
  have Z12 : n0 ≤ hh11.size := (by rw [W11.size]; exact Z10)
  refine g_dup X11.here hx (Jvm.hb hby at_107) (pc' := 108) rfl rfl ?_
  refine g_iconst X11.here hx (Jvm.hb hby at_108) (pc' := 109) rfl (z := (5 : Int32)) rfl ?_
  refine g_iload X11.here hx (Jvm.hb hby at_109) (pc' := 111) rfl rfl ?_
  refine g_bastore X11 hx hZ e11 V11 ⟨by decide, by decide⟩ (Jvm.hb hby at_111) (pc' := 112) rfl ?_
  intro T13 hh13 X13 e13 W13 V13
  have N13 := Fr.snoc X13 N11 g_ad1
  have Z14 : n0 ≤ hh13.size := (by rw [W13.size]; exact Z12)
  refine g_dup X13.here hx (Jvm.hb hby at_112) (pc' := 113) rfl rfl ?_
  refine g_bipush X13.here hx (Jvm.hb hby at_113) (pc' := 115) rfl (z := (6 : Int32)) rfl ?_
  refine g_iload X13.here hx (Jvm.hb hby at_115) (pc' := 117) rfl rfl ?_
  refine g_bastore X13 hx hZ e13 V13 ⟨by decide, by decide⟩ (Jvm.hb hby at_117) (pc' := 118) rfl ?_
  intro T15 hh15 X15 e15 W15 V15
  have N15 := Fr.snoc X15 N13 g_ad1
  have Z16 : n0 ≤ hh15.size := (by rw [W15.size]; exact Z14)
  refine g_dup X15.here hx (Jvm.hb hby at_118) (pc' := 119) rfl rfl ?_
  refine g_bipush X15.here hx (Jvm.hb hby at_119) (pc' := 121) rfl (z := (7 : Int32)) rfl ?_
  refine g_iload X15.here hx (Jvm.hb hby at_121) (pc' := 123) rfl rfl ?_
  refine g_bastore X15 hx hZ e15 V15 ⟨by decide, by decide⟩ (Jvm.hb hby at_123) (pc' := 124) rfl ?_
  intro T17 hh17 X17 e17 W17 V17
  have N17 := Fr.snoc X17 N15 g_ad1
  have Z18 : n0 ≤ hh17.size := (by rw [W17.size]; exact Z16)
  refine g_dup X17.here hx (Jvm.hb hby at_124) (pc' := 125) rfl rfl ?_
  refine g_bipush X17.here hx (Jvm.hb hby at_125) (pc' := 127) rfl (z := (8 : Int32)) rfl ?_
  refine g_iload X17.here hx (Jvm.hb hby at_127) (pc' := 129) rfl rfl ?_
  refine g_bastore X17 hx hZ e17 V17 ⟨by decide, by decide⟩ (Jvm.hb hby at_129) (pc' := 130) rfl ?_
  intro T19 hh19 X19 e19 W19 V19
  have N19 := Fr.snoc X19 N17 g_ad1
  have Z20 : n0 ≤ hh19.size := (by rw [W19.size]; exact Z18)
  refine g_dup X19.here hx (Jvm.hb hby at_130) (pc' := 131) rfl rfl ?_
  refine g_bipush X19.here hx (Jvm.hb hby at_131) (pc' := 133) rfl (z := (9 : Int32)) rfl ?_
  refine g_iload X19.here hx (Jvm.hb hby at_133) (pc' := 135) rfl rfl ?_
  refine g_bastore X19 hx hZ e19 V19 ⟨by decide, by decide⟩ (Jvm.hb hby at_135) (pc' := 136) rfl ?_
  intro T21 hh21 X21 e21 W21 V21
  have N21 := Fr.snoc X21 N19 g_ad1
  have Z22 : n0 ≤ hh21.size := (by rw [W21.size]; exact Z20)
  refine g_dup X21.here hx (Jvm.hb hby at_136) (pc' := 137) rfl rfl ?_
  refine g_bipush X21.here hx (Jvm.hb hby at_137) (pc' := 139) rfl (z := (10 : Int32)) rfl ?_
  refine g_iload X21.here hx (Jvm.hb hby at_139) (pc' := 141) rfl rfl ?_
  refine g_bastore X21 hx hZ e21 V21 ⟨by decide, by decide⟩ (Jvm.hb hby at_141) (pc' := 142) rfl ?_
  intro T23 hh23 X23 e23 W23 V23
  have N23 := Fr.snoc X23 N21 g_ad1
  have Z24 : n0 ≤ hh23.size := (by rw [W23.size]; exact Z22)
  refine g_dup X23.here hx (Jvm.hb hby at_142) (pc' := 143) rfl rfl ?_
  refine g_bipush X23.here hx (Jvm.hb hby at_143) (pc' := 145) rfl (z := (11 : Int32)) rfl ?_
  refine g_iload X23.here hx (Jvm.hb hby at_145) (pc' := 147) rfl rfl ?_
  refine g_bastore X23 hx hZ e23 V23 ⟨by decide, by decide⟩ (Jvm.hb hby at_147) (pc' := 148) rfl ?_
  intro T25 hh25 X25 e25 W25 V25
  have N25 := Fr.snoc X25 N23 g_ad1
  have Z26 : n0 ≤ hh25.size := (by rw [W25.size]; exact Z24)
  refine g_dup X25.here hx (Jvm.hb hby at_148) (pc' := 149) rfl rfl ?_
  refine g_bipush X25.here hx (Jvm.hb hby at_149) (pc' := 151) rfl (z := (12 : Int32)) rfl ?_
  refine g_iload X25.here hx (Jvm.hb hby at_151) (pc' := 153) rfl rfl ?_
  refine g_bastore X25 hx hZ e25 V25 ⟨by decide, by decide⟩ (Jvm.hb hby at_153) (pc' := 154) rfl ?_
  intro T27 hh27 X27 e27 W27 V27
  have N27 := Fr.snoc X27 N25 g_ad1
  have Z28 : n0 ≤ hh27.size := (by rw [W27.size]; exact Z26)
  refine g_dup X27.here hx (Jvm.hb hby at_154) (pc' := 155) rfl rfl ?_
  refine g_bipush X27.here hx (Jvm.hb hby at_155) (pc' := 157) rfl (z := (13 : Int32)) rfl ?_
  refine g_iload X27.here hx (Jvm.hb hby at_157) (pc' := 159) rfl rfl ?_
  refine g_bastore X27 hx hZ e27 V27 ⟨by decide, by decide⟩ (Jvm.hb hby at_159) (pc' := 160) rfl ?_
  intro T29 hh29 X29 e29 W29 V29
  have N29 := Fr.snoc X29 N27 g_ad1
  have Z30 : n0 ≤ hh29.size := (by rw [W29.size]; exact Z28)
  refine g_dup X29.here hx (Jvm.hb hby at_160) (pc' := 161) rfl rfl ?_
  refine g_bipush X29.here hx (Jvm.hb hby at_161) (pc' := 163) rfl (z := (14 : Int32)) rfl ?_
  refine g_iload X29.here hx (Jvm.hb hby at_163) (pc' := 165) rfl rfl ?_
  refine g_bastore X29 hx hZ e29 V29 ⟨by decide, by decide⟩ (Jvm.hb hby at_165) (pc' := 166) rfl ?_
  intro T31 hh31 X31 e31 W31 V31
  have N31 := Fr.snoc X31 N29 g_ad1
  have Z32 : n0 ≤ hh31.size := (by rw [W31.size]; exact Z30)
  refine g_dup X31.here hx (Jvm.hb hby at_166) (pc' := 167) rfl rfl ?_
  refine g_bipush X31.here hx (Jvm.hb hby at_167) (pc' := 169) rfl (z := (15 : Int32)) rfl ?_
  refine g_iload X31.here hx (Jvm.hb hby at_169) (pc' := 171) rfl rfl ?_
  refine g_bastore X31 hx hZ e31 V31 ⟨by decide, by decide⟩ (Jvm.hb hby at_171) (pc' := 172) rfl ?_
  intro T33 hh33 X33 e33 W33 V33
  have N33 := Fr.snoc X33 N31 g_ad1
  have Z34 : n0 ≤ hh33.size := (by rw [W33.size]; exact Z32)
  have VV : own_IA Z hh33 ad1 .byte 16 (own_fb S (4 * 0) 0 fill) := V33.congr (fun i hi => by
    rw [hfl, own_fb0]
    rcases (by omega : i = 0 ∨ i = 1 ∨ i = 2 ∨ i = 3 ∨ i = 4 ∨ i = 5 ∨ i = 6 ∨ i = 7 ∨ i = 8 ∨ i = 9 ∨ i = 10 ∨ i = 11 ∨ i = 12 ∨ i = 13 ∨ i = 14 ∨ i = 15) with rfl | rfl | rfl | rfl | rfl | rfl | rfl | rfl | rfl | rfl | rfl | rfl | rfl | rfl | rfl | rfl <;> rfl)
  refine g_astore X33.here hx (Jvm.hb hby at_172) (pc' := 174) rfl rfl (L' := #[.val (.long x0), .second, .val (.long x1), .second, .val (.long x2), .second, .val (.int x3), .val (.int x4), .val (.int x5), .val (.int c1), .val (.int c2), .val (.int c3), .val (.int st), .val (.int fill), .val (.long w1), .second, .val (.long w2), .second, .val (.long w3), .second, .val (.ref ad1), .unset, .unset, .unset, .unset, .unset, .unset, .unset, .unset, .unset]) rfl ?_
  refine g_new X33 hx hZ hown w_2 w_3 w_4 e33 (Jvm.hb hby at_174) (pc' := 177) rfl (cells' := 2) (slots' := 20) rfl rfl (by decide) (by decide) ?_
  intro T35 hh35 ad35 gb35 X35 e35 E35 A35 D35
  have g_ad35 : n0 ≤ ad35 := by rw [gb35]; exact Z34
  have lt_ad1_ad35 : @LT.lt Nat _ ad1 ad35 := by rw [gb35]; exact VV.lt
  have ne_ad1_ad35 : ad1 ≠ ad35 := Nat.ne_of_lt lt_ad1_ad35
  have Z36 : n0 ≤ hh35.size := Nat.le_trans Z34 E35.1
  have F35_bytes : Fld Z hh35 ad35 "com/example/tierstone/tierstone/compress/BitWriter" "bytes" "[B" .null := D35 (Or.inr w_12) (ty := (.array .byte)) (by decide)
  have F35_position : Fld Z hh35 ad35 "com/example/tierstone/tierstone/compress/BitWriter" "position" "I" (.int (0 : Int32)) := D35 (Or.inl w_14) (ty := .int) (by decide)
  have F35_pending : Fld Z hh35 ad35 "com/example/tierstone/tierstone/compress/BitWriter" "pending" "J" (.long (0 : Int64)) := D35 (Or.inl w_21) (ty := .long) (by decide)
  have F35_pendingCount : Fld Z hh35 ad35 "com/example/tierstone/tierstone/compress/BitWriter" "pendingCount" "I" (.int (0 : Int32)) := D35 (Or.inl w_23) (ty := .int) (by decide)
  refine g_dup X35.here hx (Jvm.hb hby at_177) (pc' := 178) rfl rfl ?_
  refine g_aload X35.here hx (Jvm.hb hby at_178) (pc' := 180) rfl rfl rfl ?_
  refine g_iload X35.here hx (Jvm.hb hby at_180) (pc' := 182) rfl rfl ?_
  refine g_callI X35 hx hZ rfl hown w_5 w_6 w_4 w_7 (by decide) (rm1 l Z a0 hw [] ad35 ad1 st hh35 n0 Z36 g_ad35 A35 F35_bytes F35_position F35_pending F35_pendingCount) 1 (by decide) (by decide) e35 (by rw [hml]; rfl) [(.ref ad1), (.int st)] [(.ref ad35)] (lenOf pd_0 rfl) rfl rfl (Nat.le_of_eq rfl) (Jvm.hb hby at_182) (pc' := 185) rfl (cells' := 2) (slots' := 20) rfl rfl (by decide) (by decide) ?_
  intro v37 T37 L37 X37 hQ37
  obtain ⟨rfl, Nq37, K37, Bq37⟩ := hQ37
  have N37 := Fr.app N33 Nq37
  have Z38 : n0 ≤ T37.heap.size := Nat.le_trans Z36 K37.1
  have F39 := ((VV.ext E35).keep K37 (ninS ne_ad1_ad35 nin0))
  have BW37 : own_BW Z T37.heap ad35 ad1 S fill 0 0 0 := ⟨st, 0, 0, Bq37, F39, by omega, by decide, by decide, by decide, by decide⟩
  show own_Gl p e below s (own_Q0 n0) room_1.cells room_1.slots (T37.setTop (mkF m 185 #[.val (.long x0), .second, .val (.long x1), .second, .val (.long x2), .second, .val (.int x3), .val (.int x4), .val (.int x5), .val (.int c1), .val (.int c2), .val (.int c3), .val (.int st), .val (.int fill), .val (.long w1), .second, .val (.long w2), .second, .val (.long w3), .second, .val (.ref ad1), .unset, .unset, .unset, .unset, .unset, .unset, .unset, .unset, .unset] [(.ref ad35)]))
  have hA0 : 0 < 2 ^ 0 := by decide
  refine g_astore X37.here hx (Jvm.hb hby at_185) (pc' := 187) rfl rfl (L' := #[.val (.long x0), .second, .val (.long x1), .second, .val (.long x2), .second, .val (.int x3), .val (.int x4), .val (.int x5), .val (.int c1), .val (.int c2), .val (.int c3), .val (.int st), .val (.int fill), .val (.long w1), .second, .val (.long w2), .second, .val (.long w3), .second, .val (.ref ad1), .val (.ref ad35), .unset, .unset, .unset, .unset, .unset, .unset, .unset, .unset]) rfl ?_
  refine g_aload X37.here hx (Jvm.hb hby at_187) (pc' := 189) rfl rfl rfl ?_
  refine g_lload X37.here hx (Jvm.hb hby at_189) (pc' := 191) rfl rfl ?_
  refine g_iload X37.here hx (Jvm.hb hby at_191) (pc' := 193) rfl rfl ?_
  refine g_callV X37 hx hZ hown w_15 w_16 (own_nf hZ w_18) w_18 w_17 w_4 w_19 (by decide) (rm3 l Z a0 hw [] ad35 w1 c1 ad1 S fill 0 0 0 k1 T37.heap n0 Z38 g_ad35 g_ad1 ne_ad1_ad35 BW37 hA0 hk1 hk1' m1 hS' (by omega)) 0 (by decide) (by decide) rfl Bq37.1 (by rw [hml]; rfl) [(.long w1), (.int c1)] [] (lenOf pd_1 rfl) rfl rfl (Nat.le_of_eq rfl) (Jvm.hb hby at_193) (pc' := 196) rfl (cells' := 2) (slots' := 20) rfl rfl (by decide) (by decide) ?_
  intro v40 T40 L40 X40 hQ40
  obtain ⟨rfl, Nq40, K40, m40, BW40⟩ := hQ40
  have N40 := Fr.app N37 Nq40
  have Z41 : n0 ≤ T40.heap.size := Nat.le_trans Z38 K40.1
  obtain ⟨po40, pe40, pk40, Bx40, -⟩ := id BW40
  show own_Gl p e below s (own_Q0 n0) room_1.cells room_1.slots (T40.setTop (mkF m 196 #[.val (.long x0), .second, .val (.long x1), .second, .val (.long x2), .second, .val (.int x3), .val (.int x4), .val (.int x5), .val (.int c1), .val (.int c2), .val (.int c3), .val (.int st), .val (.int fill), .val (.long w1), .second, .val (.long w2), .second, .val (.long w3), .second, .val (.ref ad1), .val (.ref ad35), .unset, .unset, .unset, .unset, .unset, .unset, .unset, .unset] []))
  have hA1 : (0 + own_N w1 * 2 ^ 0) < 2 ^ (0 + k1) := own_grow _ _ _ _ hA0 m1
  refine g_aload X40.here hx (Jvm.hb hby at_196) (pc' := 198) rfl rfl rfl ?_
  refine g_lload X40.here hx (Jvm.hb hby at_198) (pc' := 200) rfl rfl ?_
  refine g_iload X40.here hx (Jvm.hb hby at_200) (pc' := 202) rfl rfl ?_
  refine g_callV X40 hx hZ hown w_15 w_16 (own_nf hZ w_18) w_18 w_17 w_4 w_19 (by decide) (rm3 l Z a0 hw [] ad35 w2 c2 ad1 S fill (0 + own_N w1 * 2 ^ 0) (0 + k1) m40 k2 T40.heap n0 Z41 g_ad35 g_ad1 ne_ad1_ad35 BW40 hA1 hk2 hk2' m2 hS' (by omega)) 0 (by decide) (by decide) rfl Bx40.1 (by rw [hml]; rfl) [(.long w2), (.int c2)] [] (lenOf pd_1 rfl) rfl rfl (Nat.le_of_eq rfl) (Jvm.hb hby at_202) (pc' := 205) rfl (cells' := 2) (slots' := 20) rfl rfl (by decide) (by decide) ?_
  intro v42 T42 L42 X42 hQ42
  obtain ⟨rfl, Nq42, K42, m42, BW42⟩ := hQ42
  have N42 := Fr.app N40 Nq42
  have Z43 : n0 ≤ T42.heap.size := Nat.le_trans Z41 K42.1
  obtain ⟨po42, pe42, pk42, Bx42, -⟩ := id BW42
  show own_Gl p e below s (own_Q0 n0) room_1.cells room_1.slots (T42.setTop (mkF m 205 #[.val (.long x0), .second, .val (.long x1), .second, .val (.long x2), .second, .val (.int x3), .val (.int x4), .val (.int x5), .val (.int c1), .val (.int c2), .val (.int c3), .val (.int st), .val (.int fill), .val (.long w1), .second, .val (.long w2), .second, .val (.long w3), .second, .val (.ref ad1), .val (.ref ad35), .unset, .unset, .unset, .unset, .unset, .unset, .unset, .unset] []))
  have hA2 : ((0 + own_N w1 * 2 ^ 0) + own_N w2 * 2 ^ (0 + k1)) < 2 ^ ((0 + k1) + k2) := own_grow _ _ _ _ hA1 m2
  refine g_aload X42.here hx (Jvm.hb hby at_205) (pc' := 207) rfl rfl rfl ?_
  refine g_lload X42.here hx (Jvm.hb hby at_207) (pc' := 209) rfl rfl ?_
  refine g_iload X42.here hx (Jvm.hb hby at_209) (pc' := 211) rfl rfl ?_
  refine g_callV X42 hx hZ hown w_15 w_16 (own_nf hZ w_18) w_18 w_17 w_4 w_19 (by decide) (rm3 l Z a0 hw [] ad35 w3 c3 ad1 S fill ((0 + own_N w1 * 2 ^ 0) + own_N w2 * 2 ^ (0 + k1)) ((0 + k1) + k2) m42 k3 T42.heap n0 Z43 g_ad35 g_ad1 ne_ad1_ad35 BW42 hA2 hk3 hk3' m3 hS' (by omega)) 0 (by decide) (by decide) rfl Bx42.1 (by rw [hml]; rfl) [(.long w3), (.int c3)] [] (lenOf pd_1 rfl) rfl rfl (Nat.le_of_eq rfl) (Jvm.hb hby at_211) (pc' := 214) rfl (cells' := 2) (slots' := 20) rfl rfl (by decide) (by decide) ?_
  intro v44 T44 L44 X44 hQ44
  obtain ⟨rfl, Nq44, K44, m44, BW44⟩ := hQ44
  have N44 := Fr.app N42 Nq44
  have Z45 : n0 ≤ T44.heap.size := Nat.le_trans Z43 K44.1
  obtain ⟨po44, pe44, pk44, Bx44, -⟩ := id BW44
  show own_Gl p e below s (own_Q0 n0) room_1.cells room_1.slots (T44.setTop (mkF m 214 #[.val (.long x0), .second, .val (.long x1), .second, .val (.long x2), .second, .val (.int x3), .val (.int x4), .val (.int x5), .val (.int c1), .val (.int c2), .val (.int c3), .val (.int st), .val (.int fill), .val (.long w1), .second, .val (.long w2), .second, .val (.long w3), .second, .val (.ref ad1), .val (.ref ad35), .unset, .unset, .unset, .unset, .unset, .unset, .unset, .unset] []))
  have hA3 : (((0 + own_N w1 * 2 ^ 0) + own_N w2 * 2 ^ (0 + k1)) + own_N w3 * 2 ^ ((0 + k1) + k2)) < 2 ^ (((0 + k1) + k2) + k3) := own_grow _ _ _ _ hA2 m3
  refine g_aload X44.here hx (Jvm.hb hby at_214) (pc' := 216) rfl rfl rfl ?_
  refine g_callV X44 hx hZ hown w_24 w_25 (own_nf hZ w_27) w_27 w_26 w_4 w_28 (by decide) (rm4 l Z a0 hw [] ad35 ad1 S fill (((0 + own_N w1 * 2 ^ 0) + own_N w2 * 2 ^ (0 + k1)) + own_N w3 * 2 ^ ((0 + k1) + k2)) (((0 + k1) + k2) + k3) m44 T44.heap n0 Z45 g_ad35 g_ad1 ne_ad1_ad35 BW44 hS' (by omega)) 0 (by decide) (by decide) rfl Bx44.1 (by rw [hml]; rfl) [] [] (lenOf pd_2 rfl) rfl rfl (Nat.le_of_eq rfl) (Jvm.hb hby at_216) (pc' := 219) rfl (cells' := 2) (slots' := 20) rfl rfl (by decide) (by decide) ?_
  intro v46 T46 L46 X46 hQ46
  obtain ⟨⟨ep, rfl, hep⟩, Nq46, K46, VE⟩ := hQ46
  have N46 := Fr.app N44 Nq46
  have Z47 : n0 ≤ T46.heap.size := Nat.le_trans Z45 K46.1
  show own_Gl p e below s (own_Q0 n0) room_1.cells room_1.slots (T46.setTop (mkF m 219 #[.val (.long x0), .second, .val (.long x1), .second, .val (.long x2), .second, .val (.int x3), .val (.int x4), .val (.int x5), .val (.int c1), .val (.int c2), .val (.int c3), .val (.int st), .val (.int fill), .val (.long w1), .second, .val (.long w2), .second, .val (.long w3), .second, .val (.ref ad1), .val (.ref ad35), .unset, .unset, .unset, .unset, .unset, .unset, .unset, .unset] [(.int ep)]))
  have eA : (((0 + own_N w1 * 2 ^ 0) + own_N w2 * 2 ^ (0 + k1)) + own_N w3 * 2 ^ ((0 + k1) + k2)) = own_N w1 + own_N w2 * 2 ^ k1 + own_N w3 * 2 ^ (k1 + k2) := by rw [Nat.zero_add, Nat.pow_zero, Nat.mul_one, Nat.zero_add]
  have eT : (((0 + k1) + k2) + k3) = k1 + k2 + k3 := by rw [Nat.zero_add]
  rw [eA, eT] at VE
  rw [eT] at hep
  refine g_istore X46.here hx (Jvm.hb hby at_219) (pc' := 221) rfl (L' := #[.val (.long x0), .second, .val (.long x1), .second, .val (.long x2), .second, .val (.int x3), .val (.int x4), .val (.int x5), .val (.int c1), .val (.int c2), .val (.int c3), .val (.int st), .val (.int fill), .val (.long w1), .second, .val (.long w2), .second, .val (.long w3), .second, .val (.ref ad1), .val (.ref ad35), .val (.int ep), .unset, .unset, .unset, .unset, .unset, .unset, .unset]) rfl ?_
  refine g_iload X46.here hx (Jvm.hb hby at_221) (pc' := 223) rfl rfl ?_
  refine g_iload X46.here hx (Jvm.hb hby at_223) (pc' := 225) rfl rfl ?_
  refine g_iadd X46.here hx (Jvm.hb hby at_225) (pc' := 226) rfl ?_
  refine g_iload X46.here hx (Jvm.hb hby at_226) (pc' := 228) rfl rfl ?_
  refine g_iadd X46.here hx (Jvm.hb hby at_228) (pc' := 229) rfl ?_
  refine g_istore X46.here hx (Jvm.hb hby at_229) (pc' := 231) rfl (L' := #[.val (.long x0), .second, .val (.long x1), .second, .val (.long x2), .second, .val (.int x3), .val (.int x4), .val (.int x5), .val (.int c1), .val (.int c2), .val (.int c3), .val (.int st), .val (.int fill), .val (.long w1), .second, .val (.long w2), .second, .val (.long w3), .second, .val (.ref ad1), .val (.ref ad35), .val (.int ep), .val (.int ((c1 + c2) + c3)), .unset, .unset, .unset, .unset, .unset, .unset]) rfl ?_
  refine g_iload X46.here hx (Jvm.hb hby at_231) (pc' := 233) rfl rfl ?_
  refine g_bipush X46.here hx (Jvm.hb hby at_233) (pc' := 235) rfl (z := (7 : Int32)) rfl ?_
  refine g_iadd X46.here hx (Jvm.hb hby at_235) (pc' := 236) rfl ?_
  refine g_bipush X46.here hx (Jvm.hb hby at_236) (pc' := 238) rfl (z := (8 : Int32)) rfl ?_
  refine g_idiv X46.here hx (Jvm.hb hby at_238) (pc' := 239) rfl (by decide) ?_
  refine g_istore X46.here hx (Jvm.hb hby at_239) (pc' := 241) rfl (L' := #[.val (.long x0), .second, .val (.long x1), .second, .val (.long x2), .second, .val (.int x3), .val (.int x4), .val (.int x5), .val (.int c1), .val (.int c2), .val (.int c3), .val (.int st), .val (.int fill), .val (.long w1), .second, .val (.long w2), .second, .val (.long w3), .second, .val (.ref ad1), .val (.ref ad35), .val (.int ep), .val (.int ((c1 + c2) + c3)), .val (.int ((((c1 + c2) + c3) + (7 : Int32)) / (8 : Int32))), .unset, .unset, .unset, .unset, .unset]) rfl ?_
  generalize hnn : ((((c1 + c2) + c3) + (7 : Int32)) / (8 : Int32)) = nn
  have g1 := own_pos c1 c2 k1 k2 hk1 hk2 (by omega)
  have g2 := own_pos (c1 + c2) c3 (k1 + k2) k3 g1 hk3 (by omega)
  have g3 := own_pos ((c1 + c2) + c3) 7 (k1 + k2 + k3) 7 g2 (by decide) (by omega)
  have g4 := (c_idiv (((c1 + c2) + c3) + 7) 8 8 (by decide) (by decide)).1 (by omega)
  rw [hnn] at g4
  have hn : nn.toInt = (((k1 + k2 + k3 + 7) / 8 : Nat) : Int) := by omega
  refine g_iload X46.here hx (Jvm.hb hby at_241) (pc' := 243) rfl rfl ?_
  refine g_iload X46.here hx (Jvm.hb hby at_243) (pc' := 245) rfl rfl ?_
  refine g_iadd X46.here hx (Jvm.hb hby at_245) (pc' := 246) rfl ?_
  refine g_istore X46.here hx (Jvm.hb hby at_246) (pc' := 248) rfl (L' := #[.val (.long x0), .second, .val (.long x1), .second, .val (.long x2), .second, .val (.int x3), .val (.int x4), .val (.int x5), .val (.int c1), .val (.int c2), .val (.int c3), .val (.int st), .val (.int fill), .val (.long w1), .second, .val (.long w2), .second, .val (.long w3), .second, .val (.ref ad1), .val (.ref ad35), .val (.int ep), .val (.int ((c1 + c2) + c3)), .val (.int nn), .val (.int (c1 + c2)), .unset, .unset, .unset, .unset]) rfl ?_
  generalize hss : (c1 + c2) = ss
  rw [hss] at g1
  obtain ⟨u1, u2⟩ := own_loA w1 w2 c1 k1 k2 hk1 hk1' hk2' m1 m2
  obtain ⟨lc48, Nlc48, Xlc48⟩ := own_nameL X46 N46
  have k310 : ∀ (lo : Int64), ∀ (hlo : own_N lo = (own_N w1 + own_N w2 * 2 ^ k1 + own_N w3 * 2 ^ (k1 + k2)) % 2 ^ 64), ∀ (hi2 : Int64), ∀ (hhi : own_N hi2 = (own_N w1 + own_N w2 * 2 ^ k1 + own_N w3 * 2 ^ (k1 + k2)) / 2 ^ 64), own_Gl p e below s (own_Q0 n0) room_1.cells room_1.slots (T46.setTop (mkF m 310 #[.val (.long x0), .second, .val (.long x1), .second, .val (.long x2), .second, .val (.int x3), .val (.int x4), .val (.int x5), .val (.int c1), .val (.int c2), .val (.int c3), .val (.int st), .val (.int fill), .val (.long w1), .second, .val (.long w2), .second, .val (.long w3), .second, .val (.ref ad1), .val (.ref ad35), .val (.int ep), .val (.int (ss + c3)), .val (.int nn), .val (.int ss), .val (.long lo), .second, .val (.long hi2), .second] [])) := by
    intro lo hlo hi2 hhi
    refine g_iload Xlc48.here hx (Jvm.hb hby at_310) (pc' := 312) rfl rfl ?_
    refine g_iload Xlc48.here hx (Jvm.hb hby at_312) (pc' := 314) rfl rfl ?_
    refine g_iload Xlc48.here hx (Jvm.hb hby at_314) (pc' := 316) rfl rfl ?_
    refine g_iadd Xlc48.here hx (Jvm.hb hby at_316) (pc' := 317) rfl ?_
    refine g_icN Xlc48.here hx (Jvm.hb hby at_317) (pc' := 320) rfl (teq (by
      apply Int32.toInt_inj.mp
      have e := c_iadd st nn
      have r := rng32 (st + nn)
      omega)).2 ?_
    refine g_aload Xlc48.here hx (Jvm.hb hby at_320) (pc' := 322) rfl rfl rfl ?_
    refine g_iconst Xlc48.here hx (Jvm.hb hby at_322) (pc' := 323) rfl (z := (0 : Int32)) rfl ?_
    refine g_iload Xlc48.here hx (Jvm.hb hby at_323) (pc' := 325) rfl rfl ?_
    refine g_iload Xlc48.here hx (Jvm.hb hby at_325) (pc' := 327) rfl rfl ?_
    refine g_iload Xlc48.here hx (Jvm.hb hby at_327) (pc' := 329) rfl rfl ?_
    refine g_lload Xlc48.here hx (Jvm.hb hby at_329) (pc' := 331) rfl rfl ?_
    refine g_lload Xlc48.here hx (Jvm.hb hby at_331) (pc' := 333) rfl rfl ?_
    refine g_callP Xlc48 hx hZ hown w_29 w_30 w_31 w_32 (by decide) (rm5 l Z a0 hw [] ad1 (0 : Int32) st nn fill lo hi2 _ T46.heap VE ⟨by decide, by decide⟩) 0 (by decide) (by decide) rfl (by rw [hml]; rfl) [(.ref ad1), (.int (0 : Int32)), (.int st), (.int nn), (.int fill), (.long lo), (.long hi2)] [] (lenOf pd_3 rfl) rfl rfl (Nat.le_of_eq rfl) (Jvm.hb hby at_333) (pc' := 336) rfl (by decide) (by decide) ?_
    intro T49 X49 e49
    show own_Gl p e below s (own_Q0 n0) room_1.cells room_1.slots (T49.setTop (mkF m 336 #[.val (.long x0), .second, .val (.long x1), .second, .val (.long x2), .second, .val (.int x3), .val (.int x4), .val (.int x5), .val (.int c1), .val (.int c2), .val (.int c3), .val (.int st), .val (.int fill), .val (.long w1), .second, .val (.long w2), .second, .val (.long w3), .second, .val (.ref ad1), .val (.ref ad35), .val (.int ep), .val (.int (ss + c3)), .val (.int nn), .val (.int ss), .val (.long lo), .second, .val (.long hi2), .second] [(.int (f_ok (own_fb S ((k1 + k2 + k3 + 7) / 8) (own_N w1 + own_N w2 * 2 ^ k1 + own_N w3 * 2 ^ (k1 + k2)) fill) (0 : Int32) st nn fill lo hi2))]))
    refine g_ifN X49.here hx (Jvm.hb hby at_336) (pc' := 339) rfl ((if0 _ _).trans (feq (own_okT (0 : Int32) st nn fill lo hi2 0 S _ _ (by decide) (by decide) hS hS' hn (by omega) hlo hhi)).1) ?_
    refine g_aload X49.here hx (Jvm.hb hby at_339) (pc' := 341) rfl rfl rfl ?_
    refine g_iconst X49.here hx (Jvm.hb hby at_341) (pc' := 342) rfl (z := (1 : Int32)) rfl ?_
    refine g_iload X49.here hx (Jvm.hb hby at_342) (pc' := 344) rfl rfl ?_
    refine g_iload X49.here hx (Jvm.hb hby at_344) (pc' := 346) rfl rfl ?_
    refine g_iload X49.here hx (Jvm.hb hby at_346) (pc' := 348) rfl rfl ?_
    refine g_lload X49.here hx (Jvm.hb hby at_348) (pc' := 350) rfl rfl ?_
    refine g_lload X49.here hx (Jvm.hb hby at_350) (pc' := 352) rfl rfl ?_
    refine g_callP X49 hx hZ hown w_29 w_30 w_31 w_32 (by decide) (rm5 l Z a0 hw [] ad1 (1 : Int32) st nn fill lo hi2 _ T46.heap VE ⟨by decide, by decide⟩) 0 (by decide) (by decide) e49 (by rw [hml]; rfl) [(.ref ad1), (.int (1 : Int32)), (.int st), (.int nn), (.int fill), (.long lo), (.long hi2)] [] (lenOf pd_3 rfl) rfl rfl (Nat.le_of_eq rfl) (Jvm.hb hby at_352) (pc' := 355) rfl (by decide) (by decide) ?_
    intro T50 X50 e50
    show own_Gl p e below s (own_Q0 n0) room_1.cells room_1.slots (T50.setTop (mkF m 355 #[.val (.long x0), .second, .val (.long x1), .second, .val (.long x2), .second, .val (.int x3), .val (.int x4), .val (.int x5), .val (.int c1), .val (.int c2), .val (.int c3), .val (.int st), .val (.int fill), .val (.long w1), .second, .val (.long w2), .second, .val (.long w3), .second, .val (.ref ad1), .val (.ref ad35), .val (.int ep), .val (.int (ss + c3)), .val (.int nn), .val (.int ss), .val (.long lo), .second, .val (.long hi2), .second] [(.int (f_ok (own_fb S ((k1 + k2 + k3 + 7) / 8) (own_N w1 + own_N w2 * 2 ^ k1 + own_N w3 * 2 ^ (k1 + k2)) fill) (1 : Int32) st nn fill lo hi2))]))
    refine g_ifN X50.here hx (Jvm.hb hby at_355) (pc' := 358) rfl ((if0 _ _).trans (feq (own_okT (1 : Int32) st nn fill lo hi2 1 S _ _ (by decide) (by decide) hS hS' hn (by omega) hlo hhi)).1) ?_
    refine g_aload X50.here hx (Jvm.hb hby at_358) (pc' := 360) rfl rfl rfl ?_
    refine g_iconst X50.here hx (Jvm.hb hby at_360) (pc' := 361) rfl (z := (2 : Int32)) rfl ?_
    refine g_iload X50.here hx (Jvm.hb hby at_361) (pc' := 363) rfl rfl ?_
    refine g_iload X50.here hx (Jvm.hb hby at_363) (pc' := 365) rfl rfl ?_
    refine g_iload X50.here hx (Jvm.hb hby at_365) (pc' := 367) rfl rfl ?_
    refine g_lload X50.here hx (Jvm.hb hby at_367) (pc' := 369) rfl rfl ?_
    refine g_lload X50.here hx (Jvm.hb hby at_369) (pc' := 371) rfl rfl ?_
    refine g_callP X50 hx hZ hown w_29 w_30 w_31 w_32 (by decide) (rm5 l Z a0 hw [] ad1 (2 : Int32) st nn fill lo hi2 _ T46.heap VE ⟨by decide, by decide⟩) 0 (by decide) (by decide) e50 (by rw [hml]; rfl) [(.ref ad1), (.int (2 : Int32)), (.int st), (.int nn), (.int fill), (.long lo), (.long hi2)] [] (lenOf pd_3 rfl) rfl rfl (Nat.le_of_eq rfl) (Jvm.hb hby at_371) (pc' := 374) rfl (by decide) (by decide) ?_
    intro T51 X51 e51
    show own_Gl p e below s (own_Q0 n0) room_1.cells room_1.slots (T51.setTop (mkF m 374 #[.val (.long x0), .second, .val (.long x1), .second, .val (.long x2), .second, .val (.int x3), .val (.int x4), .val (.int x5), .val (.int c1), .val (.int c2), .val (.int c3), .val (.int st), .val (.int fill), .val (.long w1), .second, .val (.long w2), .second, .val (.long w3), .second, .val (.ref ad1), .val (.ref ad35), .val (.int ep), .val (.int (ss + c3)), .val (.int nn), .val (.int ss), .val (.long lo), .second, .val (.long hi2), .second] [(.int (f_ok (own_fb S ((k1 + k2 + k3 + 7) / 8) (own_N w1 + own_N w2 * 2 ^ k1 + own_N w3 * 2 ^ (k1 + k2)) fill) (2 : Int32) st nn fill lo hi2))]))
    refine g_ifN X51.here hx (Jvm.hb hby at_374) (pc' := 377) rfl ((if0 _ _).trans (feq (own_okT (2 : Int32) st nn fill lo hi2 2 S _ _ (by decide) (by decide) hS hS' hn (by omega) hlo hhi)).1) ?_
    refine g_aload X51.here hx (Jvm.hb hby at_377) (pc' := 379) rfl rfl rfl ?_
    refine g_iconst X51.here hx (Jvm.hb hby at_379) (pc' := 380) rfl (z := (3 : Int32)) rfl ?_
    refine g_iload X51.here hx (Jvm.hb hby at_380) (pc' := 382) rfl rfl ?_
    refine g_iload X51.here hx (Jvm.hb hby at_382) (pc' := 384) rfl rfl ?_
    refine g_iload X51.here hx (Jvm.hb hby at_384) (pc' := 386) rfl rfl ?_
    refine g_lload X51.here hx (Jvm.hb hby at_386) (pc' := 388) rfl rfl ?_
    refine g_lload X51.here hx (Jvm.hb hby at_388) (pc' := 390) rfl rfl ?_
    refine g_callP X51 hx hZ hown w_29 w_30 w_31 w_32 (by decide) (rm5 l Z a0 hw [] ad1 (3 : Int32) st nn fill lo hi2 _ T46.heap VE ⟨by decide, by decide⟩) 0 (by decide) (by decide) e51 (by rw [hml]; rfl) [(.ref ad1), (.int (3 : Int32)), (.int st), (.int nn), (.int fill), (.long lo), (.long hi2)] [] (lenOf pd_3 rfl) rfl rfl (Nat.le_of_eq rfl) (Jvm.hb hby at_390) (pc' := 393) rfl (by decide) (by decide) ?_
    intro T52 X52 e52
    show own_Gl p e below s (own_Q0 n0) room_1.cells room_1.slots (T52.setTop (mkF m 393 #[.val (.long x0), .second, .val (.long x1), .second, .val (.long x2), .second, .val (.int x3), .val (.int x4), .val (.int x5), .val (.int c1), .val (.int c2), .val (.int c3), .val (.int st), .val (.int fill), .val (.long w1), .second, .val (.long w2), .second, .val (.long w3), .second, .val (.ref ad1), .val (.ref ad35), .val (.int ep), .val (.int (ss + c3)), .val (.int nn), .val (.int ss), .val (.long lo), .second, .val (.long hi2), .second] [(.int (f_ok (own_fb S ((k1 + k2 + k3 + 7) / 8) (own_N w1 + own_N w2 * 2 ^ k1 + own_N w3 * 2 ^ (k1 + k2)) fill) (3 : Int32) st nn fill lo hi2))]))
    refine g_ifN X52.here hx (Jvm.hb hby at_393) (pc' := 396) rfl ((if0 _ _).trans (feq (own_okT (3 : Int32) st nn fill lo hi2 3 S _ _ (by decide) (by decide) hS hS' hn (by omega) hlo hhi)).1) ?_
    refine g_aload X52.here hx (Jvm.hb hby at_396) (pc' := 398) rfl rfl rfl ?_
    refine g_iconst X52.here hx (Jvm.hb hby at_398) (pc' := 399) rfl (z := (4 : Int32)) rfl ?_
    refine g_iload X52.here hx (Jvm.hb hby at_399) (pc' := 401) rfl rfl ?_
    refine g_iload X52.here hx (Jvm.hb hby at_401) (pc' := 403) rfl rfl ?_
    refine g_iload X52.here hx (Jvm.hb hby at_403) (pc' := 405) rfl rfl ?_
    refine g_lload X52.here hx (Jvm.hb hby at_405) (pc' := 407) rfl rfl ?_
    refine g_lload X52.here hx (Jvm.hb hby at_407) (pc' := 409) rfl rfl ?_
    refine g_callP X52 hx hZ hown w_29 w_30 w_31 w_32 (by decide) (rm5 l Z a0 hw [] ad1 (4 : Int32) st nn fill lo hi2 _ T46.heap VE ⟨by decide, by decide⟩) 0 (by decide) (by decide) e52 (by rw [hml]; rfl) [(.ref ad1), (.int (4 : Int32)), (.int st), (.int nn), (.int fill), (.long lo), (.long hi2)] [] (lenOf pd_3 rfl) rfl rfl (Nat.le_of_eq rfl) (Jvm.hb hby at_409) (pc' := 412) rfl (by decide) (by decide) ?_
    intro T53 X53 e53
    show own_Gl p e below s (own_Q0 n0) room_1.cells room_1.slots (T53.setTop (mkF m 412 #[.val (.long x0), .second, .val (.long x1), .second, .val (.long x2), .second, .val (.int x3), .val (.int x4), .val (.int x5), .val (.int c1), .val (.int c2), .val (.int c3), .val (.int st), .val (.int fill), .val (.long w1), .second, .val (.long w2), .second, .val (.long w3), .second, .val (.ref ad1), .val (.ref ad35), .val (.int ep), .val (.int (ss + c3)), .val (.int nn), .val (.int ss), .val (.long lo), .second, .val (.long hi2), .second] [(.int (f_ok (own_fb S ((k1 + k2 + k3 + 7) / 8) (own_N w1 + own_N w2 * 2 ^ k1 + own_N w3 * 2 ^ (k1 + k2)) fill) (4 : Int32) st nn fill lo hi2))]))
    refine g_ifN X53.here hx (Jvm.hb hby at_412) (pc' := 415) rfl ((if0 _ _).trans (feq (own_okT (4 : Int32) st nn fill lo hi2 4 S _ _ (by decide) (by decide) hS hS' hn (by omega) hlo hhi)).1) ?_
    refine g_aload X53.here hx (Jvm.hb hby at_415) (pc' := 417) rfl rfl rfl ?_
    refine g_iconst X53.here hx (Jvm.hb hby at_417) (pc' := 418) rfl (z := (5 : Int32)) rfl ?_
    refine g_iload X53.here hx (Jvm.hb hby at_418) (pc' := 420) rfl rfl ?_
    refine g_iload X53.here hx (Jvm.hb hby at_420) (pc' := 422) rfl rfl ?_
    refine g_iload X53.here hx (Jvm.hb hby at_422) (pc' := 424) rfl rfl ?_
    refine g_lload X53.here hx (Jvm.hb hby at_424) (pc' := 426) rfl rfl ?_
    refine g_lload X53.here hx (Jvm.hb hby at_426) (pc' := 428) rfl rfl ?_
    refine g_callP X53 hx hZ hown w_29 w_30 w_31 w_32 (by decide) (rm5 l Z a0 hw [] ad1 (5 : Int32) st nn fill lo hi2 _ T46.heap VE ⟨by decide, by decide⟩) 0 (by decide) (by decide) e53 (by rw [hml]; rfl) [(.ref ad1), (.int (5 : Int32)), (.int st), (.int nn), (.int fill), (.long lo), (.long hi2)] [] (lenOf pd_3 rfl) rfl rfl (Nat.le_of_eq rfl) (Jvm.hb hby at_428) (pc' := 431) rfl (by decide) (by decide) ?_
    intro T54 X54 e54
    show own_Gl p e below s (own_Q0 n0) room_1.cells room_1.slots (T54.setTop (mkF m 431 #[.val (.long x0), .second, .val (.long x1), .second, .val (.long x2), .second, .val (.int x3), .val (.int x4), .val (.int x5), .val (.int c1), .val (.int c2), .val (.int c3), .val (.int st), .val (.int fill), .val (.long w1), .second, .val (.long w2), .second, .val (.long w3), .second, .val (.ref ad1), .val (.ref ad35), .val (.int ep), .val (.int (ss + c3)), .val (.int nn), .val (.int ss), .val (.long lo), .second, .val (.long hi2), .second] [(.int (f_ok (own_fb S ((k1 + k2 + k3 + 7) / 8) (own_N w1 + own_N w2 * 2 ^ k1 + own_N w3 * 2 ^ (k1 + k2)) fill) (5 : Int32) st nn fill lo hi2))]))
    refine g_ifN X54.here hx (Jvm.hb hby at_431) (pc' := 434) rfl ((if0 _ _).trans (feq (own_okT (5 : Int32) st nn fill lo hi2 5 S _ _ (by decide) (by decide) hS hS' hn (by omega) hlo hhi)).1) ?_
    refine g_aload X54.here hx (Jvm.hb hby at_434) (pc' := 436) rfl rfl rfl ?_
    refine g_bipush X54.here hx (Jvm.hb hby at_436) (pc' := 438) rfl (z := (6 : Int32)) rfl ?_
    refine g_iload X54.here hx (Jvm.hb hby at_438) (pc' := 440) rfl rfl ?_
    refine g_iload X54.here hx (Jvm.hb hby at_440) (pc' := 442) rfl rfl ?_
    refine g_iload X54.here hx (Jvm.hb hby at_442) (pc' := 444) rfl rfl ?_
    refine g_lload X54.here hx (Jvm.hb hby at_444) (pc' := 446) rfl rfl ?_
    refine g_lload X54.here hx (Jvm.hb hby at_446) (pc' := 448) rfl rfl ?_
    refine g_callP X54 hx hZ hown w_29 w_30 w_31 w_32 (by decide) (rm5 l Z a0 hw [] ad1 (6 : Int32) st nn fill lo hi2 _ T46.heap VE ⟨by decide, by decide⟩) 0 (by decide) (by decide) e54 (by rw [hml]; rfl) [(.ref ad1), (.int (6 : Int32)), (.int st), (.int nn), (.int fill), (.long lo), (.long hi2)] [] (lenOf pd_3 rfl) rfl rfl (Nat.le_of_eq rfl) (Jvm.hb hby at_448) (pc' := 451) rfl (by decide) (by decide) ?_
    intro T55 X55 e55
    show own_Gl p e below s (own_Q0 n0) room_1.cells room_1.slots (T55.setTop (mkF m 451 #[.val (.long x0), .second, .val (.long x1), .second, .val (.long x2), .second, .val (.int x3), .val (.int x4), .val (.int x5), .val (.int c1), .val (.int c2), .val (.int c3), .val (.int st), .val (.int fill), .val (.long w1), .second, .val (.long w2), .second, .val (.long w3), .second, .val (.ref ad1), .val (.ref ad35), .val (.int ep), .val (.int (ss + c3)), .val (.int nn), .val (.int ss), .val (.long lo), .second, .val (.long hi2), .second] [(.int (f_ok (own_fb S ((k1 + k2 + k3 + 7) / 8) (own_N w1 + own_N w2 * 2 ^ k1 + own_N w3 * 2 ^ (k1 + k2)) fill) (6 : Int32) st nn fill lo hi2))]))
    refine g_ifN X55.here hx (Jvm.hb hby at_451) (pc' := 454) rfl ((if0 _ _).trans (feq (own_okT (6 : Int32) st nn fill lo hi2 6 S _ _ (by decide) (by decide) hS hS' hn (by omega) hlo hhi)).1) ?_
    refine g_aload X55.here hx (Jvm.hb hby at_454) (pc' := 456) rfl rfl rfl ?_
    refine g_bipush X55.here hx (Jvm.hb hby at_456) (pc' := 458) rfl (z := (7 : Int32)) rfl ?_
    refine g_iload X55.here hx (Jvm.hb hby at_458) (pc' := 460) rfl rfl ?_
    refine g_iload X55.here hx (Jvm.hb hby at_460) (pc' := 462) rfl rfl ?_
    refine g_iload X55.here hx (Jvm.hb hby at_462) (pc' := 464) rfl rfl ?_
    refine g_lload X55.here hx (Jvm.hb hby at_464) (pc' := 466) rfl rfl ?_
    refine g_lload X55.here hx (Jvm.hb hby at_466) (pc' := 468) rfl rfl ?_
    refine g_callP X55 hx hZ hown w_29 w_30 w_31 w_32 (by decide) (rm5 l Z a0 hw [] ad1 (7 : Int32) st nn fill lo hi2 _ T46.heap VE ⟨by decide, by decide⟩) 0 (by decide) (by decide) e55 (by rw [hml]; rfl) [(.ref ad1), (.int (7 : Int32)), (.int st), (.int nn), (.int fill), (.long lo), (.long hi2)] [] (lenOf pd_3 rfl) rfl rfl (Nat.le_of_eq rfl) (Jvm.hb hby at_468) (pc' := 471) rfl (by decide) (by decide) ?_
    intro T56 X56 e56
    show own_Gl p e below s (own_Q0 n0) room_1.cells room_1.slots (T56.setTop (mkF m 471 #[.val (.long x0), .second, .val (.long x1), .second, .val (.long x2), .second, .val (.int x3), .val (.int x4), .val (.int x5), .val (.int c1), .val (.int c2), .val (.int c3), .val (.int st), .val (.int fill), .val (.long w1), .second, .val (.long w2), .second, .val (.long w3), .second, .val (.ref ad1), .val (.ref ad35), .val (.int ep), .val (.int (ss + c3)), .val (.int nn), .val (.int ss), .val (.long lo), .second, .val (.long hi2), .second] [(.int (f_ok (own_fb S ((k1 + k2 + k3 + 7) / 8) (own_N w1 + own_N w2 * 2 ^ k1 + own_N w3 * 2 ^ (k1 + k2)) fill) (7 : Int32) st nn fill lo hi2))]))
    refine g_ifN X56.here hx (Jvm.hb hby at_471) (pc' := 474) rfl ((if0 _ _).trans (feq (own_okT (7 : Int32) st nn fill lo hi2 7 S _ _ (by decide) (by decide) hS hS' hn (by omega) hlo hhi)).1) ?_
    refine g_aload X56.here hx (Jvm.hb hby at_474) (pc' := 476) rfl rfl rfl ?_
    refine g_bipush X56.here hx (Jvm.hb hby at_476) (pc' := 478) rfl (z := (8 : Int32)) rfl ?_
    refine g_iload X56.here hx (Jvm.hb hby at_478) (pc' := 480) rfl rfl ?_
    refine g_iload X56.here hx (Jvm.hb hby at_480) (pc' := 482) rfl rfl ?_
    refine g_iload X56.here hx (Jvm.hb hby at_482) (pc' := 484) rfl rfl ?_
    refine g_lload X56.here hx (Jvm.hb hby at_484) (pc' := 486) rfl rfl ?_
    refine g_lload X56.here hx (Jvm.hb hby at_486) (pc' := 488) rfl rfl ?_
    refine g_callP X56 hx hZ hown w_29 w_30 w_31 w_32 (by decide) (rm5 l Z a0 hw [] ad1 (8 : Int32) st nn fill lo hi2 _ T46.heap VE ⟨by decide, by decide⟩) 0 (by decide) (by decide) e56 (by rw [hml]; rfl) [(.ref ad1), (.int (8 : Int32)), (.int st), (.int nn), (.int fill), (.long lo), (.long hi2)] [] (lenOf pd_3 rfl) rfl rfl (Nat.le_of_eq rfl) (Jvm.hb hby at_488) (pc' := 491) rfl (by decide) (by decide) ?_
    intro T57 X57 e57
    show own_Gl p e below s (own_Q0 n0) room_1.cells room_1.slots (T57.setTop (mkF m 491 #[.val (.long x0), .second, .val (.long x1), .second, .val (.long x2), .second, .val (.int x3), .val (.int x4), .val (.int x5), .val (.int c1), .val (.int c2), .val (.int c3), .val (.int st), .val (.int fill), .val (.long w1), .second, .val (.long w2), .second, .val (.long w3), .second, .val (.ref ad1), .val (.ref ad35), .val (.int ep), .val (.int (ss + c3)), .val (.int nn), .val (.int ss), .val (.long lo), .second, .val (.long hi2), .second] [(.int (f_ok (own_fb S ((k1 + k2 + k3 + 7) / 8) (own_N w1 + own_N w2 * 2 ^ k1 + own_N w3 * 2 ^ (k1 + k2)) fill) (8 : Int32) st nn fill lo hi2))]))
    refine g_ifN X57.here hx (Jvm.hb hby at_491) (pc' := 494) rfl ((if0 _ _).trans (feq (own_okT (8 : Int32) st nn fill lo hi2 8 S _ _ (by decide) (by decide) hS hS' hn (by omega) hlo hhi)).1) ?_
    refine g_aload X57.here hx (Jvm.hb hby at_494) (pc' := 496) rfl rfl rfl ?_
    refine g_bipush X57.here hx (Jvm.hb hby at_496) (pc' := 498) rfl (z := (9 : Int32)) rfl ?_
    refine g_iload X57.here hx (Jvm.hb hby at_498) (pc' := 500) rfl rfl ?_
    refine g_iload X57.here hx (Jvm.hb hby at_500) (pc' := 502) rfl rfl ?_
    refine g_iload X57.here hx (Jvm.hb hby at_502) (pc' := 504) rfl rfl ?_
    refine g_lload X57.here hx (Jvm.hb hby at_504) (pc' := 506) rfl rfl ?_
    refine g_lload X57.here hx (Jvm.hb hby at_506) (pc' := 508) rfl rfl ?_
    refine g_callP X57 hx hZ hown w_29 w_30 w_31 w_32 (by decide) (rm5 l Z a0 hw [] ad1 (9 : Int32) st nn fill lo hi2 _ T46.heap VE ⟨by decide, by decide⟩) 0 (by decide) (by decide) e57 (by rw [hml]; rfl) [(.ref ad1), (.int (9 : Int32)), (.int st), (.int nn), (.int fill), (.long lo), (.long hi2)] [] (lenOf pd_3 rfl) rfl rfl (Nat.le_of_eq rfl) (Jvm.hb hby at_508) (pc' := 511) rfl (by decide) (by decide) ?_
    intro T58 X58 e58
    show own_Gl p e below s (own_Q0 n0) room_1.cells room_1.slots (T58.setTop (mkF m 511 #[.val (.long x0), .second, .val (.long x1), .second, .val (.long x2), .second, .val (.int x3), .val (.int x4), .val (.int x5), .val (.int c1), .val (.int c2), .val (.int c3), .val (.int st), .val (.int fill), .val (.long w1), .second, .val (.long w2), .second, .val (.long w3), .second, .val (.ref ad1), .val (.ref ad35), .val (.int ep), .val (.int (ss + c3)), .val (.int nn), .val (.int ss), .val (.long lo), .second, .val (.long hi2), .second] [(.int (f_ok (own_fb S ((k1 + k2 + k3 + 7) / 8) (own_N w1 + own_N w2 * 2 ^ k1 + own_N w3 * 2 ^ (k1 + k2)) fill) (9 : Int32) st nn fill lo hi2))]))
    refine g_ifN X58.here hx (Jvm.hb hby at_511) (pc' := 514) rfl ((if0 _ _).trans (feq (own_okT (9 : Int32) st nn fill lo hi2 9 S _ _ (by decide) (by decide) hS hS' hn (by omega) hlo hhi)).1) ?_
    refine g_aload X58.here hx (Jvm.hb hby at_514) (pc' := 516) rfl rfl rfl ?_
    refine g_bipush X58.here hx (Jvm.hb hby at_516) (pc' := 518) rfl (z := (10 : Int32)) rfl ?_
    refine g_iload X58.here hx (Jvm.hb hby at_518) (pc' := 520) rfl rfl ?_
    refine g_iload X58.here hx (Jvm.hb hby at_520) (pc' := 522) rfl rfl ?_
    refine g_iload X58.here hx (Jvm.hb hby at_522) (pc' := 524) rfl rfl ?_
    refine g_lload X58.here hx (Jvm.hb hby at_524) (pc' := 526) rfl rfl ?_
    refine g_lload X58.here hx (Jvm.hb hby at_526) (pc' := 528) rfl rfl ?_
    refine g_callP X58 hx hZ hown w_29 w_30 w_31 w_32 (by decide) (rm5 l Z a0 hw [] ad1 (10 : Int32) st nn fill lo hi2 _ T46.heap VE ⟨by decide, by decide⟩) 0 (by decide) (by decide) e58 (by rw [hml]; rfl) [(.ref ad1), (.int (10 : Int32)), (.int st), (.int nn), (.int fill), (.long lo), (.long hi2)] [] (lenOf pd_3 rfl) rfl rfl (Nat.le_of_eq rfl) (Jvm.hb hby at_528) (pc' := 531) rfl (by decide) (by decide) ?_
    intro T59 X59 e59
    show own_Gl p e below s (own_Q0 n0) room_1.cells room_1.slots (T59.setTop (mkF m 531 #[.val (.long x0), .second, .val (.long x1), .second, .val (.long x2), .second, .val (.int x3), .val (.int x4), .val (.int x5), .val (.int c1), .val (.int c2), .val (.int c3), .val (.int st), .val (.int fill), .val (.long w1), .second, .val (.long w2), .second, .val (.long w3), .second, .val (.ref ad1), .val (.ref ad35), .val (.int ep), .val (.int (ss + c3)), .val (.int nn), .val (.int ss), .val (.long lo), .second, .val (.long hi2), .second] [(.int (f_ok (own_fb S ((k1 + k2 + k3 + 7) / 8) (own_N w1 + own_N w2 * 2 ^ k1 + own_N w3 * 2 ^ (k1 + k2)) fill) (10 : Int32) st nn fill lo hi2))]))
    refine g_ifN X59.here hx (Jvm.hb hby at_531) (pc' := 534) rfl ((if0 _ _).trans (feq (own_okT (10 : Int32) st nn fill lo hi2 10 S _ _ (by decide) (by decide) hS hS' hn (by omega) hlo hhi)).1) ?_
    refine g_aload X59.here hx (Jvm.hb hby at_534) (pc' := 536) rfl rfl rfl ?_
    refine g_bipush X59.here hx (Jvm.hb hby at_536) (pc' := 538) rfl (z := (11 : Int32)) rfl ?_
    refine g_iload X59.here hx (Jvm.hb hby at_538) (pc' := 540) rfl rfl ?_
    refine g_iload X59.here hx (Jvm.hb hby at_540) (pc' := 542) rfl rfl ?_
    refine g_iload X59.here hx (Jvm.hb hby at_542) (pc' := 544) rfl rfl ?_
    refine g_lload X59.here hx (Jvm.hb hby at_544) (pc' := 546) rfl rfl ?_
    refine g_lload X59.here hx (Jvm.hb hby at_546) (pc' := 548) rfl rfl ?_
    refine g_callP X59 hx hZ hown w_29 w_30 w_31 w_32 (by decide) (rm5 l Z a0 hw [] ad1 (11 : Int32) st nn fill lo hi2 _ T46.heap VE ⟨by decide, by decide⟩) 0 (by decide) (by decide) e59 (by rw [hml]; rfl) [(.ref ad1), (.int (11 : Int32)), (.int st), (.int nn), (.int fill), (.long lo), (.long hi2)] [] (lenOf pd_3 rfl) rfl rfl (Nat.le_of_eq rfl) (Jvm.hb hby at_548) (pc' := 551) rfl (by decide) (by decide) ?_
    intro T60 X60 e60
    show own_Gl p e below s (own_Q0 n0) room_1.cells room_1.slots (T60.setTop (mkF m 551 #[.val (.long x0), .second, .val (.long x1), .second, .val (.long x2), .second, .val (.int x3), .val (.int x4), .val (.int x5), .val (.int c1), .val (.int c2), .val (.int c3), .val (.int st), .val (.int fill), .val (.long w1), .second, .val (.long w2), .second, .val (.long w3), .second, .val (.ref ad1), .val (.ref ad35), .val (.int ep), .val (.int (ss + c3)), .val (.int nn), .val (.int ss), .val (.long lo), .second, .val (.long hi2), .second] [(.int (f_ok (own_fb S ((k1 + k2 + k3 + 7) / 8) (own_N w1 + own_N w2 * 2 ^ k1 + own_N w3 * 2 ^ (k1 + k2)) fill) (11 : Int32) st nn fill lo hi2))]))
    refine g_ifN X60.here hx (Jvm.hb hby at_551) (pc' := 554) rfl ((if0 _ _).trans (feq (own_okT (11 : Int32) st nn fill lo hi2 11 S _ _ (by decide) (by decide) hS hS' hn (by omega) hlo hhi)).1) ?_
    refine g_aload X60.here hx (Jvm.hb hby at_554) (pc' := 556) rfl rfl rfl ?_
    refine g_bipush X60.here hx (Jvm.hb hby at_556) (pc' := 558) rfl (z := (12 : Int32)) rfl ?_
    refine g_iload X60.here hx (Jvm.hb hby at_558) (pc' := 560) rfl rfl ?_
    refine g_iload X60.here hx (Jvm.hb hby at_560) (pc' := 562) rfl rfl ?_
    refine g_iload X60.here hx (Jvm.hb hby at_562) (pc' := 564) rfl rfl ?_
    refine g_lload X60.here hx (Jvm.hb hby at_564) (pc' := 566) rfl rfl ?_
    refine g_lload X60.here hx (Jvm.hb hby at_566) (pc' := 568) rfl rfl ?_
    refine g_callP X60 hx hZ hown w_29 w_30 w_31 w_32 (by decide) (rm5 l Z a0 hw [] ad1 (12 : Int32) st nn fill lo hi2 _ T46.heap VE ⟨by decide, by decide⟩) 0 (by decide) (by decide) e60 (by rw [hml]; rfl) [(.ref ad1), (.int (12 : Int32)), (.int st), (.int nn), (.int fill), (.long lo), (.long hi2)] [] (lenOf pd_3 rfl) rfl rfl (Nat.le_of_eq rfl) (Jvm.hb hby at_568) (pc' := 571) rfl (by decide) (by decide) ?_
    intro T61 X61 e61
    show own_Gl p e below s (own_Q0 n0) room_1.cells room_1.slots (T61.setTop (mkF m 571 #[.val (.long x0), .second, .val (.long x1), .second, .val (.long x2), .second, .val (.int x3), .val (.int x4), .val (.int x5), .val (.int c1), .val (.int c2), .val (.int c3), .val (.int st), .val (.int fill), .val (.long w1), .second, .val (.long w2), .second, .val (.long w3), .second, .val (.ref ad1), .val (.ref ad35), .val (.int ep), .val (.int (ss + c3)), .val (.int nn), .val (.int ss), .val (.long lo), .second, .val (.long hi2), .second] [(.int (f_ok (own_fb S ((k1 + k2 + k3 + 7) / 8) (own_N w1 + own_N w2 * 2 ^ k1 + own_N w3 * 2 ^ (k1 + k2)) fill) (12 : Int32) st nn fill lo hi2))]))
    refine g_ifN X61.here hx (Jvm.hb hby at_571) (pc' := 574) rfl ((if0 _ _).trans (feq (own_okT (12 : Int32) st nn fill lo hi2 12 S _ _ (by decide) (by decide) hS hS' hn (by omega) hlo hhi)).1) ?_
    refine g_aload X61.here hx (Jvm.hb hby at_574) (pc' := 576) rfl rfl rfl ?_
    refine g_bipush X61.here hx (Jvm.hb hby at_576) (pc' := 578) rfl (z := (13 : Int32)) rfl ?_
    refine g_iload X61.here hx (Jvm.hb hby at_578) (pc' := 580) rfl rfl ?_
    refine g_iload X61.here hx (Jvm.hb hby at_580) (pc' := 582) rfl rfl ?_
    refine g_iload X61.here hx (Jvm.hb hby at_582) (pc' := 584) rfl rfl ?_
    refine g_lload X61.here hx (Jvm.hb hby at_584) (pc' := 586) rfl rfl ?_
    refine g_lload X61.here hx (Jvm.hb hby at_586) (pc' := 588) rfl rfl ?_
    refine g_callP X61 hx hZ hown w_29 w_30 w_31 w_32 (by decide) (rm5 l Z a0 hw [] ad1 (13 : Int32) st nn fill lo hi2 _ T46.heap VE ⟨by decide, by decide⟩) 0 (by decide) (by decide) e61 (by rw [hml]; rfl) [(.ref ad1), (.int (13 : Int32)), (.int st), (.int nn), (.int fill), (.long lo), (.long hi2)] [] (lenOf pd_3 rfl) rfl rfl (Nat.le_of_eq rfl) (Jvm.hb hby at_588) (pc' := 591) rfl (by decide) (by decide) ?_
    intro T62 X62 e62
    show own_Gl p e below s (own_Q0 n0) room_1.cells room_1.slots (T62.setTop (mkF m 591 #[.val (.long x0), .second, .val (.long x1), .second, .val (.long x2), .second, .val (.int x3), .val (.int x4), .val (.int x5), .val (.int c1), .val (.int c2), .val (.int c3), .val (.int st), .val (.int fill), .val (.long w1), .second, .val (.long w2), .second, .val (.long w3), .second, .val (.ref ad1), .val (.ref ad35), .val (.int ep), .val (.int (ss + c3)), .val (.int nn), .val (.int ss), .val (.long lo), .second, .val (.long hi2), .second] [(.int (f_ok (own_fb S ((k1 + k2 + k3 + 7) / 8) (own_N w1 + own_N w2 * 2 ^ k1 + own_N w3 * 2 ^ (k1 + k2)) fill) (13 : Int32) st nn fill lo hi2))]))
    refine g_ifN X62.here hx (Jvm.hb hby at_591) (pc' := 594) rfl ((if0 _ _).trans (feq (own_okT (13 : Int32) st nn fill lo hi2 13 S _ _ (by decide) (by decide) hS hS' hn (by omega) hlo hhi)).1) ?_
    refine g_aload X62.here hx (Jvm.hb hby at_594) (pc' := 596) rfl rfl rfl ?_
    refine g_bipush X62.here hx (Jvm.hb hby at_596) (pc' := 598) rfl (z := (14 : Int32)) rfl ?_
    refine g_iload X62.here hx (Jvm.hb hby at_598) (pc' := 600) rfl rfl ?_
    refine g_iload X62.here hx (Jvm.hb hby at_600) (pc' := 602) rfl rfl ?_
    refine g_iload X62.here hx (Jvm.hb hby at_602) (pc' := 604) rfl rfl ?_
    refine g_lload X62.here hx (Jvm.hb hby at_604) (pc' := 606) rfl rfl ?_
    refine g_lload X62.here hx (Jvm.hb hby at_606) (pc' := 608) rfl rfl ?_
    refine g_callP X62 hx hZ hown w_29 w_30 w_31 w_32 (by decide) (rm5 l Z a0 hw [] ad1 (14 : Int32) st nn fill lo hi2 _ T46.heap VE ⟨by decide, by decide⟩) 0 (by decide) (by decide) e62 (by rw [hml]; rfl) [(.ref ad1), (.int (14 : Int32)), (.int st), (.int nn), (.int fill), (.long lo), (.long hi2)] [] (lenOf pd_3 rfl) rfl rfl (Nat.le_of_eq rfl) (Jvm.hb hby at_608) (pc' := 611) rfl (by decide) (by decide) ?_
    intro T63 X63 e63
    show own_Gl p e below s (own_Q0 n0) room_1.cells room_1.slots (T63.setTop (mkF m 611 #[.val (.long x0), .second, .val (.long x1), .second, .val (.long x2), .second, .val (.int x3), .val (.int x4), .val (.int x5), .val (.int c1), .val (.int c2), .val (.int c3), .val (.int st), .val (.int fill), .val (.long w1), .second, .val (.long w2), .second, .val (.long w3), .second, .val (.ref ad1), .val (.ref ad35), .val (.int ep), .val (.int (ss + c3)), .val (.int nn), .val (.int ss), .val (.long lo), .second, .val (.long hi2), .second] [(.int (f_ok (own_fb S ((k1 + k2 + k3 + 7) / 8) (own_N w1 + own_N w2 * 2 ^ k1 + own_N w3 * 2 ^ (k1 + k2)) fill) (14 : Int32) st nn fill lo hi2))]))
    refine g_ifN X63.here hx (Jvm.hb hby at_611) (pc' := 614) rfl ((if0 _ _).trans (feq (own_okT (14 : Int32) st nn fill lo hi2 14 S _ _ (by decide) (by decide) hS hS' hn (by omega) hlo hhi)).1) ?_
    refine g_aload X63.here hx (Jvm.hb hby at_614) (pc' := 616) rfl rfl rfl ?_
    refine g_bipush X63.here hx (Jvm.hb hby at_616) (pc' := 618) rfl (z := (15 : Int32)) rfl ?_
    refine g_iload X63.here hx (Jvm.hb hby at_618) (pc' := 620) rfl rfl ?_
    refine g_iload X63.here hx (Jvm.hb hby at_620) (pc' := 622) rfl rfl ?_
    refine g_iload X63.here hx (Jvm.hb hby at_622) (pc' := 624) rfl rfl ?_
    refine g_lload X63.here hx (Jvm.hb hby at_624) (pc' := 626) rfl rfl ?_
    refine g_lload X63.here hx (Jvm.hb hby at_626) (pc' := 628) rfl rfl ?_
    refine g_callP X63 hx hZ hown w_29 w_30 w_31 w_32 (by decide) (rm5 l Z a0 hw [] ad1 (15 : Int32) st nn fill lo hi2 _ T46.heap VE ⟨by decide, by decide⟩) 0 (by decide) (by decide) e63 (by rw [hml]; rfl) [(.ref ad1), (.int (15 : Int32)), (.int st), (.int nn), (.int fill), (.long lo), (.long hi2)] [] (lenOf pd_3 rfl) rfl rfl (Nat.le_of_eq rfl) (Jvm.hb hby at_628) (pc' := 631) rfl (by decide) (by decide) ?_
    intro T64 X64 e64
    show own_Gl p e below s (own_Q0 n0) room_1.cells room_1.slots (T64.setTop (mkF m 631 #[.val (.long x0), .second, .val (.long x1), .second, .val (.long x2), .second, .val (.int x3), .val (.int x4), .val (.int x5), .val (.int c1), .val (.int c2), .val (.int c3), .val (.int st), .val (.int fill), .val (.long w1), .second, .val (.long w2), .second, .val (.long w3), .second, .val (.ref ad1), .val (.ref ad35), .val (.int ep), .val (.int (ss + c3)), .val (.int nn), .val (.int ss), .val (.long lo), .second, .val (.long hi2), .second] [(.int (f_ok (own_fb S ((k1 + k2 + k3 + 7) / 8) (own_N w1 + own_N w2 * 2 ^ k1 + own_N w3 * 2 ^ (k1 + k2)) fill) (15 : Int32) st nn fill lo hi2))]))
    refine g_ifN X64.here hx (Jvm.hb hby at_631) (pc' := 634) rfl ((if0 _ _).trans (feq (own_okT (15 : Int32) st nn fill lo hi2 15 S _ _ (by decide) (by decide) hS hS' hn (by omega) hlo hhi)).1) ?_
    refine g_iconst X64.here hx (Jvm.hb hby at_634) (pc' := 635) rfl (z := (1 : Int32)) rfl ?_
    refine g_goto X64.here hx (Jvm.hb hby at_635) (by decide) (pc' := 639) (by decide) ?_
    exact g_retN X64 hx hlk (t := .boolean) hret (by simp) (z' := (1 : Int32)) rfl (Jvm.hb hby at_639) (by decide) (by decide) ⟨rfl, Nlc48⟩
  have k275 : ∀ (lo : Int64), ∀ (hlo : own_N lo = (own_N w1 + own_N w2 * 2 ^ k1 + own_N w3 * 2 ^ (k1 + k2)) % 2 ^ 64), own_Gl p e below s (own_Q0 n0) room_1.cells room_1.slots (T46.setTop (mkF m 275 #[.val (.long x0), .second, .val (.long x1), .second, .val (.long x2), .second, .val (.int x3), .val (.int x4), .val (.int x5), .val (.int c1), .val (.int c2), .val (.int c3), .val (.int st), .val (.int fill), .val (.long w1), .second, .val (.long w2), .second, .val (.long w3), .second, .val (.ref ad1), .val (.ref ad35), .val (.int ep), .val (.int (ss + c3)), .val (.int nn), .val (.int ss), .val (.long lo), .second, .unset, .unset] [])) := by
    intro lo hlo
    refine g_iload Xlc48.here hx (Jvm.hb hby at_275) (pc' := 277) rfl rfl ?_
    by_cases hc277 : ss = (0 : Int32)
    · refine g_ifN Xlc48.here hx (Jvm.hb hby at_277) (pc' := 280) rfl ((if0 _ _).trans (teq hc277).2) ?_
      refine g_lconst Xlc48.here hx (Jvm.hb hby at_280) (pc' := 281) rfl (z := (0 : Int64)) rfl ?_
      refine g_lstore Xlc48.here hx (Jvm.hb hby at_281) (pc' := 283) rfl (L' := #[.val (.long x0), .second, .val (.long x1), .second, .val (.long x2), .second, .val (.int x3), .val (.int x4), .val (.int x5), .val (.int c1), .val (.int c2), .val (.int c3), .val (.int st), .val (.int fill), .val (.long w1), .second, .val (.long w2), .second, .val (.long w3), .second, .val (.ref ad1), .val (.ref ad35), .val (.int ep), .val (.int (ss + c3)), .val (.int nn), .val (.int ss), .val (.long lo), .second, .val (.long (0 : Int64)), .second]) rfl ?_
      refine g_goto Xlc48.here hx (Jvm.hb hby at_283) (by decide) (pc' := 310) (by decide) ?_
      exact k310 lo hlo _ (by
        have z : k1 + k2 = 0 := by rw [← Int32.toInt_inj, g1] at hc277; simp only [Int32.reduceToInt] at hc277; omega
        rw [own_hiA _ _ _ u2 (by omega), z, Nat.sub_zero]
        have q := Nat.pow_le_pow_right (show 0 < 2 by decide) hk3'
        rw [Nat.div_eq_of_lt (by omega)]
        decide)
    · refine g_ifY Xlc48.here hx (Jvm.hb hby at_277) (by decide) (pc' := 286) (by decide) ((if0 _ _).trans (feq hc277).2) ?_
      refine g_iload Xlc48.here hx (Jvm.hb hby at_286) (pc' := 288) rfl rfl ?_
      refine g_bipush Xlc48.here hx (Jvm.hb hby at_288) (pc' := 290) rfl (z := (64 : Int32)) rfl ?_
      by_cases hc290 : ss = (64 : Int32)
      · refine g_icN Xlc48.here hx (Jvm.hb hby at_290) (pc' := 293) rfl (teq hc290).2 ?_
        refine g_lload Xlc48.here hx (Jvm.hb hby at_293) (pc' := 295) rfl rfl ?_
        refine g_lstore Xlc48.here hx (Jvm.hb hby at_295) (pc' := 297) rfl (L' := #[.val (.long x0), .second, .val (.long x1), .second, .val (.long x2), .second, .val (.int x3), .val (.int x4), .val (.int x5), .val (.int c1), .val (.int c2), .val (.int c3), .val (.int st), .val (.int fill), .val (.long w1), .second, .val (.long w2), .second, .val (.long w3), .second, .val (.ref ad1), .val (.ref ad35), .val (.int ep), .val (.int (ss + c3)), .val (.int nn), .val (.int ss), .val (.long lo), .second, .val (.long w3), .second]) rfl ?_
        refine g_goto Xlc48.here hx (Jvm.hb hby at_297) (by decide) (pc' := 310) (by decide) ?_
        exact k310 lo hlo _ (by
          have z : k1 + k2 = 64 := by rw [← Int32.toInt_inj, g1] at hc290; simp only [Int32.reduceToInt] at hc290; omega
          rw [own_hiA _ _ _ u2 (by omega), z, Nat.sub_self, Nat.pow_zero, Nat.div_one])
      · refine g_icY Xlc48.here hx (Jvm.hb hby at_290) (by decide) (pc' := 300) (by decide) (feq hc290).2 ?_
        refine g_lload Xlc48.here hx (Jvm.hb hby at_300) (pc' := 302) rfl rfl ?_
        refine g_bipush Xlc48.here hx (Jvm.hb hby at_302) (pc' := 304) rfl (z := (64 : Int32)) rfl ?_
        refine g_iload Xlc48.here hx (Jvm.hb hby at_304) (pc' := 306) rfl rfl ?_
        refine g_isub Xlc48.here hx (Jvm.hb hby at_306) (pc' := 307) rfl ?_
        refine g_lushr Xlc48.here hx (Jvm.hb hby at_307) (pc' := 308) rfl ?_
        refine g_lstore Xlc48.here hx (Jvm.hb hby at_308) (pc' := 310) rfl (L' := #[.val (.long x0), .second, .val (.long x1), .second, .val (.long x2), .second, .val (.int x3), .val (.int x4), .val (.int x5), .val (.int c1), .val (.int c2), .val (.int c3), .val (.int st), .val (.int fill), .val (.long w1), .second, .val (.long w2), .second, .val (.long w3), .second, .val (.ref ad1), .val (.ref ad35), .val (.int ep), .val (.int (ss + c3)), .val (.int nn), .val (.int ss), .val (.long lo), .second, .val (.long ((w3.toUInt64 >>> (((64 : Int32) - ss) &&& 0x3f).toInt64.toUInt64).toInt64)), .second]) rfl ?_
        exact k310 lo hlo _ (by
          have z0 : ¬ k1 + k2 = 0 := fun q => hc277 (by rw [← Int32.toInt_inj, g1]; simp only [Int32.reduceToInt]; omega)
          have e := c_isub 64 ss
          have r := rng32 (64 - ss)
          simp only [Int32.reduceToInt] at e
          rw [own_hiA _ _ _ u2 (by omega), own_Nushr w3 (64 - ss) (64 - (k1 + k2)) (by omega) (by omega)])
  refine g_lload Xlc48.here hx (Jvm.hb hby at_248) (pc' := 250) rfl rfl ?_
  refine g_lload Xlc48.here hx (Jvm.hb hby at_250) (pc' := 252) rfl rfl ?_
  refine g_iload Xlc48.here hx (Jvm.hb hby at_252) (pc' := 254) rfl rfl ?_
  refine g_lshl Xlc48.here hx (Jvm.hb hby at_254) (pc' := 255) rfl ?_
  refine g_lor Xlc48.here hx (Jvm.hb hby at_255) (pc' := 256) rfl ?_
  refine g_iload Xlc48.here hx (Jvm.hb hby at_256) (pc' := 258) rfl rfl ?_
  refine g_bipush Xlc48.here hx (Jvm.hb hby at_258) (pc' := 260) rfl (z := (64 : Int32)) rfl ?_
  by_cases hc260 : ss < (64 : Int32)
  · refine g_icN Xlc48.here hx (Jvm.hb hby at_260) (pc' := 263) rfl (tlt hc260).2.1 ?_
    refine g_lload Xlc48.here hx (Jvm.hb hby at_263) (pc' := 265) rfl rfl ?_
    refine g_iload Xlc48.here hx (Jvm.hb hby at_265) (pc' := 267) rfl rfl ?_
    refine g_lshl Xlc48.here hx (Jvm.hb hby at_267) (pc' := 268) rfl ?_
    refine g_goto Xlc48.here hx (Jvm.hb hby at_268) (by decide) (pc' := 272) (by decide) ?_
    refine g_lor Xlc48.here hx (Jvm.hb hby at_272) (pc' := 273) rfl ?_
    refine g_lstore Xlc48.here hx (Jvm.hb hby at_273) (pc' := 275) rfl (L' := #[.val (.long x0), .second, .val (.long x1), .second, .val (.long x2), .second, .val (.int x3), .val (.int x4), .val (.int x5), .val (.int c1), .val (.int c2), .val (.int c3), .val (.int st), .val (.int fill), .val (.long w1), .second, .val (.long w2), .second, .val (.long w3), .second, .val (.ref ad1), .val (.ref ad35), .val (.int ep), .val (.int (ss + c3)), .val (.int nn), .val (.int ss), .val (.long ((w1 ||| (w2 <<< (c1 &&& 0x3f).toInt64)) ||| (w3 <<< (ss &&& 0x3f).toInt64))), .second, .unset, .unset]) rfl ?_
    exact k275 _ (by
      rw [Int32.lt_iff_toInt_lt, g1] at hc260
      simp only [Int32.reduceToInt] at hc260
      rw [own_loB _ w3 ss (k1 + k2) g1 (by omega) (by rw [u1]; exact u2), u1])
  · refine g_icY Xlc48.here hx (Jvm.hb hby at_260) (by decide) (pc' := 271) (by decide) (flt hc260).2.1 ?_
    refine g_lconst Xlc48.here hx (Jvm.hb hby at_271) (pc' := 272) rfl (z := (0 : Int64)) rfl ?_
    refine g_lor Xlc48.here hx (Jvm.hb hby at_272) (pc' := 273) rfl ?_
    refine g_lstore Xlc48.here hx (Jvm.hb hby at_273) (pc' := 275) rfl (L' := #[.val (.long x0), .second, .val (.long x1), .second, .val (.long x2), .second, .val (.int x3), .val (.int x4), .val (.int x5), .val (.int c1), .val (.int c2), .val (.int c3), .val (.int st), .val (.int fill), .val (.long w1), .second, .val (.long w2), .second, .val (.long w3), .second, .val (.ref ad1), .val (.ref ad35), .val (.int ep), .val (.int (ss + c3)), .val (.int nn), .val (.int ss), .val (.long ((w1 ||| (w2 <<< (c1 &&& 0x3f).toInt64)) ||| (0 : Int64))), .second, .unset, .unset]) rfl ?_
    exact k275 _ (by
      rw [Int32.lt_iff_toInt_lt, g1] at hc260
      simp only [Int32.reduceToInt] at hc260
      have z : k1 + k2 = 64 := by omega
      rw [Int64.or_zero, u1, z, Nat.add_mul_mod_self_right, Nat.mod_eq_of_lt (by rw [← z]; exact u2)])
set_option maxRecDepth 65536 in
set_option maxHeartbeats 40000000 in
theorem comes_1 {Post : Tables → Env → Array Value → State → Outcome → State → Prop} (hpost : ∀ tb e args s v u, (limb_1_1.after args s (.returned v) u = true ∧ limb_1_2.after args s (.returned v) u = true ∧ True) → FrameEnd s (.returned v) u (Jvm.fieldLocs frame_1_writes args s ++ Jvm.arrayLocs frame_1_arrays args s ++ Jvm.staticLocs frame_1_statics s) 16 128 → Post tb e args s (.returned v) u) :
    ArmFor flags0 classFile x code maxLocals ret World_1 tables_1 room_1 Calls_1 rest_1 Pre_1 Post := by
  intro l hfl _ _ p e ha hc hk s m args below hf hA hF happ hP
  obtain ⟨hcalls, hrest, hpre⟩ := hP
  obtain ⟨-, -, -, hnamed, -, -, -, hat⟩ := (Spec.applies_iff hf).mp happ
  obtain ⟨hg, hn⟩ := and_e (Cond.before_iff.mp (show (Jvm.Cond.and given_1 narrow_1).before args s = true from hpre))
  obtain ⟨g1, g2⟩ := and_e hg
  obtain ⟨g3, g4⟩ := and_e g2
  obtain ⟨g5, g6⟩ := and_e g4
  obtain ⟨g7, g8⟩ := and_e g6
  obtain ⟨g9, g10⟩ := and_e g8
  obtain ⟨g11, g12⟩ := and_e g10
  obtain ⟨w0, w1, w2, w3, w4, w5, rfl⟩ : ∃ w0 w1 w2 w3 w4 w5 : Value, args = #[w0, w1, w2, w3, w4, w5] := by
    have hs : args.size = 6 := by simpa [Cond.value, given_1] using g1
    obtain ⟨L⟩ := args
    match L, hs with
    | [w0, w1, w2, w3, w4, w5], _ => exact ⟨w0, w1, w2, w3, w4, w5, rfl⟩
  have hw := fun d (hd : d ∈ tables_1) => atoms_spec (ws := Jvm.Cond.code x code maxLocals ret :: tables_1) hat d (List.mem_cons_of_mem _ hd)
  obtain ⟨i0, ei0⟩ := isL_v g3
  obtain rfl : w0 = (.long i0) := Option.some.inj ei0
  obtain ⟨i1, ei1⟩ := isL_v g5
  obtain rfl : w1 = (.long i1) := Option.some.inj ei1
  obtain ⟨i2, ei2⟩ := isL_v g7
  obtain rfl : w2 = (.long i2) := Option.some.inj ei2
  obtain ⟨i3, ei3⟩ := is_v g9
  obtain rfl : w3 = (.int i3) := Option.some.inj ei3
  obtain ⟨i4, ei4⟩ := is_v g11
  obtain rfl : w4 = (.int i4) := Option.some.inj ei4
  obtain ⟨i5, ei5⟩ := is_v g12
  obtain rfl : w5 = (.int i5) := Option.some.inj ei5
  obtain ⟨n, o, h1, h2, h3, _, L, rfl, ⟨rfl, N⟩, hq⟩ := rm0 l s _ hw tables_1 i0 i1 i2 i3 i4 i5 s.heap s.heap.size (Nat.le_refl _) p e ha hc hk s m _ below hf ((Spec.applies_iff_loose hf).mp happ).1 ⟨rfl, State.Warmed39.refl s, rfl⟩ trivial
  refine ⟨n, _, h1, h2, h3, hpost _ _ _ _ _ _ ⟨Cond.after_iff.mpr rfl, Cond.after_iff.mpr (eq_i res_at (Term.int_eval (1)) rfl), trivial⟩ ⟨hq.1, hq.2.1, (hq.2.2.sift fun y hy => Or.inr (N y hy)).mono (by decide) (by decide)⟩⟩
theorem main_1_1 : Claimed_1_1 := comes_1 fun _ _ _ _ _ _ h hF => ⟨h.1, hF⟩
theorem main_1_2 : Claimed_1_2 := comes_1 fun _ _ _ _ _ _ h hF => ⟨h.2.1, hF⟩
end Jvm.Pilot.@@N@@
namespace Jvm.Pilot.@@N@@
open Jvm Jvm.ClassFile Sem Op Lib Jvm.Free Jvm.Stand Jvm.Pilot.@@N@@.Jvm.D
/-! MADE BY PROGRAM (witnessworld.py) out of the Statement's table words and the real class files: 9 classes; the members and pool entries that the words name. The judged class is class 1, her method 1. -/
namespace start1
open Jvm.ClassFile
def u (s : String) : CpInfo := .utf8 (stringToUtf16 s)
/-- a pool by its gaps: so many unusable entries, then the entry; so many at the end -/
def gap : Nat → List CpInfo → List CpInfo
  | 0, r => r
  | n + 1, r => .unusable :: gap n r
def poolList (es : List (Nat × CpInfo)) (last : Nat) : List CpInfo := es.foldr (fun e r => gap e.1 (e.2 :: r)) (gap last [])
def pool (es : List (Nat × CpInfo)) (last : Nat) : Array CpInfo := ⟨poolList es last⟩
def fileOf (pool : Array CpInfo) (this : Nat) (attrs : Array Attribute := #[]) (ms : Array MethodInfo := #[]) (fl : Nat := 33) (sup : Nat := 0) (ifs : Array Nat := #[]) (fds : Array FieldInfo := #[]) : ClassFile where
  minorVersion := 0
  majorVersion := 65
  constantPool := pool
  accessFlags := fl
  thisClass := this
  superClass := sup
  interfaces := ifs
  fields := fds
  methods := ms
  attributes := attrs
def plain (name : String) (sup : Option ClassId) : Class where
  name := name
  kind := .ordinary
  loader := none
  accessFlags := 33
  super := sup
  interfaces := #[]
  cf := none
  fields := #[]
  methods := #[]
  instanceTypes := #[]
  staticTypes := #[]
  resolved := #[]
  callSites := []
  init := .initialized
  statics := none
  mirror := none

def pool0 : Array CpInfo := pool [(5, u "<init>"), (0, u "()V"), (1, .class_ 10), (1, u "java/lang/Object")] 113

def k0c0 : Code := { maxStack := 0, maxLocals := 1, code := object_method_1_code, exceptionTable := #[], attributes := #[] }
def k0m0 : Method := { name := "<init>", desc := "()V", sig := { parameters := [], returnType := none }, accessFlags := 1, code := some k0c0 }
/-- java/lang/Object -/
def k0 : Class := { plain "java/lang/Object" none with
  accessFlags := 33
  interfaces := #[]
  cf := some (fileOf pool0 8 #[] #[{ accessFlags := 1, nameIndex := 5, descriptorIndex := 6, attributes := #[] }] 33 0 #[] #[])
  fields := #[]
  methods := #[k0m0]
  instanceTypes := #[]
  staticTypes := #[]
  resolved := Array.replicate 124 none
  statics := none }

def pool1 : Array CpInfo := pool [(2, .class_ 4), (1, u "java/lang/Object"), (0, u "<init>"), (0, u "()V"), (0, .integer 65535), (0, .class_ 9), (0, u "com/example/tierstone/tierstone/compress/BitWriter"), (0, .methodref 8 11), (0, .nameAndType 5 12), (0, u "([BI)V"), (0, .methodref 8 14), (0, .nameAndType 15 16), (0, u "add"), (0, u "(JI)V"), (0, .methodref 8 18), (0, .nameAndType 19 20), (0, u "end"), (0, u "()I"), (0, .methodref 22 23), (0, .class_ 24), (0, .nameAndType 25 26), (0, u "com/example/tierstone/tierstone/compress/BitWriterAddPinLaw"), (0, u "ok"), (0, u "([BIIIBJJ)Z"), (2, u "law"), (0, u "(JJJIII)Z")] 5

def k1m0 : Method := { name := "<init>", desc := "()V", sig := { parameters := [], returnType := none }, accessFlags := 1, code := none }
def k1c1 : Code := { maxStack := 9, maxLocals := 30, code := code, exceptionTable := #[], attributes := #[] }
def k1m1 : Method := { name := "law", desc := "(JJJIII)Z", sig := { parameters := [.long, .long, .long, .int, .int, .int], returnType := some .boolean }, accessFlags := 9, code := some k1c1 }
def k1c2 : Code := { maxStack := 5, maxLocals := 11, code := method_3_code, exceptionTable := #[], attributes := #[] }
def k1m2 : Method := { name := "ok", desc := "([BIIIBJJ)Z", sig := { parameters := [(.array .byte), .int, .int, .int, .byte, .long, .long], returnType := some .boolean }, accessFlags := 10, code := some k1c2 }
/-- com/example/tierstone/tierstone/compress/BitWriterAddPinLaw -/
def k1 : Class := { plain "com/example/tierstone/tierstone/compress/BitWriterAddPinLaw" (some 0) with
  accessFlags := 49
  interfaces := #[]
  cf := some (fileOf pool1 22 #[] #[{ accessFlags := 1, nameIndex := 5, descriptorIndex := 6, attributes := #[] }, { accessFlags := 9, nameIndex := 29, descriptorIndex := 30, attributes := #[] }, { accessFlags := 10, nameIndex := 25, descriptorIndex := 26, attributes := #[] }] 49 2 #[] #[])
  fields := #[]
  methods := #[k1m0, k1m1, k1m2]
  instanceTypes := #[]
  staticTypes := #[]
  resolved := Array.replicate 36 none
  statics := none }

def pool2 : Array CpInfo := pool [(1, .methodref 2 3), (0, .class_ 4), (0, .nameAndType 5 6), (0, u "java/lang/Object"), (0, u "<init>"), (0, u "()V"), (0, .fieldref 8 9), (0, .class_ 10), (0, .nameAndType 11 12), (0, u "com/example/tierstone/tierstone/compress/BitWriter"), (0, u "bytes"), (0, u "[B"), (0, .fieldref 8 14), (0, .nameAndType 15 16), (0, u "position"), (0, u "I"), (0, .fieldref 8 18), (0, .nameAndType 19 20), (0, u "pending"), (0, u "J"), (0, .fieldref 8 22), (0, .nameAndType 23 16), (0, u "pendingCount"), (4, u "add"), (0, u "(JI)V"), (2, u "end"), (0, u "()I"), (2, u "([BI)V")] 6

def k2c0 : Code := { maxStack := 2, maxLocals := 3, code := prog_142_method_1_code, exceptionTable := #[], attributes := #[] }
def k2m0 : Method := { name := "<init>", desc := "([BI)V", sig := { parameters := [(.array .byte), .int], returnType := none }, accessFlags := 0, code := some k2c0 }
def k2c1 : Code := { maxStack := 6, maxLocals := 4, code := prog_142_method_2_code, exceptionTable := #[], attributes := #[] }
def k2m1 : Method := { name := "add", desc := "(JI)V", sig := { parameters := [.long, .int], returnType := none }, accessFlags := 0, code := some k2c1 }
def k2c2 : Code := { maxStack := 5, maxLocals := 1, code := prog_142_method_4_code, exceptionTable := #[], attributes := #[] }
def k2m2 : Method := { name := "end", desc := "()I", sig := { parameters := [], returnType := some .int }, accessFlags := 0, code := some k2c2 }
/-- com/example/tierstone/tierstone/compress/BitWriter -/
def k2 : Class := { plain "com/example/tierstone/tierstone/compress/BitWriter" (some 0) with
  accessFlags := 48
  interfaces := #[]
  cf := some (fileOf pool2 8 #[] #[{ accessFlags := 0, nameIndex := 5, descriptorIndex := 36, attributes := #[] }, { accessFlags := 0, nameIndex := 28, descriptorIndex := 29, attributes := #[] }, { accessFlags := 0, nameIndex := 32, descriptorIndex := 33, attributes := #[] }] 48 2 #[] #[{ accessFlags := 18, nameIndex := 11, descriptorIndex := 12, attributes := #[] }, { accessFlags := 2, nameIndex := 15, descriptorIndex := 16, attributes := #[] }, { accessFlags := 2, nameIndex := 19, descriptorIndex := 20, attributes := #[] }, { accessFlags := 2, nameIndex := 23, descriptorIndex := 16, attributes := #[] }])
  fields := #[{ name := "bytes", type := (.array .byte), accessFlags := 18, slot := 0, constantValue := 0 }, { name := "position", type := .int, accessFlags := 2, slot := 1, constantValue := 0 }, { name := "pending", type := .long, accessFlags := 2, slot := 2, constantValue := 0 }, { name := "pendingCount", type := .int, accessFlags := 2, slot := 3, constantValue := 0 }]
  methods := #[k2m0, k2m1, k2m2]
  instanceTypes := #[(.array .byte), .int, .long, .int]
  staticTypes := #[]
  resolved := Array.replicate 43 none
  statics := none }

def pool3 : Array CpInfo := pool [(1, u "java/lang/Cloneable"), (0, .class_ 1), (0, u "java/lang/Object"), (0, .class_ 3)] 3

/-- java/lang/Cloneable -/
def k3 : Class := { plain "java/lang/Cloneable" (some 0) with
  accessFlags := 1537
  interfaces := #[]
  cf := some (fileOf pool3 2 #[] #[] 1537 4 #[] #[])
  fields := #[]
  methods := #[]
  instanceTypes := #[]
  staticTypes := #[]
  resolved := Array.replicate 8 none
  statics := none }

def pool4 : Array CpInfo := pool [(1, u "java/io/Serializable"), (0, .class_ 1), (0, u "java/lang/Object"), (0, .class_ 3)] 3

/-- java/io/Serializable -/
def k4 : Class := { plain "java/io/Serializable" (some 0) with
  accessFlags := 1537
  interfaces := #[]
  cf := some (fileOf pool4 2 #[] #[] 1537 4 #[] #[])
  fields := #[]
  methods := #[]
  instanceTypes := #[]
  staticTypes := #[]
  resolved := Array.replicate 8 none
  statics := none }

/-- the primitive byte -/
def k5 : Class := { plain "byte" none with kind := .primitive 'B', accessFlags := 0x411 }
/-- [B -/
def k6 : Class := { plain "[B" (some 0) with kind := .array 5 .byte, interfaces := #[3, 4], accessFlags := 1041 }

/-- the primitive int -/
def k7 : Class := { plain "int" none with kind := .primitive 'I', accessFlags := 0x411 }
/-- [I -/
def k8 : Class := { plain "[I" (some 0) with kind := .array 7 .int, interfaces := #[3, 4], accessFlags := 1041 }

def heap : Heap := #[]
def classes : Array Class := #[k0, k1, k2, k3, k4, k5, k6, k7, k8]
def interned : List (Array UInt16 × Addr) := []
def slotsUsed : Nat := 0
def theMethod : MethodId := ⟨1, 1⟩
def args0 : Array Value := #[.long 5, .long 6, .long 7, .int 3, .int 1, .int 2]
def aboutOver (below : List Frame) : State where
  vm := { classes := classes, interned := interned.toArray }
  heap := heap
  slotsUsed := slotsUsed
  threads := #[{ frames := .invoking theMethod args0 :: below }]
def below0 : List Frame := [.native { method := ⟨0, 0⟩, args := #[] }]
def about1 : State := aboutOver below0
def p0 : Program := .bare "" "" ""
def e0 : Env := launch0.env 0 0 0
theorem w_frames : about1.frames = Frame.invoking theMethod args0 :: below0 := rfl
set_option maxRecDepth 65536 in
theorem w_args : argsFit about1.vm theMethod args0 = true := by decide +kernel
set_option maxRecDepth 65536 in
theorem w_heap : heapFits about1 = true := by decide +kernel
set_option maxRecDepth 65536 in
theorem w_runnable : about1.curStatus? = some .runnable := by decide +kernel
set_option maxRecDepth 65536 in
theorem w_alone : about1.alone = true := by decide +kernel
set_option maxRecDepth 65536 in
theorem w_named : about1.methodNamed? x = some theMethod := by decide +kernel
set_option maxRecDepth 65536 in
theorem w_hears : about1.hears theMethod below0 = true := by decide +kernel
set_option maxRecDepth 65536 in
theorem w_ripe : about1.ripe theMethod args0 below0 = true := by decide +kernel
theorem w_running : about1.status = .running := rfl
set_option maxRecDepth 65536 in
theorem w_room : about1.hasRoom e0.platform room_1 = true :=
  launch0.hasRoom_least _ room_1 (by decide +kernel) (by decide +kernel) (by decide +kernel) (by decide +kernel) (by decide +kernel) (by decide +kernel)
theorem allAtoms_all (ts : List Jvm.Cond) (a : Array Jvm.Value) (st : Jvm.State) : (allAtoms ts).before a st = ts.all (fun c => c.before a st) := by
  induction ts with
  | nil => rfl
  | cons c t ih =>
    show (Jvm.Cond.and c (allAtoms t)).before a st = _
    rw [Jvm.Cond.before_and, ih, List.all_cons]
def words1 : List Jvm.Cond := Jvm.Cond.code x code maxLocals ret :: tables_1
/-- a 'code' word, met by the world's own term for the bytes: nothing is compared byte by byte -/
theorem code_word {y : MethodName} {bytes : ByteArray} {mx : Nat} {rt : Option FieldType} {a : Array Value} {s : State} {m : MethodId} {meth : Method} {c : Code} (h1 : s.methodNamed? y = some m) (h2 : s.vm.method? m = some meth) (h3 : meth.code = some c) (h4 : c.code = bytes)
    (h5 : (c.maxLocals == mx && c.exceptionTable.isEmpty && decide (c.maxStack ≤ mostOperands) && decide (meth.sig.returnType = rt) && !meth.locks && decide (parseMethodDescriptor y.desc = some meth.sig)) = true) : (Jvm.Cond.code y bytes mx rt).before a s = true := by
  simp only [Bool.and_eq_true, beq_iff_eq, Bool.not_eq_true', decide_eq_true_eq] at h5
  obtain ⟨⟨⟨⟨⟨g1, g2⟩, g3⟩, g4⟩, g5⟩, g6⟩ := h5
  simp [Cond.before, Cond.holds, Cond.value, h1, h2, h3, h4, g1, g2, g3, g4, g5, g6]
def isCode : Jvm.Cond → Bool
  | .code _ _ _ _ => true
  | _ => false
theorem all_split {L : List Jvm.Cond} {P : Jvm.Cond → Bool} (h1 : L.all (fun c => isCode c || P c) = true) (h2 : ∀ c ∈ L.filter isCode, P c = true) : L.all P = true := by
  refine List.all_eq_true.mpr fun c hc => ?_
  have h := List.all_eq_true.mp h1 c hc
  rcases Bool.eq_false_or_eq_true (isCode c) with hi | hi
  · exact h2 c (List.mem_filter.mpr ⟨hc, hi⟩)
  · simpa [hi] using h
set_option maxRecDepth 65536 in
theorem w_c0 : (Jvm.Cond.code x code maxLocals ret).before args0 about1 = true := code_word (m := ⟨1, 1⟩) (meth := k1m1) (c := k1c1) (by decide +kernel) rfl rfl rfl (by decide +kernel)
set_option maxRecDepth 65536 in
theorem w_c1 : (Jvm.Cond.code ({ cls := "com/example/tierstone/tierstone/compress/BitWriter", name := "<init>", desc := "([BI)V" } : Jvm.MethodName) prog_142_method_1_code (3 : Nat) (Option.none : Option Jvm.ClassFile.FieldType)).before args0 about1 = true := code_word (m := ⟨2, 0⟩) (meth := k2m0) (c := k2c0) (by decide +kernel) rfl rfl rfl (by decide +kernel)
set_option maxRecDepth 65536 in
theorem w_c2 : (Jvm.Cond.code ({ cls := "java/lang/Object", name := "<init>", desc := "()V" } : Jvm.MethodName) object_method_1_code (1 : Nat) (Option.none : Option Jvm.ClassFile.FieldType)).before args0 about1 = true := code_word (m := ⟨0, 0⟩) (meth := k0m0) (c := k0c0) (by decide +kernel) rfl rfl rfl (by decide +kernel)
set_option maxRecDepth 65536 in
theorem w_c3 : (Jvm.Cond.code ({ cls := "com/example/tierstone/tierstone/compress/BitWriter", name := "add", desc := "(JI)V" } : Jvm.MethodName) prog_142_method_2_code (4 : Nat) (Option.none : Option Jvm.ClassFile.FieldType)).before args0 about1 = true := code_word (m := ⟨2, 1⟩) (meth := k2m1) (c := k2c1) (by decide +kernel) rfl rfl rfl (by decide +kernel)
set_option maxRecDepth 65536 in
theorem w_c4 : (Jvm.Cond.code ({ cls := "com/example/tierstone/tierstone/compress/BitWriter", name := "end", desc := "()I" } : Jvm.MethodName) prog_142_method_4_code (1 : Nat) (Option.some Jvm.ClassFile.FieldType.int)).before args0 about1 = true := code_word (m := ⟨2, 2⟩) (meth := k2m2) (c := k2c2) (by decide +kernel) rfl rfl rfl (by decide +kernel)
set_option maxRecDepth 65536 in
theorem w_c5 : (Jvm.Cond.code ({ cls := "com/example/tierstone/tierstone/compress/BitWriterAddPinLaw", name := "ok", desc := "([BIIIBJJ)Z" } : Jvm.MethodName) method_3_code (11 : Nat) (Option.some Jvm.ClassFile.FieldType.boolean)).before args0 about1 = true := code_word (m := ⟨1, 2⟩) (meth := k1m2) (c := k1c2) (by decide +kernel) rfl rfl rfl (by decide +kernel)
def codes1 : List Jvm.Cond := [Jvm.Cond.code x code maxLocals ret, Jvm.Cond.code ({ cls := "com/example/tierstone/tierstone/compress/BitWriter", name := "<init>", desc := "([BI)V" } : Jvm.MethodName) prog_142_method_1_code (3 : Nat) (Option.none : Option Jvm.ClassFile.FieldType), Jvm.Cond.code ({ cls := "java/lang/Object", name := "<init>", desc := "()V" } : Jvm.MethodName) object_method_1_code (1 : Nat) (Option.none : Option Jvm.ClassFile.FieldType), Jvm.Cond.code ({ cls := "com/example/tierstone/tierstone/compress/BitWriter", name := "add", desc := "(JI)V" } : Jvm.MethodName) prog_142_method_2_code (4 : Nat) (Option.none : Option Jvm.ClassFile.FieldType), Jvm.Cond.code ({ cls := "com/example/tierstone/tierstone/compress/BitWriter", name := "end", desc := "()I" } : Jvm.MethodName) prog_142_method_4_code (1 : Nat) (Option.some Jvm.ClassFile.FieldType.int), Jvm.Cond.code ({ cls := "com/example/tierstone/tierstone/compress/BitWriterAddPinLaw", name := "ok", desc := "([BIIIBJJ)Z" } : Jvm.MethodName) method_3_code (11 : Nat) (Option.some Jvm.ClassFile.FieldType.boolean)]
set_option maxRecDepth 65536 in
theorem codes_eq : words1.filter isCode = codes1 := rfl
theorem w_codes : ∀ c ∈ words1.filter isCode, c.before args0 about1 = true := by
  rw [codes_eq]
  intro c hc
  simp only [codes1, List.mem_cons, List.not_mem_nil, or_false] at hc
  rcases hc with rfl | rfl | rfl | rfl | rfl | rfl
  · exact w_c0
  · exact w_c1
  · exact w_c2
  · exact w_c3
  · exact w_c4
  · exact w_c5
set_option maxRecDepth 65536 in
theorem w_t1 : (words1.take 24).all (fun c => isCode c || c.before args0 about1) = true := by decide +kernel
set_option maxRecDepth 65536 in
theorem w_t2 : (words1.drop 24).all (fun c => isCode c || c.before args0 about1) = true := by decide +kernel
theorem w_tables : (allAtoms (Jvm.Cond.code x code maxLocals ret :: tables_1)).before args0 about1 = true := by
  rw [allAtoms_all]
  show words1.all (fun c => c.before args0 about1) = true
  refine all_split ?_ w_codes
  rw [← List.take_append_drop 24 words1, List.all_append, w_t1, w_t2]
  rfl
set_option maxRecDepth 65536 in
theorem w_case : (Jvm.Cond.and given_1 narrow_1).before args0 about1 = true := by decide +kernel
theorem w_applies : (headSpec (Jvm.Cond.code x code maxLocals ret :: tables_1) room_1).applies x e0.platform about1 = true :=
  (Spec.applies_iff w_frames).mpr ⟨w_running, w_runnable, w_alone, w_named, w_hears, w_ripe, w_room, w_tables⟩
theorem atStart : AtStart classFile x code maxLocals ret World_1 tables_1 room_1 Calls_1 rest_1 Pre_1 launch0 p0 e0 about1 theMethod args0 below0 :=
  ⟨lists_1, trivial, launch0.admits_env _ _ _, launch0.least_env, fairChoices_fair.cas, fairChoices_fair.clock, w_frames, w_args, w_heap, w_applies, trivial, trivial, w_case⟩
end start1
theorem witness_1 : WitnessClaimed_1 := ⟨start1.p0, start1.e0, start1.about1, start1.theMethod, start1.args0, start1.below0, start1.atStart⟩
end Jvm.Pilot.@@N@@
