import JvmDerived
import JvmDerived.Pilot.@@N@@Statement
import JvmDerived.Pilot.@@N@@Code
set_option linter.unusedVariables false
set_option linter.unusedSimpArgs false
namespace Jvm.Pilot.@@N@@
open Jvm Jvm.ClassFile Sem Op Lib Jvm.Free Jvm.Stand Jvm.LawKit Jvm.RoadKit Bundle Jvm.Pilot.@@N@@.Jvm.D
set_option maxRecDepth 4000
section OwnKit
/-- the goal of a walk: from S the run comes to a return that Q allows, and nothing old is touched -/
def own_Gl (p : Program) (e : Env) (below : List Frame) (s : State) (Q : Option Value → Heap → List Loc → Prop) (kc ks : Nat) (S : State) : Prop :=
  ∃ s₂ o, Steps p.tables e below S s₂ ∧ s₂.status = .running ∧ Ended s₂ below o ∧ ∃ v L, o = .returned v ∧ Q v s₂.heap L ∧ FrameEnd s o s₂ L kc ks
variable {p : Program} {l : Launch} {e : Env} {R : Room} {s : State} {m : MethodId} {args : Array Value} {below : List Frame} {meth : Method} {c : Code} {T : State} {locs : List Loc} {cells slots : Nat} {Z : State} {a0 : Array Value} {h : Heap} {Q : Option Value → Heap → List Loc → Prop} {kc ks : Nat} {pc pc' : Nat} {L L' : Array Slot} {S : List Value}
theorem own_Gl.go {S S' : State} (h : own_Gl p e below s Q kc ks S') (st : ∀ t, Steps p.tables e below S' t → Steps p.tables e below S t) : own_Gl p e below s Q kc ks S := by
  obtain ⟨s₂, o, h1, h2⟩ := h
  exact ⟨s₂, o, st _ h1, h2⟩
/-- what a method leaves that writes nothing and makes nothing -/
def own_Pure (w : Option Value) (h0 : Heap) (v : Option Value) (h : Heap) (L : List Loc) : Prop := v = w ∧ L = [] ∧ h = h0
theorem own_body {l : Launch} {Z : State} {y : MethodName} {bytes : ByteArray} {maxL : Nat} {ret : Option FieldType} {ws : List Jvm.Cond} {rm : Room} {as' : Array Value} {h0 : Heap} {Q : Option Value → Heap → List Loc → Prop} {L0 : Array Slot} {own : String}
    (hpl : plainName y.cls = true) (hyc : y.cls = own) (hef : ∀ m, entryFrame m as' maxL = mkF m 0 L0 [])
    (body : ∀ p e s m below meth c T, p.tables.exec = Jvm.exec → c.code = bytes → c.maxLocals = maxL → s.vm.findClass own = some m.cls → meth.name = y.name → meth.locks = false → meth.sig.returnType = ret → Z.Warmed39 s.vm → Stand p l e rm s m as' below meth c T [] 0 0 → T.heap = h0 →
      own_Gl p e below s Q rm.cells rm.slots (T.setTop (mkF m 0 L0 []))) :
    MetFree l y (head1 (Jvm.Cond.code y bytes maxL ret :: ws) rm) (fun a U => a = as' ∧ Z.Warmed39 U.vm ∧ U.heap = h0) (fun _ _ _ _ _ => True) (fun _ U o U' => ∃ v L, o = .returned v ∧ Q v U'.heap L ∧ FrameEnd U o U' L rm.cells rm.slots) := by
  refine MetFree.of_bodySF (plainFor_of_name hpl) hisR ?_
  intro p e s m args below meth c s₁ Bd hml0 hP hK
  obtain ⟨rfl, hZ, hh⟩ := hP
  have hown : s.vm.findClass y.cls = some m.cls := findClass_of_methodNamed Bd.named
  have hnm := (name_of_methodNamed Bd.named Bd.method).1
  have X0 : Stand p l e rm s m _ below meth c s₁ [] 0 0 := Stand.of_body Bd
  have e0 : s₁.heap = h0 := by rw [← hh, Bd.state]; rfl
  obtain ⟨s₂, o, h1, h2⟩ := body p e s m below meth c s₁ Bd.exec Bd.bytes hml0 (hyc ▸ hown) hnm Bd.notSynchronized Bd.returns hZ X0 e0
  exact ⟨s₂, o, castTop (hef m) h1, h2⟩
theorem own_ret (X : Stand p l e R s m args below meth c T locs cells slots) (hlk : meth.locks = false) {v : Option Value} (hv : meth.sig.returnType = none → v = none) (hQ : Q v T.heap locs) (hc : cells ≤ kc) (hs : slots ≤ ks) {S : State}
    (st : ∀ fs, (∀ (f : JFrame) (acts : List Action), f.method = m → f.locked = none → f.entered = [] → (doReturn e (T.setTop f) acts v).1 = T.setFrames fs) → Steps p.tables e below S (T.setFrames fs)) : own_Gl p e below s Q kc ks S := by
  obtain ⟨fs, hr, hrun, hended, hW, hsame⟩ := X.leave (v := v) hv hlk
  exact ⟨_, _, st fs hr, hrun, hended, v, locs, rfl, hQ, ⟨_, rfl⟩, hW, hsame.mono hc hs⟩
theorem g_retI (X : Stand p l e R s m args below meth c T locs cells slots) (hx : p.tables.exec = Jvm.exec) (hlk : meth.locks = false) {z : Int32} (hret : meth.sig.returnType = some .int) (hd : decode c.code pc = .ok (.ireturn, 1)) (hc : cells ≤ kc) (hs : slots ≤ ks) (hQ : Q (some (.int z)) T.heap locs) :
    own_Gl p e below s Q kc ks (T.setTop (mkF m pc L (.int z :: S))) :=
  own_ret X hlk (fun h => by rw [hret] at h; cases h) hQ hc hs fun fs hr => retOut X hx hret rfl (Or.inl ⟨rfl, Or.inl rfl, z, rfl⟩) hd hr
theorem g_retN (X : Stand p l e R s m args below meth c T locs cells slots) (hx : p.tables.exec = Jvm.exec) (hlk : meth.locks = false) {z z' : Int32} {t : FieldType} (hret : meth.sig.returnType = some t) (ht : t = .boolean ∨ t = .byte ∨ t = .char ∨ t = .short) (hz : nar t z = z') (hd : decode c.code pc = .ok (.ireturn, 1)) (hc : cells ≤ kc) (hs : slots ≤ ks) (hQ : Q (some (.int z')) T.heap locs) :
    own_Gl p e below s Q kc ks (T.setTop (mkF m pc L (.int z :: S))) := by
  subst hz
  exact own_ret X hlk (fun h => by rw [hret] at h; cases h) hQ hc hs fun fs hr => retN X hx hret ht hd hr
theorem g_retL (X : Stand p l e R s m args below meth c T locs cells slots) (hx : p.tables.exec = Jvm.exec) (hlk : meth.locks = false) {z : Int64} (hret : meth.sig.returnType = some .long) (hd : decode c.code pc = .ok (.lreturn, 1)) (hc : cells ≤ kc) (hs : slots ≤ ks) (hQ : Q (some (.long z)) T.heap locs) :
    own_Gl p e below s Q kc ks (T.setTop (mkF m pc L (.long z :: S))) :=
  own_ret X hlk (fun h => by rw [hret] at h; cases h) hQ hc hs fun fs hr => retOut X hx hret rfl (Or.inr (Or.inl ⟨rfl, rfl, z, rfl⟩)) hd hr
theorem g_retV (X : Stand p l e R s m args below meth c T locs cells slots) (hx : p.tables.exec = Jvm.exec) (hlk : meth.locks = false) (hret : meth.sig.returnType = none) (hd : decode c.code pc = .ok (.return_, 1)) (hc : cells ≤ kc) (hs : slots ≤ ks) (hQ : Q none T.heap locs) :
    own_Gl p e below s Q kc ks (T.setTop (mkF m pc L [])) :=
  own_ret X hlk (fun _ => rfl) hQ hc hs fun fs hr => X.returnOut hx hret hd hr
/-- a static call by the callee's contract -/
theorem g_callS (X : Stand p l e R s m args below meth c T locs cells slots) (hx : p.tables.exec = Jvm.exec) (hZ : Z.Warmed39 s.vm) {own : String} {index : Nat} {y : MethodName} {bytes : ByteArray} {maxL : Nat} {ret : Option FieldType} (hown : s.vm.findClass own = some m.cls)
    (w1 : (Jvm.Cond.methodLink own index y).before a0 Z = true) (w2 : (Jvm.Cond.static y).before a0 Z = true) (w3 : (Jvm.Cond.initialized y.cls).before a0 Z = true) (w4 : (Jvm.Cond.code y bytes maxL ret).before a0 Z = true) (hy : y.cls ≠ "java/lang/invoke/MethodHandle" ∧ y.cls ≠ "java/lang/invoke/VarHandle")
    {rm : Room} {as' : Array Value} {Qc : Option Value → Heap → List Loc → Prop}
    (hM : MetFree l y (head1 [Jvm.Cond.code y bytes maxL ret] rm) (fun a U => a = as' ∧ Z.Warmed39 U.vm ∧ U.heap = h) (fun _ _ _ _ _ => True) (fun _ U o U' => ∃ v L, o = .returned v ∧ Qc v U'.heap L ∧ FrameEnd U o U' L rm.cells rm.slots))
    (W : Nat) (hf : rm.frames + 1 ≤ R.frames) (hl : W + (maxL + 11) + rm.locals ≤ R.locals) (eT : T.heap = h) (hsize : L.size = c.maxLocals) (argsL rest : List Value) (hlen : ∀ sig, parseMethodDescriptor y.desc = some sig → argsL.length = sig.parameters.length)
    (hst : S = argsL.reverse ++ rest) (has : argsL.toArray = as') (hW : (rest.map fun v => v.category).sum ≤ W) (hd : decode c.code pc = .ok (.invokestatic index, 3)) (hp : pc + 3 = pc') {cells' slots' : Nat} (hcc : cells + rm.cells = cells') (hss : slots + rm.slots = slots') (hcl : cells' ≤ R.cells) (hsl : slots' ≤ R.slots)
    (k : ∀ (v : Option Value) (T' : State) (L' : List Loc), Stand p l e R s m args below meth c T' (locs ++ L') cells' slots' → Qc v T'.heap L' → own_Gl p e below s Q kc ks (T'.setTop (mkF m pc' L (v.toList ++ rest)))) :
    own_Gl p e below s Q kc ks (T.setTop (mkF m pc L S)) := by
  subst hp hst hcc hss
  obtain ⟨v, _, ⟨T', L', k', n'⟩, -, X', ⟨Lc, hQ, l', y', z'⟩, st⟩ := Jvm.LawKit.callS X hx (y := y) hown (mvT hZ w1) (mvT hZ w2) (mvT hZ w3) (mvT hZ w4) hy (backOf (W := W) hM hZ w4 w3 hf hl) (g := mkF m pc L (argsL.reverse ++ rest)) rfl hsize (argsL := argsL) (rest := rest) hlen rfl (by show 2 * 0 + _ ≤ _; omega) hd (fun _ _ => ⟨has, eT, hcl, hsl⟩)
  dsimp only [Pt.U, Pt.locs, Pt.cells, Pt.slots] at X' l' y' z' st hQ
  subst l' y' z'
  exact (k v T' Lc X' hQ).go st
/-- the same of a method that writes nothing -/
theorem g_callP (X : Stand p l e R s m args below meth c T locs cells slots) (hx : p.tables.exec = Jvm.exec) (hZ : Z.Warmed39 s.vm) {own : String} {index : Nat} {y : MethodName} {bytes : ByteArray} {maxL : Nat} {ret : Option FieldType} (hown : s.vm.findClass own = some m.cls)
    (w1 : (Jvm.Cond.methodLink own index y).before a0 Z = true) (w2 : (Jvm.Cond.static y).before a0 Z = true) (w3 : (Jvm.Cond.initialized y.cls).before a0 Z = true) (w4 : (Jvm.Cond.code y bytes maxL ret).before a0 Z = true) (hy : y.cls ≠ "java/lang/invoke/MethodHandle" ∧ y.cls ≠ "java/lang/invoke/VarHandle")
    {fr lo : Nat} {as' : Array Value} {w : Option Value}
    (hM : MetFree l y (head1 [Jvm.Cond.code y bytes maxL ret] ({ frames := fr, cells := 0, slots := 0, locals := lo } : Room)) (fun a U => a = as' ∧ Z.Warmed39 U.vm ∧ U.heap = h) (fun _ _ _ _ _ => True) (fun _ U o U' => ∃ v L, o = .returned v ∧ own_Pure w h v U'.heap L ∧ FrameEnd U o U' L ({ frames := fr, cells := 0, slots := 0, locals := lo } : Room).cells ({ frames := fr, cells := 0, slots := 0, locals := lo } : Room).slots))
    (W : Nat) (hf : fr + 1 ≤ R.frames) (hl : W + (maxL + 11) + lo ≤ R.locals) (eT : T.heap = h) (hsize : L.size = c.maxLocals) (argsL rest : List Value) (hlen : ∀ sig, parseMethodDescriptor y.desc = some sig → argsL.length = sig.parameters.length)
    (hst : S = argsL.reverse ++ rest) (has : argsL.toArray = as') (hW : (rest.map fun v => v.category).sum ≤ W) (hd : decode c.code pc = .ok (.invokestatic index, 3)) (hp : pc + 3 = pc') (hcl : cells ≤ R.cells) (hsl : slots ≤ R.slots)
    (k : ∀ (T' : State), Stand p l e R s m args below meth c T' locs cells slots → T'.heap = h → own_Gl p e below s Q kc ks (T'.setTop (mkF m pc' L (w.toList ++ rest)))) :
    own_Gl p e below s Q kc ks (T.setTop (mkF m pc L S)) := by
  refine g_callS X hx hZ hown w1 w2 w3 w4 hy hM W hf hl eT hsize argsL rest hlen hst has hW hd hp (cells' := cells) (slots' := slots) rfl rfl hcl hsl ?_
  intro v T' L' X' hQ
  obtain ⟨rfl, rfl, e'⟩ := hQ
  rw [List.append_nil] at X'
  exact k T' X' e'
theorem own_tltL {x y : Int64} (h : x < y) : ifCond.holds .lt (lcmpW x y) = true ∧ ifCond.holds .ge (lcmpW x y) = false ∧ ifCond.holds .gt (lcmpW y x) = true ∧ ifCond.holds .le (lcmpW y x) = false := by
  have h1 := (lw_lt x y).mpr h
  have h2 := (lw_gt y x).mpr h
  rw [if0, if0, if0, if0]
  exact ⟨(tlt h1).1, (tlt h1).2.1, (tlt h2).2.2.1, (tlt h2).2.2.2⟩
theorem own_fltL {x y : Int64} (h : ¬ x < y) : ifCond.holds .lt (lcmpW x y) = false ∧ ifCond.holds .ge (lcmpW x y) = true ∧ ifCond.holds .gt (lcmpW y x) = false ∧ ifCond.holds .le (lcmpW y x) = true := by
  have h1 := fun q => h ((lw_lt x y).mp q)
  have h2 := fun q => h ((lw_gt y x).mp q)
  rw [if0, if0, if0, if0]
  exact ⟨(flt h1).1, (flt h1).2.1, (flt h2).2.2.1, (flt h2).2.2.2⟩
theorem own_teqL {x y : Int64} (h : x = y) : ifCond.holds .eq (lcmpW x y) = true ∧ ifCond.holds .ne (lcmpW x y) = false := by
  have h1 := (lw_eq x y).mpr h
  rw [if0, if0]
  exact ⟨(teq h1).1, (teq h1).2⟩
theorem own_feqL {x y : Int64} (h : ¬ x = y) : ifCond.holds .eq (lcmpW x y) = false ∧ ifCond.holds .ne (lcmpW x y) = true := by
  have h1 := fun q => h ((lw_eq x y).mp q)
  rw [if0, if0]
  exact ⟨(feq h1).1, (feq h1).2⟩
theorem g_iloadN (h : At T m c below) (hx : p.tables.exec = Jvm.exec) {j : Fin 4} {v : Int32} (hd : decode c.code pc = .ok (.iload_n j, 1)) (hp : pc + 1 = pc') (hl : L[j.val]? = some (.val (.int v))) (hr : own_Gl p e below s Q kc ks (T.setTop (mkF m pc' L (.int v :: S)))) : own_Gl p e below s Q kc ks (T.setTop (mkF m pc L S)) := by
  subst hp; exact hr.go fun t k => XS.iloadN h hx rfl hd hl k
theorem g_lloadN (h : At T m c below) (hx : p.tables.exec = Jvm.exec) {j : Fin 4} {v : Int64} (hd : decode c.code pc = .ok (.lload_n j, 1)) (hp : pc + 1 = pc') (hl : L[j.val]? = some (.val (.long v))) (hr : own_Gl p e below s Q kc ks (T.setTop (mkF m pc' L (.long v :: S)))) : own_Gl p e below s Q kc ks (T.setTop (mkF m pc L S)) := by
  subst hp; exact hr.go fun t k => XS.lloadN h hx rfl hd hl k
theorem g_aloadN (h : At T m c below) (hx : p.tables.exec = Jvm.exec) {j : Fin 4} {v : Value} (hd : decode c.code pc = .ok (.aload_n j, 1)) (hp : pc + 1 = pc') (hl : L[j.val]? = some (.val v)) (hv : v.isRef = true) (hr : own_Gl p e below s Q kc ks (T.setTop (mkF m pc' L (v :: S)))) : own_Gl p e below s Q kc ks (T.setTop (mkF m pc L S)) := by
  subst hp; exact hr.go fun t k => XS.aloadN h hx rfl hd hl hv k
theorem g_istoreN (h : At T m c below) (hx : p.tables.exec = Jvm.exec) {j : Fin 4} {v : Int32} (hd : decode c.code pc = .ok (.istore_n j, 1)) (hp : pc + 1 = pc') (hl : storeLocals L j.val (.int v) = some L') (hr : own_Gl p e below s Q kc ks (T.setTop (mkF m pc' L' S))) : own_Gl p e below s Q kc ks (T.setTop (mkF m pc L (.int v :: S))) := by
  subst hp; exact hr.go fun t k => XS.istoreN h hx rfl hd rfl hl k
theorem g_lstoreN (h : At T m c below) (hx : p.tables.exec = Jvm.exec) {j : Fin 4} {v : Int64} (hd : decode c.code pc = .ok (.lstore_n j, 1)) (hp : pc + 1 = pc') (hl : storeLocals L j.val (.long v) = some L') (hr : own_Gl p e below s Q kc ks (T.setTop (mkF m pc' L' S))) : own_Gl p e below s Q kc ks (T.setTop (mkF m pc L (.long v :: S))) := by
  subst hp; exact hr.go fun t k => XS.lstoreN h hx rfl hd rfl hl k
theorem g_astoreN (h : At T m c below) (hx : p.tables.exec = Jvm.exec) {j : Fin 4} {v : Value} (hd : decode c.code pc = .ok (.astore_n j, 1)) (hp : pc + 1 = pc') (hv : v.isRef = true) (hl : storeLocals L j.val v = some L') (hr : own_Gl p e below s Q kc ks (T.setTop (mkF m pc' L' S))) : own_Gl p e below s Q kc ks (T.setTop (mkF m pc L (v :: S))) := by
  subst hp; exact hr.go fun t k => XS.astoreN h hx rfl hd rfl hv hl k
theorem g_iload (h : At T m c below) (hx : p.tables.exec = Jvm.exec) {j : Nat} {v : Int32} (hd : decode c.code pc = .ok (.iload j, 2)) (hp : pc + 2 = pc') (hl : L[j]? = some (.val (.int v))) (hr : own_Gl p e below s Q kc ks (T.setTop (mkF m pc' L (.int v :: S)))) : own_Gl p e below s Q kc ks (T.setTop (mkF m pc L S)) := by
  subst hp; exact hr.go fun t k => XS.iload h hx rfl hd hl k
theorem g_lload (h : At T m c below) (hx : p.tables.exec = Jvm.exec) {j : Nat} {v : Int64} (hd : decode c.code pc = .ok (.lload j, 2)) (hp : pc + 2 = pc') (hl : L[j]? = some (.val (.long v))) (hr : own_Gl p e below s Q kc ks (T.setTop (mkF m pc' L (.long v :: S)))) : own_Gl p e below s Q kc ks (T.setTop (mkF m pc L S)) := by
  subst hp; exact hr.go fun t k => XS.lload h hx rfl hd hl k
theorem g_aload (h : At T m c below) (hx : p.tables.exec = Jvm.exec) {j : Nat} {v : Value} (hd : decode c.code pc = .ok (.aload j, 2)) (hp : pc + 2 = pc') (hl : L[j]? = some (.val v)) (hv : v.isRef = true) (hr : own_Gl p e below s Q kc ks (T.setTop (mkF m pc' L (v :: S)))) : own_Gl p e below s Q kc ks (T.setTop (mkF m pc L S)) := by
  subst hp; exact hr.go fun t k => XS.aload h hx rfl hd hl hv k
theorem g_istore (h : At T m c below) (hx : p.tables.exec = Jvm.exec) {j : Nat} {v : Int32} (hd : decode c.code pc = .ok (.istore j, 2)) (hp : pc + 2 = pc') (hl : storeLocals L j (.int v) = some L') (hr : own_Gl p e below s Q kc ks (T.setTop (mkF m pc' L' S))) : own_Gl p e below s Q kc ks (T.setTop (mkF m pc L (.int v :: S))) := by
  subst hp; exact hr.go fun t k => XS.istore h hx rfl hd rfl hl k
theorem g_lstore (h : At T m c below) (hx : p.tables.exec = Jvm.exec) {j : Nat} {v : Int64} (hd : decode c.code pc = .ok (.lstore j, 2)) (hp : pc + 2 = pc') (hl : storeLocals L j (.long v) = some L') (hr : own_Gl p e below s Q kc ks (T.setTop (mkF m pc' L' S))) : own_Gl p e below s Q kc ks (T.setTop (mkF m pc L (.long v :: S))) := by
  subst hp; exact hr.go fun t k => XS.lstore h hx rfl hd rfl hl k
theorem g_astore (h : At T m c below) (hx : p.tables.exec = Jvm.exec) {j : Nat} {v : Value} (hd : decode c.code pc = .ok (.astore j, 2)) (hp : pc + 2 = pc') (hv : v.isRef = true) (hl : storeLocals L j v = some L') (hr : own_Gl p e below s Q kc ks (T.setTop (mkF m pc' L' S))) : own_Gl p e below s Q kc ks (T.setTop (mkF m pc L (v :: S))) := by
  subst hp; exact hr.go fun t k => XS.astore h hx rfl hd rfl hv hl k
theorem g_iconst (h : At T m c below) (hx : p.tables.exec = Jvm.exec) {i : Int} {z : Int32} (hd : decode c.code pc = .ok (.iconst i, 1)) (hp : pc + 1 = pc') (hz : Int32.ofInt i = z) (hr : own_Gl p e below s Q kc ks (T.setTop (mkF m pc' L (.int z :: S)))) : own_Gl p e below s Q kc ks (T.setTop (mkF m pc L S)) := by
  subst hp hz; exact hr.go fun t k => XS.iconst h hx rfl hd k
theorem g_bipush (h : At T m c below) (hx : p.tables.exec = Jvm.exec) {i : Int} {z : Int32} (hd : decode c.code pc = .ok (.bipush i, 2)) (hp : pc + 2 = pc') (hz : (Int8.ofInt i).toInt32 = z) (hr : own_Gl p e below s Q kc ks (T.setTop (mkF m pc' L (.int z :: S)))) : own_Gl p e below s Q kc ks (T.setTop (mkF m pc L S)) := by
  subst hp hz; exact hr.go fun t k => XS.bipush h hx rfl hd k
theorem g_sipush (h : At T m c below) (hx : p.tables.exec = Jvm.exec) {i : Int} {z : Int32} (hd : decode c.code pc = .ok (.sipush i, 3)) (hp : pc + 3 = pc') (hz : (Int16.ofInt i).toInt32 = z) (hr : own_Gl p e below s Q kc ks (T.setTop (mkF m pc' L (.int z :: S)))) : own_Gl p e below s Q kc ks (T.setTop (mkF m pc L S)) := by
  subst hp hz; exact hr.go fun t k => XS.sipush h hx rfl hd k
theorem g_lconst (h : At T m c below) (hx : p.tables.exec = Jvm.exec) {i : Fin 2} {z : Int64} (hd : decode c.code pc = .ok (.lconst i, 1)) (hp : pc + 1 = pc') (hz : Int64.ofNat i = z) (hr : own_Gl p e below s Q kc ks (T.setTop (mkF m pc' L (.long z :: S)))) : own_Gl p e below s Q kc ks (T.setTop (mkF m pc L S)) := by
  subst hp hz; exact hr.go fun t k => XS.lconst h hx rfl hd k
theorem g_aconstNull (h : At T m c below) (hx : p.tables.exec = Jvm.exec)  (hd : decode c.code pc = .ok (.aconst_null, 1)) (hp : pc + 1 = pc')  (hr : own_Gl p e below s Q kc ks (T.setTop (mkF m pc' L (.null :: S)))) : own_Gl p e below s Q kc ks (T.setTop (mkF m pc L S)) := by
  subst hp; exact hr.go fun t k => XS.aconstNull h hx rfl hd k
theorem g_iadd (h : At T m c below) (hx : p.tables.exec = Jvm.exec) {u v : Int32} (hd : decode c.code pc = .ok (.iadd, 1)) (hp : pc + 1 = pc')  (hr : own_Gl p e below s Q kc ks (T.setTop (mkF m pc' L (.int (u + v) :: S)))) : own_Gl p e below s Q kc ks (T.setTop (mkF m pc L (.int v :: .int u :: S))) := by
  subst hp; exact hr.go fun t k => XS.iadd h hx rfl hd rfl k
theorem g_ladd (h : At T m c below) (hx : p.tables.exec = Jvm.exec) {u v : Int64} (hd : decode c.code pc = .ok (.ladd, 1)) (hp : pc + 1 = pc')  (hr : own_Gl p e below s Q kc ks (T.setTop (mkF m pc' L (.long (u + v) :: S)))) : own_Gl p e below s Q kc ks (T.setTop (mkF m pc L (.long v :: .long u :: S))) := by
  subst hp; exact hr.go fun t k => XS.ladd h hx rfl hd rfl k
theorem g_isub (h : At T m c below) (hx : p.tables.exec = Jvm.exec) {u v : Int32} (hd : decode c.code pc = .ok (.isub, 1)) (hp : pc + 1 = pc')  (hr : own_Gl p e below s Q kc ks (T.setTop (mkF m pc' L (.int (u - v) :: S)))) : own_Gl p e below s Q kc ks (T.setTop (mkF m pc L (.int v :: .int u :: S))) := by
  subst hp; exact hr.go fun t k => XS.isub h hx rfl hd rfl k
theorem g_lsub (h : At T m c below) (hx : p.tables.exec = Jvm.exec) {u v : Int64} (hd : decode c.code pc = .ok (.lsub, 1)) (hp : pc + 1 = pc')  (hr : own_Gl p e below s Q kc ks (T.setTop (mkF m pc' L (.long (u - v) :: S)))) : own_Gl p e below s Q kc ks (T.setTop (mkF m pc L (.long v :: .long u :: S))) := by
  subst hp; exact hr.go fun t k => XS.lsub h hx rfl hd rfl k
theorem g_imul (h : At T m c below) (hx : p.tables.exec = Jvm.exec) {u v : Int32} (hd : decode c.code pc = .ok (.imul, 1)) (hp : pc + 1 = pc')  (hr : own_Gl p e below s Q kc ks (T.setTop (mkF m pc' L (.int (u * v) :: S)))) : own_Gl p e below s Q kc ks (T.setTop (mkF m pc L (.int v :: .int u :: S))) := by
  subst hp; exact hr.go fun t k => XS.imul h hx rfl hd rfl k
theorem g_lmul (h : At T m c below) (hx : p.tables.exec = Jvm.exec) {u v : Int64} (hd : decode c.code pc = .ok (.lmul, 1)) (hp : pc + 1 = pc')  (hr : own_Gl p e below s Q kc ks (T.setTop (mkF m pc' L (.long (u * v) :: S)))) : own_Gl p e below s Q kc ks (T.setTop (mkF m pc L (.long v :: .long u :: S))) := by
  subst hp; exact hr.go fun t k => XS.lmul h hx rfl hd rfl k
theorem g_iand (h : At T m c below) (hx : p.tables.exec = Jvm.exec) {u v : Int32} (hd : decode c.code pc = .ok (.iand, 1)) (hp : pc + 1 = pc')  (hr : own_Gl p e below s Q kc ks (T.setTop (mkF m pc' L (.int (u &&& v) :: S)))) : own_Gl p e below s Q kc ks (T.setTop (mkF m pc L (.int v :: .int u :: S))) := by
  subst hp; exact hr.go fun t k => XS.iand h hx rfl hd rfl k
theorem g_land (h : At T m c below) (hx : p.tables.exec = Jvm.exec) {u v : Int64} (hd : decode c.code pc = .ok (.land, 1)) (hp : pc + 1 = pc')  (hr : own_Gl p e below s Q kc ks (T.setTop (mkF m pc' L (.long (u &&& v) :: S)))) : own_Gl p e below s Q kc ks (T.setTop (mkF m pc L (.long v :: .long u :: S))) := by
  subst hp; exact hr.go fun t k => XS.land h hx rfl hd rfl k
theorem g_ior (h : At T m c below) (hx : p.tables.exec = Jvm.exec) {u v : Int32} (hd : decode c.code pc = .ok (.ior, 1)) (hp : pc + 1 = pc')  (hr : own_Gl p e below s Q kc ks (T.setTop (mkF m pc' L (.int (u ||| v) :: S)))) : own_Gl p e below s Q kc ks (T.setTop (mkF m pc L (.int v :: .int u :: S))) := by
  subst hp; exact hr.go fun t k => XS.ior h hx rfl hd rfl k
theorem g_lor (h : At T m c below) (hx : p.tables.exec = Jvm.exec) {u v : Int64} (hd : decode c.code pc = .ok (.lor, 1)) (hp : pc + 1 = pc')  (hr : own_Gl p e below s Q kc ks (T.setTop (mkF m pc' L (.long (u ||| v) :: S)))) : own_Gl p e below s Q kc ks (T.setTop (mkF m pc L (.long v :: .long u :: S))) := by
  subst hp; exact hr.go fun t k => XS.lor h hx rfl hd rfl k
theorem g_ixor (h : At T m c below) (hx : p.tables.exec = Jvm.exec) {u v : Int32} (hd : decode c.code pc = .ok (.ixor, 1)) (hp : pc + 1 = pc')  (hr : own_Gl p e below s Q kc ks (T.setTop (mkF m pc' L (.int (u ^^^ v) :: S)))) : own_Gl p e below s Q kc ks (T.setTop (mkF m pc L (.int v :: .int u :: S))) := by
  subst hp; exact hr.go fun t k => XS.ixor h hx rfl hd rfl k
theorem g_lxor (h : At T m c below) (hx : p.tables.exec = Jvm.exec) {u v : Int64} (hd : decode c.code pc = .ok (.lxor, 1)) (hp : pc + 1 = pc')  (hr : own_Gl p e below s Q kc ks (T.setTop (mkF m pc' L (.long (u ^^^ v) :: S)))) : own_Gl p e below s Q kc ks (T.setTop (mkF m pc L (.long v :: .long u :: S))) := by
  subst hp; exact hr.go fun t k => XS.lxor h hx rfl hd rfl k
theorem g_ishl (h : At T m c below) (hx : p.tables.exec = Jvm.exec) {u v : Int32} (hd : decode c.code pc = .ok (.ishl, 1)) (hp : pc + 1 = pc')  (hr : own_Gl p e below s Q kc ks (T.setTop (mkF m pc' L (.int (u <<< (v &&& 31)) :: S)))) : own_Gl p e below s Q kc ks (T.setTop (mkF m pc L (.int v :: .int u :: S))) := by
  subst hp; exact hr.go fun t k => XS.ishl h hx rfl hd rfl k
theorem g_ishr (h : At T m c below) (hx : p.tables.exec = Jvm.exec) {u v : Int32} (hd : decode c.code pc = .ok (.ishr, 1)) (hp : pc + 1 = pc')  (hr : own_Gl p e below s Q kc ks (T.setTop (mkF m pc' L (.int (u >>> (v &&& 31)) :: S)))) : own_Gl p e below s Q kc ks (T.setTop (mkF m pc L (.int v :: .int u :: S))) := by
  subst hp; exact hr.go fun t k => XS.ishr h hx rfl hd rfl k
theorem g_iushr (h : At T m c below) (hx : p.tables.exec = Jvm.exec) {u v : Int32} (hd : decode c.code pc = .ok (.iushr, 1)) (hp : pc + 1 = pc')  (hr : own_Gl p e below s Q kc ks (T.setTop (mkF m pc' L (.int ((u.toUInt32 >>> (v &&& 31).toUInt32).toInt32) :: S)))) : own_Gl p e below s Q kc ks (T.setTop (mkF m pc L (.int v :: .int u :: S))) := by
  subst hp; exact hr.go fun t k => XS.iushr h hx rfl hd rfl k
theorem g_lshl (h : At T m c below) (hx : p.tables.exec = Jvm.exec) {u : Int64} {v : Int32} (hd : decode c.code pc = .ok (.lshl, 1)) (hp : pc + 1 = pc')  (hr : own_Gl p e below s Q kc ks (T.setTop (mkF m pc' L (.long (u <<< (v &&& 0x3f).toInt64) :: S)))) : own_Gl p e below s Q kc ks (T.setTop (mkF m pc L (.int v :: .long u :: S))) := by
  subst hp; exact hr.go fun t k => XS.lshl h hx rfl hd rfl k
theorem g_lshr (h : At T m c below) (hx : p.tables.exec = Jvm.exec) {u : Int64} {v : Int32} (hd : decode c.code pc = .ok (.lshr, 1)) (hp : pc + 1 = pc')  (hr : own_Gl p e below s Q kc ks (T.setTop (mkF m pc' L (.long (u >>> (v &&& 0x3f).toInt64) :: S)))) : own_Gl p e below s Q kc ks (T.setTop (mkF m pc L (.int v :: .long u :: S))) := by
  subst hp; exact hr.go fun t k => XS.lshr h hx rfl hd rfl k
theorem g_lushr (h : At T m c below) (hx : p.tables.exec = Jvm.exec) {u : Int64} {v : Int32} (hd : decode c.code pc = .ok (.lushr, 1)) (hp : pc + 1 = pc')  (hr : own_Gl p e below s Q kc ks (T.setTop (mkF m pc' L (.long ((u.toUInt64 >>> (v &&& 0x3f).toInt64.toUInt64).toInt64) :: S)))) : own_Gl p e below s Q kc ks (T.setTop (mkF m pc L (.int v :: .long u :: S))) := by
  subst hp; exact hr.go fun t k => XS.lushr h hx rfl hd rfl k
theorem g_idiv (h : At T m c below) (hx : p.tables.exec = Jvm.exec) {u v : Int32} (hd : decode c.code pc = .ok (.idiv, 1)) (hp : pc + 1 = pc') (hy : v ≠ 0) (hr : own_Gl p e below s Q kc ks (T.setTop (mkF m pc' L (.int (u / v) :: S)))) : own_Gl p e below s Q kc ks (T.setTop (mkF m pc L (.int v :: .int u :: S))) := by
  subst hp; exact hr.go fun t k => XS.idiv h hx rfl hd rfl hy k
theorem g_ldiv (h : At T m c below) (hx : p.tables.exec = Jvm.exec) {u v : Int64} (hd : decode c.code pc = .ok (.ldiv, 1)) (hp : pc + 1 = pc') (hy : v ≠ 0) (hr : own_Gl p e below s Q kc ks (T.setTop (mkF m pc' L (.long (u / v) :: S)))) : own_Gl p e below s Q kc ks (T.setTop (mkF m pc L (.long v :: .long u :: S))) := by
  subst hp; exact hr.go fun t k => XS.ldiv h hx rfl hd rfl hy k
theorem g_irem (X : Stand p l e R s m args below meth c T locs cells slots) (hx : p.tables.exec = Jvm.exec) {u v : Int32} (hd : decode c.code pc = .ok (.irem, 1)) (hp : pc + 1 = pc') (hy : v ≠ 0) (hr : own_Gl p e below s Q kc ks (T.setTop (mkF m pc' L (.int (u % v) :: S)))) : own_Gl p e below s Q kc ks (T.setTop (mkF m pc L (.int v :: .int u :: S))) := by
  subst hp; exact hr.go fun t k => iremM X hx rfl hd rfl hy k
theorem g_lrem (h : At T m c below) (hx : p.tables.exec = Jvm.exec) {u v : Int64} (hd : decode c.code pc = .ok (.lrem, 1)) (hp : pc + 1 = pc') (hy : v ≠ 0) (hr : own_Gl p e below s Q kc ks (T.setTop (mkF m pc' L (.long (u % v) :: S)))) : own_Gl p e below s Q kc ks (T.setTop (mkF m pc L (.long v :: .long u :: S))) := by
  subst hp; exact hr.go fun t k => XS.lrem h hx rfl hd rfl hy (by rw [lrem_mod]; exact k)
theorem g_ineg (h : At T m c below) (hx : p.tables.exec = Jvm.exec) {u : Int32} (hd : decode c.code pc = .ok (.ineg, 1)) (hp : pc + 1 = pc')  (hr : own_Gl p e below s Q kc ks (T.setTop (mkF m pc' L (.int (-u) :: S)))) : own_Gl p e below s Q kc ks (T.setTop (mkF m pc L (.int u :: S))) := by
  subst hp; exact hr.go fun t k => XS.ineg h hx rfl hd rfl k
theorem g_lneg (h : At T m c below) (hx : p.tables.exec = Jvm.exec) {u : Int64} (hd : decode c.code pc = .ok (.lneg, 1)) (hp : pc + 1 = pc')  (hr : own_Gl p e below s Q kc ks (T.setTop (mkF m pc' L (.long (-u) :: S)))) : own_Gl p e below s Q kc ks (T.setTop (mkF m pc L (.long u :: S))) := by
  subst hp; exact hr.go fun t k => XS.lneg h hx rfl hd rfl k
theorem g_i2l (h : At T m c below) (hx : p.tables.exec = Jvm.exec) {u : Int32} (hd : decode c.code pc = .ok (.i2l, 1)) (hp : pc + 1 = pc')  (hr : own_Gl p e below s Q kc ks (T.setTop (mkF m pc' L (.long u.toInt64 :: S)))) : own_Gl p e below s Q kc ks (T.setTop (mkF m pc L (.int u :: S))) := by
  subst hp; exact hr.go fun t k => XS.i2l h hx rfl hd rfl k
theorem g_l2i (h : At T m c below) (hx : p.tables.exec = Jvm.exec) {u : Int64} (hd : decode c.code pc = .ok (.l2i, 1)) (hp : pc + 1 = pc')  (hr : own_Gl p e below s Q kc ks (T.setTop (mkF m pc' L (.int u.toInt32 :: S)))) : own_Gl p e below s Q kc ks (T.setTop (mkF m pc L (.long u :: S))) := by
  subst hp; exact hr.go fun t k => XS.l2i h hx rfl hd rfl k
theorem g_i2b (h : At T m c below) (hx : p.tables.exec = Jvm.exec) {u : Int32} (hd : decode c.code pc = .ok (.i2b, 1)) (hp : pc + 1 = pc')  (hr : own_Gl p e below s Q kc ks (T.setTop (mkF m pc' L (.int u.toInt8.toInt32 :: S)))) : own_Gl p e below s Q kc ks (T.setTop (mkF m pc L (.int u :: S))) := by
  subst hp; exact hr.go fun t k => XS.i2b h hx rfl hd rfl k
theorem g_i2s (h : At T m c below) (hx : p.tables.exec = Jvm.exec) {u : Int32} (hd : decode c.code pc = .ok (.i2s, 1)) (hp : pc + 1 = pc')  (hr : own_Gl p e below s Q kc ks (T.setTop (mkF m pc' L (.int u.toInt16.toInt32 :: S)))) : own_Gl p e below s Q kc ks (T.setTop (mkF m pc L (.int u :: S))) := by
  subst hp; exact hr.go fun t k => XS.i2s h hx rfl hd rfl k
theorem g_i2c (h : At T m c below) (hx : p.tables.exec = Jvm.exec) {u : Int32} (hd : decode c.code pc = .ok (.i2c, 1)) (hp : pc + 1 = pc')  (hr : own_Gl p e below s Q kc ks (T.setTop (mkF m pc' L (.int u.toUInt32.toUInt16.toUInt32.toInt32 :: S)))) : own_Gl p e below s Q kc ks (T.setTop (mkF m pc L (.int u :: S))) := by
  subst hp; exact hr.go fun t k => XS.i2c h hx rfl hd rfl k
theorem g_lcmp (h : At T m c below) (hx : p.tables.exec = Jvm.exec) {u v : Int64} (hd : decode c.code pc = .ok (.lcmp, 1)) (hp : pc + 1 = pc')  (hr : own_Gl p e below s Q kc ks (T.setTop (mkF m pc' L (.int (lcmpW u v) :: S)))) : own_Gl p e below s Q kc ks (T.setTop (mkF m pc L (.long v :: .long u :: S))) := by
  subst hp; exact hr.go fun t k => XS.lcmp h hx rfl hd rfl k
theorem g_dup (h : At T m c below) (hx : p.tables.exec = Jvm.exec) {v : Value} (hd : decode c.code pc = .ok (.dup, 1)) (hp : pc + 1 = pc') (hc : v.category = 1) (hr : own_Gl p e below s Q kc ks (T.setTop (mkF m pc' L (v :: v :: S)))) : own_Gl p e below s Q kc ks (T.setTop (mkF m pc L (v :: S))) := by
  subst hp; exact hr.go fun t k => XS.dup h hx rfl hd rfl hc k
theorem g_pop (h : At T m c below) (hx : p.tables.exec = Jvm.exec) {v : Value} (hd : decode c.code pc = .ok (.pop, 1)) (hp : pc + 1 = pc') (hc : v.category = 1) (hr : own_Gl p e below s Q kc ks (T.setTop (mkF m pc' L S))) : own_Gl p e below s Q kc ks (T.setTop (mkF m pc L (v :: S))) := by
  subst hp; exact hr.go fun t k => XS.pop h hx rfl hd rfl hc k
theorem g_dupX1 (h : At T m c below) (hx : p.tables.exec = Jvm.exec) {v w : Value} (hd : decode c.code pc = .ok (.dup_x1, 1)) (hp : pc + 1 = pc') (hc : v.category = 1) (hc' : w.category = 1) (hr : own_Gl p e below s Q kc ks (T.setTop (mkF m pc' L (v :: w :: v :: S)))) : own_Gl p e below s Q kc ks (T.setTop (mkF m pc L (v :: w :: S))) := by
  subst hp; exact hr.go fun t k => XS.dupX1 h hx rfl hd rfl hc hc' k
theorem g_dup2 (h : At T m c below) (hx : p.tables.exec = Jvm.exec) {v w : Value} (hd : decode c.code pc = .ok (.dup2, 1)) (hp : pc + 1 = pc') (hc : v.category = 1) (hc' : w.category = 1) (hr : own_Gl p e below s Q kc ks (T.setTop (mkF m pc' L (v :: w :: v :: w :: S)))) : own_Gl p e below s Q kc ks (T.setTop (mkF m pc L (v :: w :: S))) := by
  subst hp; exact hr.go fun t k => XT.dup2 h hx rfl hd rfl hc hc' k
theorem g_dup2L (h : At T m c below) (hx : p.tables.exec = Jvm.exec) {v : Int64} (hd : decode c.code pc = .ok (.dup2, 1)) (hp : pc + 1 = pc')  (hr : own_Gl p e below s Q kc ks (T.setTop (mkF m pc' L (.long v :: .long v :: S)))) : own_Gl p e below s Q kc ks (T.setTop (mkF m pc L (.long v :: S))) := by
  subst hp; exact hr.go fun t k => XT.dup2L h hx rfl hd rfl k
theorem g_pop2L (h : At T m c below) (hx : p.tables.exec = Jvm.exec) {v : Int64} (hd : decode c.code pc = .ok (.pop2, 1)) (hp : pc + 1 = pc') (hr : own_Gl p e below s Q kc ks (T.setTop (mkF m pc' L S))) : own_Gl p e below s Q kc ks (T.setTop (mkF m pc L (.long v :: S))) := by
  subst hp
  refine hr.go fun t k => ?_
  jvm_step h [h.top, hx, hd, Value.category]
  exact k
theorem g_iinc (h : At T m c below) (hx : p.tables.exec = Jvm.exec) {j : Nat} {i : Int} {v z : Int32} (hd : decode c.code pc = .ok (.iinc j i, 3)) (hp : pc + 3 = pc') (hz : Int32.ofInt i = z) (hl : L[j]? = some (.val (.int v))) (hl' : storeLocals L j (.int (v + z)) = some L') (hr : own_Gl p e below s Q kc ks (T.setTop (mkF m pc' L' S))) : own_Gl p e below s Q kc ks (T.setTop (mkF m pc L S)) := by
  subst hp; exact hr.go fun t k => XS.iinc h hx rfl hd hl (by rw [hz]; exact hl') k
theorem g_goto (h : At T m c below) (hx : p.tables.exec = Jvm.exec) {i : Int} (hd : decode c.code pc = .ok (.goto i, 3)) (ho : 0 ≤ (pc : Int) + i) (hp : ((pc : Int) + i).toNat = pc') (hr : own_Gl p e below s Q kc ks (T.setTop (mkF m pc' L S))) : own_Gl p e below s Q kc ks (T.setTop (mkF m pc L S)) := hr.go fun t k => XS.goto h hx rfl (pc0 := pc) rfl hd ho hp k
theorem g_ifY (h : At T m c below) (hx : p.tables.exec = Jvm.exec) {cd : ClassFile.Cond} {i : Int} {x : Int32} (hd : decode c.code pc = .ok (.ifCond cd i, 3)) (ho : 0 ≤ (pc : Int) + i) (hp : ((pc : Int) + i).toNat = pc') (hc : ifCond.holds cd x = true) (hr : own_Gl p e below s Q kc ks (T.setTop (mkF m pc' L S))) : own_Gl p e below s Q kc ks (T.setTop (mkF m pc L (.int x :: S))) := hr.go fun t k => XS.ifYes h hx rfl (pc0 := pc) rfl hd rfl hc ho hp k
theorem g_ifN (h : At T m c below) (hx : p.tables.exec = Jvm.exec) {cd : ClassFile.Cond} {i : Int} {x : Int32} (hd : decode c.code pc = .ok (.ifCond cd i, 3)) (hp : pc + 3 = pc') (hc : ifCond.holds cd x = false) (hr : own_Gl p e below s Q kc ks (T.setTop (mkF m pc' L S))) : own_Gl p e below s Q kc ks (T.setTop (mkF m pc L (.int x :: S))) := by
  subst hp; exact hr.go fun t k => XS.ifNo h hx rfl hd rfl hc k
theorem g_icY (h : At T m c below) (hx : p.tables.exec = Jvm.exec) {cd : ClassFile.Cond} {i : Int} {x y : Int32} (hd : decode c.code pc = .ok (.if_icmp cd i, 3)) (ho : 0 ≤ (pc : Int) + i) (hp : ((pc : Int) + i).toNat = pc') (hc : if_icmp.holds cd x y = true) (hr : own_Gl p e below s Q kc ks (T.setTop (mkF m pc' L S))) : own_Gl p e below s Q kc ks (T.setTop (mkF m pc L (.int y :: .int x :: S))) := hr.go fun t k => XS.icmpYes h hx rfl (pc0 := pc) rfl hd rfl hc ho hp k
theorem g_icN (h : At T m c below) (hx : p.tables.exec = Jvm.exec) {cd : ClassFile.Cond} {i : Int} {x y : Int32} (hd : decode c.code pc = .ok (.if_icmp cd i, 3)) (hp : pc + 3 = pc') (hc : if_icmp.holds cd x y = false) (hr : own_Gl p e below s Q kc ks (T.setTop (mkF m pc' L S))) : own_Gl p e below s Q kc ks (T.setTop (mkF m pc L (.int y :: .int x :: S))) := by
  subst hp; exact hr.go fun t k => XS.icmpNo h hx rfl hd rfl hc k
theorem g_ifnullY (h : At T m c below) (hx : p.tables.exec = Jvm.exec)  {i : Int} (hd : decode c.code pc = .ok (.ifnull i, 3)) (ho : 0 ≤ (pc : Int) + i) (hp : ((pc : Int) + i).toNat = pc') (hr : own_Gl p e below s Q kc ks (T.setTop (mkF m pc' L S))) : own_Gl p e below s Q kc ks (T.setTop (mkF m pc L (.null :: S))) := hr.go fun t k => XS.ifnullYes h hx rfl (pc0 := pc) rfl hd rfl ho hp k
theorem g_ifnullN (h : At T m c below) (hx : p.tables.exec = Jvm.exec) {b : Addr} {i : Int} (hd : decode c.code pc = .ok (.ifnull i, 3)) (hp : pc + 3 = pc') (hr : own_Gl p e below s Q kc ks (T.setTop (mkF m pc' L S))) : own_Gl p e below s Q kc ks (T.setTop (mkF m pc L (.ref b :: S))) := by
  subst hp; exact hr.go fun t k => XS.ifnullNo h hx rfl hd rfl k
theorem g_ifnonnullY (h : At T m c below) (hx : p.tables.exec = Jvm.exec) {b : Addr} {i : Int} (hd : decode c.code pc = .ok (.ifnonnull i, 3)) (ho : 0 ≤ (pc : Int) + i) (hp : ((pc : Int) + i).toNat = pc') (hr : own_Gl p e below s Q kc ks (T.setTop (mkF m pc' L S))) : own_Gl p e below s Q kc ks (T.setTop (mkF m pc L (.ref b :: S))) := hr.go fun t k => XS.ifnonnullYes h hx rfl (pc0 := pc) rfl hd rfl ho hp k
theorem g_ifnonnullN (h : At T m c below) (hx : p.tables.exec = Jvm.exec)  {i : Int} (hd : decode c.code pc = .ok (.ifnonnull i, 3)) (hp : pc + 3 = pc') (hr : own_Gl p e below s Q kc ks (T.setTop (mkF m pc' L S))) : own_Gl p e below s Q kc ks (T.setTop (mkF m pc L (.null :: S))) := by
  subst hp; exact hr.go fun t k => XS.ifnonnullNo h hx rfl hd rfl k
theorem g_ldc (X : Stand p l e R s m args below meth c T locs cells slots) (hx : p.tables.exec = Jvm.exec) (hZ : Z.Warmed39 s.vm) {own : String} {index : Nat} {v : Int32} (hown : s.vm.findClass own = some m.cls) (w : (Jvm.Cond.constant own index v).before a0 Z = true) (hd : decode c.code pc = .ok (.ldc index, 2)) (hp : pc + 2 = pc') (hr : own_Gl p e below s Q kc ks (T.setTop (mkF m pc' L (.int v :: S)))) : own_Gl p e below s Q kc ks (T.setTop (mkF m pc L S)) := by
  subst hp; exact hr.go (X.ldcInt hx hown (mvT hZ w) (g := mkF m pc L S) rfl hd)
theorem g_ldcw (X : Stand p l e R s m args below meth c T locs cells slots) (hx : p.tables.exec = Jvm.exec) (hZ : Z.Warmed39 s.vm) {own : String} {index : Nat} {v : Int32} (hown : s.vm.findClass own = some m.cls) (w : (Jvm.Cond.constant own index v).before a0 Z = true) (hd : decode c.code pc = .ok (.ldc_w index, 3)) (hp : pc + 3 = pc') (hr : own_Gl p e below s Q kc ks (T.setTop (mkF m pc' L (.int v :: S)))) : own_Gl p e below s Q kc ks (T.setTop (mkF m pc L S)) := by
  subst hp; exact hr.go (X.ldcwInt hx hown (mvT hZ w) (g := mkF m pc L S) rfl hd)
theorem g_ldc2 (X : Stand p l e R s m args below meth c T locs cells slots) (hx : p.tables.exec = Jvm.exec) (hZ : Z.Warmed39 s.vm) {own : String} {index : Nat} {v : Int64} (hown : s.vm.findClass own = some m.cls) (w : (Jvm.Cond.constantLong own index v).before a0 Z = true) (hd : decode c.code pc = .ok (.ldc2_w index, 3)) (hp : pc + 3 = pc') (hr : own_Gl p e below s Q kc ks (T.setTop (mkF m pc' L (.long v :: S)))) : own_Gl p e below s Q kc ks (T.setTop (mkF m pc L S)) := by
  subst hp; exact hr.go (X.ldc2Long hx hown (mvT hZ w) (g := mkF m pc L S) rfl hd)
end OwnKit

section OwnHeap
variable {p : Program} {l : Launch} {e : Env} {R : Room} {s : State} {m : MethodId} {args : Array Value} {below : List Frame} {meth : Method} {c : Code} {T : State} {locs : List Loc} {cells slots : Nat} {Z : State} {a0 : Array Value} {h : Heap} {Q : Option Value → Heap → List Loc → Prop} {kc ks : Nat} {pc pc' : Nat} {L L' : Array Slot} {S : List Value}
/-- an array of ints, bytes or booleans by what each place holds -/
def own_IA (Z : State) (h : Heap) (a : Addr) (ty : FieldType) (n : Nat) (f : Nat → Int32) : Prop := ∃ c : Cell, Arr Z h a c ty ∧ c.slots.size = n ∧ ∀ i, i < n → c.slots[i]? = some (.int (f i))
theorem own_IA.lt {a : Addr} {ty : FieldType} {n : Nat} {f : Nat → Int32} (V : own_IA Z h a ty n f) : a < h.size := by obtain ⟨c, A, -⟩ := V; exact A.lt
theorem own_IA.ext {h' : Heap} {a : Addr} {ty : FieldType} {n : Nat} {f : Nat → Int32} (V : own_IA Z h a ty n f) (E : Ext h h') : own_IA Z h' a ty n f := by obtain ⟨c, A, r⟩ := V; exact ⟨c, A.ext E, r⟩
theorem own_IA.other {h' : Heap} {a b : Addr} {ty : FieldType} {n sl : Nat} {v : Value} {f : Nat → Int32} (V : own_IA Z h b ty n f) (W : Wr h h' a sl v) (q : b ≠ a) : own_IA Z h' b ty n f := by obtain ⟨c, A, r⟩ := V; exact ⟨c, A.other W q, r⟩
theorem own_IA.keep {h' : Heap} {ws : List Addr} {a : Addr} {ty : FieldType} {n : Nat} {f : Nat → Int32} (V : own_IA Z h a ty n f) (K : Keep h h' ws) (q : a ∉ ws) : own_IA Z h' a ty n f := by obtain ⟨c, A, r⟩ := V; exact ⟨c, ⟨K.2.1 a c A.1 q, A.2⟩, r⟩
theorem own_IA.congr {a : Addr} {ty : FieldType} {n : Nat} {f g : Nat → Int32} (V : own_IA Z h a ty n f) (q : ∀ i, i < n → f i = g i) : own_IA Z h a ty n g := by obtain ⟨c, A, S, H⟩ := V; exact ⟨c, A, S, fun i hi => by rw [H i hi, q i hi]⟩
theorem own_clamp (j : Int32) : j.toNatClampNeg = j.toInt.toNat := rfl
theorem own_in {c : Cell} {n : Nat} (S : c.slots.size = n) {j : Int32} (hj : 0 ≤ j.toInt ∧ j.toInt < n) : ¬ (j < 0 ∨ c.slots.size ≤ j.toNatClampNeg) := by
  have k : (0 : Int32).toInt = 0 := by decide
  rw [Int32.lt_iff_toInt_lt, own_clamp, S, k]; omega
theorem own_IA.set {h' : Heap} {a : Addr} {ty : FieldType} {n : Nat} {x : Int32} {k : Nat} {f : Nat → Int32} (V : own_IA Z h a ty n f) (W : Wr h h' a k (.int x)) : own_IA Z h' a ty n (fun i => if i = k then x else f i) := by
  obtain ⟨c, A, S, H⟩ := V
  refine ⟨c.setSlot k (.int x), A.same W, by rw [sz_set]; exact S, fun i hi => ?_⟩
  show (c.slots.setIfInBounds k (.int x))[i]? = some (Value.int (if i = k then x else f i))
  by_cases q : i = k
  · subst q
    rw [Array.getElem?_setIfInBounds_self_of_lt (by omega), if_pos rfl]
  · rw [Array.getElem?_setIfInBounds_ne (fun z => q z.symm), H i hi, if_neg q]
theorem g_getF (X : Stand p l e R s m args below meth c T locs cells slots) (hx : p.tables.exec = Jvm.exec) (hZ : Z.Warmed39 s.vm) {own R0 O n d host : String} {index : Nat} (hown : s.vm.findClass own = some m.cls) (w : (Jvm.Cond.fieldLink own index R0 n d).before a0 Z = true ∨ (Jvm.Cond.fieldLinkNest own index R0 n d host).before a0 Z = true) (via : Via Z R0 O n d)
    (eT : T.heap = h) {a : Addr} {v : Value} (F : Fld Z h a O n d v) (hd : decode c.code pc = .ok (.getfield index, 3)) (hp : pc + 3 = pc') (k : ∀ T' : State, Stand p l e R s m args below meth c T' locs cells slots → T'.heap = h → own_Gl p e below s Q kc ks (T'.setTop (mkF m pc' L (v :: S)))) :
    own_Gl p e below s Q kc ks (T.setTop (mkF m pc L (.ref a :: S))) := by
  subst hp
  obtain ⟨T', X', e', st⟩ := getF X hx hZ hown w via eT F (g := mkF m pc L (.ref a :: S)) rfl rfl hd
  exact (k T' X' e').go st
theorem g_putF (X : Stand p l e R s m args below meth c T locs cells slots) (hx : p.tables.exec = Jvm.exec) (hZ : Z.Warmed39 s.vm) {own R0 O n d host C : String} {index kk : Nat} {ty : FieldType} (hown : s.vm.findClass own = some m.cls) (w : (Jvm.Cond.fieldLink own index R0 n d).before a0 Z = true ∨ (Jvm.Cond.fieldLinkNest own index R0 n d host).before a0 Z = true) (via : Via Z R0 O n d)
    (eT : T.heap = h) {a : Addr} {v old : Value} (F : Fld Z h a O n d old) (E : Exa Z h a C) (Ly : (Jvm.Cond.lays C O n d).before a0 Z = true ∨ ((Jvm.Cond.laysFinal C O n d).before a0 Z = true ∧ own = O ∧ meth.name = "<init>")) (wi : (Jvm.Cond.instantiable C kk).before a0 Z = true)
    (hty : parseFieldDescriptor d = some ty) (hn : narrow ty v = v) (hf : fits ty v = true) (hd : decode c.code pc = .ok (.putfield index, 3)) (hp : pc + 3 = pc')
    (k : ∀ (T' : State) (h' : Heap), Stand p l e R s m args below meth c T' (locs ++ [⟨a, Jvm.RoadKit.slotOf Z O n d⟩]) cells slots → T'.heap = h' → Wr h h' a (Jvm.RoadKit.slotOf Z O n d) v → own_Gl p e below s Q kc ks (T'.setTop (mkF m pc' L S))) :
    own_Gl p e below s Q kc ks (T.setTop (mkF m pc L (v :: .ref a :: S))) := by
  subst hp
  obtain ⟨T', h', X', e', W', st⟩ := putF X hx hZ hown w via eT F E Ly wi hty hn hf (g := mkF m pc L (v :: .ref a :: S)) rfl rfl hd
  exact (k T' h' X' e' W').go st
theorem g_putFN (X : Stand p l e R s m args below meth c T locs cells slots) (hx : p.tables.exec = Jvm.exec) (hZ : Z.Warmed39 s.vm) {own R0 O n d C : String} {index kk : Nat} {ty : FieldType} (hown : s.vm.findClass own = some m.cls) (w : (Jvm.Cond.fieldLink own index R0 n d).before a0 Z = true) (via : Via Z R0 O n d)
    (eT : T.heap = h) {a : Addr} {v v' old : Value} (F : Fld Z h a O n d old) (E : Exa Z h a C) (Ly : (Jvm.Cond.lays C O n d).before a0 Z = true ∨ ((Jvm.Cond.laysFinal C O n d).before a0 Z = true ∧ own = O ∧ meth.name = "<init>")) (wi : (Jvm.Cond.instantiable C kk).before a0 Z = true)
    (hty : parseFieldDescriptor d = some ty) (hn : narrow ty v = v') (hf : fits ty v' = true) (hd : decode c.code pc = .ok (.putfield index, 3)) (hp : pc + 3 = pc')
    (k : ∀ (T' : State) (h' : Heap), Stand p l e R s m args below meth c T' (locs ++ [⟨a, Jvm.RoadKit.slotOf Z O n d⟩]) cells slots → T'.heap = h' → Wr h h' a (Jvm.RoadKit.slotOf Z O n d) v' → own_Gl p e below s Q kc ks (T'.setTop (mkF m pc' L S))) :
    own_Gl p e below s Q kc ks (T.setTop (mkF m pc L (v :: .ref a :: S))) := by
  subst hp
  obtain ⟨T', h', X', e', W', st⟩ := putFN X hx hZ hown w via eT F E Ly wi hty hn hf (g := mkF m pc L (v :: .ref a :: S)) rfl rfl hd
  exact (k T' h' X' e' W').go st
theorem g_new (X : Stand p l e R s m args below meth c T locs cells slots) (hx : p.tables.exec = Jvm.exec) (hZ : Z.Warmed39 s.vm) {own C : String} {index n : Nat} (hown : s.vm.findClass own = some m.cls) (w : (Jvm.Cond.classLink own index C).before a0 Z = true) (wi : (Jvm.Cond.instantiable C n).before a0 Z = true) (wz : (Jvm.Cond.initialized C).before a0 Z = true) (eT : T.heap = h)
    (hd : decode c.code pc = .ok (.new index, 3)) (hp : pc + 3 = pc') {cells' slots' : Nat} (hcc : cells + 1 = cells') (hss : slots + n = slots') (hc : cells' ≤ R.cells) (hl : slots' ≤ R.slots)
    (k : ∀ (T' : State) (h' : Heap) (b : Addr), b = h.size → Stand p l e R s m args below meth c T' locs cells' slots' → T'.heap = h' → Ext h h' → Exa Z h' b C → (∀ {O nm d : String} {ty : FieldType}, Laid Z a0 C O nm d → parseFieldDescriptor d = some ty → Fld Z h' b O nm d (defaultValue ty)) → own_Gl p e below s Q kc ks (T'.setTop (mkF m pc' L (.ref b :: S)))) :
    own_Gl p e below s Q kc ks (T.setTop (mkF m pc L S)) := by
  subst hp hcc hss
  obtain ⟨T', h', X', e', E', A', D', -, st⟩ := newO X hx hZ hown w wi wz eT (g := mkF m pc L S) rfl hd hc hl
  exact (k T' h' _ rfl X' e' E' A' D').go st
theorem g_newarr (X : Stand p l e R s m args below meth c T locs cells slots) (hx : p.tables.exec = Jvm.exec) (hZ : Z.Warmed39 s.vm) {aty : ArrayType} {ty : FieldType} (hty : newarray.typeOf aty = ty) (hdv : defaultValue ty = .int 0) (w : (Jvm.Cond.arrayClass ty).before a0 Z = true) (eT : T.heap = h)
    (hd : decode c.code pc = .ok (.newarray aty, 2)) (hp : pc + 2 = pc') {z : Int32} {n : Nat} (hn : z.toInt = n) (cap : Nat) (hcap : n ≤ cap) (hb : cap * 8 ≤ 536870912) {cells' slots' : Nat} (hcc : cells + 1 = cells') (hss : slots + cap = slots') (hc : cells' ≤ R.cells) (hl : slots' ≤ R.slots)
    (k : ∀ (T' : State) (h' : Heap) (b : Addr), b = h.size → Stand p l e R s m args below meth c T' locs cells' slots' → T'.heap = h' → Ext h h' → own_IA Z h' b ty n (fun _ => 0) → own_Gl p e below s Q kc ks (T'.setTop (mkF m pc' L (.ref b :: S)))) :
    own_Gl p e below s Q kc ks (T.setTop (mkF m pc L (.int z :: S))) := by
  subst hp hcc hss hty
  have q : ¬ z < 0 := by
    have k0 : (0 : Int32).toInt = 0 := by decide
    rw [Int32.lt_iff_toInt_lt, k0]; omega
  have zn : z.toNatClampNeg = n := by rw [own_clamp]; omega
  obtain ⟨T', h', cA, X', e', E', A', st⟩ := newP X hx hZ w eT (g := mkF m pc L (.int z :: S)) rfl hd rfl q (cap := cap) (by omega) hb hc hl
  refine (k T' h' _ rfl X' e' E' ⟨_, A', by rw [sz_new, zn], fun i hi => ?_⟩).go st
  show (Array.replicate z.toNatClampNeg (defaultValue (newarray.typeOf aty)))[i]? = _
  rw [zn, hdv, Array.getElem?_replicate, if_pos hi]
theorem g_iastore (X : Stand p l e R s m args below meth c T locs cells slots) (hx : p.tables.exec = Jvm.exec) (hZ : Z.Warmed39 s.vm) (eT : T.heap = h) {a : Addr} {n : Nat} {f : Nat → Int32} {j x : Int32} (V : own_IA Z h a .int n f) (hj : 0 ≤ j.toInt ∧ j.toInt < n) (hd : decode c.code pc = .ok (.iastore, 1)) (hp : pc + 1 = pc')
    (k : ∀ (T' : State) (h' : Heap), Stand p l e R s m args below meth c T' (locs ++ [⟨a, j.toNatClampNeg⟩]) cells slots → T'.heap = h' → Wr h h' a j.toNatClampNeg (.int x) → own_IA Z h' a .int n (fun i => if i = j.toNatClampNeg then x else f i) → own_Gl p e below s Q kc ks (T'.setTop (mkF m pc' L S))) :
    own_Gl p e below s Q kc ks (T.setTop (mkF m pc L (.int x :: .int j :: .ref a :: S))) := by
  subst hp
  have V' := V
  obtain ⟨cl, A, Sz, H⟩ := V
  obtain ⟨T', h', X', e', W', st⟩ := stI X hx hZ eT A (own_in Sz hj) (g := mkF m pc L (.int x :: .int j :: .ref a :: S)) rfl rfl hd
  exact (k T' h' X' e' W' (V'.set W')).go st
theorem g_bastore (X : Stand p l e R s m args below meth c T locs cells slots) (hx : p.tables.exec = Jvm.exec) (hZ : Z.Warmed39 s.vm) (eT : T.heap = h) {a : Addr} {n : Nat} {f : Nat → Int32} {j x : Int32} (V : own_IA Z h a .byte n f) (hj : 0 ≤ j.toInt ∧ j.toInt < n) (hd : decode c.code pc = .ok (.bastore, 1)) (hp : pc + 1 = pc')
    (k : ∀ (T' : State) (h' : Heap), Stand p l e R s m args below meth c T' (locs ++ [⟨a, j.toNatClampNeg⟩]) cells slots → T'.heap = h' → Wr h h' a j.toNatClampNeg (.int x.toInt8.toInt32) → own_IA Z h' a .byte n (fun i => if i = j.toNatClampNeg then x.toInt8.toInt32 else f i) → own_Gl p e below s Q kc ks (T'.setTop (mkF m pc' L S))) :
    own_Gl p e below s Q kc ks (T.setTop (mkF m pc L (.int x :: .int j :: .ref a :: S))) := by
  subst hp
  have V' := V
  obtain ⟨cl, A, Sz, H⟩ := V
  obtain ⟨T', h', X', e', W', st⟩ := stB X hx hZ eT A (own_in Sz hj) (g := mkF m pc L (.int x :: .int j :: .ref a :: S)) rfl rfl hd
  exact (k T' h' X' e' W' (V'.set W')).go st
theorem g_zastore (X : Stand p l e R s m args below meth c T locs cells slots) (hx : p.tables.exec = Jvm.exec) (hZ : Z.Warmed39 s.vm) (eT : T.heap = h) {a : Addr} {n : Nat} {f : Nat → Int32} {j x x' : Int32} (V : own_IA Z h a .boolean n f) (hj : 0 ≤ j.toInt ∧ j.toInt < n) (hv : nar .boolean x = x') (hd : decode c.code pc = .ok (.bastore, 1)) (hp : pc + 1 = pc')
    (k : ∀ (T' : State) (h' : Heap), Stand p l e R s m args below meth c T' (locs ++ [⟨a, j.toNatClampNeg⟩]) cells slots → T'.heap = h' → Wr h h' a j.toNatClampNeg (.int x') → own_IA Z h' a .boolean n (fun i => if i = j.toNatClampNeg then x' else f i) → own_Gl p e below s Q kc ks (T'.setTop (mkF m pc' L S))) :
    own_Gl p e below s Q kc ks (T.setTop (mkF m pc L (.int x :: .int j :: .ref a :: S))) := by
  subst hp hv
  have V' := V
  obtain ⟨cl, A, Sz, H⟩ := V
  obtain ⟨T', h', X', e', W', st⟩ := stZ X hx hZ eT A (own_in Sz hj) (g := mkF m pc L (.int x :: .int j :: .ref a :: S)) rfl rfl hd
  exact (k T' h' X' e' W' (V'.set W')).go st
theorem own_at {a : Addr} {ty : FieldType} {n : Nat} {f : Nat → Int32} {c : Cell} (S : c.slots.size = n) (H : ∀ i, i < n → c.slots[i]? = some (.int (f i))) {j v : Int32} (hj : 0 ≤ j.toInt ∧ j.toInt < n) (hv : f j.toInt.toNat = v) : c.slots[j.toNatClampNeg]? = some (.int v) := by
  rw [own_clamp, H _ (by omega), hv]
theorem g_iaload (X : Stand p l e R s m args below meth c T locs cells slots) (hx : p.tables.exec = Jvm.exec) (hZ : Z.Warmed39 s.vm) (eT : T.heap = h) {a : Addr} {n : Nat} {f : Nat → Int32} {j v : Int32} (V : own_IA Z h a .int n f) (hj : 0 ≤ j.toInt ∧ j.toInt < n) (hv : f j.toInt.toNat = v) (hd : decode c.code pc = .ok (.iaload, 1)) (hp : pc + 1 = pc')
    (hr : own_Gl p e below s Q kc ks (T.setTop (mkF m pc' L (.int v :: S)))) : own_Gl p e below s Q kc ks (T.setTop (mkF m pc L (.int j :: .ref a :: S))) := by
  subst hp
  obtain ⟨cl, A, Sz, H⟩ := V
  exact hr.go fun t k => X.iaload hx (by rw [eT]; exact A.1) (State.isArrayOf_alike hZ.alike A.2.1) A.2.2 (own_in Sz hj) (own_at (a := a) (ty := .int) Sz H hj hv) (g := mkF m pc L (.int j :: .ref a :: S)) rfl rfl hd t k
theorem g_baload (X : Stand p l e R s m args below meth c T locs cells slots) (hx : p.tables.exec = Jvm.exec) (hZ : Z.Warmed39 s.vm) (eT : T.heap = h) {a : Addr} {n : Nat} {f : Nat → Int32} {j v : Int32} (V : own_IA Z h a .byte n f) (hj : 0 ≤ j.toInt ∧ j.toInt < n) (hv : f j.toInt.toNat = v) (hd : decode c.code pc = .ok (.baload, 1)) (hp : pc + 1 = pc')
    (hr : own_Gl p e below s Q kc ks (T.setTop (mkF m pc' L (.int v :: S)))) : own_Gl p e below s Q kc ks (T.setTop (mkF m pc L (.int j :: .ref a :: S))) := by
  subst hp
  obtain ⟨cl, A, Sz, H⟩ := V
  exact hr.go fun t k => X.baloadBytes hx (by rw [eT]; exact A.1) (State.isArrayOf_alike hZ.alike A.2.1) A.2.2 (own_in Sz hj) (own_at (a := a) (ty := .byte) Sz H hj hv) (g := mkF m pc L (.int j :: .ref a :: S)) rfl rfl hd t k
theorem g_zaload (X : Stand p l e R s m args below meth c T locs cells slots) (hx : p.tables.exec = Jvm.exec) (hZ : Z.Warmed39 s.vm) (eT : T.heap = h) {a : Addr} {n : Nat} {f : Nat → Int32} {j v : Int32} (V : own_IA Z h a .boolean n f) (hj : 0 ≤ j.toInt ∧ j.toInt < n) (hv : f j.toInt.toNat = v) (hd : decode c.code pc = .ok (.baload, 1)) (hp : pc + 1 = pc')
    (hr : own_Gl p e below s Q kc ks (T.setTop (mkF m pc' L (.int v :: S)))) : own_Gl p e below s Q kc ks (T.setTop (mkF m pc L (.int j :: .ref a :: S))) := by
  subst hp
  obtain ⟨cl, A, Sz, H⟩ := V
  exact hr.go fun t k => X.baloadBooleans hx (by rw [eT]; exact A.1) (State.isArrayOf_alike hZ.alike A.2.1) A.2.2 (own_in Sz hj) (own_at (a := a) (ty := .boolean) Sz H hj hv) (g := mkF m pc L (.int j :: .ref a :: S)) rfl rfl hd t k
theorem g_arraylength (X : Stand p l e R s m args below meth c T locs cells slots) (hx : p.tables.exec = Jvm.exec) (hZ : Z.Warmed39 s.vm) (eT : T.heap = h) {a : Addr} {ty : FieldType} {n : Nat} {f : Nat → Int32} {z : Int32} (V : own_IA Z h a ty n f) (hz : n.toInt32 = z) (hd : decode c.code pc = .ok (.arraylength, 1)) (hp : pc + 1 = pc')
    (hr : own_Gl p e below s Q kc ks (T.setTop (mkF m pc' L (.int z :: S)))) : own_Gl p e below s Q kc ks (T.setTop (mkF m pc L (.ref a :: S))) := by
  subst hp hz
  obtain ⟨cl, A, Sz, H⟩ := V
  subst Sz
  exact hr.go fun t k => X.arraylength hx (by rw [eT]; exact A.1) (State.isArrayOf_alike hZ.alike A.2.1) (g := mkF m pc L (.ref a :: S)) rfl rfl hd t k
theorem g_initO (X : Stand p l e R s m args below meth c T locs cells slots) (hx : p.tables.exec = Jvm.exec) (hZ : Z.Warmed39 s.vm) {own : String} {idx : Nat} (hown : s.vm.findClass own = some m.cls) (w1 : (Jvm.Cond.methodLink own idx Lib.objectInit).before a0 Z = true) (w2 : (Jvm.Cond.instanceMethod Lib.objectInit).before a0 Z = true)
    (w3 : (Jvm.Cond.code Lib.objectInit ⟨#[0xb1]⟩ 1 none).before a0 Z = true) (eT : T.heap = h) {a : Addr} (hsize : L.size = c.maxLocals) (hd : decode c.code pc = .ok (.invokespecial idx, 3)) (hp : pc + 3 = pc')
    (hf : 1 ≤ R.frames) (W : Nat) (hW : (S.map fun v => v.category).sum ≤ W) (hl : W + 12 ≤ R.locals) (k : ∀ T' : State, Stand p l e R s m args below meth c T' locs cells slots → T'.heap = h → own_Gl p e below s Q kc ks (T'.setTop (mkF m pc' L S))) :
    own_Gl p e below s Q kc ks (T.setTop (mkF m pc L (.ref a :: S))) := by
  subst hp
  obtain ⟨T', X', e', st⟩ := initO X hx hZ hown w1 w2 w3 eT (g := mkF m pc L (.ref a :: S)) rfl hsize rfl hd hf (W := W) (by show 2 * 0 + _ ≤ _; omega) hl
  exact (k T' X' e').go st
/-- a constructor by its contract -/
theorem g_callI (X : Stand p l e R s m args below meth c T locs cells slots) (hx : p.tables.exec = Jvm.exec) (hZ : Z.Warmed39 s.vm) {own : String} {index : Nat} {y : MethodName} {bytes : ByteArray} {maxL : Nat} (hy1 : y.name = "<init>") (hown : s.vm.findClass own = some m.cls)
    (w1 : (Jvm.Cond.methodLink own index y).before a0 Z = true) (w2 : (Jvm.Cond.instanceMethod y).before a0 Z = true) (w3 : (Jvm.Cond.initialized y.cls).before a0 Z = true) (w4 : (Jvm.Cond.code y bytes maxL none).before a0 Z = true) (hy : y.cls ≠ "java/lang/invoke/MethodHandle" ∧ y.cls ≠ "java/lang/invoke/VarHandle")
    {rm : Room} {as' : Array Value} {Qc : Option Value → Heap → List Loc → Prop}
    (hM : MetFree l y (head1 [Jvm.Cond.code y bytes maxL none] rm) (fun a U => a = as' ∧ Z.Warmed39 U.vm ∧ U.heap = h) (fun _ _ _ _ _ => True) (fun _ U o U' => ∃ v L, o = .returned v ∧ Qc v U'.heap L ∧ FrameEnd U o U' L rm.cells rm.slots))
    (W : Nat) (hf : rm.frames + 1 ≤ R.frames) (hl : W + (maxL + 11) + rm.locals ≤ R.locals) (eT : T.heap = h) (hsize : L.size = c.maxLocals) {a : Addr} (argsL rest : List Value) (hlen : ∀ sig, parseMethodDescriptor y.desc = some sig → argsL.length = sig.parameters.length)
    (hst : S = argsL.reverse ++ .ref a :: rest) (has : (Value.ref a :: argsL).toArray = as') (hW : (rest.map fun v => v.category).sum ≤ W) (hd : decode c.code pc = .ok (.invokespecial index, 3)) (hp : pc + 3 = pc') {cells' slots' : Nat} (hcc : cells + rm.cells = cells') (hss : slots + rm.slots = slots') (hcl : cells' ≤ R.cells) (hsl : slots' ≤ R.slots)
    (k : ∀ (v : Option Value) (T' : State) (L' : List Loc), Stand p l e R s m args below meth c T' (locs ++ L') cells' slots' → Qc v T'.heap L' → own_Gl p e below s Q kc ks (T'.setTop (mkF m pc' L (v.toList ++ rest)))) :
    own_Gl p e below s Q kc ks (T.setTop (mkF m pc L S)) := by
  subst hp hst hcc hss
  obtain ⟨v, _, ⟨T', L', k', n'⟩, -, X', ⟨Lc, hQ, l', y', z'⟩, st⟩ := X.specialBack hx (y := y) hy1 hown (mvT hZ w1) (mvT hZ w2) (mvT hZ w4) hy (backOf (W := W) hM hZ w4 w3 hf hl) (g := mkF m pc L (argsL.reverse ++ .ref a :: rest)) rfl hsize (Steps.refl _) (a := a) (argsL := argsL) (rest := rest) hlen rfl (by show 2 * 0 + _ ≤ _; omega) hd (fun _ _ => ⟨has, eT, hcl, hsl⟩)
  dsimp only [Pt.U, Pt.locs, Pt.cells, Pt.slots] at X' l' y' z' st hQ
  subst l' y' z'
  exact (k v T' Lc X' hQ).go fun t q => st.trans q
/-- an instance method by its contract -/
theorem g_callV (X : Stand p l e R s m args below meth c T locs cells slots) (hx : p.tables.exec = Jvm.exec) (hZ : Z.Warmed39 s.vm) {own C : String} {index : Nat} {y z : MethodName} {bytes : ByteArray} {maxL : Nat} {ret : Option FieldType} (hown : s.vm.findClass own = some m.cls)
    (w1 : (Jvm.Cond.methodLink own index y).before a0 Z = true) (w2 : (Jvm.Cond.declares y).before a0 Z = true) (nf : NotFace s y) (w5 : (Jvm.Cond.selects C y z).before a0 Z = true) (w6 : (Jvm.Cond.instanceMethod z).before a0 Z = true) (w3 : (Jvm.Cond.initialized z.cls).before a0 Z = true) (w4 : (Jvm.Cond.code z bytes maxL ret).before a0 Z = true) (hy : y.cls ≠ "java/lang/invoke/MethodHandle" ∧ y.cls ≠ "java/lang/invoke/VarHandle")
    {rm : Room} {as' : Array Value} {Qc : Option Value → Heap → List Loc → Prop}
    (hM : MetFree l z (head1 [Jvm.Cond.code z bytes maxL ret] rm) (fun a U => a = as' ∧ Z.Warmed39 U.vm ∧ U.heap = h) (fun _ _ _ _ _ => True) (fun _ U o U' => ∃ v L, o = .returned v ∧ Qc v U'.heap L ∧ FrameEnd U o U' L rm.cells rm.slots))
    (W : Nat) (hf : rm.frames + 1 ≤ R.frames) (hl : W + (maxL + 11) + rm.locals ≤ R.locals) (eT : T.heap = h) {a : Addr} (E : Exa Z h a C) (hsize : L.size = c.maxLocals) (argsL rest : List Value) (hlen : ∀ sig, parseMethodDescriptor y.desc = some sig → argsL.length = sig.parameters.length)
    (hst : S = argsL.reverse ++ .ref a :: rest) (has : (Value.ref a :: argsL).toArray = as') (hW : (rest.map fun v => v.category).sum ≤ W) (hd : decode c.code pc = .ok (.invokevirtual index, 3)) (hp : pc + 3 = pc') {cells' slots' : Nat} (hcc : cells + rm.cells = cells') (hss : slots + rm.slots = slots') (hcl : cells' ≤ R.cells) (hsl : slots' ≤ R.slots)
    (k : ∀ (v : Option Value) (T' : State) (L' : List Loc), Stand p l e R s m args below meth c T' (locs ++ L') cells' slots' → Qc v T'.heap L' → own_Gl p e below s Q kc ks (T'.setTop (mkF m pc' L (v.toList ++ rest)))) :
    own_Gl p e below s Q kc ks (T.setTop (mkF m pc L S)) := by
  subst hp hst hcc hss
  obtain ⟨cq, kq, qa, qb, qc⟩ := isOf hZ eT E
  obtain ⟨v, _, ⟨T', L', k', n'⟩, -, X', ⟨Lc, hQ, l', y', z'⟩, st⟩ := X.virtualBack hx (y := y) (z := z) hown (mvT hZ w1) (mvT hZ w2) nf (mvT hZ w5) (mvT hZ w6) hy (backOf (W := W) hM hZ w4 w3 hf hl) qa qc (g := mkF m pc L (argsL.reverse ++ .ref a :: rest)) rfl hsize (Steps.refl _) (argsL := argsL) (rest := rest) hlen rfl (by show 2 * 0 + _ ≤ _; omega) hd (fun _ _ => ⟨has, eT, hcl, hsl⟩)
  dsimp only [Pt.U, Pt.locs, Pt.cells, Pt.slots] at X' l' y' z' st hQ
  subst l' y' z'
  exact (k v T' Lc X' hQ).go fun t q => st.trans q
theorem own_nameL {n0 : Nat} (X : Stand p l e R s m args below meth c T locs cells slots) (N : Fr n0 locs) : ∃ lc, Fr n0 lc ∧ Stand p l e R s m args below meth c T lc cells slots := ⟨locs, N, X⟩
theorem own_nf {y : MethodName} {C : String} (hZ : Z.Warmed39 s.vm) (w5 : (Jvm.Cond.selects C y y).before a0 Z = true) : NotFace s y := notFace_of_selects (args := #[]) (mvT hZ w5)
end OwnHeap
def own_Q0 (n0 : Nat) (v : Option Value) (h : Heap) (L : List Loc) : Prop := v = some (.int 1) ∧ Fr n0 L
def own_PF (Z : State) (h : Heap) (a : Addr) (f_list : Addr) (f_older : Addr) (f_newer : Addr) (f_oldest : Addr) (f_newest : Addr) (f_length : Addr) : Prop := Exa Z h a "com/example/tierstone/tierstone/PageLists" ∧ Fld Z h a "com/example/tierstone/tierstone/PageLists" "list" "[B" (.ref f_list) ∧ Fld Z h a "com/example/tierstone/tierstone/PageLists" "older" "[I" (.ref f_older) ∧ Fld Z h a "com/example/tierstone/tierstone/PageLists" "newer" "[I" (.ref f_newer) ∧ Fld Z h a "com/example/tierstone/tierstone/PageLists" "oldest" "[I" (.ref f_oldest) ∧ Fld Z h a "com/example/tierstone/tierstone/PageLists" "newest" "[I" (.ref f_newest) ∧ Fld Z h a "com/example/tierstone/tierstone/PageLists" "length" "[I" (.ref f_length)
def own_up (st : Nat → Nat → Int32) (k i : Nat) (v : Int32) : Nat → Nat → Int32 := fun k' i' => if k' = k ∧ i' = i then v else st k' i'
def own_PL (Z : State) (h : Heap) (a r0 r1 r2 r3 r4 r5 : Addr) (st : Nat → Nat → Int32) : Prop := own_PF Z h a r0 r1 r2 r3 r4 r5 ∧ own_IA Z h r0 .byte 4 (st 0) ∧ own_IA Z h r1 .int 4 (st 1) ∧ own_IA Z h r2 .int 4 (st 2) ∧ own_IA Z h r3 .int 2 (st 3) ∧ own_IA Z h r4 .int 2 (st 4) ∧ own_IA Z h r5 .int 2 (st 5)
def own_Q3 (Z : State) (n0 : Nat) (x0 : Addr) (x1 : Int32) (n : Nat) (h0 : Heap) (v : Option Value) (h : Heap) (L : List Loc) : Prop := v = none ∧ Fr n0 L ∧ Keep h0 h [x0] ∧ own_IA Z h x0 .byte n (fun _ => x1.toInt8.toInt32)
theorem d3_0 : decode jdk_65_method_109_code 0 = .ok (.iconst 0, 1) := by decide +kernel
theorem d3_1 : decode jdk_65_method_109_code 1 = .ok (.istore_n 2, 1) := by decide +kernel
theorem d3_2 : decode jdk_65_method_109_code 2 = .ok (.aload_n 0, 1) := by decide +kernel
theorem d3_3 : decode jdk_65_method_109_code 3 = .ok (.arraylength, 1) := by decide +kernel
theorem d3_4 : decode jdk_65_method_109_code 4 = .ok (.istore_n 3, 1) := by decide +kernel
theorem d3_5 : decode jdk_65_method_109_code 5 = .ok (.iload_n 2, 1) := by decide +kernel
theorem d3_6 : decode jdk_65_method_109_code 6 = .ok (.iload_n 3, 1) := by decide +kernel
theorem d3_7 : decode jdk_65_method_109_code 7 = .ok (.if_icmp .ge 13, 3) := by decide +kernel
theorem d3_20 : decode jdk_65_method_109_code 20 = .ok (.return_, 1) := by decide +kernel
theorem d3_10 : decode jdk_65_method_109_code 10 = .ok (.aload_n 0, 1) := by decide +kernel
theorem d3_11 : decode jdk_65_method_109_code 11 = .ok (.iload_n 2, 1) := by decide +kernel
theorem d3_12 : decode jdk_65_method_109_code 12 = .ok (.iload_n 1, 1) := by decide +kernel
theorem d3_13 : decode jdk_65_method_109_code 13 = .ok (.bastore, 1) := by decide +kernel
theorem d3_14 : decode jdk_65_method_109_code 14 = .ok (.iinc 2 1, 3) := by decide +kernel
theorem d3_17 : decode jdk_65_method_109_code 17 = .ok (.goto (-12), 3) := by decide +kernel
theorem pn_0 : plainName "java/util/Arrays" = true := by first | (simp [plainName, overriddenIn]; done) | decide +kernel
theorem ef_3 (m : MethodId) (x0 : Addr) (x1 : Int32) : entryFrame m #[(.ref x0), (.int x1)] 4 = mkF m 0 #[.val (.ref x0), .val (.int x1), .unset, .unset] [] := by first | (simp [entryFrame, mkF, argsToLocals, Value.category]; done) | rfl
set_option maxRecDepth 65536 in
set_option maxHeartbeats 40000000 in
theorem rm3 (l : Launch) (Z : State) (a0 : Array Value) (hw : ∀ d ∈ tables_1, d.before a0 Z = true) (ws : List Jvm.Cond) (x0 : Addr) (x1 : Int32) (n : Nat) (f : Nat → Int32) (h0 : Heap) (n0 : Nat) (Z0 : n0 ≤ h0.size) (g0 : n0 ≤ x0) (V0 : own_IA Z h0 x0 .byte n f) (hb : n ≤ 1000000) :
    MetFree l (⟨"java/util/Arrays", "fill", "([BB)V"⟩ : MethodName) (head1 (Jvm.Cond.code (⟨"java/util/Arrays", "fill", "([BB)V"⟩ : MethodName) jdk_65_method_109_code 4 none :: ws) ({ frames := 0, cells := 0, slots := 0, locals := 0 } : Room)) (fun a U => a = #[(.ref x0), (.int x1)] ∧ Z.Warmed39 U.vm ∧ U.heap = h0) (fun _ _ _ _ _ => True) (fun _ U o U' => ∃ v L, o = .returned v ∧ (own_Q3 Z n0 x0 x1 n h0) v U'.heap L ∧ FrameEnd U o U' L ({ frames := 0, cells := 0, slots := 0, locals := 0 } : Room).cells ({ frames := 0, cells := 0, slots := 0, locals := 0 } : Room).slots) := by
  refine own_body (own := "java/util/Arrays") pn_0 rfl (fun m => ef_3 m x0 x1) ?_
  intro p e s m below meth c T0 hx hby hml hown hnm hlk hret hZ X0 e0
  have N0 := Fr.nil n0
  have hn : (n.toInt32).toInt = n := len_toInt (by omega)
  refine g_iconst X0.here hx (Jvm.hb hby d3_0) (pc' := 1) rfl (z := (0 : Int32)) rfl ?_
  refine g_istoreN X0.here hx (Jvm.hb hby d3_1) (pc' := 2) rfl (L' := #[.val (.ref x0), .val (.int x1), .val (.int (0 : Int32)), .unset]) rfl ?_
  refine g_aloadN X0.here hx (Jvm.hb hby d3_2) (pc' := 3) rfl rfl rfl ?_
  refine g_arraylength X0 hx hZ e0 V0 (z := n.toInt32) rfl (Jvm.hb hby d3_3) (pc' := 4) rfl ?_
  refine g_istoreN X0.here hx (Jvm.hb hby d3_4) (pc' := 5) rfl (L' := #[.val (.ref x0), .val (.int x1), .val (.int (0 : Int32)), .val (.int n.toInt32)]) rfl ?_
  have lp : ∀ (k : Nat), ∀ (Tk1 : State), ∀ (hk1 : Heap), ∀ (lck1 : List Loc), ∀ (Xk1 : Stand p l e ({ frames := 0, cells := 0, slots := 0, locals := 0 } : Room) s m #[(.ref x0), (.int x1)] below meth c Tk1 lck1 0 0), ∀ (ek1 : Tk1.heap = hk1), ∀ (Nk1 : Fr n0 lck1), ∀ (Zk1 : n0 ≤ hk1.size), ∀ (g : Nat → Int32), ∀ (Fk1_0 : own_IA Z hk1 x0 .byte n g), ∀ (i : Nat), ∀ (iv : Int32), ∀ (KK : Keep h0 hk1 [x0]), ∀ (hg : ∀ j, j < i → g j = x1.toInt8.toInt32), ∀ (hiv : iv.toInt = i), ∀ (hik : i + k = n), own_Gl p e below s (own_Q3 Z n0 x0 x1 n h0) ({ frames := 0, cells := 0, slots := 0, locals := 0 } : Room).cells ({ frames := 0, cells := 0, slots := 0, locals := 0 } : Room).slots (Tk1.setTop (mkF m 5 #[.val (.ref x0), .val (.int x1), .val (.int iv), .val (.int n.toInt32)] [])) := by
    intro k
    induction k with
    | zero =>
      intro Tk1 hk1 lck1 Xk1 ek1 Nk1 Zk1 g Fk1_0 i iv KK hg hiv hik
      refine g_iloadN Xk1.here hx (Jvm.hb hby d3_5) (pc' := 6) rfl rfl ?_
      refine g_iloadN Xk1.here hx (Jvm.hb hby d3_6) (pc' := 7) rfl rfl ?_
      refine g_icY Xk1.here hx (Jvm.hb hby d3_7) (by decide) (pc' := 20) (by decide) (flt (by rw [Int32.lt_iff_toInt_lt, hn]; omega)).2.1 ?_
      exact g_retV Xk1 hx hlk hret (Jvm.hb hby d3_20) (Nat.zero_le _) (Nat.zero_le _) (by rw [ek1]; exact ⟨rfl, Nk1, KK, Fk1_0.congr (fun j hj => hg j (by omega))⟩)
    | succ k ih =>
      intro Tk1 hk1 lck1 Xk1 ek1 Nk1 Zk1 g Fk1_0 i iv KK hg hiv hik
      refine g_iloadN Xk1.here hx (Jvm.hb hby d3_5) (pc' := 6) rfl rfl ?_
      refine g_iloadN Xk1.here hx (Jvm.hb hby d3_6) (pc' := 7) rfl rfl ?_
      refine g_icN Xk1.here hx (Jvm.hb hby d3_7) (pc' := 10) rfl (tlt (by rw [Int32.lt_iff_toInt_lt, hn]; omega)).2.1 ?_
      refine g_aloadN Xk1.here hx (Jvm.hb hby d3_10) (pc' := 11) rfl rfl rfl ?_
      refine g_iloadN Xk1.here hx (Jvm.hb hby d3_11) (pc' := 12) rfl rfl ?_
      refine g_iloadN Xk1.here hx (Jvm.hb hby d3_12) (pc' := 13) rfl rfl ?_
      refine g_bastore Xk1 hx hZ ek1 Fk1_0 (by omega) (Jvm.hb hby d3_13) (pc' := 14) rfl ?_
      intro T2 hh2 X2 e2 W2 V2
      have N2 := Fr.snoc X2 Nk1 g0
      have Z3 : n0 ≤ hh2.size := (by rw [W2.size]; exact Zk1)
      refine g_iinc X2.here hx (Jvm.hb hby d3_14) (pc' := 17) rfl (z := (1 : Int32)) rfl rfl (L' := #[.val (.ref x0), .val (.int x1), .val (.int (iv + (1 : Int32))), .val (.int n.toInt32)]) rfl ?_
      refine g_goto X2.here hx (Jvm.hb hby d3_17) (by decide) (pc' := 5) (by decide) ?_
      refine ih T2 hh2 _ X2 e2 N2 Z3 _ V2 (i + 1) _ (KK.wr W2 (Or.inl (List.mem_of_getElem? (i := 0) rfl))) (fun j hj => ?_) ?_ (by omega)
      · by_cases q : j = iv.toNatClampNeg
        · exact if_pos q
        · exact (if_neg q).trans (hg j (by rw [own_clamp] at q; omega))
      · have e := c_iadd iv 1
        have r := rng32 (iv + 1)
        simp only [Int32.reduceToInt] at e
        omega
  exact lp n T0 h0 [] X0 e0 N0 Z0 f V0 0 (0 : Int32) (Keep.refl h0 [x0]) (fun j hj => absurd hj (Nat.not_lt_zero j)) (by decide) (by omega)
def own_Q4 (Z : State) (n0 : Nat) (x0 : Addr) (x1 : Int32) (n : Nat) (h0 : Heap) (v : Option Value) (h : Heap) (L : List Loc) : Prop := v = none ∧ Fr n0 L ∧ Keep h0 h [x0] ∧ own_IA Z h x0 .int n (fun _ => x1)
theorem d4_0 : decode jdk_65_method_103_code 0 = .ok (.iconst 0, 1) := by decide +kernel
theorem d4_1 : decode jdk_65_method_103_code 1 = .ok (.istore_n 2, 1) := by decide +kernel
theorem d4_2 : decode jdk_65_method_103_code 2 = .ok (.aload_n 0, 1) := by decide +kernel
theorem d4_3 : decode jdk_65_method_103_code 3 = .ok (.arraylength, 1) := by decide +kernel
theorem d4_4 : decode jdk_65_method_103_code 4 = .ok (.istore_n 3, 1) := by decide +kernel
theorem d4_5 : decode jdk_65_method_103_code 5 = .ok (.iload_n 2, 1) := by decide +kernel
theorem d4_6 : decode jdk_65_method_103_code 6 = .ok (.iload_n 3, 1) := by decide +kernel
theorem d4_7 : decode jdk_65_method_103_code 7 = .ok (.if_icmp .ge 13, 3) := by decide +kernel
theorem d4_20 : decode jdk_65_method_103_code 20 = .ok (.return_, 1) := by decide +kernel
theorem d4_10 : decode jdk_65_method_103_code 10 = .ok (.aload_n 0, 1) := by decide +kernel
theorem d4_11 : decode jdk_65_method_103_code 11 = .ok (.iload_n 2, 1) := by decide +kernel
theorem d4_12 : decode jdk_65_method_103_code 12 = .ok (.iload_n 1, 1) := by decide +kernel
theorem d4_13 : decode jdk_65_method_103_code 13 = .ok (.iastore, 1) := by decide +kernel
theorem d4_14 : decode jdk_65_method_103_code 14 = .ok (.iinc 2 1, 3) := by decide +kernel
theorem d4_17 : decode jdk_65_method_103_code 17 = .ok (.goto (-12), 3) := by decide +kernel
theorem ef_4 (m : MethodId) (x0 : Addr) (x1 : Int32) : entryFrame m #[(.ref x0), (.int x1)] 4 = mkF m 0 #[.val (.ref x0), .val (.int x1), .unset, .unset] [] := by first | (simp [entryFrame, mkF, argsToLocals, Value.category]; done) | rfl
set_option maxRecDepth 65536 in
set_option maxHeartbeats 40000000 in
theorem rm4 (l : Launch) (Z : State) (a0 : Array Value) (hw : ∀ d ∈ tables_1, d.before a0 Z = true) (ws : List Jvm.Cond) (x0 : Addr) (x1 : Int32) (n : Nat) (f : Nat → Int32) (h0 : Heap) (n0 : Nat) (Z0 : n0 ≤ h0.size) (g0 : n0 ≤ x0) (V0 : own_IA Z h0 x0 .int n f) (hb : n ≤ 1000000) :
    MetFree l (⟨"java/util/Arrays", "fill", "([II)V"⟩ : MethodName) (head1 (Jvm.Cond.code (⟨"java/util/Arrays", "fill", "([II)V"⟩ : MethodName) jdk_65_method_103_code 4 none :: ws) ({ frames := 0, cells := 0, slots := 0, locals := 0 } : Room)) (fun a U => a = #[(.ref x0), (.int x1)] ∧ Z.Warmed39 U.vm ∧ U.heap = h0) (fun _ _ _ _ _ => True) (fun _ U o U' => ∃ v L, o = .returned v ∧ (own_Q4 Z n0 x0 x1 n h0) v U'.heap L ∧ FrameEnd U o U' L ({ frames := 0, cells := 0, slots := 0, locals := 0 } : Room).cells ({ frames := 0, cells := 0, slots := 0, locals := 0 } : Room).slots) := by
  refine own_body (own := "java/util/Arrays") pn_0 rfl (fun m => ef_4 m x0 x1) ?_
  intro p e s m below meth c T0 hx hby hml hown hnm hlk hret hZ X0 e0
  have N0 := Fr.nil n0
  have hn : (n.toInt32).toInt = n := len_toInt (by omega)
  refine g_iconst X0.here hx (Jvm.hb hby d4_0) (pc' := 1) rfl (z := (0 : Int32)) rfl ?_
  refine g_istoreN X0.here hx (Jvm.hb hby d4_1) (pc' := 2) rfl (L' := #[.val (.ref x0), .val (.int x1), .val (.int (0 : Int32)), .unset]) rfl ?_
  refine g_aloadN X0.here hx (Jvm.hb hby d4_2) (pc' := 3) rfl rfl rfl ?_
  refine g_arraylength X0 hx hZ e0 V0 (z := n.toInt32) rfl (Jvm.hb hby d4_3) (pc' := 4) rfl ?_
  refine g_istoreN X0.here hx (Jvm.hb hby d4_4) (pc' := 5) rfl (L' := #[.val (.ref x0), .val (.int x1), .val (.int (0 : Int32)), .val (.int n.toInt32)]) rfl ?_
  have lp : ∀ (k : Nat), ∀ (Tk1 : State), ∀ (hk1 : Heap), ∀ (lck1 : List Loc), ∀ (Xk1 : Stand p l e ({ frames := 0, cells := 0, slots := 0, locals := 0 } : Room) s m #[(.ref x0), (.int x1)] below meth c Tk1 lck1 0 0), ∀ (ek1 : Tk1.heap = hk1), ∀ (Nk1 : Fr n0 lck1), ∀ (Zk1 : n0 ≤ hk1.size), ∀ (g : Nat → Int32), ∀ (Fk1_0 : own_IA Z hk1 x0 .int n g), ∀ (i : Nat), ∀ (iv : Int32), ∀ (KK : Keep h0 hk1 [x0]), ∀ (hg : ∀ j, j < i → g j = x1), ∀ (hiv : iv.toInt = i), ∀ (hik : i + k = n), own_Gl p e below s (own_Q4 Z n0 x0 x1 n h0) ({ frames := 0, cells := 0, slots := 0, locals := 0 } : Room).cells ({ frames := 0, cells := 0, slots := 0, locals := 0 } : Room).slots (Tk1.setTop (mkF m 5 #[.val (.ref x0), .val (.int x1), .val (.int iv), .val (.int n.toInt32)] [])) := by
    intro k
    induction k with
    | zero =>
      intro Tk1 hk1 lck1 Xk1 ek1 Nk1 Zk1 g Fk1_0 i iv KK hg hiv hik
      refine g_iloadN Xk1.here hx (Jvm.hb hby d4_5) (pc' := 6) rfl rfl ?_
      refine g_iloadN Xk1.here hx (Jvm.hb hby d4_6) (pc' := 7) rfl rfl ?_
      refine g_icY Xk1.here hx (Jvm.hb hby d4_7) (by decide) (pc' := 20) (by decide) (flt (by rw [Int32.lt_iff_toInt_lt, hn]; omega)).2.1 ?_
      exact g_retV Xk1 hx hlk hret (Jvm.hb hby d4_20) (Nat.zero_le _) (Nat.zero_le _) (by rw [ek1]; exact ⟨rfl, Nk1, KK, Fk1_0.congr (fun j hj => hg j (by omega))⟩)
    | succ k ih =>
      intro Tk1 hk1 lck1 Xk1 ek1 Nk1 Zk1 g Fk1_0 i iv KK hg hiv hik
      refine g_iloadN Xk1.here hx (Jvm.hb hby d4_5) (pc' := 6) rfl rfl ?_
      refine g_iloadN Xk1.here hx (Jvm.hb hby d4_6) (pc' := 7) rfl rfl ?_
      refine g_icN Xk1.here hx (Jvm.hb hby d4_7) (pc' := 10) rfl (tlt (by rw [Int32.lt_iff_toInt_lt, hn]; omega)).2.1 ?_
      refine g_aloadN Xk1.here hx (Jvm.hb hby d4_10) (pc' := 11) rfl rfl rfl ?_
      refine g_iloadN Xk1.here hx (Jvm.hb hby d4_11) (pc' := 12) rfl rfl ?_
      refine g_iloadN Xk1.here hx (Jvm.hb hby d4_12) (pc' := 13) rfl rfl ?_
      refine g_iastore Xk1 hx hZ ek1 Fk1_0 (by omega) (Jvm.hb hby d4_13) (pc' := 14) rfl ?_
      intro T2 hh2 X2 e2 W2 V2
      have N2 := Fr.snoc X2 Nk1 g0
      have Z3 : n0 ≤ hh2.size := (by rw [W2.size]; exact Zk1)
      refine g_iinc X2.here hx (Jvm.hb hby d4_14) (pc' := 17) rfl (z := (1 : Int32)) rfl rfl (L' := #[.val (.ref x0), .val (.int x1), .val (.int (iv + (1 : Int32))), .val (.int n.toInt32)]) rfl ?_
      refine g_goto X2.here hx (Jvm.hb hby d4_17) (by decide) (pc' := 5) (by decide) ?_
      refine ih T2 hh2 _ X2 e2 N2 Z3 _ V2 (i + 1) _ (KK.wr W2 (Or.inl (List.mem_of_getElem? (i := 0) rfl))) (fun j hj => ?_) ?_ (by omega)
      · by_cases q : j = iv.toNatClampNeg
        · exact if_pos q
        · exact (if_neg q).trans (hg j (by rw [own_clamp] at q; omega))
      · have e := c_iadd iv 1
        have r := rng32 (iv + 1)
        simp only [Int32.reduceToInt] at e
        omega
  exact lp n T0 h0 [] X0 e0 N0 Z0 f V0 0 (0 : Int32) (Keep.refl h0 [x0]) (fun j hj => absurd hj (Nat.not_lt_zero j)) (by decide) (by omega)
def own_st0 : Nat → Nat → Int32 := fun k _ => if k = 0 ∨ k = 3 ∨ k = 4 then (-1 : Int32) else (0 : Int32)
def own_Q1 (Z : State) (n0 : Nat) (x0 : Nat) (h0 : Heap) (v : Option Value) (h : Heap) (L : List Loc) : Prop := v = none ∧ Fr n0 L ∧ Keep h0 h [x0] ∧ ∃ r0 r1 r2 r3 r4 r5 : Nat, (x0 < r0 ∧ r0 < r1 ∧ r1 < r2 ∧ r2 < r3 ∧ r3 < r4 ∧ r4 < r5) ∧ own_PL Z h x0 r0 r1 r2 r3 r4 r5 own_st0
theorem d1_0 : decode prog_64_method_1_code 0 = .ok (.aload_n 0, 1) := by decide +kernel
theorem d1_1 : decode prog_64_method_1_code 1 = .ok (.invokespecial 1, 3) := by decide +kernel
theorem d1_4 : decode prog_64_method_1_code 4 = .ok (.aload_n 0, 1) := by decide +kernel
theorem d1_5 : decode prog_64_method_1_code 5 = .ok (.iload_n 2, 1) := by decide +kernel
theorem d1_6 : decode prog_64_method_1_code 6 = .ok (.newarray .byte, 2) := by decide +kernel
theorem d1_8 : decode prog_64_method_1_code 8 = .ok (.putfield 7, 3) := by decide +kernel
theorem d1_11 : decode prog_64_method_1_code 11 = .ok (.aload_n 0, 1) := by decide +kernel
theorem d1_12 : decode prog_64_method_1_code 12 = .ok (.getfield 7, 3) := by decide +kernel
theorem d1_15 : decode prog_64_method_1_code 15 = .ok (.iconst (-1), 1) := by decide +kernel
theorem d1_16 : decode prog_64_method_1_code 16 = .ok (.invokestatic 13, 3) := by decide +kernel
theorem pd_0 : parseMethodDescriptor "([BB)V" = some ⟨[(.array .byte), .byte], none⟩ := by decide +kernel
theorem d1_19 : decode prog_64_method_1_code 19 = .ok (.aload_n 0, 1) := by decide +kernel
theorem d1_20 : decode prog_64_method_1_code 20 = .ok (.iload_n 2, 1) := by decide +kernel
theorem d1_21 : decode prog_64_method_1_code 21 = .ok (.newarray .int, 2) := by decide +kernel
theorem d1_23 : decode prog_64_method_1_code 23 = .ok (.putfield 19, 3) := by decide +kernel
theorem d1_26 : decode prog_64_method_1_code 26 = .ok (.aload_n 0, 1) := by decide +kernel
theorem d1_27 : decode prog_64_method_1_code 27 = .ok (.iload_n 2, 1) := by decide +kernel
theorem d1_28 : decode prog_64_method_1_code 28 = .ok (.newarray .int, 2) := by decide +kernel
theorem d1_30 : decode prog_64_method_1_code 30 = .ok (.putfield 23, 3) := by decide +kernel
theorem d1_33 : decode prog_64_method_1_code 33 = .ok (.aload_n 0, 1) := by decide +kernel
theorem d1_34 : decode prog_64_method_1_code 34 = .ok (.iload_n 1, 1) := by decide +kernel
theorem d1_35 : decode prog_64_method_1_code 35 = .ok (.newarray .int, 2) := by decide +kernel
theorem d1_37 : decode prog_64_method_1_code 37 = .ok (.putfield 26, 3) := by decide +kernel
theorem d1_40 : decode prog_64_method_1_code 40 = .ok (.aload_n 0, 1) := by decide +kernel
theorem d1_41 : decode prog_64_method_1_code 41 = .ok (.iload_n 1, 1) := by decide +kernel
theorem d1_42 : decode prog_64_method_1_code 42 = .ok (.newarray .int, 2) := by decide +kernel
theorem d1_44 : decode prog_64_method_1_code 44 = .ok (.putfield 29, 3) := by decide +kernel
theorem d1_47 : decode prog_64_method_1_code 47 = .ok (.aload_n 0, 1) := by decide +kernel
theorem d1_48 : decode prog_64_method_1_code 48 = .ok (.getfield 26, 3) := by decide +kernel
theorem d1_51 : decode prog_64_method_1_code 51 = .ok (.iconst (-1), 1) := by decide +kernel
theorem d1_52 : decode prog_64_method_1_code 52 = .ok (.invokestatic 32, 3) := by decide +kernel
theorem pd_1 : parseMethodDescriptor "([II)V" = some ⟨[(.array .int), .int], none⟩ := by decide +kernel
theorem d1_55 : decode prog_64_method_1_code 55 = .ok (.aload_n 0, 1) := by decide +kernel
theorem d1_56 : decode prog_64_method_1_code 56 = .ok (.getfield 29, 3) := by decide +kernel
theorem d1_59 : decode prog_64_method_1_code 59 = .ok (.iconst (-1), 1) := by decide +kernel
theorem d1_60 : decode prog_64_method_1_code 60 = .ok (.invokestatic 32, 3) := by decide +kernel
theorem d1_63 : decode prog_64_method_1_code 63 = .ok (.aload_n 0, 1) := by decide +kernel
theorem d1_64 : decode prog_64_method_1_code 64 = .ok (.iload_n 1, 1) := by decide +kernel
theorem d1_65 : decode prog_64_method_1_code 65 = .ok (.newarray .int, 2) := by decide +kernel
theorem d1_67 : decode prog_64_method_1_code 67 = .ok (.putfield 35, 3) := by decide +kernel
theorem d1_70 : decode prog_64_method_1_code 70 = .ok (.return_, 1) := by decide +kernel
theorem pn_1 : plainName "com/example/tierstone/tierstone/PageLists" = true := by first | (simp [plainName, overriddenIn]; done) | decide +kernel
theorem ef_1 (m : MethodId) (x0 : Addr) (x1 : Int32) (x2 : Int32) : entryFrame m #[(.ref x0), (.int x1), (.int x2)] 3 = mkF m 0 #[.val (.ref x0), .val (.int x1), .val (.int x2)] [] := by first | (simp [entryFrame, mkF, argsToLocals, Value.category]; done) | rfl
set_option maxRecDepth 65536 in
set_option maxHeartbeats 40000000 in
theorem rm1 (l : Launch) (Z : State) (a0 : Array Value) (hw : ∀ d ∈ tables_1, d.before a0 Z = true) (ws : List Jvm.Cond) (x0 : Addr) (x1 x2 : Int32) (h0 : Heap) (n0 : Nat) (Z0 : n0 ≤ h0.size) (g0 : n0 ≤ x0) (E0 : Exa Z h0 x0 "com/example/tierstone/tierstone/PageLists") (F_list : Fld Z h0 x0 "com/example/tierstone/tierstone/PageLists" "list" "[B" .null) (F_older : Fld Z h0 x0 "com/example/tierstone/tierstone/PageLists" "older" "[I" .null) (F_newer : Fld Z h0 x0 "com/example/tierstone/tierstone/PageLists" "newer" "[I" .null) (F_oldest : Fld Z h0 x0 "com/example/tierstone/tierstone/PageLists" "oldest" "[I" .null) (F_newest : Fld Z h0 x0 "com/example/tierstone/tierstone/PageLists" "newest" "[I" .null) (F_length : Fld Z h0 x0 "com/example/tierstone/tierstone/PageLists" "length" "[I" .null) (h1 : x1.toInt = ((2 : Nat) : Int)) (h2 : x2.toInt = ((4 : Nat) : Int)) :
    MetFree l (⟨"com/example/tierstone/tierstone/PageLists", "<init>", "(II)V"⟩ : MethodName) (head1 (Jvm.Cond.code (⟨"com/example/tierstone/tierstone/PageLists", "<init>", "(II)V"⟩ : MethodName) prog_64_method_1_code 3 none :: ws) ({ frames := 1, cells := 6, slots := 18, locals := 17 } : Room)) (fun a U => a = #[(.ref x0), (.int x1), (.int x2)] ∧ Z.Warmed39 U.vm ∧ U.heap = h0) (fun _ _ _ _ _ => True) (fun _ U o U' => ∃ v L, o = .returned v ∧ (own_Q1 Z n0 x0 h0) v U'.heap L ∧ FrameEnd U o U' L ({ frames := 1, cells := 6, slots := 18, locals := 17 } : Room).cells ({ frames := 1, cells := 6, slots := 18, locals := 17 } : Room).slots) := by
  refine own_body (own := "com/example/tierstone/tierstone/PageLists") pn_1 rfl (fun m => ef_1 m x0 x1 x2) ?_
  intro p e s m below meth c T0 hx hby hml hown hnm hlk hret hZ X0 e0
  have w_1 := hw _ (List.mem_of_getElem? (i := 1) rfl)
  have w_4 := hw _ (List.mem_of_getElem? (i := 4) rfl)
  have w_9 := hw _ (List.mem_of_getElem? (i := 9) rfl)
  have w_10 := hw _ (List.mem_of_getElem? (i := 10) rfl)
  have w_11 := hw _ (List.mem_of_getElem? (i := 11) rfl)
  have w_12 := hw _ (List.mem_of_getElem? (i := 12) rfl)
  have w_13 := hw _ (List.mem_of_getElem? (i := 13) rfl)
  have w_14 := hw _ (List.mem_of_getElem? (i := 14) rfl)
  have w_15 := hw _ (List.mem_of_getElem? (i := 15) rfl)
  have w_16 := hw _ (List.mem_of_getElem? (i := 16) rfl)
  have w_17 := hw _ (List.mem_of_getElem? (i := 17) rfl)
  have w_18 := hw _ (List.mem_of_getElem? (i := 18) rfl)
  have w_19 := hw _ (List.mem_of_getElem? (i := 19) rfl)
  have w_20 := hw _ (List.mem_of_getElem? (i := 20) rfl)
  have w_21 := hw _ (List.mem_of_getElem? (i := 21) rfl)
  have w_22 := hw _ (List.mem_of_getElem? (i := 22) rfl)
  have w_23 := hw _ (List.mem_of_getElem? (i := 23) rfl)
  have w_24 := hw _ (List.mem_of_getElem? (i := 24) rfl)
  have w_25 := hw _ (List.mem_of_getElem? (i := 25) rfl)
  have w_26 := hw _ (List.mem_of_getElem? (i := 26) rfl)
  have w_27 := hw _ (List.mem_of_getElem? (i := 27) rfl)
  have w_28 := hw _ (List.mem_of_getElem? (i := 28) rfl)
  have w_29 := hw _ (List.mem_of_getElem? (i := 29) rfl)
  have w_30 := hw _ (List.mem_of_getElem? (i := 30) rfl)
  have w_31 := hw _ (List.mem_of_getElem? (i := 31) rfl)
  have N0 := Fr.nil n0
  have s_x0 := E0.lt
  refine g_aloadN X0.here hx (Jvm.hb hby d1_0) (pc' := 1) rfl rfl rfl ?_
  refine g_initO X0 hx hZ hown w_9 w_10 w_11 e0 (by rw [hml]; rfl) (Jvm.hb hby d1_1) (pc' := 4) rfl (by decide) 0 (by decide) (by decide) ?_
  intro T1 X1 e1
  refine g_aloadN X1.here hx (Jvm.hb hby d1_4) (pc' := 5) rfl rfl rfl ?_
  refine g_iloadN X1.here hx (Jvm.hb hby d1_5) (pc' := 6) rfl rfl ?_
  refine g_newarr X1 hx hZ (ty := .byte) rfl rfl w_12 e1 (Jvm.hb hby d1_6) (pc' := 8) rfl (n := 4) h2 4 (by decide) (by decide) (cells' := 1) (slots' := 4) rfl rfl (by decide) (by decide) ?_
  intro T2 hh2 ad2 gb2 X2 e2 E2 V2
  have g_ad2 : n0 ≤ ad2 := by rw [gb2]; exact Z0
  have sz_ad2 : h0.size ≤ ad2 := by rw [gb2]; exact (Nat.le_refl _)
  have lt_x0_ad2 : @LT.lt Nat _ x0 ad2 := by rw [gb2]; exact E0.lt
  have ne_x0_ad2 : x0 ≠ ad2 := Nat.ne_of_lt lt_x0_ad2
  have Z3 : n0 ≤ hh2.size := Nat.le_trans Z0 E2.1
  have z4 : h0.size ≤ hh2.size := Nat.le_trans (Nat.le_refl _) E2.1
  have F5 := (F_list.ext E2)
  have F6 := (E0.ext E2)
  refine g_putF X2 hx hZ hown (host := "") (Or.inl w_13) Via.refl e2 F5 F6 (Or.inr ⟨w_14, rfl, hnm⟩) w_4 (ty := (.array .byte)) (by decide) rfl rfl (Jvm.hb hby d1_8) (pc' := 11) rfl ?_
  intro T7 hh7 X7 e7 W7
  have Fw7 := F5.same W7
  have N7 := Fr.snoc X7 N0 g0
  have Z8 : n0 ≤ hh7.size := (by rw [W7.size]; exact Z3)
  have z9 : h0.size ≤ hh7.size := (by rw [W7.size]; exact z4)
  refine g_aloadN X7.here hx (Jvm.hb hby d1_11) (pc' := 12) rfl rfl rfl ?_
  refine g_getF X7 hx hZ hown (host := "") (Or.inl w_13) Via.refl e7 Fw7 (Jvm.hb hby d1_12) (pc' := 15) rfl ?_
  intro T10 X10 e10
  refine g_iconst X10.here hx (Jvm.hb hby d1_15) (pc' := 16) rfl (z := (-1 : Int32)) rfl ?_
  have F11 := (V2.other W7 (Ne.symm ne_x0_ad2))
  refine g_callS X10 hx hZ hown w_15 w_16 w_17 w_18 (by decide) (rm3 l Z a0 hw [] ad2 (-1 : Int32) 4 _ hh7 n0 Z8 g_ad2 F11 (by decide)) 0 (by decide) (by decide) e10 (by rw [hml]; rfl) [(.ref ad2), (.int (-1 : Int32))] [] (lenOf pd_0 rfl) rfl rfl (Nat.le_of_eq rfl) (Jvm.hb hby d1_16) (pc' := 19) rfl (cells' := 1) (slots' := 4) rfl rfl (by decide) (by decide) ?_
  intro v12 T12 L12 X12 hQ12
  obtain ⟨rfl, Nq12, K12, Vq12⟩ := hQ12
  have N12 := Fr.app N7 Nq12
  have Z13 : n0 ≤ T12.heap.size := Nat.le_trans Z8 K12.1
  have z14 : h0.size ≤ T12.heap.size := Nat.le_trans z9 K12.1
  show own_Gl p e below s (own_Q1 Z n0 x0 h0) ({ frames := 1, cells := 6, slots := 18, locals := 17 } : Room).cells ({ frames := 1, cells := 6, slots := 18, locals := 17 } : Room).slots (T12.setTop (mkF m 19 #[.val (.ref x0), .val (.int x1), .val (.int x2)] []))
  refine g_aloadN X12.here hx (Jvm.hb hby d1_19) (pc' := 20) rfl rfl rfl ?_
  refine g_iloadN X12.here hx (Jvm.hb hby d1_20) (pc' := 21) rfl rfl ?_
  have F15 := (Fw7.keep K12 (ninS ne_x0_ad2 nin0))
  refine g_newarr X12 hx hZ (ty := .int) rfl rfl w_1 rfl (Jvm.hb hby d1_21) (pc' := 23) rfl (n := 4) h2 4 (by decide) (by decide) (cells' := 2) (slots' := 8) rfl rfl (by decide) (by decide) ?_
  intro T16 hh16 ad16 gb16 X16 e16 E16 V16
  have g_ad16 : n0 ≤ ad16 := by rw [gb16]; exact Z13
  have sz_ad16 : h0.size ≤ ad16 := by rw [gb16]; exact z14
  have lt_x0_ad16 : @LT.lt Nat _ x0 ad16 := by rw [gb16]; exact F15.lt
  have ne_x0_ad16 : x0 ≠ ad16 := Nat.ne_of_lt lt_x0_ad16
  have lt_ad2_ad16 : @LT.lt Nat _ ad2 ad16 := by rw [gb16]; exact Vq12.lt
  have ne_ad2_ad16 : ad2 ≠ ad16 := Nat.ne_of_lt lt_ad2_ad16
  have Z17 : n0 ≤ hh16.size := Nat.le_trans Z13 E16.1
  have z18 : h0.size ≤ hh16.size := Nat.le_trans z14 E16.1
  have F19 := ((((F_older.ext E2).other W7 (Or.inr (slot_ne (Or.inr w_20) (Or.inr w_14) (by decide) (t := (.array .int)) (t' := (.array .byte)) (by decide) (by decide)))).keep K12 (ninS ne_x0_ad2 nin0)).ext E16)
  have F20 := (((F6.wr W7).keep K12).ext E16)
  refine g_putF X16 hx hZ hown (host := "") (Or.inl w_19) Via.refl e16 F19 F20 (Or.inr ⟨w_20, rfl, hnm⟩) w_4 (ty := (.array .int)) (by decide) rfl rfl (Jvm.hb hby d1_23) (pc' := 26) rfl ?_
  intro T21 hh21 X21 e21 W21
  have Fw21 := F19.same W21
  have N21 := Fr.snoc X21 N12 g0
  have Z22 : n0 ≤ hh21.size := (by rw [W21.size]; exact Z17)
  have z23 : h0.size ≤ hh21.size := (by rw [W21.size]; exact z18)
  refine g_aloadN X21.here hx (Jvm.hb hby d1_26) (pc' := 27) rfl rfl rfl ?_
  refine g_iloadN X21.here hx (Jvm.hb hby d1_27) (pc' := 28) rfl rfl ?_
  have F24 := ((Vq12.ext E16).other W21 (Ne.symm ne_x0_ad2))
  have F25 := (V16.other W21 (Ne.symm ne_x0_ad16))
  refine g_newarr X21 hx hZ (ty := .int) rfl rfl w_1 e21 (Jvm.hb hby d1_28) (pc' := 30) rfl (n := 4) h2 4 (by decide) (by decide) (cells' := 3) (slots' := 12) rfl rfl (by decide) (by decide) ?_
  intro T26 hh26 ad26 gb26 X26 e26 E26 V26
  have g_ad26 : n0 ≤ ad26 := by rw [gb26]; exact Z22
  have sz_ad26 : h0.size ≤ ad26 := by rw [gb26]; exact z23
  have lt_x0_ad26 : @LT.lt Nat _ x0 ad26 := by rw [gb26]; exact Fw21.lt
  have ne_x0_ad26 : x0 ≠ ad26 := Nat.ne_of_lt lt_x0_ad26
  have lt_ad2_ad26 : @LT.lt Nat _ ad2 ad26 := by rw [gb26]; exact F24.lt
  have ne_ad2_ad26 : ad2 ≠ ad26 := Nat.ne_of_lt lt_ad2_ad26
  have lt_ad16_ad26 : @LT.lt Nat _ ad16 ad26 := by rw [gb26]; exact F25.lt
  have ne_ad16_ad26 : ad16 ≠ ad26 := Nat.ne_of_lt lt_ad16_ad26
  have Z27 : n0 ≤ hh26.size := Nat.le_trans Z22 E26.1
  have z28 : h0.size ≤ hh26.size := Nat.le_trans z23 E26.1
  have F29 := ((((((F_newer.ext E2).other W7 (Or.inr (slot_ne (Or.inr w_22) (Or.inr w_14) (by decide) (t := (.array .int)) (t' := (.array .byte)) (by decide) (by decide)))).keep K12 (ninS ne_x0_ad2 nin0)).ext E16).other W21 (Or.inr (slot_ne (Or.inr w_22) (Or.inr w_20) (by decide) (t := (.array .int)) (t' := (.array .int)) (by decide) (by decide)))).ext E26)
  have F30 := ((F20.wr W21).ext E26)
  refine g_putF X26 hx hZ hown (host := "") (Or.inl w_21) Via.refl e26 F29 F30 (Or.inr ⟨w_22, rfl, hnm⟩) w_4 (ty := (.array .int)) (by decide) rfl rfl (Jvm.hb hby d1_30) (pc' := 33) rfl ?_
  intro T31 hh31 X31 e31 W31
  have Fw31 := F29.same W31
  have N31 := Fr.snoc X31 N21 g0
  have Z32 : n0 ≤ hh31.size := (by rw [W31.size]; exact Z27)
  have z33 : h0.size ≤ hh31.size := (by rw [W31.size]; exact z28)
  refine g_aloadN X31.here hx (Jvm.hb hby d1_33) (pc' := 34) rfl rfl rfl ?_
  refine g_iloadN X31.here hx (Jvm.hb hby d1_34) (pc' := 35) rfl rfl ?_
  have F34 := ((F24.ext E26).other W31 (Ne.symm ne_x0_ad2))
  have F35 := ((F25.ext E26).other W31 (Ne.symm ne_x0_ad16))
  have F36 := (V26.other W31 (Ne.symm ne_x0_ad26))
  refine g_newarr X31 hx hZ (ty := .int) rfl rfl w_1 e31 (Jvm.hb hby d1_35) (pc' := 37) rfl (n := 2) h1 2 (by decide) (by decide) (cells' := 4) (slots' := 14) rfl rfl (by decide) (by decide) ?_
  intro T37 hh37 ad37 gb37 X37 e37 E37 V37
  have g_ad37 : n0 ≤ ad37 := by rw [gb37]; exact Z32
  have sz_ad37 : h0.size ≤ ad37 := by rw [gb37]; exact z33
  have lt_x0_ad37 : @LT.lt Nat _ x0 ad37 := by rw [gb37]; exact Fw31.lt
  have ne_x0_ad37 : x0 ≠ ad37 := Nat.ne_of_lt lt_x0_ad37
  have lt_ad2_ad37 : @LT.lt Nat _ ad2 ad37 := by rw [gb37]; exact F34.lt
  have ne_ad2_ad37 : ad2 ≠ ad37 := Nat.ne_of_lt lt_ad2_ad37
  have lt_ad16_ad37 : @LT.lt Nat _ ad16 ad37 := by rw [gb37]; exact F35.lt
  have ne_ad16_ad37 : ad16 ≠ ad37 := Nat.ne_of_lt lt_ad16_ad37
  have lt_ad26_ad37 : @LT.lt Nat _ ad26 ad37 := by rw [gb37]; exact F36.lt
  have ne_ad26_ad37 : ad26 ≠ ad37 := Nat.ne_of_lt lt_ad26_ad37
  have Z38 : n0 ≤ hh37.size := Nat.le_trans Z32 E37.1
  have z39 : h0.size ≤ hh37.size := Nat.le_trans z33 E37.1
  have F40 := ((((((((F_oldest.ext E2).other W7 (Or.inr (slot_ne (Or.inr w_24) (Or.inr w_14) (by decide) (t := (.array .int)) (t' := (.array .byte)) (by decide) (by decide)))).keep K12 (ninS ne_x0_ad2 nin0)).ext E16).other W21 (Or.inr (slot_ne (Or.inr w_24) (Or.inr w_20) (by decide) (t := (.array .int)) (t' := (.array .int)) (by decide) (by decide)))).ext E26).other W31 (Or.inr (slot_ne (Or.inr w_24) (Or.inr w_22) (by decide) (t := (.array .int)) (t' := (.array .int)) (by decide) (by decide)))).ext E37)
  have F41 := ((F30.wr W31).ext E37)
  refine g_putF X37 hx hZ hown (host := "") (Or.inl w_23) Via.refl e37 F40 F41 (Or.inr ⟨w_24, rfl, hnm⟩) w_4 (ty := (.array .int)) (by decide) rfl rfl (Jvm.hb hby d1_37) (pc' := 40) rfl ?_
  intro T42 hh42 X42 e42 W42
  have Fw42 := F40.same W42
  have N42 := Fr.snoc X42 N31 g0
  have Z43 : n0 ≤ hh42.size := (by rw [W42.size]; exact Z38)
  have z44 : h0.size ≤ hh42.size := (by rw [W42.size]; exact z39)
  refine g_aloadN X42.here hx (Jvm.hb hby d1_40) (pc' := 41) rfl rfl rfl ?_
  refine g_iloadN X42.here hx (Jvm.hb hby d1_41) (pc' := 42) rfl rfl ?_
  have F45 := ((F34.ext E37).other W42 (Ne.symm ne_x0_ad2))
  have F46 := ((F35.ext E37).other W42 (Ne.symm ne_x0_ad16))
  have F47 := ((F36.ext E37).other W42 (Ne.symm ne_x0_ad26))
  have F48 := (V37.other W42 (Ne.symm ne_x0_ad37))
  refine g_newarr X42 hx hZ (ty := .int) rfl rfl w_1 e42 (Jvm.hb hby d1_42) (pc' := 44) rfl (n := 2) h1 2 (by decide) (by decide) (cells' := 5) (slots' := 16) rfl rfl (by decide) (by decide) ?_
  intro T49 hh49 ad49 gb49 X49 e49 E49 V49
  have g_ad49 : n0 ≤ ad49 := by rw [gb49]; exact Z43
  have sz_ad49 : h0.size ≤ ad49 := by rw [gb49]; exact z44
  have lt_x0_ad49 : @LT.lt Nat _ x0 ad49 := by rw [gb49]; exact Fw42.lt
  have ne_x0_ad49 : x0 ≠ ad49 := Nat.ne_of_lt lt_x0_ad49
  have lt_ad2_ad49 : @LT.lt Nat _ ad2 ad49 := by rw [gb49]; exact F45.lt
  have ne_ad2_ad49 : ad2 ≠ ad49 := Nat.ne_of_lt lt_ad2_ad49
  have lt_ad16_ad49 : @LT.lt Nat _ ad16 ad49 := by rw [gb49]; exact F46.lt
  have ne_ad16_ad49 : ad16 ≠ ad49 := Nat.ne_of_lt lt_ad16_ad49
  have lt_ad26_ad49 : @LT.lt Nat _ ad26 ad49 := by rw [gb49]; exact F47.lt
  have ne_ad26_ad49 : ad26 ≠ ad49 := Nat.ne_of_lt lt_ad26_ad49
  have lt_ad37_ad49 : @LT.lt Nat _ ad37 ad49 := by rw [gb49]; exact F48.lt
  have ne_ad37_ad49 : ad37 ≠ ad49 := Nat.ne_of_lt lt_ad37_ad49
  have Z50 : n0 ≤ hh49.size := Nat.le_trans Z43 E49.1
  have z51 : h0.size ≤ hh49.size := Nat.le_trans z44 E49.1
  have F52 := ((((((((((F_newest.ext E2).other W7 (Or.inr (slot_ne (Or.inr w_26) (Or.inr w_14) (by decide) (t := (.array .int)) (t' := (.array .byte)) (by decide) (by decide)))).keep K12 (ninS ne_x0_ad2 nin0)).ext E16).other W21 (Or.inr (slot_ne (Or.inr w_26) (Or.inr w_20) (by decide) (t := (.array .int)) (t' := (.array .int)) (by decide) (by decide)))).ext E26).other W31 (Or.inr (slot_ne (Or.inr w_26) (Or.inr w_22) (by decide) (t := (.array .int)) (t' := (.array .int)) (by decide) (by decide)))).ext E37).other W42 (Or.inr (slot_ne (Or.inr w_26) (Or.inr w_24) (by decide) (t := (.array .int)) (t' := (.array .int)) (by decide) (by decide)))).ext E49)
  have F53 := ((F41.wr W42).ext E49)
  refine g_putF X49 hx hZ hown (host := "") (Or.inl w_25) Via.refl e49 F52 F53 (Or.inr ⟨w_26, rfl, hnm⟩) w_4 (ty := (.array .int)) (by decide) rfl rfl (Jvm.hb hby d1_44) (pc' := 47) rfl ?_
  intro T54 hh54 X54 e54 W54
  have Fw54 := F52.same W54
  have N54 := Fr.snoc X54 N42 g0
  have Z55 : n0 ≤ hh54.size := (by rw [W54.size]; exact Z50)
  have z56 : h0.size ≤ hh54.size := (by rw [W54.size]; exact z51)
  refine g_aloadN X54.here hx (Jvm.hb hby d1_47) (pc' := 48) rfl rfl rfl ?_
  have F57 := ((Fw42.ext E49).other W54 (Or.inr (slot_ne (Or.inr w_24) (Or.inr w_26) (by decide) (t := (.array .int)) (t' := (.array .int)) (by decide) (by decide))))
  refine g_getF X54 hx hZ hown (host := "") (Or.inl w_23) Via.refl e54 F57 (Jvm.hb hby d1_48) (pc' := 51) rfl ?_
  intro T58 X58 e58
  refine g_iconst X58.here hx (Jvm.hb hby d1_51) (pc' := 52) rfl (z := (-1 : Int32)) rfl ?_
  have F59 := ((F48.ext E49).other W54 (Ne.symm ne_x0_ad37))
  refine g_callS X58 hx hZ hown w_27 w_28 w_17 w_29 (by decide) (rm4 l Z a0 hw [] ad37 (-1 : Int32) 2 _ hh54 n0 Z55 g_ad37 F59 (by decide)) 0 (by decide) (by decide) e58 (by rw [hml]; rfl) [(.ref ad37), (.int (-1 : Int32))] [] (lenOf pd_1 rfl) rfl rfl (Nat.le_of_eq rfl) (Jvm.hb hby d1_52) (pc' := 55) rfl (cells' := 5) (slots' := 16) rfl rfl (by decide) (by decide) ?_
  intro v60 T60 L60 X60 hQ60
  obtain ⟨rfl, Nq60, K60, Vq60⟩ := hQ60
  have N60 := Fr.app N54 Nq60
  have Z61 : n0 ≤ T60.heap.size := Nat.le_trans Z55 K60.1
  have z62 : h0.size ≤ T60.heap.size := Nat.le_trans z56 K60.1
  show own_Gl p e below s (own_Q1 Z n0 x0 h0) ({ frames := 1, cells := 6, slots := 18, locals := 17 } : Room).cells ({ frames := 1, cells := 6, slots := 18, locals := 17 } : Room).slots (T60.setTop (mkF m 55 #[.val (.ref x0), .val (.int x1), .val (.int x2)] []))
  refine g_aloadN X60.here hx (Jvm.hb hby d1_55) (pc' := 56) rfl rfl rfl ?_
  have F63 := (Fw54.keep K60 (ninS ne_x0_ad37 nin0))
  refine g_getF X60 hx hZ hown (host := "") (Or.inl w_25) Via.refl rfl F63 (Jvm.hb hby d1_56) (pc' := 59) rfl ?_
  intro T64 X64 e64
  refine g_iconst X64.here hx (Jvm.hb hby d1_59) (pc' := 60) rfl (z := (-1 : Int32)) rfl ?_
  have F65 := ((V49.other W54 (Ne.symm ne_x0_ad49)).keep K60 (ninS (Ne.symm ne_ad37_ad49) nin0))
  refine g_callS X64 hx hZ hown w_27 w_28 w_17 w_29 (by decide) (rm4 l Z a0 hw [] ad49 (-1 : Int32) 2 _ T60.heap n0 Z61 g_ad49 F65 (by decide)) 0 (by decide) (by decide) e64 (by rw [hml]; rfl) [(.ref ad49), (.int (-1 : Int32))] [] (lenOf pd_1 rfl) rfl rfl (Nat.le_of_eq rfl) (Jvm.hb hby d1_60) (pc' := 63) rfl (cells' := 5) (slots' := 16) rfl rfl (by decide) (by decide) ?_
  intro v66 T66 L66 X66 hQ66
  obtain ⟨rfl, Nq66, K66, Vq66⟩ := hQ66
  have N66 := Fr.app N60 Nq66
  have Z67 : n0 ≤ T66.heap.size := Nat.le_trans Z61 K66.1
  have z68 : h0.size ≤ T66.heap.size := Nat.le_trans z62 K66.1
  show own_Gl p e below s (own_Q1 Z n0 x0 h0) ({ frames := 1, cells := 6, slots := 18, locals := 17 } : Room).cells ({ frames := 1, cells := 6, slots := 18, locals := 17 } : Room).slots (T66.setTop (mkF m 63 #[.val (.ref x0), .val (.int x1), .val (.int x2)] []))
  refine g_aloadN X66.here hx (Jvm.hb hby d1_63) (pc' := 64) rfl rfl rfl ?_
  refine g_iloadN X66.here hx (Jvm.hb hby d1_64) (pc' := 65) rfl rfl ?_
  have F69 := (F63.keep K66 (ninS ne_x0_ad49 nin0))
  have F70 := ((((F45.ext E49).other W54 (Ne.symm ne_x0_ad2)).keep K60 (ninS ne_ad2_ad37 nin0)).keep K66 (ninS ne_ad2_ad49 nin0))
  have F71 := ((((F46.ext E49).other W54 (Ne.symm ne_x0_ad16)).keep K60 (ninS ne_ad16_ad37 nin0)).keep K66 (ninS ne_ad16_ad49 nin0))
  have F72 := ((((F47.ext E49).other W54 (Ne.symm ne_x0_ad26)).keep K60 (ninS ne_ad26_ad37 nin0)).keep K66 (ninS ne_ad26_ad49 nin0))
  have F73 := (Vq60.keep K66 (ninS ne_ad37_ad49 nin0))
  refine g_newarr X66 hx hZ (ty := .int) rfl rfl w_1 rfl (Jvm.hb hby d1_65) (pc' := 67) rfl (n := 2) h1 2 (by decide) (by decide) (cells' := 6) (slots' := 18) rfl rfl (by decide) (by decide) ?_
  intro T74 hh74 ad74 gb74 X74 e74 E74 V74
  have g_ad74 : n0 ≤ ad74 := by rw [gb74]; exact Z67
  have sz_ad74 : h0.size ≤ ad74 := by rw [gb74]; exact z68
  have lt_x0_ad74 : @LT.lt Nat _ x0 ad74 := by rw [gb74]; exact F69.lt
  have ne_x0_ad74 : x0 ≠ ad74 := Nat.ne_of_lt lt_x0_ad74
  have lt_ad2_ad74 : @LT.lt Nat _ ad2 ad74 := by rw [gb74]; exact F70.lt
  have ne_ad2_ad74 : ad2 ≠ ad74 := Nat.ne_of_lt lt_ad2_ad74
  have lt_ad16_ad74 : @LT.lt Nat _ ad16 ad74 := by rw [gb74]; exact F71.lt
  have ne_ad16_ad74 : ad16 ≠ ad74 := Nat.ne_of_lt lt_ad16_ad74
  have lt_ad26_ad74 : @LT.lt Nat _ ad26 ad74 := by rw [gb74]; exact F72.lt
  have ne_ad26_ad74 : ad26 ≠ ad74 := Nat.ne_of_lt lt_ad26_ad74
  have lt_ad37_ad74 : @LT.lt Nat _ ad37 ad74 := by rw [gb74]; exact F73.lt
  have ne_ad37_ad74 : ad37 ≠ ad74 := Nat.ne_of_lt lt_ad37_ad74
  have lt_ad49_ad74 : @LT.lt Nat _ ad49 ad74 := by rw [gb74]; exact Vq66.lt
  have ne_ad49_ad74 : ad49 ≠ ad74 := Nat.ne_of_lt lt_ad49_ad74
  have Z75 : n0 ≤ hh74.size := Nat.le_trans Z67 E74.1
  have z76 : h0.size ≤ hh74.size := Nat.le_trans z68 E74.1
  have F77 := ((((((((((((((F_length.ext E2).other W7 (Or.inr (slot_ne (Or.inr w_31) (Or.inr w_14) (by decide) (t := (.array .int)) (t' := (.array .byte)) (by decide) (by decide)))).keep K12 (ninS ne_x0_ad2 nin0)).ext E16).other W21 (Or.inr (slot_ne (Or.inr w_31) (Or.inr w_20) (by decide) (t := (.array .int)) (t' := (.array .int)) (by decide) (by decide)))).ext E26).other W31 (Or.inr (slot_ne (Or.inr w_31) (Or.inr w_22) (by decide) (t := (.array .int)) (t' := (.array .int)) (by decide) (by decide)))).ext E37).other W42 (Or.inr (slot_ne (Or.inr w_31) (Or.inr w_24) (by decide) (t := (.array .int)) (t' := (.array .int)) (by decide) (by decide)))).ext E49).other W54 (Or.inr (slot_ne (Or.inr w_31) (Or.inr w_26) (by decide) (t := (.array .int)) (t' := (.array .int)) (by decide) (by decide)))).keep K60 (ninS ne_x0_ad37 nin0)).keep K66 (ninS ne_x0_ad49 nin0)).ext E74)
  have F78 := ((((F53.wr W54).keep K60).keep K66).ext E74)
  refine g_putF X74 hx hZ hown (host := "") (Or.inl w_30) Via.refl e74 F77 F78 (Or.inr ⟨w_31, rfl, hnm⟩) w_4 (ty := (.array .int)) (by decide) rfl rfl (Jvm.hb hby d1_67) (pc' := 70) rfl ?_
  intro T79 hh79 X79 e79 W79
  have Fw79 := F77.same W79
  have N79 := Fr.snoc X79 N66 g0
  have Z80 : n0 ≤ hh79.size := (by rw [W79.size]; exact Z75)
  have z81 : h0.size ≤ hh79.size := (by rw [W79.size]; exact z76)
  have F82 := (F78.wr W79)
  have F83 := ((((((((((((F15.ext E16).other W21 (Or.inr (slot_ne (Or.inr w_14) (Or.inr w_20) (by decide) (t := (.array .byte)) (t' := (.array .int)) (by decide) (by decide)))).ext E26).other W31 (Or.inr (slot_ne (Or.inr w_14) (Or.inr w_22) (by decide) (t := (.array .byte)) (t' := (.array .int)) (by decide) (by decide)))).ext E37).other W42 (Or.inr (slot_ne (Or.inr w_14) (Or.inr w_24) (by decide) (t := (.array .byte)) (t' := (.array .int)) (by decide) (by decide)))).ext E49).other W54 (Or.inr (slot_ne (Or.inr w_14) (Or.inr w_26) (by decide) (t := (.array .byte)) (t' := (.array .int)) (by decide) (by decide)))).keep K60 (ninS ne_x0_ad37 nin0)).keep K66 (ninS ne_x0_ad49 nin0)).ext E74).other W79 (Or.inr (slot_ne (Or.inr w_14) (Or.inr w_31) (by decide) (t := (.array .byte)) (t' := (.array .int)) (by decide) (by decide))))
  have F84 := ((((((((((Fw21.ext E26).other W31 (Or.inr (slot_ne (Or.inr w_20) (Or.inr w_22) (by decide) (t := (.array .int)) (t' := (.array .int)) (by decide) (by decide)))).ext E37).other W42 (Or.inr (slot_ne (Or.inr w_20) (Or.inr w_24) (by decide) (t := (.array .int)) (t' := (.array .int)) (by decide) (by decide)))).ext E49).other W54 (Or.inr (slot_ne (Or.inr w_20) (Or.inr w_26) (by decide) (t := (.array .int)) (t' := (.array .int)) (by decide) (by decide)))).keep K60 (ninS ne_x0_ad37 nin0)).keep K66 (ninS ne_x0_ad49 nin0)).ext E74).other W79 (Or.inr (slot_ne (Or.inr w_20) (Or.inr w_31) (by decide) (t := (.array .int)) (t' := (.array .int)) (by decide) (by decide))))
  have F85 := ((((((((Fw31.ext E37).other W42 (Or.inr (slot_ne (Or.inr w_22) (Or.inr w_24) (by decide) (t := (.array .int)) (t' := (.array .int)) (by decide) (by decide)))).ext E49).other W54 (Or.inr (slot_ne (Or.inr w_22) (Or.inr w_26) (by decide) (t := (.array .int)) (t' := (.array .int)) (by decide) (by decide)))).keep K60 (ninS ne_x0_ad37 nin0)).keep K66 (ninS ne_x0_ad49 nin0)).ext E74).other W79 (Or.inr (slot_ne (Or.inr w_22) (Or.inr w_31) (by decide) (t := (.array .int)) (t' := (.array .int)) (by decide) (by decide))))
  have F86 := ((((F57.keep K60 (ninS ne_x0_ad37 nin0)).keep K66 (ninS ne_x0_ad49 nin0)).ext E74).other W79 (Or.inr (slot_ne (Or.inr w_24) (Or.inr w_31) (by decide) (t := (.array .int)) (t' := (.array .int)) (by decide) (by decide))))
  have F87 := ((F69.ext E74).other W79 (Or.inr (slot_ne (Or.inr w_26) (Or.inr w_31) (by decide) (t := (.array .int)) (t' := (.array .int)) (by decide) (by decide))))
  have F88 := ((F70.ext E74).other W79 (Ne.symm ne_x0_ad2))
  have F89 := ((F71.ext E74).other W79 (Ne.symm ne_x0_ad16))
  have F90 := ((F72.ext E74).other W79 (Ne.symm ne_x0_ad26))
  have F91 := ((F73.ext E74).other W79 (Ne.symm ne_x0_ad37))
  have F92 := ((Vq66.ext E74).other W79 (Ne.symm ne_x0_ad49))
  have F93 := (V74.other W79 (Ne.symm ne_x0_ad74))
  have KK := ((((((((((((((((Keep.refl h0 [x0]).ext E2).wr W7 (Or.inl (List.mem_of_getElem? (i := 0) rfl))).trans K12 (allS (Or.inr sz_ad2) all0)).ext E16).wr W21 (Or.inl (List.mem_of_getElem? (i := 0) rfl))).ext E26).wr W31 (Or.inl (List.mem_of_getElem? (i := 0) rfl))).ext E37).wr W42 (Or.inl (List.mem_of_getElem? (i := 0) rfl))).ext E49).wr W54 (Or.inl (List.mem_of_getElem? (i := 0) rfl))).trans K60 (allS (Or.inr sz_ad37) all0)).trans K66 (allS (Or.inr sz_ad49) all0)).ext E74).wr W79 (Or.inl (List.mem_of_getElem? (i := 0) rfl)))
  exact g_retV X79 hx hlk hret (Jvm.hb hby d1_70) (by decide) (by decide) (by rw [e79]; exact ⟨rfl, N79, KK, ad2, ad16, ad26, ad37, ad49, ad74, ⟨lt_x0_ad2, lt_ad2_ad16, lt_ad16_ad26, lt_ad26_ad37, lt_ad37_ad49, lt_ad49_ad74⟩, ⟨F82, F83, F84, F85, F86, F87, Fw79⟩, F88.congr (fun i _ => rfl), F89.congr (fun i _ => rfl), F90.congr (fun i _ => rfl), F91.congr (fun i _ => rfl), F92.congr (fun i _ => rfl), F93.congr (fun i _ => rfl)⟩)
def own_ap (st : Nat → Nat → Int32) (p t : Int32) : Nat → Nat → Int32 :=
  own_up (own_up (own_up (if st 4 t.toNatClampNeg = (-1 : Int32) then own_up (own_up (own_up st 1 p.toNatClampNeg (st 4 t.toNatClampNeg)) 2 p.toNatClampNeg (-1 : Int32)) 3 t.toNatClampNeg p
    else own_up (own_up (own_up st 1 p.toNatClampNeg (st 4 t.toNatClampNeg)) 2 p.toNatClampNeg (-1 : Int32)) 2 (st 4 t.toNatClampNeg).toNatClampNeg p) 4 t.toNatClampNeg p) 5 t.toNatClampNeg (st 5 t.toNatClampNeg + (1 : Int32))) 0 p.toNatClampNeg (t.toInt8.toInt32.toInt8.toInt32)
def own_rm1 (st : Nat → Nat → Int32) (p o b a : Int32) : Nat → Nat → Int32 := if b = (-1 : Int32) then own_up st 3 o.toNatClampNeg a else own_up st 2 b.toNatClampNeg a
def own_rm2 (st : Nat → Nat → Int32) (p o b a : Int32) : Nat → Nat → Int32 := if a = (-1 : Int32) then own_up (own_rm1 st p o b a) 4 o.toNatClampNeg b else own_up (own_rm1 st p o b a) 1 a.toNatClampNeg b
def own_rm (st : Nat → Nat → Int32) (p : Int32) : Nat → Nat → Int32 :=
  own_up (own_up (own_rm2 st p (st 0 p.toNatClampNeg) (st 1 p.toNatClampNeg) (st 2 p.toNatClampNeg)) 5 (st 0 p.toNatClampNeg).toNatClampNeg (st 5 (st 0 p.toNatClampNeg).toNatClampNeg - (1 : Int32))) 0 p.toNatClampNeg (-1 : Int32)
def own_Q5 (Z : State) (n0 : Nat) (x0 r0 r1 r2 r3 r4 r5 : Nat) (x1 x2 : Int32) (st : Nat → Nat → Int32) (h0 : Heap) (v : Option Value) (h : Heap) (L : List Loc) : Prop := v = none ∧ Fr n0 L ∧ Keep h0 h [r0, r1, r2, r3, r4, r5] ∧ own_PL Z h x0 r0 r1 r2 r3 r4 r5 (own_ap st x1 x2)
theorem d5_0 : decode prog_64_method_7_code 0 = .ok (.aload_n 0, 1) := by decide +kernel
theorem d5_1 : decode prog_64_method_7_code 1 = .ok (.getfield 19, 3) := by decide +kernel
theorem d5_4 : decode prog_64_method_7_code 4 = .ok (.iload_n 1, 1) := by decide +kernel
theorem d5_5 : decode prog_64_method_7_code 5 = .ok (.aload_n 0, 1) := by decide +kernel
theorem d5_6 : decode prog_64_method_7_code 6 = .ok (.getfield 29, 3) := by decide +kernel
theorem d5_9 : decode prog_64_method_7_code 9 = .ok (.iload_n 2, 1) := by decide +kernel
theorem d5_10 : decode prog_64_method_7_code 10 = .ok (.iaload, 1) := by decide +kernel
theorem d5_11 : decode prog_64_method_7_code 11 = .ok (.iastore, 1) := by decide +kernel
theorem d5_12 : decode prog_64_method_7_code 12 = .ok (.aload_n 0, 1) := by decide +kernel
theorem d5_13 : decode prog_64_method_7_code 13 = .ok (.getfield 23, 3) := by decide +kernel
theorem d5_16 : decode prog_64_method_7_code 16 = .ok (.iload_n 1, 1) := by decide +kernel
theorem d5_17 : decode prog_64_method_7_code 17 = .ok (.iconst (-1), 1) := by decide +kernel
theorem d5_18 : decode prog_64_method_7_code 18 = .ok (.iastore, 1) := by decide +kernel
theorem d5_19 : decode prog_64_method_7_code 19 = .ok (.aload_n 0, 1) := by decide +kernel
theorem d5_20 : decode prog_64_method_7_code 20 = .ok (.getfield 29, 3) := by decide +kernel
theorem d5_23 : decode prog_64_method_7_code 23 = .ok (.iload_n 2, 1) := by decide +kernel
theorem d5_24 : decode prog_64_method_7_code 24 = .ok (.iaload, 1) := by decide +kernel
theorem d5_25 : decode prog_64_method_7_code 25 = .ok (.iconst (-1), 1) := by decide +kernel
theorem d5_26 : decode prog_64_method_7_code 26 = .ok (.if_icmp .ne 13, 3) := by decide +kernel
theorem d5_29 : decode prog_64_method_7_code 29 = .ok (.aload_n 0, 1) := by decide +kernel
theorem d5_30 : decode prog_64_method_7_code 30 = .ok (.getfield 26, 3) := by decide +kernel
theorem d5_33 : decode prog_64_method_7_code 33 = .ok (.iload_n 2, 1) := by decide +kernel
theorem d5_34 : decode prog_64_method_7_code 34 = .ok (.iload_n 1, 1) := by decide +kernel
theorem d5_35 : decode prog_64_method_7_code 35 = .ok (.iastore, 1) := by decide +kernel
theorem d5_36 : decode prog_64_method_7_code 36 = .ok (.goto 15, 3) := by decide +kernel
theorem d5_51 : decode prog_64_method_7_code 51 = .ok (.aload_n 0, 1) := by decide +kernel
theorem d5_52 : decode prog_64_method_7_code 52 = .ok (.getfield 29, 3) := by decide +kernel
theorem d5_55 : decode prog_64_method_7_code 55 = .ok (.iload_n 2, 1) := by decide +kernel
theorem d5_56 : decode prog_64_method_7_code 56 = .ok (.iload_n 1, 1) := by decide +kernel
theorem d5_57 : decode prog_64_method_7_code 57 = .ok (.iastore, 1) := by decide +kernel
theorem d5_58 : decode prog_64_method_7_code 58 = .ok (.aload_n 0, 1) := by decide +kernel
theorem d5_59 : decode prog_64_method_7_code 59 = .ok (.getfield 35, 3) := by decide +kernel
theorem d5_62 : decode prog_64_method_7_code 62 = .ok (.iload_n 2, 1) := by decide +kernel
theorem d5_63 : decode prog_64_method_7_code 63 = .ok (.dup2, 1) := by decide +kernel
theorem d5_64 : decode prog_64_method_7_code 64 = .ok (.iaload, 1) := by decide +kernel
theorem d5_65 : decode prog_64_method_7_code 65 = .ok (.iconst 1, 1) := by decide +kernel
theorem d5_66 : decode prog_64_method_7_code 66 = .ok (.iadd, 1) := by decide +kernel
theorem d5_67 : decode prog_64_method_7_code 67 = .ok (.iastore, 1) := by decide +kernel
theorem d5_68 : decode prog_64_method_7_code 68 = .ok (.aload_n 0, 1) := by decide +kernel
theorem d5_69 : decode prog_64_method_7_code 69 = .ok (.getfield 7, 3) := by decide +kernel
theorem d5_72 : decode prog_64_method_7_code 72 = .ok (.iload_n 1, 1) := by decide +kernel
theorem d5_73 : decode prog_64_method_7_code 73 = .ok (.iload_n 2, 1) := by decide +kernel
theorem d5_74 : decode prog_64_method_7_code 74 = .ok (.i2b, 1) := by decide +kernel
theorem d5_75 : decode prog_64_method_7_code 75 = .ok (.bastore, 1) := by decide +kernel
theorem d5_76 : decode prog_64_method_7_code 76 = .ok (.return_, 1) := by decide +kernel
theorem d5_39 : decode prog_64_method_7_code 39 = .ok (.aload_n 0, 1) := by decide +kernel
theorem d5_40 : decode prog_64_method_7_code 40 = .ok (.getfield 23, 3) := by decide +kernel
theorem d5_43 : decode prog_64_method_7_code 43 = .ok (.aload_n 0, 1) := by decide +kernel
theorem d5_44 : decode prog_64_method_7_code 44 = .ok (.getfield 29, 3) := by decide +kernel
theorem d5_47 : decode prog_64_method_7_code 47 = .ok (.iload_n 2, 1) := by decide +kernel
theorem d5_48 : decode prog_64_method_7_code 48 = .ok (.iaload, 1) := by decide +kernel
theorem d5_49 : decode prog_64_method_7_code 49 = .ok (.iload_n 1, 1) := by decide +kernel
theorem d5_50 : decode prog_64_method_7_code 50 = .ok (.iastore, 1) := by decide +kernel
theorem ef_5 (m : MethodId) (x0 : Addr) (x1 : Int32) (x2 : Int32) : entryFrame m #[(.ref x0), (.int x1), (.int x2)] 3 = mkF m 0 #[.val (.ref x0), .val (.int x1), .val (.int x2)] [] := by first | (simp [entryFrame, mkF, argsToLocals, Value.category]; done) | rfl
set_option maxRecDepth 65536 in
set_option maxHeartbeats 40000000 in
theorem rm5 (l : Launch) (Z : State) (a0 : Array Value) (hw : ∀ d ∈ tables_1, d.before a0 Z = true) (ws : List Jvm.Cond) (x0 r0 r1 r2 r3 r4 r5 : Nat) (x1 x2 : Int32) (st : Nat → Nat → Int32) (h0 : Heap) (n0 : Nat) (Z0 : n0 ≤ h0.size) (g0 : n0 ≤ x0) (hord : x0 < r0 ∧ r0 < r1 ∧ r1 < r2 ∧ r2 < r3 ∧ r3 < r4 ∧ r4 < r5) (PL0 : own_PL Z h0 x0 r0 r1 r2 r3 r4 r5 st) (hp : 0 ≤ x1.toInt ∧ x1.toInt < (4 : Nat)) (ht : 0 ≤ x2.toInt ∧ x2.toInt < (2 : Nat)) (hv : st 4 x2.toNatClampNeg = (-1 : Int32) ∨ (0 ≤ (st 4 x2.toNatClampNeg).toInt ∧ (st 4 x2.toNatClampNeg).toInt < (4 : Nat))) :
    MetFree l (⟨"com/example/tierstone/tierstone/PageLists", "append", "(II)V"⟩ : MethodName) (head1 (Jvm.Cond.code (⟨"com/example/tierstone/tierstone/PageLists", "append", "(II)V"⟩ : MethodName) prog_64_method_7_code 3 none :: ws) ({ frames := 0, cells := 0, slots := 0, locals := 0 } : Room)) (fun a U => a = #[(.ref x0), (.int x1), (.int x2)] ∧ Z.Warmed39 U.vm ∧ U.heap = h0) (fun _ _ _ _ _ => True) (fun _ U o U' => ∃ v L, o = .returned v ∧ (own_Q5 Z n0 x0 r0 r1 r2 r3 r4 r5 x1 x2 st h0) v U'.heap L ∧ FrameEnd U o U' L ({ frames := 0, cells := 0, slots := 0, locals := 0 } : Room).cells ({ frames := 0, cells := 0, slots := 0, locals := 0 } : Room).slots) := by
  refine own_body (own := "com/example/tierstone/tierstone/PageLists") pn_1 rfl (fun m => ef_5 m x0 x1 x2) ?_
  intro p e s m below meth c T0 hx hby hml hown hnm hlk hret hZ X0 e0
  have w_13 := hw _ (List.mem_of_getElem? (i := 13) rfl)
  have w_19 := hw _ (List.mem_of_getElem? (i := 19) rfl)
  have w_21 := hw _ (List.mem_of_getElem? (i := 21) rfl)
  have w_23 := hw _ (List.mem_of_getElem? (i := 23) rfl)
  have w_25 := hw _ (List.mem_of_getElem? (i := 25) rfl)
  have w_30 := hw _ (List.mem_of_getElem? (i := 30) rfl)
  have N0 := Fr.nil n0
  obtain ⟨o1, o2, o3, o4, o5, o6⟩ := hord
  obtain ⟨BP1, VP1_0, VP1_1, VP1_2, VP1_3, VP1_4, VP1_5⟩ := PL0
  obtain ⟨EB2, FB2_list, FB2_older, FB2_newer, FB2_oldest, FB2_newest, FB2_length⟩ := BP1
  refine g_aloadN X0.here hx (Jvm.hb hby d5_0) (pc' := 1) rfl rfl rfl ?_
  refine g_getF X0 hx hZ hown (host := "") (Or.inl w_19) Via.refl e0 FB2_older (Jvm.hb hby d5_1) (pc' := 4) rfl ?_
  intro T3 X3 e3
  refine g_iloadN X3.here hx (Jvm.hb hby d5_4) (pc' := 5) rfl rfl ?_
  refine g_aloadN X3.here hx (Jvm.hb hby d5_5) (pc' := 6) rfl rfl rfl ?_
  refine g_getF X3 hx hZ hown (host := "") (Or.inl w_25) Via.refl e3 FB2_newest (Jvm.hb hby d5_6) (pc' := 9) rfl ?_
  intro T4 X4 e4
  refine g_iloadN X4.here hx (Jvm.hb hby d5_9) (pc' := 10) rfl rfl ?_
  refine g_iaload X4 hx hZ e4 VP1_4 ht (v := (st 4 x2.toNatClampNeg)) rfl (Jvm.hb hby d5_10) (pc' := 11) rfl ?_
  refine g_iastore X4 hx hZ e4 VP1_1 hp (Jvm.hb hby d5_11) (pc' := 12) rfl ?_
  intro T5 hh5 X5 e5 W5 V5
  have N5 := Fr.snoc X5 N0 (by omega)
  have Z6 : n0 ≤ hh5.size := (by rw [W5.size]; exact Z0)
  have z7 : h0.size ≤ hh5.size := (by rw [W5.size]; exact (Nat.le_refl _))
  refine g_aloadN X5.here hx (Jvm.hb hby d5_12) (pc' := 13) rfl rfl rfl ?_
  have F8 := (FB2_newer.other W5 (Or.inl (Nat.ne_of_lt (by omega))))
  refine g_getF X5 hx hZ hown (host := "") (Or.inl w_21) Via.refl e5 F8 (Jvm.hb hby d5_13) (pc' := 16) rfl ?_
  intro T9 X9 e9
  refine g_iloadN X9.here hx (Jvm.hb hby d5_16) (pc' := 17) rfl rfl ?_
  refine g_iconst X9.here hx (Jvm.hb hby d5_17) (pc' := 18) rfl (z := (-1 : Int32)) rfl ?_
  have F10 := (VP1_2.other W5 (Ne.symm (Nat.ne_of_lt (by omega))))
  refine g_iastore X9 hx hZ e9 F10 hp (Jvm.hb hby d5_18) (pc' := 19) rfl ?_
  intro T11 hh11 X11 e11 W11 V11
  have N11 := Fr.snoc X11 N5 (by omega)
  have Z12 : n0 ≤ hh11.size := (by rw [W11.size]; exact Z6)
  have z13 : h0.size ≤ hh11.size := (by rw [W11.size]; exact z7)
  refine g_aloadN X11.here hx (Jvm.hb hby d5_19) (pc' := 20) rfl rfl rfl ?_
  have F14 := ((FB2_newest.other W5 (Or.inl (Nat.ne_of_lt (by omega)))).other W11 (Or.inl (Nat.ne_of_lt (by omega))))
  refine g_getF X11 hx hZ hown (host := "") (Or.inl w_25) Via.refl e11 F14 (Jvm.hb hby d5_20) (pc' := 23) rfl ?_
  intro T15 X15 e15
  refine g_iloadN X15.here hx (Jvm.hb hby d5_23) (pc' := 24) rfl rfl ?_
  have F16 := ((VP1_4.other W5 (Ne.symm (Nat.ne_of_lt (by omega)))).other W11 (Ne.symm (Nat.ne_of_lt (by omega))))
  refine g_iaload X15 hx hZ e15 F16 ht (v := (st 4 x2.toNatClampNeg)) rfl (Jvm.hb hby d5_24) (pc' := 25) rfl ?_
  refine g_iconst X15.here hx (Jvm.hb hby d5_25) (pc' := 26) rfl (z := (-1 : Int32)) rfl ?_
  by_cases hc26 : (st 4 x2.toNatClampNeg) = (-1 : Int32)
  · refine g_icN X15.here hx (Jvm.hb hby d5_26) (pc' := 29) rfl (teq hc26).2 ?_
    refine g_aloadN X15.here hx (Jvm.hb hby d5_29) (pc' := 30) rfl rfl rfl ?_
    have F17 := ((FB2_oldest.other W5 (Or.inl (Nat.ne_of_lt (by omega)))).other W11 (Or.inl (Nat.ne_of_lt (by omega))))
    refine g_getF X15 hx hZ hown (host := "") (Or.inl w_23) Via.refl e15 F17 (Jvm.hb hby d5_30) (pc' := 33) rfl ?_
    intro T18 X18 e18
    refine g_iloadN X18.here hx (Jvm.hb hby d5_33) (pc' := 34) rfl rfl ?_
    refine g_iloadN X18.here hx (Jvm.hb hby d5_34) (pc' := 35) rfl rfl ?_
    have F19 := ((VP1_3.other W5 (Ne.symm (Nat.ne_of_lt (by omega)))).other W11 (Ne.symm (Nat.ne_of_lt (by omega))))
    refine g_iastore X18 hx hZ e18 F19 ht (Jvm.hb hby d5_35) (pc' := 36) rfl ?_
    intro T20 hh20 X20 e20 W20 V20
    have N20 := Fr.snoc X20 N11 (by omega)
    have Z21 : n0 ≤ hh20.size := (by rw [W20.size]; exact Z12)
    have z22 : h0.size ≤ hh20.size := (by rw [W20.size]; exact z13)
    refine g_goto X20.here hx (Jvm.hb hby d5_36) (by decide) (pc' := 51) (by decide) ?_
    refine g_aloadN X20.here hx (Jvm.hb hby d5_51) (pc' := 52) rfl rfl rfl ?_
    have F23 := (F14.other W20 (Or.inl (Nat.ne_of_lt (by omega))))
    refine g_getF X20 hx hZ hown (host := "") (Or.inl w_25) Via.refl e20 F23 (Jvm.hb hby d5_52) (pc' := 55) rfl ?_
    intro T24 X24 e24
    refine g_iloadN X24.here hx (Jvm.hb hby d5_55) (pc' := 56) rfl rfl ?_
    refine g_iloadN X24.here hx (Jvm.hb hby d5_56) (pc' := 57) rfl rfl ?_
    have F25 := (F16.other W20 (Ne.symm (Nat.ne_of_lt (by omega))))
    refine g_iastore X24 hx hZ e24 F25 ht (Jvm.hb hby d5_57) (pc' := 58) rfl ?_
    intro T26 hh26 X26 e26 W26 V26
    have N26 := Fr.snoc X26 N20 (by omega)
    have Z27 : n0 ≤ hh26.size := (by rw [W26.size]; exact Z21)
    have z28 : h0.size ≤ hh26.size := (by rw [W26.size]; exact z22)
    refine g_aloadN X26.here hx (Jvm.hb hby d5_58) (pc' := 59) rfl rfl rfl ?_
    have F29 := ((((FB2_length.other W5 (Or.inl (Nat.ne_of_lt (by omega)))).other W11 (Or.inl (Nat.ne_of_lt (by omega)))).other W20 (Or.inl (Nat.ne_of_lt (by omega)))).other W26 (Or.inl (Nat.ne_of_lt (by omega))))
    refine g_getF X26 hx hZ hown (host := "") (Or.inl w_30) Via.refl e26 F29 (Jvm.hb hby d5_59) (pc' := 62) rfl ?_
    intro T30 X30 e30
    refine g_iloadN X30.here hx (Jvm.hb hby d5_62) (pc' := 63) rfl rfl ?_
    refine g_dup2 X30.here hx (Jvm.hb hby d5_63) (pc' := 64) rfl rfl rfl ?_
    have F31 := ((((VP1_5.other W5 (Ne.symm (Nat.ne_of_lt (by omega)))).other W11 (Ne.symm (Nat.ne_of_lt (by omega)))).other W20 (Ne.symm (Nat.ne_of_lt (by omega)))).other W26 (Ne.symm (Nat.ne_of_lt (by omega))))
    refine g_iaload X30 hx hZ e30 F31 ht (v := (st 5 x2.toNatClampNeg)) rfl (Jvm.hb hby d5_64) (pc' := 65) rfl ?_
    refine g_iconst X30.here hx (Jvm.hb hby d5_65) (pc' := 66) rfl (z := (1 : Int32)) rfl ?_
    refine g_iadd X30.here hx (Jvm.hb hby d5_66) (pc' := 67) rfl ?_
    refine g_iastore X30 hx hZ e30 F31 ht (Jvm.hb hby d5_67) (pc' := 68) rfl ?_
    intro T32 hh32 X32 e32 W32 V32
    have N32 := Fr.snoc X32 N26 (by omega)
    have Z33 : n0 ≤ hh32.size := (by rw [W32.size]; exact Z27)
    have z34 : h0.size ≤ hh32.size := (by rw [W32.size]; exact z28)
    refine g_aloadN X32.here hx (Jvm.hb hby d5_68) (pc' := 69) rfl rfl rfl ?_
    have F35 := (((((FB2_list.other W5 (Or.inl (Nat.ne_of_lt (by omega)))).other W11 (Or.inl (Nat.ne_of_lt (by omega)))).other W20 (Or.inl (Nat.ne_of_lt (by omega)))).other W26 (Or.inl (Nat.ne_of_lt (by omega)))).other W32 (Or.inl (Nat.ne_of_lt (by omega))))
    refine g_getF X32 hx hZ hown (host := "") (Or.inl w_13) Via.refl e32 F35 (Jvm.hb hby d5_69) (pc' := 72) rfl ?_
    intro T36 X36 e36
    refine g_iloadN X36.here hx (Jvm.hb hby d5_72) (pc' := 73) rfl rfl ?_
    refine g_iloadN X36.here hx (Jvm.hb hby d5_73) (pc' := 74) rfl rfl ?_
    refine g_i2b X36.here hx (Jvm.hb hby d5_74) (pc' := 75) rfl ?_
    have F37 := (((((VP1_0.other W5 (Nat.ne_of_lt (by omega))).other W11 (Nat.ne_of_lt (by omega))).other W20 (Nat.ne_of_lt (by omega))).other W26 (Nat.ne_of_lt (by omega))).other W32 (Nat.ne_of_lt (by omega)))
    refine g_bastore X36 hx hZ e36 F37 hp (Jvm.hb hby d5_75) (pc' := 76) rfl ?_
    intro T38 hh38 X38 e38 W38 V38
    have N38 := Fr.snoc X38 N32 (by omega)
    have Z39 : n0 ≤ hh38.size := (by rw [W38.size]; exact Z33)
    have z40 : h0.size ≤ hh38.size := (by rw [W38.size]; exact z34)
    have F41 := ((((((EB2.wr W5).wr W11).wr W20).wr W26).wr W32).wr W38)
    have F42 := (F35.other W38 (Or.inl (Nat.ne_of_lt (by omega))))
    have F43 := ((((((FB2_older.other W5 (Or.inl (Nat.ne_of_lt (by omega)))).other W11 (Or.inl (Nat.ne_of_lt (by omega)))).other W20 (Or.inl (Nat.ne_of_lt (by omega)))).other W26 (Or.inl (Nat.ne_of_lt (by omega)))).other W32 (Or.inl (Nat.ne_of_lt (by omega)))).other W38 (Or.inl (Nat.ne_of_lt (by omega))))
    have F44 := (((((F8.other W11 (Or.inl (Nat.ne_of_lt (by omega)))).other W20 (Or.inl (Nat.ne_of_lt (by omega)))).other W26 (Or.inl (Nat.ne_of_lt (by omega)))).other W32 (Or.inl (Nat.ne_of_lt (by omega)))).other W38 (Or.inl (Nat.ne_of_lt (by omega))))
    have F45 := ((((F17.other W20 (Or.inl (Nat.ne_of_lt (by omega)))).other W26 (Or.inl (Nat.ne_of_lt (by omega)))).other W32 (Or.inl (Nat.ne_of_lt (by omega)))).other W38 (Or.inl (Nat.ne_of_lt (by omega))))
    have F46 := (((F23.other W26 (Or.inl (Nat.ne_of_lt (by omega)))).other W32 (Or.inl (Nat.ne_of_lt (by omega)))).other W38 (Or.inl (Nat.ne_of_lt (by omega))))
    have F47 := ((F29.other W32 (Or.inl (Nat.ne_of_lt (by omega)))).other W38 (Or.inl (Nat.ne_of_lt (by omega))))
    have F48 := (((((V5.other W11 (Nat.ne_of_lt (by omega))).other W20 (Nat.ne_of_lt (by omega))).other W26 (Nat.ne_of_lt (by omega))).other W32 (Nat.ne_of_lt (by omega))).other W38 (Ne.symm (Nat.ne_of_lt (by omega))))
    have F49 := ((((V11.other W20 (Nat.ne_of_lt (by omega))).other W26 (Nat.ne_of_lt (by omega))).other W32 (Nat.ne_of_lt (by omega))).other W38 (Ne.symm (Nat.ne_of_lt (by omega))))
    have F50 := (((V20.other W26 (Nat.ne_of_lt (by omega))).other W32 (Nat.ne_of_lt (by omega))).other W38 (Ne.symm (Nat.ne_of_lt (by omega))))
    have F51 := ((V26.other W32 (Nat.ne_of_lt (by omega))).other W38 (Ne.symm (Nat.ne_of_lt (by omega))))
    have F52 := (V32.other W38 (Ne.symm (Nat.ne_of_lt (by omega))))
    have KK := (((((((Keep.refl h0 [r0, r1, r2, r3, r4, r5]).wr W5 (Or.inl (List.mem_of_getElem? (i := 1) rfl))).wr W11 (Or.inl (List.mem_of_getElem? (i := 2) rfl))).wr W20 (Or.inl (List.mem_of_getElem? (i := 3) rfl))).wr W26 (Or.inl (List.mem_of_getElem? (i := 4) rfl))).wr W32 (Or.inl (List.mem_of_getElem? (i := 5) rfl))).wr W38 (Or.inl (List.mem_of_getElem? (i := 0) rfl)))
    exact g_retV X38 hx hlk hret (Jvm.hb hby d5_76) (Nat.zero_le _) (Nat.zero_le _) (by rw [e38]; exact ⟨rfl, N38, KK, ⟨F41, F42, F43, F44, F45, F46, F47⟩, V38.congr (fun i _ => by simp [own_ap, own_up, hc26]), F48.congr (fun i _ => by simp [own_ap, own_up, hc26]), F49.congr (fun i _ => by simp [own_ap, own_up, hc26]), F50.congr (fun i _ => by simp [own_ap, own_up, hc26]), F51.congr (fun i _ => by simp [own_ap, own_up, hc26]), F52.congr (fun i _ => by simp [own_ap, own_up, hc26])⟩)
  · refine g_icY X15.here hx (Jvm.hb hby d5_26) (by decide) (pc' := 39) (by decide) (feq hc26).2 ?_
    refine g_aloadN X15.here hx (Jvm.hb hby d5_39) (pc' := 40) rfl rfl rfl ?_
    have F53 := (F8.other W11 (Or.inl (Nat.ne_of_lt (by omega))))
    refine g_getF X15 hx hZ hown (host := "") (Or.inl w_21) Via.refl e15 F53 (Jvm.hb hby d5_40) (pc' := 43) rfl ?_
    intro T54 X54 e54
    refine g_aloadN X54.here hx (Jvm.hb hby d5_43) (pc' := 44) rfl rfl rfl ?_
    refine g_getF X54 hx hZ hown (host := "") (Or.inl w_25) Via.refl e54 F14 (Jvm.hb hby d5_44) (pc' := 47) rfl ?_
    intro T55 X55 e55
    refine g_iloadN X55.here hx (Jvm.hb hby d5_47) (pc' := 48) rfl rfl ?_
    refine g_iaload X55 hx hZ e55 F16 ht (v := (st 4 x2.toNatClampNeg)) rfl (Jvm.hb hby d5_48) (pc' := 49) rfl ?_
    refine g_iloadN X55.here hx (Jvm.hb hby d5_49) (pc' := 50) rfl rfl ?_
    refine g_iastore X55 hx hZ e55 V11 (hv.resolve_left hc26) (Jvm.hb hby d5_50) (pc' := 51) rfl ?_
    intro T56 hh56 X56 e56 W56 V56
    have N56 := Fr.snoc X56 N11 (by omega)
    have Z57 : n0 ≤ hh56.size := (by rw [W56.size]; exact Z12)
    have z58 : h0.size ≤ hh56.size := (by rw [W56.size]; exact z13)
    refine g_aloadN X56.here hx (Jvm.hb hby d5_51) (pc' := 52) rfl rfl rfl ?_
    have F59 := (F14.other W56 (Or.inl (Nat.ne_of_lt (by omega))))
    refine g_getF X56 hx hZ hown (host := "") (Or.inl w_25) Via.refl e56 F59 (Jvm.hb hby d5_52) (pc' := 55) rfl ?_
    intro T60 X60 e60
    refine g_iloadN X60.here hx (Jvm.hb hby d5_55) (pc' := 56) rfl rfl ?_
    refine g_iloadN X60.here hx (Jvm.hb hby d5_56) (pc' := 57) rfl rfl ?_
    have F61 := (F16.other W56 (Ne.symm (Nat.ne_of_lt (by omega))))
    refine g_iastore X60 hx hZ e60 F61 ht (Jvm.hb hby d5_57) (pc' := 58) rfl ?_
    intro T62 hh62 X62 e62 W62 V62
    have N62 := Fr.snoc X62 N56 (by omega)
    have Z63 : n0 ≤ hh62.size := (by rw [W62.size]; exact Z57)
    have z64 : h0.size ≤ hh62.size := (by rw [W62.size]; exact z58)
    refine g_aloadN X62.here hx (Jvm.hb hby d5_58) (pc' := 59) rfl rfl rfl ?_
    have F65 := ((((FB2_length.other W5 (Or.inl (Nat.ne_of_lt (by omega)))).other W11 (Or.inl (Nat.ne_of_lt (by omega)))).other W56 (Or.inl (Nat.ne_of_lt (by omega)))).other W62 (Or.inl (Nat.ne_of_lt (by omega))))
    refine g_getF X62 hx hZ hown (host := "") (Or.inl w_30) Via.refl e62 F65 (Jvm.hb hby d5_59) (pc' := 62) rfl ?_
    intro T66 X66 e66
    refine g_iloadN X66.here hx (Jvm.hb hby d5_62) (pc' := 63) rfl rfl ?_
    refine g_dup2 X66.here hx (Jvm.hb hby d5_63) (pc' := 64) rfl rfl rfl ?_
    have F67 := ((((VP1_5.other W5 (Ne.symm (Nat.ne_of_lt (by omega)))).other W11 (Ne.symm (Nat.ne_of_lt (by omega)))).other W56 (Ne.symm (Nat.ne_of_lt (by omega)))).other W62 (Ne.symm (Nat.ne_of_lt (by omega))))
    refine g_iaload X66 hx hZ e66 F67 ht (v := (st 5 x2.toNatClampNeg)) rfl (Jvm.hb hby d5_64) (pc' := 65) rfl ?_
    refine g_iconst X66.here hx (Jvm.hb hby d5_65) (pc' := 66) rfl (z := (1 : Int32)) rfl ?_
    refine g_iadd X66.here hx (Jvm.hb hby d5_66) (pc' := 67) rfl ?_
    refine g_iastore X66 hx hZ e66 F67 ht (Jvm.hb hby d5_67) (pc' := 68) rfl ?_
    intro T68 hh68 X68 e68 W68 V68
    have N68 := Fr.snoc X68 N62 (by omega)
    have Z69 : n0 ≤ hh68.size := (by rw [W68.size]; exact Z63)
    have z70 : h0.size ≤ hh68.size := (by rw [W68.size]; exact z64)
    refine g_aloadN X68.here hx (Jvm.hb hby d5_68) (pc' := 69) rfl rfl rfl ?_
    have F71 := (((((FB2_list.other W5 (Or.inl (Nat.ne_of_lt (by omega)))).other W11 (Or.inl (Nat.ne_of_lt (by omega)))).other W56 (Or.inl (Nat.ne_of_lt (by omega)))).other W62 (Or.inl (Nat.ne_of_lt (by omega)))).other W68 (Or.inl (Nat.ne_of_lt (by omega))))
    refine g_getF X68 hx hZ hown (host := "") (Or.inl w_13) Via.refl e68 F71 (Jvm.hb hby d5_69) (pc' := 72) rfl ?_
    intro T72 X72 e72
    refine g_iloadN X72.here hx (Jvm.hb hby d5_72) (pc' := 73) rfl rfl ?_
    refine g_iloadN X72.here hx (Jvm.hb hby d5_73) (pc' := 74) rfl rfl ?_
    refine g_i2b X72.here hx (Jvm.hb hby d5_74) (pc' := 75) rfl ?_
    have F73 := (((((VP1_0.other W5 (Nat.ne_of_lt (by omega))).other W11 (Nat.ne_of_lt (by omega))).other W56 (Nat.ne_of_lt (by omega))).other W62 (Nat.ne_of_lt (by omega))).other W68 (Nat.ne_of_lt (by omega)))
    refine g_bastore X72 hx hZ e72 F73 hp (Jvm.hb hby d5_75) (pc' := 76) rfl ?_
    intro T74 hh74 X74 e74 W74 V74
    have N74 := Fr.snoc X74 N68 (by omega)
    have Z75 : n0 ≤ hh74.size := (by rw [W74.size]; exact Z69)
    have z76 : h0.size ≤ hh74.size := (by rw [W74.size]; exact z70)
    have F77 := ((((((EB2.wr W5).wr W11).wr W56).wr W62).wr W68).wr W74)
    have F78 := (F71.other W74 (Or.inl (Nat.ne_of_lt (by omega))))
    have F79 := ((((((FB2_older.other W5 (Or.inl (Nat.ne_of_lt (by omega)))).other W11 (Or.inl (Nat.ne_of_lt (by omega)))).other W56 (Or.inl (Nat.ne_of_lt (by omega)))).other W62 (Or.inl (Nat.ne_of_lt (by omega)))).other W68 (Or.inl (Nat.ne_of_lt (by omega)))).other W74 (Or.inl (Nat.ne_of_lt (by omega))))
    have F80 := ((((F53.other W56 (Or.inl (Nat.ne_of_lt (by omega)))).other W62 (Or.inl (Nat.ne_of_lt (by omega)))).other W68 (Or.inl (Nat.ne_of_lt (by omega)))).other W74 (Or.inl (Nat.ne_of_lt (by omega))))
    have F81 := ((((((FB2_oldest.other W5 (Or.inl (Nat.ne_of_lt (by omega)))).other W11 (Or.inl (Nat.ne_of_lt (by omega)))).other W56 (Or.inl (Nat.ne_of_lt (by omega)))).other W62 (Or.inl (Nat.ne_of_lt (by omega)))).other W68 (Or.inl (Nat.ne_of_lt (by omega)))).other W74 (Or.inl (Nat.ne_of_lt (by omega))))
    have F82 := (((F59.other W62 (Or.inl (Nat.ne_of_lt (by omega)))).other W68 (Or.inl (Nat.ne_of_lt (by omega)))).other W74 (Or.inl (Nat.ne_of_lt (by omega))))
    have F83 := ((F65.other W68 (Or.inl (Nat.ne_of_lt (by omega)))).other W74 (Or.inl (Nat.ne_of_lt (by omega))))
    have F84 := (((((V5.other W11 (Nat.ne_of_lt (by omega))).other W56 (Nat.ne_of_lt (by omega))).other W62 (Nat.ne_of_lt (by omega))).other W68 (Nat.ne_of_lt (by omega))).other W74 (Ne.symm (Nat.ne_of_lt (by omega))))
    have F85 := (((V56.other W62 (Nat.ne_of_lt (by omega))).other W68 (Nat.ne_of_lt (by omega))).other W74 (Ne.symm (Nat.ne_of_lt (by omega))))
    have F86 := ((((((VP1_3.other W5 (Ne.symm (Nat.ne_of_lt (by omega)))).other W11 (Ne.symm (Nat.ne_of_lt (by omega)))).other W56 (Ne.symm (Nat.ne_of_lt (by omega)))).other W62 (Nat.ne_of_lt (by omega))).other W68 (Nat.ne_of_lt (by omega))).other W74 (Ne.symm (Nat.ne_of_lt (by omega))))
    have F87 := ((V62.other W68 (Nat.ne_of_lt (by omega))).other W74 (Ne.symm (Nat.ne_of_lt (by omega))))
    have F88 := (V68.other W74 (Ne.symm (Nat.ne_of_lt (by omega))))
    have KK := (((((((Keep.refl h0 [r0, r1, r2, r3, r4, r5]).wr W5 (Or.inl (List.mem_of_getElem? (i := 1) rfl))).wr W11 (Or.inl (List.mem_of_getElem? (i := 2) rfl))).wr W56 (Or.inl (List.mem_of_getElem? (i := 2) rfl))).wr W62 (Or.inl (List.mem_of_getElem? (i := 4) rfl))).wr W68 (Or.inl (List.mem_of_getElem? (i := 5) rfl))).wr W74 (Or.inl (List.mem_of_getElem? (i := 0) rfl)))
    exact g_retV X74 hx hlk hret (Jvm.hb hby d5_76) (Nat.zero_le _) (Nat.zero_le _) (by rw [e74]; exact ⟨rfl, N74, KK, ⟨F77, F78, F79, F80, F81, F82, F83⟩, V74.congr (fun i _ => by simp [own_ap, own_up, hc26]), F84.congr (fun i _ => by simp [own_ap, own_up, hc26]), F85.congr (fun i _ => by simp [own_ap, own_up, hc26]), F86.congr (fun i _ => by simp [own_ap, own_up, hc26]), F87.congr (fun i _ => by simp [own_ap, own_up, hc26]), F88.congr (fun i _ => by simp [own_ap, own_up, hc26])⟩)
def own_Q6 (Z : State) (n0 : Nat) (x0 r0 r1 r2 r3 r4 r5 : Nat) (x1 : Int32) (st : Nat → Nat → Int32) (h0 : Heap) (v : Option Value) (h : Heap) (L : List Loc) : Prop := v = none ∧ Fr n0 L ∧ Keep h0 h [r0, r1, r2, r3, r4, r5] ∧ own_PL Z h x0 r0 r1 r2 r3 r4 r5 (own_rm st x1)
theorem d6_0 : decode prog_64_method_9_code 0 = .ok (.aload_n 0, 1) := by decide +kernel
theorem d6_1 : decode prog_64_method_9_code 1 = .ok (.getfield 7, 3) := by decide +kernel
theorem d6_4 : decode prog_64_method_9_code 4 = .ok (.iload_n 1, 1) := by decide +kernel
theorem d6_5 : decode prog_64_method_9_code 5 = .ok (.baload, 1) := by decide +kernel
theorem d6_6 : decode prog_64_method_9_code 6 = .ok (.istore_n 2, 1) := by decide +kernel
theorem d6_7 : decode prog_64_method_9_code 7 = .ok (.aload_n 0, 1) := by decide +kernel
theorem d6_8 : decode prog_64_method_9_code 8 = .ok (.getfield 19, 3) := by decide +kernel
theorem d6_11 : decode prog_64_method_9_code 11 = .ok (.iload_n 1, 1) := by decide +kernel
theorem d6_12 : decode prog_64_method_9_code 12 = .ok (.iaload, 1) := by decide +kernel
theorem d6_13 : decode prog_64_method_9_code 13 = .ok (.istore_n 3, 1) := by decide +kernel
theorem d6_14 : decode prog_64_method_9_code 14 = .ok (.aload_n 0, 1) := by decide +kernel
theorem d6_15 : decode prog_64_method_9_code 15 = .ok (.getfield 23, 3) := by decide +kernel
theorem d6_18 : decode prog_64_method_9_code 18 = .ok (.iload_n 1, 1) := by decide +kernel
theorem d6_19 : decode prog_64_method_9_code 19 = .ok (.iaload, 1) := by decide +kernel
theorem d6_20 : decode prog_64_method_9_code 20 = .ok (.istore 4, 2) := by decide +kernel
theorem d6_22 : decode prog_64_method_9_code 22 = .ok (.iload_n 3, 1) := by decide +kernel
theorem d6_23 : decode prog_64_method_9_code 23 = .ok (.iconst (-1), 1) := by decide +kernel
theorem d6_24 : decode prog_64_method_9_code 24 = .ok (.if_icmp .ne 14, 3) := by decide +kernel
theorem d6_27 : decode prog_64_method_9_code 27 = .ok (.aload_n 0, 1) := by decide +kernel
theorem d6_28 : decode prog_64_method_9_code 28 = .ok (.getfield 26, 3) := by decide +kernel
theorem d6_31 : decode prog_64_method_9_code 31 = .ok (.iload_n 2, 1) := by decide +kernel
theorem d6_32 : decode prog_64_method_9_code 32 = .ok (.iload 4, 2) := by decide +kernel
theorem d6_34 : decode prog_64_method_9_code 34 = .ok (.iastore, 1) := by decide +kernel
theorem d6_35 : decode prog_64_method_9_code 35 = .ok (.goto 11, 3) := by decide +kernel
theorem d6_46 : decode prog_64_method_9_code 46 = .ok (.iload 4, 2) := by decide +kernel
theorem d6_48 : decode prog_64_method_9_code 48 = .ok (.iconst (-1), 1) := by decide +kernel
theorem d6_49 : decode prog_64_method_9_code 49 = .ok (.if_icmp .ne 13, 3) := by decide +kernel
theorem d6_52 : decode prog_64_method_9_code 52 = .ok (.aload_n 0, 1) := by decide +kernel
theorem d6_53 : decode prog_64_method_9_code 53 = .ok (.getfield 29, 3) := by decide +kernel
theorem d6_56 : decode prog_64_method_9_code 56 = .ok (.iload_n 2, 1) := by decide +kernel
theorem d6_57 : decode prog_64_method_9_code 57 = .ok (.iload_n 3, 1) := by decide +kernel
theorem d6_58 : decode prog_64_method_9_code 58 = .ok (.iastore, 1) := by decide +kernel
theorem d6_59 : decode prog_64_method_9_code 59 = .ok (.goto 11, 3) := by decide +kernel
theorem d6_70 : decode prog_64_method_9_code 70 = .ok (.aload_n 0, 1) := by decide +kernel
theorem d6_71 : decode prog_64_method_9_code 71 = .ok (.getfield 35, 3) := by decide +kernel
theorem d6_74 : decode prog_64_method_9_code 74 = .ok (.iload_n 2, 1) := by decide +kernel
theorem d6_75 : decode prog_64_method_9_code 75 = .ok (.dup2, 1) := by decide +kernel
theorem d6_76 : decode prog_64_method_9_code 76 = .ok (.iaload, 1) := by decide +kernel
theorem d6_77 : decode prog_64_method_9_code 77 = .ok (.iconst 1, 1) := by decide +kernel
theorem d6_78 : decode prog_64_method_9_code 78 = .ok (.isub, 1) := by decide +kernel
theorem d6_79 : decode prog_64_method_9_code 79 = .ok (.iastore, 1) := by decide +kernel
theorem d6_80 : decode prog_64_method_9_code 80 = .ok (.aload_n 0, 1) := by decide +kernel
theorem d6_81 : decode prog_64_method_9_code 81 = .ok (.getfield 7, 3) := by decide +kernel
theorem d6_84 : decode prog_64_method_9_code 84 = .ok (.iload_n 1, 1) := by decide +kernel
theorem d6_85 : decode prog_64_method_9_code 85 = .ok (.iconst (-1), 1) := by decide +kernel
theorem d6_86 : decode prog_64_method_9_code 86 = .ok (.bastore, 1) := by decide +kernel
theorem d6_87 : decode prog_64_method_9_code 87 = .ok (.return_, 1) := by decide +kernel
theorem d6_62 : decode prog_64_method_9_code 62 = .ok (.aload_n 0, 1) := by decide +kernel
theorem d6_63 : decode prog_64_method_9_code 63 = .ok (.getfield 19, 3) := by decide +kernel
theorem d6_66 : decode prog_64_method_9_code 66 = .ok (.iload 4, 2) := by decide +kernel
theorem d6_68 : decode prog_64_method_9_code 68 = .ok (.iload_n 3, 1) := by decide +kernel
theorem d6_69 : decode prog_64_method_9_code 69 = .ok (.iastore, 1) := by decide +kernel
theorem d6_38 : decode prog_64_method_9_code 38 = .ok (.aload_n 0, 1) := by decide +kernel
theorem d6_39 : decode prog_64_method_9_code 39 = .ok (.getfield 23, 3) := by decide +kernel
theorem d6_42 : decode prog_64_method_9_code 42 = .ok (.iload_n 3, 1) := by decide +kernel
theorem d6_43 : decode prog_64_method_9_code 43 = .ok (.iload 4, 2) := by decide +kernel
theorem d6_45 : decode prog_64_method_9_code 45 = .ok (.iastore, 1) := by decide +kernel
theorem ef_6 (m : MethodId) (x0 : Addr) (x1 : Int32) : entryFrame m #[(.ref x0), (.int x1)] 5 = mkF m 0 #[.val (.ref x0), .val (.int x1), .unset, .unset, .unset] [] := by first | (simp [entryFrame, mkF, argsToLocals, Value.category]; done) | rfl
set_option maxRecDepth 65536 in
set_option maxHeartbeats 40000000 in
theorem rm6 (l : Launch) (Z : State) (a0 : Array Value) (hw : ∀ d ∈ tables_1, d.before a0 Z = true) (ws : List Jvm.Cond) (x0 r0 r1 r2 r3 r4 r5 : Nat) (x1 : Int32) (st : Nat → Nat → Int32) (h0 : Heap) (n0 : Nat) (Z0 : n0 ≤ h0.size) (g0 : n0 ≤ x0) (hord : x0 < r0 ∧ r0 < r1 ∧ r1 < r2 ∧ r2 < r3 ∧ r3 < r4 ∧ r4 < r5) (PL0 : own_PL Z h0 x0 r0 r1 r2 r3 r4 r5 st) (hp : 0 ≤ x1.toInt ∧ x1.toInt < (4 : Nat)) (ho : 0 ≤ (st 0 x1.toNatClampNeg).toInt ∧ (st 0 x1.toNatClampNeg).toInt < (2 : Nat)) (hvb : (st 1 x1.toNatClampNeg) = (-1 : Int32) ∨ (0 ≤ (st 1 x1.toNatClampNeg).toInt ∧ (st 1 x1.toNatClampNeg).toInt < (4 : Nat))) (hva : (st 2 x1.toNatClampNeg) = (-1 : Int32) ∨ (0 ≤ (st 2 x1.toNatClampNeg).toInt ∧ (st 2 x1.toNatClampNeg).toInt < (4 : Nat))) :
    MetFree l (⟨"com/example/tierstone/tierstone/PageLists", "remove", "(I)V"⟩ : MethodName) (head1 (Jvm.Cond.code (⟨"com/example/tierstone/tierstone/PageLists", "remove", "(I)V"⟩ : MethodName) prog_64_method_9_code 5 none :: ws) ({ frames := 0, cells := 0, slots := 0, locals := 0 } : Room)) (fun a U => a = #[(.ref x0), (.int x1)] ∧ Z.Warmed39 U.vm ∧ U.heap = h0) (fun _ _ _ _ _ => True) (fun _ U o U' => ∃ v L, o = .returned v ∧ (own_Q6 Z n0 x0 r0 r1 r2 r3 r4 r5 x1 st h0) v U'.heap L ∧ FrameEnd U o U' L ({ frames := 0, cells := 0, slots := 0, locals := 0 } : Room).cells ({ frames := 0, cells := 0, slots := 0, locals := 0 } : Room).slots) := by
  refine own_body (own := "com/example/tierstone/tierstone/PageLists") pn_1 rfl (fun m => ef_6 m x0 x1) ?_
  intro p e s m below meth c T0 hx hby hml hown hnm hlk hret hZ X0 e0
  have w_13 := hw _ (List.mem_of_getElem? (i := 13) rfl)
  have w_19 := hw _ (List.mem_of_getElem? (i := 19) rfl)
  have w_21 := hw _ (List.mem_of_getElem? (i := 21) rfl)
  have w_23 := hw _ (List.mem_of_getElem? (i := 23) rfl)
  have w_25 := hw _ (List.mem_of_getElem? (i := 25) rfl)
  have w_30 := hw _ (List.mem_of_getElem? (i := 30) rfl)
  have N0 := Fr.nil n0
  obtain ⟨o1, o2, o3, o4, o5, o6⟩ := hord
  obtain ⟨BP1, VP1_0, VP1_1, VP1_2, VP1_3, VP1_4, VP1_5⟩ := PL0
  obtain ⟨EB2, FB2_list, FB2_older, FB2_newer, FB2_oldest, FB2_newest, FB2_length⟩ := BP1
  refine g_aloadN X0.here hx (Jvm.hb hby d6_0) (pc' := 1) rfl rfl rfl ?_
  refine g_getF X0 hx hZ hown (host := "") (Or.inl w_13) Via.refl e0 FB2_list (Jvm.hb hby d6_1) (pc' := 4) rfl ?_
  intro T3 X3 e3
  refine g_iloadN X3.here hx (Jvm.hb hby d6_4) (pc' := 5) rfl rfl ?_
  refine g_baload X3 hx hZ e3 VP1_0 hp (v := (st 0 x1.toNatClampNeg)) rfl (Jvm.hb hby d6_5) (pc' := 6) rfl ?_
  refine g_istoreN X3.here hx (Jvm.hb hby d6_6) (pc' := 7) rfl (L' := #[.val (.ref x0), .val (.int x1), .val (.int (st 0 x1.toNatClampNeg)), .unset, .unset]) rfl ?_
  refine g_aloadN X3.here hx (Jvm.hb hby d6_7) (pc' := 8) rfl rfl rfl ?_
  refine g_getF X3 hx hZ hown (host := "") (Or.inl w_19) Via.refl e3 FB2_older (Jvm.hb hby d6_8) (pc' := 11) rfl ?_
  intro T4 X4 e4
  refine g_iloadN X4.here hx (Jvm.hb hby d6_11) (pc' := 12) rfl rfl ?_
  refine g_iaload X4 hx hZ e4 VP1_1 hp (v := (st 1 x1.toNatClampNeg)) rfl (Jvm.hb hby d6_12) (pc' := 13) rfl ?_
  refine g_istoreN X4.here hx (Jvm.hb hby d6_13) (pc' := 14) rfl (L' := #[.val (.ref x0), .val (.int x1), .val (.int (st 0 x1.toNatClampNeg)), .val (.int (st 1 x1.toNatClampNeg)), .unset]) rfl ?_
  refine g_aloadN X4.here hx (Jvm.hb hby d6_14) (pc' := 15) rfl rfl rfl ?_
  refine g_getF X4 hx hZ hown (host := "") (Or.inl w_21) Via.refl e4 FB2_newer (Jvm.hb hby d6_15) (pc' := 18) rfl ?_
  intro T5 X5 e5
  refine g_iloadN X5.here hx (Jvm.hb hby d6_18) (pc' := 19) rfl rfl ?_
  refine g_iaload X5 hx hZ e5 VP1_2 hp (v := (st 2 x1.toNatClampNeg)) rfl (Jvm.hb hby d6_19) (pc' := 20) rfl ?_
  refine g_istore X5.here hx (Jvm.hb hby d6_20) (pc' := 22) rfl (L' := #[.val (.ref x0), .val (.int x1), .val (.int (st 0 x1.toNatClampNeg)), .val (.int (st 1 x1.toNatClampNeg)), .val (.int (st 2 x1.toNatClampNeg))]) rfl ?_
  refine g_iloadN X5.here hx (Jvm.hb hby d6_22) (pc' := 23) rfl rfl ?_
  refine g_iconst X5.here hx (Jvm.hb hby d6_23) (pc' := 24) rfl (z := (-1 : Int32)) rfl ?_
  by_cases hc24 : (st 1 x1.toNatClampNeg) = (-1 : Int32)
  · refine g_icN X5.here hx (Jvm.hb hby d6_24) (pc' := 27) rfl (teq hc24).2 ?_
    refine g_aloadN X5.here hx (Jvm.hb hby d6_27) (pc' := 28) rfl rfl rfl ?_
    refine g_getF X5 hx hZ hown (host := "") (Or.inl w_23) Via.refl e5 FB2_oldest (Jvm.hb hby d6_28) (pc' := 31) rfl ?_
    intro T6 X6 e6
    refine g_iloadN X6.here hx (Jvm.hb hby d6_31) (pc' := 32) rfl rfl ?_
    refine g_iload X6.here hx (Jvm.hb hby d6_32) (pc' := 34) rfl rfl ?_
    refine g_iastore X6 hx hZ e6 VP1_3 ho (Jvm.hb hby d6_34) (pc' := 35) rfl ?_
    intro T7 hh7 X7 e7 W7 V7
    have N7 := Fr.snoc X7 N0 (by omega)
    have Z8 : n0 ≤ hh7.size := (by rw [W7.size]; exact Z0)
    have z9 : h0.size ≤ hh7.size := (by rw [W7.size]; exact (Nat.le_refl _))
    refine g_goto X7.here hx (Jvm.hb hby d6_35) (by decide) (pc' := 46) (by decide) ?_
    refine g_iload X7.here hx (Jvm.hb hby d6_46) (pc' := 48) rfl rfl ?_
    refine g_iconst X7.here hx (Jvm.hb hby d6_48) (pc' := 49) rfl (z := (-1 : Int32)) rfl ?_
    by_cases hc49 : (st 2 x1.toNatClampNeg) = (-1 : Int32)
    · refine g_icN X7.here hx (Jvm.hb hby d6_49) (pc' := 52) rfl (teq hc49).2 ?_
      refine g_aloadN X7.here hx (Jvm.hb hby d6_52) (pc' := 53) rfl rfl rfl ?_
      have F10 := (FB2_newest.other W7 (Or.inl (Nat.ne_of_lt (by omega))))
      refine g_getF X7 hx hZ hown (host := "") (Or.inl w_25) Via.refl e7 F10 (Jvm.hb hby d6_53) (pc' := 56) rfl ?_
      intro T11 X11 e11
      refine g_iloadN X11.here hx (Jvm.hb hby d6_56) (pc' := 57) rfl rfl ?_
      refine g_iloadN X11.here hx (Jvm.hb hby d6_57) (pc' := 58) rfl rfl ?_
      have F12 := (VP1_4.other W7 (Ne.symm (Nat.ne_of_lt (by omega))))
      refine g_iastore X11 hx hZ e11 F12 ho (Jvm.hb hby d6_58) (pc' := 59) rfl ?_
      intro T13 hh13 X13 e13 W13 V13
      have N13 := Fr.snoc X13 N7 (by omega)
      have Z14 : n0 ≤ hh13.size := (by rw [W13.size]; exact Z8)
      have z15 : h0.size ≤ hh13.size := (by rw [W13.size]; exact z9)
      refine g_goto X13.here hx (Jvm.hb hby d6_59) (by decide) (pc' := 70) (by decide) ?_
      refine g_aloadN X13.here hx (Jvm.hb hby d6_70) (pc' := 71) rfl rfl rfl ?_
      have F16 := ((FB2_length.other W7 (Or.inl (Nat.ne_of_lt (by omega)))).other W13 (Or.inl (Nat.ne_of_lt (by omega))))
      refine g_getF X13 hx hZ hown (host := "") (Or.inl w_30) Via.refl e13 F16 (Jvm.hb hby d6_71) (pc' := 74) rfl ?_
      intro T17 X17 e17
      refine g_iloadN X17.here hx (Jvm.hb hby d6_74) (pc' := 75) rfl rfl ?_
      refine g_dup2 X17.here hx (Jvm.hb hby d6_75) (pc' := 76) rfl rfl rfl ?_
      have F18 := ((VP1_5.other W7 (Ne.symm (Nat.ne_of_lt (by omega)))).other W13 (Ne.symm (Nat.ne_of_lt (by omega))))
      refine g_iaload X17 hx hZ e17 F18 ho (v := (st 5 (st 0 x1.toNatClampNeg).toNatClampNeg)) rfl (Jvm.hb hby d6_76) (pc' := 77) rfl ?_
      refine g_iconst X17.here hx (Jvm.hb hby d6_77) (pc' := 78) rfl (z := (1 : Int32)) rfl ?_
      refine g_isub X17.here hx (Jvm.hb hby d6_78) (pc' := 79) rfl ?_
      refine g_iastore X17 hx hZ e17 F18 ho (Jvm.hb hby d6_79) (pc' := 80) rfl ?_
      intro T19 hh19 X19 e19 W19 V19
      have N19 := Fr.snoc X19 N13 (by omega)
      have Z20 : n0 ≤ hh19.size := (by rw [W19.size]; exact Z14)
      have z21 : h0.size ≤ hh19.size := (by rw [W19.size]; exact z15)
      refine g_aloadN X19.here hx (Jvm.hb hby d6_80) (pc' := 81) rfl rfl rfl ?_
      have F22 := (((FB2_list.other W7 (Or.inl (Nat.ne_of_lt (by omega)))).other W13 (Or.inl (Nat.ne_of_lt (by omega)))).other W19 (Or.inl (Nat.ne_of_lt (by omega))))
      refine g_getF X19 hx hZ hown (host := "") (Or.inl w_13) Via.refl e19 F22 (Jvm.hb hby d6_81) (pc' := 84) rfl ?_
      intro T23 X23 e23
      refine g_iloadN X23.here hx (Jvm.hb hby d6_84) (pc' := 85) rfl rfl ?_
      refine g_iconst X23.here hx (Jvm.hb hby d6_85) (pc' := 86) rfl (z := (-1 : Int32)) rfl ?_
      have F24 := (((VP1_0.other W7 (Nat.ne_of_lt (by omega))).other W13 (Nat.ne_of_lt (by omega))).other W19 (Nat.ne_of_lt (by omega)))
      refine g_bastore X23 hx hZ e23 F24 hp (Jvm.hb hby d6_86) (pc' := 87) rfl ?_
      intro T25 hh25 X25 e25 W25 V25
      have N25 := Fr.snoc X25 N19 (by omega)
      have Z26 : n0 ≤ hh25.size := (by rw [W25.size]; exact Z20)
      have z27 : h0.size ≤ hh25.size := (by rw [W25.size]; exact z21)
      have F28 := ((((EB2.wr W7).wr W13).wr W19).wr W25)
      have F29 := (F22.other W25 (Or.inl (Nat.ne_of_lt (by omega))))
      have F30 := ((((FB2_older.other W7 (Or.inl (Nat.ne_of_lt (by omega)))).other W13 (Or.inl (Nat.ne_of_lt (by omega)))).other W19 (Or.inl (Nat.ne_of_lt (by omega)))).other W25 (Or.inl (Nat.ne_of_lt (by omega))))
      have F31 := ((((FB2_newer.other W7 (Or.inl (Nat.ne_of_lt (by omega)))).other W13 (Or.inl (Nat.ne_of_lt (by omega)))).other W19 (Or.inl (Nat.ne_of_lt (by omega)))).other W25 (Or.inl (Nat.ne_of_lt (by omega))))
      have F32 := ((((FB2_oldest.other W7 (Or.inl (Nat.ne_of_lt (by omega)))).other W13 (Or.inl (Nat.ne_of_lt (by omega)))).other W19 (Or.inl (Nat.ne_of_lt (by omega)))).other W25 (Or.inl (Nat.ne_of_lt (by omega))))
      have F33 := (((F10.other W13 (Or.inl (Nat.ne_of_lt (by omega)))).other W19 (Or.inl (Nat.ne_of_lt (by omega)))).other W25 (Or.inl (Nat.ne_of_lt (by omega))))
      have F34 := ((F16.other W19 (Or.inl (Nat.ne_of_lt (by omega)))).other W25 (Or.inl (Nat.ne_of_lt (by omega))))
      have F35 := ((((VP1_1.other W7 (Nat.ne_of_lt (by omega))).other W13 (Nat.ne_of_lt (by omega))).other W19 (Nat.ne_of_lt (by omega))).other W25 (Ne.symm (Nat.ne_of_lt (by omega))))
      have F36 := ((((VP1_2.other W7 (Nat.ne_of_lt (by omega))).other W13 (Nat.ne_of_lt (by omega))).other W19 (Nat.ne_of_lt (by omega))).other W25 (Ne.symm (Nat.ne_of_lt (by omega))))
      have F37 := (((V7.other W13 (Nat.ne_of_lt (by omega))).other W19 (Nat.ne_of_lt (by omega))).other W25 (Ne.symm (Nat.ne_of_lt (by omega))))
      have F38 := ((V13.other W19 (Nat.ne_of_lt (by omega))).other W25 (Ne.symm (Nat.ne_of_lt (by omega))))
      have F39 := (V19.other W25 (Ne.symm (Nat.ne_of_lt (by omega))))
      have KK := (((((Keep.refl h0 [r0, r1, r2, r3, r4, r5]).wr W7 (Or.inl (List.mem_of_getElem? (i := 3) rfl))).wr W13 (Or.inl (List.mem_of_getElem? (i := 4) rfl))).wr W19 (Or.inl (List.mem_of_getElem? (i := 5) rfl))).wr W25 (Or.inl (List.mem_of_getElem? (i := 0) rfl)))
      exact g_retV X25 hx hlk hret (Jvm.hb hby d6_87) (Nat.zero_le _) (Nat.zero_le _) (by rw [e25]; exact ⟨rfl, N25, KK, ⟨F28, F29, F30, F31, F32, F33, F34⟩, V25.congr (fun i _ => by simp [own_rm, own_rm1, own_rm2, own_up, hc24, hc49]), F35.congr (fun i _ => by simp [own_rm, own_rm1, own_rm2, own_up, hc24, hc49]), F36.congr (fun i _ => by simp [own_rm, own_rm1, own_rm2, own_up, hc24, hc49]), F37.congr (fun i _ => by simp [own_rm, own_rm1, own_rm2, own_up, hc24, hc49]), F38.congr (fun i _ => by simp [own_rm, own_rm1, own_rm2, own_up, hc24, hc49]), F39.congr (fun i _ => by simp [own_rm, own_rm1, own_rm2, own_up, hc24, hc49])⟩)
    · refine g_icY X7.here hx (Jvm.hb hby d6_49) (by decide) (pc' := 62) (by decide) (feq hc49).2 ?_
      refine g_aloadN X7.here hx (Jvm.hb hby d6_62) (pc' := 63) rfl rfl rfl ?_
      have F40 := (FB2_older.other W7 (Or.inl (Nat.ne_of_lt (by omega))))
      refine g_getF X7 hx hZ hown (host := "") (Or.inl w_19) Via.refl e7 F40 (Jvm.hb hby d6_63) (pc' := 66) rfl ?_
      intro T41 X41 e41
      refine g_iload X41.here hx (Jvm.hb hby d6_66) (pc' := 68) rfl rfl ?_
      refine g_iloadN X41.here hx (Jvm.hb hby d6_68) (pc' := 69) rfl rfl ?_
      have F42 := (VP1_1.other W7 (Nat.ne_of_lt (by omega)))
      refine g_iastore X41 hx hZ e41 F42 (hva.resolve_left hc49) (Jvm.hb hby d6_69) (pc' := 70) rfl ?_
      intro T43 hh43 X43 e43 W43 V43
      have N43 := Fr.snoc X43 N7 (by omega)
      have Z44 : n0 ≤ hh43.size := (by rw [W43.size]; exact Z8)
      have z45 : h0.size ≤ hh43.size := (by rw [W43.size]; exact z9)
      refine g_aloadN X43.here hx (Jvm.hb hby d6_70) (pc' := 71) rfl rfl rfl ?_
      have F46 := ((FB2_length.other W7 (Or.inl (Nat.ne_of_lt (by omega)))).other W43 (Or.inl (Nat.ne_of_lt (by omega))))
      refine g_getF X43 hx hZ hown (host := "") (Or.inl w_30) Via.refl e43 F46 (Jvm.hb hby d6_71) (pc' := 74) rfl ?_
      intro T47 X47 e47
      refine g_iloadN X47.here hx (Jvm.hb hby d6_74) (pc' := 75) rfl rfl ?_
      refine g_dup2 X47.here hx (Jvm.hb hby d6_75) (pc' := 76) rfl rfl rfl ?_
      have F48 := ((VP1_5.other W7 (Ne.symm (Nat.ne_of_lt (by omega)))).other W43 (Ne.symm (Nat.ne_of_lt (by omega))))
      refine g_iaload X47 hx hZ e47 F48 ho (v := (st 5 (st 0 x1.toNatClampNeg).toNatClampNeg)) rfl (Jvm.hb hby d6_76) (pc' := 77) rfl ?_
      refine g_iconst X47.here hx (Jvm.hb hby d6_77) (pc' := 78) rfl (z := (1 : Int32)) rfl ?_
      refine g_isub X47.here hx (Jvm.hb hby d6_78) (pc' := 79) rfl ?_
      refine g_iastore X47 hx hZ e47 F48 ho (Jvm.hb hby d6_79) (pc' := 80) rfl ?_
      intro T49 hh49 X49 e49 W49 V49
      have N49 := Fr.snoc X49 N43 (by omega)
      have Z50 : n0 ≤ hh49.size := (by rw [W49.size]; exact Z44)
      have z51 : h0.size ≤ hh49.size := (by rw [W49.size]; exact z45)
      refine g_aloadN X49.here hx (Jvm.hb hby d6_80) (pc' := 81) rfl rfl rfl ?_
      have F52 := (((FB2_list.other W7 (Or.inl (Nat.ne_of_lt (by omega)))).other W43 (Or.inl (Nat.ne_of_lt (by omega)))).other W49 (Or.inl (Nat.ne_of_lt (by omega))))
      refine g_getF X49 hx hZ hown (host := "") (Or.inl w_13) Via.refl e49 F52 (Jvm.hb hby d6_81) (pc' := 84) rfl ?_
      intro T53 X53 e53
      refine g_iloadN X53.here hx (Jvm.hb hby d6_84) (pc' := 85) rfl rfl ?_
      refine g_iconst X53.here hx (Jvm.hb hby d6_85) (pc' := 86) rfl (z := (-1 : Int32)) rfl ?_
      have F54 := (((VP1_0.other W7 (Nat.ne_of_lt (by omega))).other W43 (Nat.ne_of_lt (by omega))).other W49 (Nat.ne_of_lt (by omega)))
      refine g_bastore X53 hx hZ e53 F54 hp (Jvm.hb hby d6_86) (pc' := 87) rfl ?_
      intro T55 hh55 X55 e55 W55 V55
      have N55 := Fr.snoc X55 N49 (by omega)
      have Z56 : n0 ≤ hh55.size := (by rw [W55.size]; exact Z50)
      have z57 : h0.size ≤ hh55.size := (by rw [W55.size]; exact z51)
      have F58 := ((((EB2.wr W7).wr W43).wr W49).wr W55)
      have F59 := (F52.other W55 (Or.inl (Nat.ne_of_lt (by omega))))
      have F60 := (((F40.other W43 (Or.inl (Nat.ne_of_lt (by omega)))).other W49 (Or.inl (Nat.ne_of_lt (by omega)))).other W55 (Or.inl (Nat.ne_of_lt (by omega))))
      have F61 := ((((FB2_newer.other W7 (Or.inl (Nat.ne_of_lt (by omega)))).other W43 (Or.inl (Nat.ne_of_lt (by omega)))).other W49 (Or.inl (Nat.ne_of_lt (by omega)))).other W55 (Or.inl (Nat.ne_of_lt (by omega))))
      have F62 := ((((FB2_oldest.other W7 (Or.inl (Nat.ne_of_lt (by omega)))).other W43 (Or.inl (Nat.ne_of_lt (by omega)))).other W49 (Or.inl (Nat.ne_of_lt (by omega)))).other W55 (Or.inl (Nat.ne_of_lt (by omega))))
      have F63 := ((((FB2_newest.other W7 (Or.inl (Nat.ne_of_lt (by omega)))).other W43 (Or.inl (Nat.ne_of_lt (by omega)))).other W49 (Or.inl (Nat.ne_of_lt (by omega)))).other W55 (Or.inl (Nat.ne_of_lt (by omega))))
      have F64 := ((F46.other W49 (Or.inl (Nat.ne_of_lt (by omega)))).other W55 (Or.inl (Nat.ne_of_lt (by omega))))
      have F65 := ((V43.other W49 (Nat.ne_of_lt (by omega))).other W55 (Ne.symm (Nat.ne_of_lt (by omega))))
      have F66 := ((((VP1_2.other W7 (Nat.ne_of_lt (by omega))).other W43 (Ne.symm (Nat.ne_of_lt (by omega)))).other W49 (Nat.ne_of_lt (by omega))).other W55 (Ne.symm (Nat.ne_of_lt (by omega))))
      have F67 := (((V7.other W43 (Ne.symm (Nat.ne_of_lt (by omega)))).other W49 (Nat.ne_of_lt (by omega))).other W55 (Ne.symm (Nat.ne_of_lt (by omega))))
      have F68 := ((((VP1_4.other W7 (Ne.symm (Nat.ne_of_lt (by omega)))).other W43 (Ne.symm (Nat.ne_of_lt (by omega)))).other W49 (Nat.ne_of_lt (by omega))).other W55 (Ne.symm (Nat.ne_of_lt (by omega))))
      have F69 := (V49.other W55 (Ne.symm (Nat.ne_of_lt (by omega))))
      have KK := (((((Keep.refl h0 [r0, r1, r2, r3, r4, r5]).wr W7 (Or.inl (List.mem_of_getElem? (i := 3) rfl))).wr W43 (Or.inl (List.mem_of_getElem? (i := 1) rfl))).wr W49 (Or.inl (List.mem_of_getElem? (i := 5) rfl))).wr W55 (Or.inl (List.mem_of_getElem? (i := 0) rfl)))
      exact g_retV X55 hx hlk hret (Jvm.hb hby d6_87) (Nat.zero_le _) (Nat.zero_le _) (by rw [e55]; exact ⟨rfl, N55, KK, ⟨F58, F59, F60, F61, F62, F63, F64⟩, V55.congr (fun i _ => by simp [own_rm, own_rm1, own_rm2, own_up, hc24, hc49]), F65.congr (fun i _ => by simp [own_rm, own_rm1, own_rm2, own_up, hc24, hc49]), F66.congr (fun i _ => by simp [own_rm, own_rm1, own_rm2, own_up, hc24, hc49]), F67.congr (fun i _ => by simp [own_rm, own_rm1, own_rm2, own_up, hc24, hc49]), F68.congr (fun i _ => by simp [own_rm, own_rm1, own_rm2, own_up, hc24, hc49]), F69.congr (fun i _ => by simp [own_rm, own_rm1, own_rm2, own_up, hc24, hc49])⟩)
  · refine g_icY X5.here hx (Jvm.hb hby d6_24) (by decide) (pc' := 38) (by decide) (feq hc24).2 ?_
    refine g_aloadN X5.here hx (Jvm.hb hby d6_38) (pc' := 39) rfl rfl rfl ?_
    refine g_getF X5 hx hZ hown (host := "") (Or.inl w_21) Via.refl e5 FB2_newer (Jvm.hb hby d6_39) (pc' := 42) rfl ?_
    intro T70 X70 e70
    refine g_iloadN X70.here hx (Jvm.hb hby d6_42) (pc' := 43) rfl rfl ?_
    refine g_iload X70.here hx (Jvm.hb hby d6_43) (pc' := 45) rfl rfl ?_
    refine g_iastore X70 hx hZ e70 VP1_2 (hvb.resolve_left hc24) (Jvm.hb hby d6_45) (pc' := 46) rfl ?_
    intro T71 hh71 X71 e71 W71 V71
    have N71 := Fr.snoc X71 N0 (by omega)
    have Z72 : n0 ≤ hh71.size := (by rw [W71.size]; exact Z0)
    have z73 : h0.size ≤ hh71.size := (by rw [W71.size]; exact (Nat.le_refl _))
    refine g_iload X71.here hx (Jvm.hb hby d6_46) (pc' := 48) rfl rfl ?_
    refine g_iconst X71.here hx (Jvm.hb hby d6_48) (pc' := 49) rfl (z := (-1 : Int32)) rfl ?_
    by_cases hc49 : (st 2 x1.toNatClampNeg) = (-1 : Int32)
    · refine g_icN X71.here hx (Jvm.hb hby d6_49) (pc' := 52) rfl (teq hc49).2 ?_
      refine g_aloadN X71.here hx (Jvm.hb hby d6_52) (pc' := 53) rfl rfl rfl ?_
      have F74 := (FB2_newest.other W71 (Or.inl (Nat.ne_of_lt (by omega))))
      refine g_getF X71 hx hZ hown (host := "") (Or.inl w_25) Via.refl e71 F74 (Jvm.hb hby d6_53) (pc' := 56) rfl ?_
      intro T75 X75 e75
      refine g_iloadN X75.here hx (Jvm.hb hby d6_56) (pc' := 57) rfl rfl ?_
      refine g_iloadN X75.here hx (Jvm.hb hby d6_57) (pc' := 58) rfl rfl ?_
      have F76 := (VP1_4.other W71 (Ne.symm (Nat.ne_of_lt (by omega))))
      refine g_iastore X75 hx hZ e75 F76 ho (Jvm.hb hby d6_58) (pc' := 59) rfl ?_
      intro T77 hh77 X77 e77 W77 V77
      have N77 := Fr.snoc X77 N71 (by omega)
      have Z78 : n0 ≤ hh77.size := (by rw [W77.size]; exact Z72)
      have z79 : h0.size ≤ hh77.size := (by rw [W77.size]; exact z73)
      refine g_goto X77.here hx (Jvm.hb hby d6_59) (by decide) (pc' := 70) (by decide) ?_
      refine g_aloadN X77.here hx (Jvm.hb hby d6_70) (pc' := 71) rfl rfl rfl ?_
      have F80 := ((FB2_length.other W71 (Or.inl (Nat.ne_of_lt (by omega)))).other W77 (Or.inl (Nat.ne_of_lt (by omega))))
      refine g_getF X77 hx hZ hown (host := "") (Or.inl w_30) Via.refl e77 F80 (Jvm.hb hby d6_71) (pc' := 74) rfl ?_
      intro T81 X81 e81
      refine g_iloadN X81.here hx (Jvm.hb hby d6_74) (pc' := 75) rfl rfl ?_
      refine g_dup2 X81.here hx (Jvm.hb hby d6_75) (pc' := 76) rfl rfl rfl ?_
      have F82 := ((VP1_5.other W71 (Ne.symm (Nat.ne_of_lt (by omega)))).other W77 (Ne.symm (Nat.ne_of_lt (by omega))))
      refine g_iaload X81 hx hZ e81 F82 ho (v := (st 5 (st 0 x1.toNatClampNeg).toNatClampNeg)) rfl (Jvm.hb hby d6_76) (pc' := 77) rfl ?_
      refine g_iconst X81.here hx (Jvm.hb hby d6_77) (pc' := 78) rfl (z := (1 : Int32)) rfl ?_
      refine g_isub X81.here hx (Jvm.hb hby d6_78) (pc' := 79) rfl ?_
      refine g_iastore X81 hx hZ e81 F82 ho (Jvm.hb hby d6_79) (pc' := 80) rfl ?_
      intro T83 hh83 X83 e83 W83 V83
      have N83 := Fr.snoc X83 N77 (by omega)
      have Z84 : n0 ≤ hh83.size := (by rw [W83.size]; exact Z78)
      have z85 : h0.size ≤ hh83.size := (by rw [W83.size]; exact z79)
      refine g_aloadN X83.here hx (Jvm.hb hby d6_80) (pc' := 81) rfl rfl rfl ?_
      have F86 := (((FB2_list.other W71 (Or.inl (Nat.ne_of_lt (by omega)))).other W77 (Or.inl (Nat.ne_of_lt (by omega)))).other W83 (Or.inl (Nat.ne_of_lt (by omega))))
      refine g_getF X83 hx hZ hown (host := "") (Or.inl w_13) Via.refl e83 F86 (Jvm.hb hby d6_81) (pc' := 84) rfl ?_
      intro T87 X87 e87
      refine g_iloadN X87.here hx (Jvm.hb hby d6_84) (pc' := 85) rfl rfl ?_
      refine g_iconst X87.here hx (Jvm.hb hby d6_85) (pc' := 86) rfl (z := (-1 : Int32)) rfl ?_
      have F88 := (((VP1_0.other W71 (Nat.ne_of_lt (by omega))).other W77 (Nat.ne_of_lt (by omega))).other W83 (Nat.ne_of_lt (by omega)))
      refine g_bastore X87 hx hZ e87 F88 hp (Jvm.hb hby d6_86) (pc' := 87) rfl ?_
      intro T89 hh89 X89 e89 W89 V89
      have N89 := Fr.snoc X89 N83 (by omega)
      have Z90 : n0 ≤ hh89.size := (by rw [W89.size]; exact Z84)
      have z91 : h0.size ≤ hh89.size := (by rw [W89.size]; exact z85)
      have F92 := ((((EB2.wr W71).wr W77).wr W83).wr W89)
      have F93 := (F86.other W89 (Or.inl (Nat.ne_of_lt (by omega))))
      have F94 := ((((FB2_older.other W71 (Or.inl (Nat.ne_of_lt (by omega)))).other W77 (Or.inl (Nat.ne_of_lt (by omega)))).other W83 (Or.inl (Nat.ne_of_lt (by omega)))).other W89 (Or.inl (Nat.ne_of_lt (by omega))))
      have F95 := ((((FB2_newer.other W71 (Or.inl (Nat.ne_of_lt (by omega)))).other W77 (Or.inl (Nat.ne_of_lt (by omega)))).other W83 (Or.inl (Nat.ne_of_lt (by omega)))).other W89 (Or.inl (Nat.ne_of_lt (by omega))))
      have F96 := ((((FB2_oldest.other W71 (Or.inl (Nat.ne_of_lt (by omega)))).other W77 (Or.inl (Nat.ne_of_lt (by omega)))).other W83 (Or.inl (Nat.ne_of_lt (by omega)))).other W89 (Or.inl (Nat.ne_of_lt (by omega))))
      have F97 := (((F74.other W77 (Or.inl (Nat.ne_of_lt (by omega)))).other W83 (Or.inl (Nat.ne_of_lt (by omega)))).other W89 (Or.inl (Nat.ne_of_lt (by omega))))
      have F98 := ((F80.other W83 (Or.inl (Nat.ne_of_lt (by omega)))).other W89 (Or.inl (Nat.ne_of_lt (by omega))))
      have F99 := ((((VP1_1.other W71 (Nat.ne_of_lt (by omega))).other W77 (Nat.ne_of_lt (by omega))).other W83 (Nat.ne_of_lt (by omega))).other W89 (Ne.symm (Nat.ne_of_lt (by omega))))
      have F100 := (((V71.other W77 (Nat.ne_of_lt (by omega))).other W83 (Nat.ne_of_lt (by omega))).other W89 (Ne.symm (Nat.ne_of_lt (by omega))))
      have F101 := ((((VP1_3.other W71 (Ne.symm (Nat.ne_of_lt (by omega)))).other W77 (Nat.ne_of_lt (by omega))).other W83 (Nat.ne_of_lt (by omega))).other W89 (Ne.symm (Nat.ne_of_lt (by omega))))
      have F102 := ((V77.other W83 (Nat.ne_of_lt (by omega))).other W89 (Ne.symm (Nat.ne_of_lt (by omega))))
      have F103 := (V83.other W89 (Ne.symm (Nat.ne_of_lt (by omega))))
      have KK := (((((Keep.refl h0 [r0, r1, r2, r3, r4, r5]).wr W71 (Or.inl (List.mem_of_getElem? (i := 2) rfl))).wr W77 (Or.inl (List.mem_of_getElem? (i := 4) rfl))).wr W83 (Or.inl (List.mem_of_getElem? (i := 5) rfl))).wr W89 (Or.inl (List.mem_of_getElem? (i := 0) rfl)))
      exact g_retV X89 hx hlk hret (Jvm.hb hby d6_87) (Nat.zero_le _) (Nat.zero_le _) (by rw [e89]; exact ⟨rfl, N89, KK, ⟨F92, F93, F94, F95, F96, F97, F98⟩, V89.congr (fun i _ => by simp [own_rm, own_rm1, own_rm2, own_up, hc24, hc49]), F99.congr (fun i _ => by simp [own_rm, own_rm1, own_rm2, own_up, hc24, hc49]), F100.congr (fun i _ => by simp [own_rm, own_rm1, own_rm2, own_up, hc24, hc49]), F101.congr (fun i _ => by simp [own_rm, own_rm1, own_rm2, own_up, hc24, hc49]), F102.congr (fun i _ => by simp [own_rm, own_rm1, own_rm2, own_up, hc24, hc49]), F103.congr (fun i _ => by simp [own_rm, own_rm1, own_rm2, own_up, hc24, hc49])⟩)
    · refine g_icY X71.here hx (Jvm.hb hby d6_49) (by decide) (pc' := 62) (by decide) (feq hc49).2 ?_
      refine g_aloadN X71.here hx (Jvm.hb hby d6_62) (pc' := 63) rfl rfl rfl ?_
      have F104 := (FB2_older.other W71 (Or.inl (Nat.ne_of_lt (by omega))))
      refine g_getF X71 hx hZ hown (host := "") (Or.inl w_19) Via.refl e71 F104 (Jvm.hb hby d6_63) (pc' := 66) rfl ?_
      intro T105 X105 e105
      refine g_iload X105.here hx (Jvm.hb hby d6_66) (pc' := 68) rfl rfl ?_
      refine g_iloadN X105.here hx (Jvm.hb hby d6_68) (pc' := 69) rfl rfl ?_
      have F106 := (VP1_1.other W71 (Nat.ne_of_lt (by omega)))
      refine g_iastore X105 hx hZ e105 F106 (hva.resolve_left hc49) (Jvm.hb hby d6_69) (pc' := 70) rfl ?_
      intro T107 hh107 X107 e107 W107 V107
      have N107 := Fr.snoc X107 N71 (by omega)
      have Z108 : n0 ≤ hh107.size := (by rw [W107.size]; exact Z72)
      have z109 : h0.size ≤ hh107.size := (by rw [W107.size]; exact z73)
      refine g_aloadN X107.here hx (Jvm.hb hby d6_70) (pc' := 71) rfl rfl rfl ?_
      have F110 := ((FB2_length.other W71 (Or.inl (Nat.ne_of_lt (by omega)))).other W107 (Or.inl (Nat.ne_of_lt (by omega))))
      refine g_getF X107 hx hZ hown (host := "") (Or.inl w_30) Via.refl e107 F110 (Jvm.hb hby d6_71) (pc' := 74) rfl ?_
      intro T111 X111 e111
      refine g_iloadN X111.here hx (Jvm.hb hby d6_74) (pc' := 75) rfl rfl ?_
      refine g_dup2 X111.here hx (Jvm.hb hby d6_75) (pc' := 76) rfl rfl rfl ?_
      have F112 := ((VP1_5.other W71 (Ne.symm (Nat.ne_of_lt (by omega)))).other W107 (Ne.symm (Nat.ne_of_lt (by omega))))
      refine g_iaload X111 hx hZ e111 F112 ho (v := (st 5 (st 0 x1.toNatClampNeg).toNatClampNeg)) rfl (Jvm.hb hby d6_76) (pc' := 77) rfl ?_
      refine g_iconst X111.here hx (Jvm.hb hby d6_77) (pc' := 78) rfl (z := (1 : Int32)) rfl ?_
      refine g_isub X111.here hx (Jvm.hb hby d6_78) (pc' := 79) rfl ?_
      refine g_iastore X111 hx hZ e111 F112 ho (Jvm.hb hby d6_79) (pc' := 80) rfl ?_
      intro T113 hh113 X113 e113 W113 V113
      have N113 := Fr.snoc X113 N107 (by omega)
      have Z114 : n0 ≤ hh113.size := (by rw [W113.size]; exact Z108)
      have z115 : h0.size ≤ hh113.size := (by rw [W113.size]; exact z109)
      refine g_aloadN X113.here hx (Jvm.hb hby d6_80) (pc' := 81) rfl rfl rfl ?_
      have F116 := (((FB2_list.other W71 (Or.inl (Nat.ne_of_lt (by omega)))).other W107 (Or.inl (Nat.ne_of_lt (by omega)))).other W113 (Or.inl (Nat.ne_of_lt (by omega))))
      refine g_getF X113 hx hZ hown (host := "") (Or.inl w_13) Via.refl e113 F116 (Jvm.hb hby d6_81) (pc' := 84) rfl ?_
      intro T117 X117 e117
      refine g_iloadN X117.here hx (Jvm.hb hby d6_84) (pc' := 85) rfl rfl ?_
      refine g_iconst X117.here hx (Jvm.hb hby d6_85) (pc' := 86) rfl (z := (-1 : Int32)) rfl ?_
      have F118 := (((VP1_0.other W71 (Nat.ne_of_lt (by omega))).other W107 (Nat.ne_of_lt (by omega))).other W113 (Nat.ne_of_lt (by omega)))
      refine g_bastore X117 hx hZ e117 F118 hp (Jvm.hb hby d6_86) (pc' := 87) rfl ?_
      intro T119 hh119 X119 e119 W119 V119
      have N119 := Fr.snoc X119 N113 (by omega)
      have Z120 : n0 ≤ hh119.size := (by rw [W119.size]; exact Z114)
      have z121 : h0.size ≤ hh119.size := (by rw [W119.size]; exact z115)
      have F122 := ((((EB2.wr W71).wr W107).wr W113).wr W119)
      have F123 := (F116.other W119 (Or.inl (Nat.ne_of_lt (by omega))))
      have F124 := (((F104.other W107 (Or.inl (Nat.ne_of_lt (by omega)))).other W113 (Or.inl (Nat.ne_of_lt (by omega)))).other W119 (Or.inl (Nat.ne_of_lt (by omega))))
      have F125 := ((((FB2_newer.other W71 (Or.inl (Nat.ne_of_lt (by omega)))).other W107 (Or.inl (Nat.ne_of_lt (by omega)))).other W113 (Or.inl (Nat.ne_of_lt (by omega)))).other W119 (Or.inl (Nat.ne_of_lt (by omega))))
      have F126 := ((((FB2_oldest.other W71 (Or.inl (Nat.ne_of_lt (by omega)))).other W107 (Or.inl (Nat.ne_of_lt (by omega)))).other W113 (Or.inl (Nat.ne_of_lt (by omega)))).other W119 (Or.inl (Nat.ne_of_lt (by omega))))
      have F127 := ((((FB2_newest.other W71 (Or.inl (Nat.ne_of_lt (by omega)))).other W107 (Or.inl (Nat.ne_of_lt (by omega)))).other W113 (Or.inl (Nat.ne_of_lt (by omega)))).other W119 (Or.inl (Nat.ne_of_lt (by omega))))
      have F128 := ((F110.other W113 (Or.inl (Nat.ne_of_lt (by omega)))).other W119 (Or.inl (Nat.ne_of_lt (by omega))))
      have F129 := ((V107.other W113 (Nat.ne_of_lt (by omega))).other W119 (Ne.symm (Nat.ne_of_lt (by omega))))
      have F130 := (((V71.other W107 (Ne.symm (Nat.ne_of_lt (by omega)))).other W113 (Nat.ne_of_lt (by omega))).other W119 (Ne.symm (Nat.ne_of_lt (by omega))))
      have F131 := ((((VP1_3.other W71 (Ne.symm (Nat.ne_of_lt (by omega)))).other W107 (Ne.symm (Nat.ne_of_lt (by omega)))).other W113 (Nat.ne_of_lt (by omega))).other W119 (Ne.symm (Nat.ne_of_lt (by omega))))
      have F132 := ((((VP1_4.other W71 (Ne.symm (Nat.ne_of_lt (by omega)))).other W107 (Ne.symm (Nat.ne_of_lt (by omega)))).other W113 (Nat.ne_of_lt (by omega))).other W119 (Ne.symm (Nat.ne_of_lt (by omega))))
      have F133 := (V113.other W119 (Ne.symm (Nat.ne_of_lt (by omega))))
      have KK := (((((Keep.refl h0 [r0, r1, r2, r3, r4, r5]).wr W71 (Or.inl (List.mem_of_getElem? (i := 2) rfl))).wr W107 (Or.inl (List.mem_of_getElem? (i := 1) rfl))).wr W113 (Or.inl (List.mem_of_getElem? (i := 5) rfl))).wr W119 (Or.inl (List.mem_of_getElem? (i := 0) rfl)))
      exact g_retV X119 hx hlk hret (Jvm.hb hby d6_87) (Nat.zero_le _) (Nat.zero_le _) (by rw [e119]; exact ⟨rfl, N119, KK, ⟨F122, F123, F124, F125, F126, F127, F128⟩, V119.congr (fun i _ => by simp [own_rm, own_rm1, own_rm2, own_up, hc24, hc49]), F129.congr (fun i _ => by simp [own_rm, own_rm1, own_rm2, own_up, hc24, hc49]), F130.congr (fun i _ => by simp [own_rm, own_rm1, own_rm2, own_up, hc24, hc49]), F131.congr (fun i _ => by simp [own_rm, own_rm1, own_rm2, own_up, hc24, hc49]), F132.congr (fun i _ => by simp [own_rm, own_rm1, own_rm2, own_up, hc24, hc49]), F133.congr (fun i _ => by simp [own_rm, own_rm1, own_rm2, own_up, hc24, hc49])⟩)
theorem d7_0 : decode prog_64_method_2_code 0 = .ok (.aload_n 0, 1) := by decide +kernel
theorem d7_1 : decode prog_64_method_2_code 1 = .ok (.getfield 7, 3) := by decide +kernel
theorem d7_4 : decode prog_64_method_2_code 4 = .ok (.iload_n 1, 1) := by decide +kernel
theorem d7_5 : decode prog_64_method_2_code 5 = .ok (.baload, 1) := by decide +kernel
theorem d7_6 : decode prog_64_method_2_code 6 = .ok (.ireturn, 1) := by decide +kernel
theorem ef_7 (m : MethodId) (x0 : Addr) (x1 : Int32) : entryFrame m #[(.ref x0), (.int x1)] 2 = mkF m 0 #[.val (.ref x0), .val (.int x1)] [] := by first | (simp [entryFrame, mkF, argsToLocals, Value.category]; done) | rfl
set_option maxRecDepth 65536 in
set_option maxHeartbeats 40000000 in
theorem rm7 (l : Launch) (Z : State) (a0 : Array Value) (hw : ∀ d ∈ tables_1, d.before a0 Z = true) (ws : List Jvm.Cond) (x0 r0 r1 r2 r3 r4 r5 : Nat) (x1 : Int32) (st : Nat → Nat → Int32) (h0 : Heap) (PL0 : own_PL Z h0 x0 r0 r1 r2 r3 r4 r5 st) (hp : 0 ≤ x1.toInt ∧ x1.toInt < (4 : Nat)) :
    MetFree l (⟨"com/example/tierstone/tierstone/PageLists", "listOf", "(I)I"⟩ : MethodName) (head1 (Jvm.Cond.code (⟨"com/example/tierstone/tierstone/PageLists", "listOf", "(I)I"⟩ : MethodName) prog_64_method_2_code 2 (some .int) :: ws) ({ frames := 0, cells := 0, slots := 0, locals := 0 } : Room)) (fun a U => a = #[(.ref x0), (.int x1)] ∧ Z.Warmed39 U.vm ∧ U.heap = h0) (fun _ _ _ _ _ => True) (fun _ U o U' => ∃ v L, o = .returned v ∧ (own_Pure (some (.int (st 0 x1.toNatClampNeg))) h0) v U'.heap L ∧ FrameEnd U o U' L ({ frames := 0, cells := 0, slots := 0, locals := 0 } : Room).cells ({ frames := 0, cells := 0, slots := 0, locals := 0 } : Room).slots) := by
  refine own_body (own := "com/example/tierstone/tierstone/PageLists") pn_1 rfl (fun m => ef_7 m x0 x1) ?_
  intro p e s m below meth c T0 hx hby hml hown hnm hlk hret hZ X0 e0
  have w_13 := hw _ (List.mem_of_getElem? (i := 13) rfl)
  obtain ⟨BP1, VP1_0, VP1_1, VP1_2, VP1_3, VP1_4, VP1_5⟩ := PL0
  obtain ⟨EB2, FB2_list, FB2_older, FB2_newer, FB2_oldest, FB2_newest, FB2_length⟩ := BP1
  refine g_aloadN X0.here hx (Jvm.hb hby d7_0) (pc' := 1) rfl rfl rfl ?_
  refine g_getF X0 hx hZ hown (host := "") (Or.inl w_13) Via.refl e0 FB2_list (Jvm.hb hby d7_1) (pc' := 4) rfl ?_
  intro T3 X3 e3
  refine g_iloadN X3.here hx (Jvm.hb hby d7_4) (pc' := 5) rfl rfl ?_
  refine g_baload X3 hx hZ e3 VP1_0 hp (v := (st 0 x1.toNatClampNeg)) rfl (Jvm.hb hby d7_5) (pc' := 6) rfl ?_
  exact g_retI X3 hx hlk hret (Jvm.hb hby d7_6) (Nat.zero_le _) (Nat.zero_le _) ⟨rfl, rfl, e3⟩
theorem d10_0 : decode prog_64_method_5_code 0 = .ok (.aload_n 0, 1) := by decide +kernel
theorem d10_1 : decode prog_64_method_5_code 1 = .ok (.getfield 23, 3) := by decide +kernel
theorem d10_4 : decode prog_64_method_5_code 4 = .ok (.iload_n 1, 1) := by decide +kernel
theorem d10_5 : decode prog_64_method_5_code 5 = .ok (.iaload, 1) := by decide +kernel
theorem d10_6 : decode prog_64_method_5_code 6 = .ok (.ireturn, 1) := by decide +kernel
theorem ef_10 (m : MethodId) (x0 : Addr) (x1 : Int32) : entryFrame m #[(.ref x0), (.int x1)] 2 = mkF m 0 #[.val (.ref x0), .val (.int x1)] [] := by first | (simp [entryFrame, mkF, argsToLocals, Value.category]; done) | rfl
set_option maxRecDepth 65536 in
set_option maxHeartbeats 40000000 in
theorem rm10 (l : Launch) (Z : State) (a0 : Array Value) (hw : ∀ d ∈ tables_1, d.before a0 Z = true) (ws : List Jvm.Cond) (x0 r0 r1 r2 r3 r4 r5 : Nat) (x1 : Int32) (st : Nat → Nat → Int32) (h0 : Heap) (PL0 : own_PL Z h0 x0 r0 r1 r2 r3 r4 r5 st) (hp : 0 ≤ x1.toInt ∧ x1.toInt < (4 : Nat)) :
    MetFree l (⟨"com/example/tierstone/tierstone/PageLists", "newer", "(I)I"⟩ : MethodName) (head1 (Jvm.Cond.code (⟨"com/example/tierstone/tierstone/PageLists", "newer", "(I)I"⟩ : MethodName) prog_64_method_5_code 2 (some .int) :: ws) ({ frames := 0, cells := 0, slots := 0, locals := 0 } : Room)) (fun a U => a = #[(.ref x0), (.int x1)] ∧ Z.Warmed39 U.vm ∧ U.heap = h0) (fun _ _ _ _ _ => True) (fun _ U o U' => ∃ v L, o = .returned v ∧ (own_Pure (some (.int (st 2 x1.toNatClampNeg))) h0) v U'.heap L ∧ FrameEnd U o U' L ({ frames := 0, cells := 0, slots := 0, locals := 0 } : Room).cells ({ frames := 0, cells := 0, slots := 0, locals := 0 } : Room).slots) := by
  refine own_body (own := "com/example/tierstone/tierstone/PageLists") pn_1 rfl (fun m => ef_10 m x0 x1) ?_
  intro p e s m below meth c T0 hx hby hml hown hnm hlk hret hZ X0 e0
  have w_21 := hw _ (List.mem_of_getElem? (i := 21) rfl)
  obtain ⟨BP1, VP1_0, VP1_1, VP1_2, VP1_3, VP1_4, VP1_5⟩ := PL0
  obtain ⟨EB2, FB2_list, FB2_older, FB2_newer, FB2_oldest, FB2_newest, FB2_length⟩ := BP1
  refine g_aloadN X0.here hx (Jvm.hb hby d10_0) (pc' := 1) rfl rfl rfl ?_
  refine g_getF X0 hx hZ hown (host := "") (Or.inl w_21) Via.refl e0 FB2_newer (Jvm.hb hby d10_1) (pc' := 4) rfl ?_
  intro T3 X3 e3
  refine g_iloadN X3.here hx (Jvm.hb hby d10_4) (pc' := 5) rfl rfl ?_
  refine g_iaload X3 hx hZ e3 VP1_2 hp (v := (st 2 x1.toNatClampNeg)) rfl (Jvm.hb hby d10_5) (pc' := 6) rfl ?_
  exact g_retI X3 hx hlk hret (Jvm.hb hby d10_6) (Nat.zero_le _) (Nat.zero_le _) ⟨rfl, rfl, e3⟩
theorem d8_0 : decode prog_64_method_3_code 0 = .ok (.aload_n 0, 1) := by decide +kernel
theorem d8_1 : decode prog_64_method_3_code 1 = .ok (.getfield 35, 3) := by decide +kernel
theorem d8_4 : decode prog_64_method_3_code 4 = .ok (.iload_n 1, 1) := by decide +kernel
theorem d8_5 : decode prog_64_method_3_code 5 = .ok (.iaload, 1) := by decide +kernel
theorem d8_6 : decode prog_64_method_3_code 6 = .ok (.ireturn, 1) := by decide +kernel
theorem ef_8 (m : MethodId) (x0 : Addr) (x1 : Int32) : entryFrame m #[(.ref x0), (.int x1)] 2 = mkF m 0 #[.val (.ref x0), .val (.int x1)] [] := by first | (simp [entryFrame, mkF, argsToLocals, Value.category]; done) | rfl
set_option maxRecDepth 65536 in
set_option maxHeartbeats 40000000 in
theorem rm8 (l : Launch) (Z : State) (a0 : Array Value) (hw : ∀ d ∈ tables_1, d.before a0 Z = true) (ws : List Jvm.Cond) (x0 r0 r1 r2 r3 r4 r5 : Nat) (x1 : Int32) (st : Nat → Nat → Int32) (h0 : Heap) (PL0 : own_PL Z h0 x0 r0 r1 r2 r3 r4 r5 st) (hp : 0 ≤ x1.toInt ∧ x1.toInt < (2 : Nat)) :
    MetFree l (⟨"com/example/tierstone/tierstone/PageLists", "length", "(I)I"⟩ : MethodName) (head1 (Jvm.Cond.code (⟨"com/example/tierstone/tierstone/PageLists", "length", "(I)I"⟩ : MethodName) prog_64_method_3_code 2 (some .int) :: ws) ({ frames := 0, cells := 0, slots := 0, locals := 0 } : Room)) (fun a U => a = #[(.ref x0), (.int x1)] ∧ Z.Warmed39 U.vm ∧ U.heap = h0) (fun _ _ _ _ _ => True) (fun _ U o U' => ∃ v L, o = .returned v ∧ (own_Pure (some (.int (st 5 x1.toNatClampNeg))) h0) v U'.heap L ∧ FrameEnd U o U' L ({ frames := 0, cells := 0, slots := 0, locals := 0 } : Room).cells ({ frames := 0, cells := 0, slots := 0, locals := 0 } : Room).slots) := by
  refine own_body (own := "com/example/tierstone/tierstone/PageLists") pn_1 rfl (fun m => ef_8 m x0 x1) ?_
  intro p e s m below meth c T0 hx hby hml hown hnm hlk hret hZ X0 e0
  have w_30 := hw _ (List.mem_of_getElem? (i := 30) rfl)
  obtain ⟨BP1, VP1_0, VP1_1, VP1_2, VP1_3, VP1_4, VP1_5⟩ := PL0
  obtain ⟨EB2, FB2_list, FB2_older, FB2_newer, FB2_oldest, FB2_newest, FB2_length⟩ := BP1
  refine g_aloadN X0.here hx (Jvm.hb hby d8_0) (pc' := 1) rfl rfl rfl ?_
  refine g_getF X0 hx hZ hown (host := "") (Or.inl w_30) Via.refl e0 FB2_length (Jvm.hb hby d8_1) (pc' := 4) rfl ?_
  intro T3 X3 e3
  refine g_iloadN X3.here hx (Jvm.hb hby d8_4) (pc' := 5) rfl rfl ?_
  refine g_iaload X3 hx hZ e3 VP1_5 hp (v := (st 5 x1.toNatClampNeg)) rfl (Jvm.hb hby d8_5) (pc' := 6) rfl ?_
  exact g_retI X3 hx hlk hret (Jvm.hb hby d8_6) (Nat.zero_le _) (Nat.zero_le _) ⟨rfl, rfl, e3⟩
theorem d9_0 : decode prog_64_method_4_code 0 = .ok (.aload_n 0, 1) := by decide +kernel
theorem d9_1 : decode prog_64_method_4_code 1 = .ok (.getfield 26, 3) := by decide +kernel
theorem d9_4 : decode prog_64_method_4_code 4 = .ok (.iload_n 1, 1) := by decide +kernel
theorem d9_5 : decode prog_64_method_4_code 5 = .ok (.iaload, 1) := by decide +kernel
theorem d9_6 : decode prog_64_method_4_code 6 = .ok (.ireturn, 1) := by decide +kernel
theorem ef_9 (m : MethodId) (x0 : Addr) (x1 : Int32) : entryFrame m #[(.ref x0), (.int x1)] 2 = mkF m 0 #[.val (.ref x0), .val (.int x1)] [] := by first | (simp [entryFrame, mkF, argsToLocals, Value.category]; done) | rfl
set_option maxRecDepth 65536 in
set_option maxHeartbeats 40000000 in
theorem rm9 (l : Launch) (Z : State) (a0 : Array Value) (hw : ∀ d ∈ tables_1, d.before a0 Z = true) (ws : List Jvm.Cond) (x0 r0 r1 r2 r3 r4 r5 : Nat) (x1 : Int32) (st : Nat → Nat → Int32) (h0 : Heap) (PL0 : own_PL Z h0 x0 r0 r1 r2 r3 r4 r5 st) (hp : 0 ≤ x1.toInt ∧ x1.toInt < (2 : Nat)) :
    MetFree l (⟨"com/example/tierstone/tierstone/PageLists", "oldest", "(I)I"⟩ : MethodName) (head1 (Jvm.Cond.code (⟨"com/example/tierstone/tierstone/PageLists", "oldest", "(I)I"⟩ : MethodName) prog_64_method_4_code 2 (some .int) :: ws) ({ frames := 0, cells := 0, slots := 0, locals := 0 } : Room)) (fun a U => a = #[(.ref x0), (.int x1)] ∧ Z.Warmed39 U.vm ∧ U.heap = h0) (fun _ _ _ _ _ => True) (fun _ U o U' => ∃ v L, o = .returned v ∧ (own_Pure (some (.int (st 3 x1.toNatClampNeg))) h0) v U'.heap L ∧ FrameEnd U o U' L ({ frames := 0, cells := 0, slots := 0, locals := 0 } : Room).cells ({ frames := 0, cells := 0, slots := 0, locals := 0 } : Room).slots) := by
  refine own_body (own := "com/example/tierstone/tierstone/PageLists") pn_1 rfl (fun m => ef_9 m x0 x1) ?_
  intro p e s m below meth c T0 hx hby hml hown hnm hlk hret hZ X0 e0
  have w_23 := hw _ (List.mem_of_getElem? (i := 23) rfl)
  obtain ⟨BP1, VP1_0, VP1_1, VP1_2, VP1_3, VP1_4, VP1_5⟩ := PL0
  obtain ⟨EB2, FB2_list, FB2_older, FB2_newer, FB2_oldest, FB2_newest, FB2_length⟩ := BP1
  refine g_aloadN X0.here hx (Jvm.hb hby d9_0) (pc' := 1) rfl rfl rfl ?_
  refine g_getF X0 hx hZ hown (host := "") (Or.inl w_23) Via.refl e0 FB2_oldest (Jvm.hb hby d9_1) (pc' := 4) rfl ?_
  intro T3 X3 e3
  refine g_iloadN X3.here hx (Jvm.hb hby d9_4) (pc' := 5) rfl rfl ?_
  refine g_iaload X3 hx hZ e3 VP1_3 hp (v := (st 3 x1.toNatClampNeg)) rfl (Jvm.hb hby d9_5) (pc' := 6) rfl ?_
  exact g_retI X3 hx hlk hret (Jvm.hb hby d9_6) (Nat.zero_le _) (Nat.zero_le _) ⟨rfl, rfl, e3⟩
theorem own_c0 : (0 : Int32).toNatClampNeg = 0 := rfl
theorem own_c1 : (1 : Int32).toNatClampNeg = 1 := rfl
theorem own_c3 : (3 : Int32).toNatClampNeg = 3 := rfl
theorem own_ap0 (st : Nat → Nat → Int32) (p t : Int32) (i : Nat) : own_ap st p t 0 i = if i = p.toNatClampNeg then t.toInt8.toInt32.toInt8.toInt32 else st 0 i := by
  by_cases q : st 4 t.toNatClampNeg = (-1 : Int32) <;> simp [own_ap, own_up, q]
theorem own_ap1 (st : Nat → Nat → Int32) (p t : Int32) (i : Nat) : own_ap st p t 1 i = if i = p.toNatClampNeg then st 4 t.toNatClampNeg else st 1 i := by
  by_cases q : st 4 t.toNatClampNeg = (-1 : Int32) <;> simp [own_ap, own_up, q]
theorem own_ap2 (st : Nat → Nat → Int32) (p t : Int32) (i : Nat) : own_ap st p t 2 i = if st 4 t.toNatClampNeg = (-1 : Int32) then (if i = p.toNatClampNeg then (-1 : Int32) else st 2 i) else (if i = (st 4 t.toNatClampNeg).toNatClampNeg then p else if i = p.toNatClampNeg then (-1 : Int32) else st 2 i) := by
  by_cases q : st 4 t.toNatClampNeg = (-1 : Int32) <;> simp [own_ap, own_up, q]
theorem own_ap3 (st : Nat → Nat → Int32) (p t : Int32) (i : Nat) : own_ap st p t 3 i = if st 4 t.toNatClampNeg = (-1 : Int32) then (if i = t.toNatClampNeg then p else st 3 i) else st 3 i := by
  by_cases q : st 4 t.toNatClampNeg = (-1 : Int32) <;> simp [own_ap, own_up, q]
theorem own_ap4 (st : Nat → Nat → Int32) (p t : Int32) (i : Nat) : own_ap st p t 4 i = if i = t.toNatClampNeg then p else st 4 i := by
  by_cases q : st 4 t.toNatClampNeg = (-1 : Int32) <;> simp [own_ap, own_up, q]
theorem own_ap5 (st : Nat → Nat → Int32) (p t : Int32) (i : Nat) : own_ap st p t 5 i = if i = t.toNatClampNeg then st 5 t.toNatClampNeg + (1 : Int32) else st 5 i := by
  by_cases q : st 4 t.toNatClampNeg = (-1 : Int32) <;> simp [own_ap, own_up, q]
theorem own_rmA0 (st : Nat → Nat → Int32) (p : Int32) (i : Nat) : own_rm st p 0 i = if i = p.toNatClampNeg then (-1 : Int32) else st 0 i := by
  by_cases q : st 1 p.toNatClampNeg = (-1 : Int32) <;> by_cases q2 : st 2 p.toNatClampNeg = (-1 : Int32) <;> simp [own_rm, own_rm1, own_rm2, own_up, q, q2]
theorem own_rmA1 (st : Nat → Nat → Int32) (p : Int32) (i : Nat) : own_rm st p 1 i = if st 2 p.toNatClampNeg = (-1 : Int32) then st 1 i else (if i = (st 2 p.toNatClampNeg).toNatClampNeg then st 1 p.toNatClampNeg else st 1 i) := by
  by_cases q : st 1 p.toNatClampNeg = (-1 : Int32) <;> by_cases q2 : st 2 p.toNatClampNeg = (-1 : Int32) <;> simp [own_rm, own_rm1, own_rm2, own_up, q, q2]
theorem own_rmA2 (st : Nat → Nat → Int32) (p : Int32) (i : Nat) : own_rm st p 2 i = if st 1 p.toNatClampNeg = (-1 : Int32) then st 2 i else (if i = (st 1 p.toNatClampNeg).toNatClampNeg then st 2 p.toNatClampNeg else st 2 i) := by
  by_cases q : st 1 p.toNatClampNeg = (-1 : Int32) <;> by_cases q2 : st 2 p.toNatClampNeg = (-1 : Int32) <;> simp [own_rm, own_rm1, own_rm2, own_up, q, q2]
theorem own_rmA3 (st : Nat → Nat → Int32) (p : Int32) (i : Nat) : own_rm st p 3 i = if st 1 p.toNatClampNeg = (-1 : Int32) then (if i = (st 0 p.toNatClampNeg).toNatClampNeg then st 2 p.toNatClampNeg else st 3 i) else st 3 i := by
  by_cases q : st 1 p.toNatClampNeg = (-1 : Int32) <;> by_cases q2 : st 2 p.toNatClampNeg = (-1 : Int32) <;> simp [own_rm, own_rm1, own_rm2, own_up, q, q2]
theorem own_rmA4 (st : Nat → Nat → Int32) (p : Int32) (i : Nat) : own_rm st p 4 i = if st 2 p.toNatClampNeg = (-1 : Int32) then (if i = (st 0 p.toNatClampNeg).toNatClampNeg then st 1 p.toNatClampNeg else st 4 i) else st 4 i := by
  by_cases q : st 1 p.toNatClampNeg = (-1 : Int32) <;> by_cases q2 : st 2 p.toNatClampNeg = (-1 : Int32) <;> simp [own_rm, own_rm1, own_rm2, own_up, q, q2]
theorem own_rmA5 (st : Nat → Nat → Int32) (p : Int32) (i : Nat) : own_rm st p 5 i = if i = (st 0 p.toNatClampNeg).toNatClampNeg then st 5 (st 0 p.toNatClampNeg).toNatClampNeg - (1 : Int32) else st 5 i := by
  by_cases q : st 1 p.toNatClampNeg = (-1 : Int32) <;> by_cases q2 : st 2 p.toNatClampNeg = (-1 : Int32) <;> simp [own_rm, own_rm1, own_rm2, own_up, q, q2]
theorem own_s0 (k i : Nat) : own_st0 k i = if k = 0 ∨ k = 3 ∨ k = 4 then (-1 : Int32) else (0 : Int32) := rfl
theorem own_m1 (p : Int32) (h : 0 ≤ p.toInt) : ¬ p = (-1 : Int32) := by
  have k : (-1 : Int32).toInt = -1 := by decide
  rw [← Int32.toInt_inj, k]; omega
theorem own_nn (p q : Int32) (h : 0 ≤ p.toInt) (h' : 0 ≤ q.toInt) (hn : p.toInt ≠ q.toInt) : ¬ p.toNatClampNeg = q.toNatClampNeg := by
  rw [own_clamp, own_clamp]; omega
theorem own_pg (e r a b c : Int32) (hr : ((e &&& (2147483647 : Int32)) % (3 : Int32)) = r) (hb : ((r + (1 : Int32)) % (3 : Int32)) = b) (hc : ((r + (2 : Int32)) % (3 : Int32)) = c) :
    (0 ≤ r.toInt ∧ r.toInt < 3) ∧ (0 ≤ b.toInt ∧ b.toInt < 3) ∧ (0 ≤ c.toInt ∧ c.toInt < 3) ∧ r.toInt ≠ b.toInt ∧ r.toInt ≠ c.toInt ∧ b.toInt ≠ c.toInt := by
  have h3 : r = (0 : Int32) ∨ r = (1 : Int32) ∨ r = (2 : Int32) := by
    have e1 := c_mask e 2147483647 31 (by decide) (by decide)
    have e2 := c_irem (e &&& 2147483647) 3 3 (by decide)
    simp only [Nat.reducePow] at e1
    rw [hr] at e2
    simp only [← Int32.toInt_inj, Int32.reduceToInt]
    omega
  clear hr
  subst hb hc
  rcases h3 with rfl | rfl | rfl <;> decide
theorem own_rg (x : Int32) (h : x = (0 : Int32) ∨ x = (1 : Int32)) : 0 ≤ x.toInt ∧ x.toInt < (2 : Nat) := by rcases h with rfl | rfl <;> decide
theorem own_b8 (x : Int32) (h : x = (0 : Int32) ∨ x = (1 : Int32)) : x.toInt8.toInt32.toInt8.toInt32 = x := by rcases h with rfl | rfl <;> decide
theorem own_PL.ext {Z : State} {h h' : Heap} {x0 r0 r1 r2 r3 r4 r5 : Nat} {st : Nat → Nat → Int32} (V : own_PL Z h x0 r0 r1 r2 r3 r4 r5 st) (E : Ext h h') : own_PL Z h' x0 r0 r1 r2 r3 r4 r5 st := by
  obtain ⟨⟨a, b0, b1, b2, b3, b4, b5⟩, v0, v1, v2, v3, v4, v5⟩ := V
  exact ⟨⟨a.ext E, b0.ext E, b1.ext E, b2.ext E, b3.ext E, b4.ext E, b5.ext E⟩, v0.ext E, v1.ext E, v2.ext E, v3.ext E, v4.ext E, v5.ext E⟩
theorem own_PL.other {Z : State} {h h' : Heap} {x0 r0 r1 r2 r3 r4 r5 : Nat} {st : Nat → Nat → Int32} {a : Nat} {sl : Nat} {v : Value} (V : own_PL Z h x0 r0 r1 r2 r3 r4 r5 st) (W : Wr h h' a sl v) (hord : x0 < r0 ∧ r0 < r1 ∧ r1 < r2 ∧ r2 < r3 ∧ r3 < r4 ∧ r4 < r5) (q : a < x0 ∨ r5 < a) : own_PL Z h' x0 r0 r1 r2 r3 r4 r5 st := by
  obtain ⟨⟨e, b0, b1, b2, b3, b4, b5⟩, v0, v1, v2, v3, v4, v5⟩ := V
  have n : x0 ≠ a := by omega
  have n0 : r0 ≠ a := by omega
  have n1 : r1 ≠ a := by omega
  have n2 : r2 ≠ a := by omega
  have n3 : r3 ≠ a := by omega
  have n4 : r4 ≠ a := by omega
  have n5 : r5 ≠ a := by omega
  exact ⟨⟨e.wr W, b0.other W (Or.inl n), b1.other W (Or.inl n), b2.other W (Or.inl n), b3.other W (Or.inl n), b4.other W (Or.inl n), b5.other W (Or.inl n)⟩, v0.other W n0, v1.other W n1, v2.other W n2, v3.other W n3, v4.other W n4, v5.other W n5⟩
theorem own_PL.lt5 {Z : State} {h : Heap} {x0 r0 r1 r2 r3 r4 r5 : Nat} {st : Nat → Nat → Int32} (V : own_PL Z h x0 r0 r1 r2 r3 r4 r5 st) : @LT.lt Nat _ r5 h.size := V.2.2.2.2.2.2.lt
theorem pd_2 : parseMethodDescriptor "(II)V" = some ⟨[.int, .int], none⟩ := by decide +kernel
theorem own_l0 (q0 q1 q2 t : Int32) (h0 : 0 ≤ q0.toInt ∧ q0.toInt < 3) (h1 : 0 ≤ q1.toInt ∧ q1.toInt < 3) (h2 : 0 ≤ q2.toInt ∧ q2.toInt < 3) (h01 : q0.toInt ≠ q1.toInt) (h02 : q0.toInt ≠ q2.toInt) (h12 : q1.toInt ≠ q2.toInt) (ht : t = (0 : Int32) ∨ t = (1 : Int32)) : own_st0 4 t.toNatClampNeg = (-1 : Int32) ∨ (0 ≤ (own_st0 4 t.toNatClampNeg).toInt ∧ (own_st0 4 t.toNatClampNeg).toInt < (4 : Nat)) := by
  have a0 := own_m1 q0 h0.1
  have a1 := own_m1 q1 h1.1
  have a2 := own_m1 q2 h2.1
  have a3 : ¬ (3 : Int32) = (-1 : Int32) := by decide
  have n01 := own_nn q0 q1 h0.1 h1.1 h01
  have n10 : ¬ q1.toNatClampNeg = q0.toNatClampNeg := fun q => n01 (Eq.symm q)
  have n02 := own_nn q0 q2 h0.1 h2.1 h02
  have n20 : ¬ q2.toNatClampNeg = q0.toNatClampNeg := fun q => n02 (Eq.symm q)
  have n12 := own_nn q1 q2 h1.1 h2.1 h12
  have n21 : ¬ q2.toNatClampNeg = q1.toNatClampNeg := fun q => n12 (Eq.symm q)
  have m0 : ¬ q0.toNatClampNeg = 3 := own_nn q0 3 h0.1 (by decide) (by simp only [Int32.reduceToInt]; omega)
  have k0 : ¬ 3 = q0.toNatClampNeg := fun q => m0 (Eq.symm q)
  have m1 : ¬ q1.toNatClampNeg = 3 := own_nn q1 3 h1.1 (by decide) (by simp only [Int32.reduceToInt]; omega)
  have k1 : ¬ 3 = q1.toNatClampNeg := fun q => m1 (Eq.symm q)
  have m2 : ¬ q2.toNatClampNeg = 3 := own_nn q2 3 h2.1 (by decide) (by simp only [Int32.reduceToInt]; omega)
  have k2 : ¬ 3 = q2.toNatClampNeg := fun q => m2 (Eq.symm q)
  rcases ht with rfl | rfl <;>
  first | (simp [own_c0, own_c1, own_c3, own_ap0, own_ap1, own_ap2, own_ap3, own_ap4, own_ap5, own_rmA0, own_rmA1, own_rmA2, own_rmA3, own_rmA4, own_rmA5, own_s0, a0, a1, a2, a3, n01, n10, n02, n20, n12, n21, m0, m1, m2, k0, k1, k2]; done) | (simp [own_c0, own_c1, own_c3, own_ap0, own_ap1, own_ap2, own_ap3, own_ap4, own_ap5, own_rmA0, own_rmA1, own_rmA2, own_rmA3, own_rmA4, own_rmA5, own_s0, a0, a1, a2, a3, n01, n10, n02, n20, n12, n21, m0, m1, m2, k0, k1, k2]; decide) | (simp [own_c0, own_c1, own_c3, own_ap0, own_ap1, own_ap2, own_ap3, own_ap4, own_ap5, own_rmA0, own_rmA1, own_rmA2, own_rmA3, own_rmA4, own_rmA5, own_s0, a0, a1, a2, a3, n01, n10, n02, n20, n12, n21, m0, m1, m2, k0, k1, k2]; omega)
theorem own_l1 (q0 q1 q2 t : Int32) (h0 : 0 ≤ q0.toInt ∧ q0.toInt < 3) (h1 : 0 ≤ q1.toInt ∧ q1.toInt < 3) (h2 : 0 ≤ q2.toInt ∧ q2.toInt < 3) (h01 : q0.toInt ≠ q1.toInt) (h02 : q0.toInt ≠ q2.toInt) (h12 : q1.toInt ≠ q2.toInt) (ht : t = (0 : Int32) ∨ t = (1 : Int32)) : (0 ≤ ((own_ap own_st0 q0 t) 0 q0.toNatClampNeg).toInt ∧ ((own_ap own_st0 q0 t) 0 q0.toNatClampNeg).toInt < (2 : Nat)) := by
  have a0 := own_m1 q0 h0.1
  have a1 := own_m1 q1 h1.1
  have a2 := own_m1 q2 h2.1
  have a3 : ¬ (3 : Int32) = (-1 : Int32) := by decide
  have n01 := own_nn q0 q1 h0.1 h1.1 h01
  have n10 : ¬ q1.toNatClampNeg = q0.toNatClampNeg := fun q => n01 (Eq.symm q)
  have n02 := own_nn q0 q2 h0.1 h2.1 h02
  have n20 : ¬ q2.toNatClampNeg = q0.toNatClampNeg := fun q => n02 (Eq.symm q)
  have n12 := own_nn q1 q2 h1.1 h2.1 h12
  have n21 : ¬ q2.toNatClampNeg = q1.toNatClampNeg := fun q => n12 (Eq.symm q)
  have m0 : ¬ q0.toNatClampNeg = 3 := own_nn q0 3 h0.1 (by decide) (by simp only [Int32.reduceToInt]; omega)
  have k0 : ¬ 3 = q0.toNatClampNeg := fun q => m0 (Eq.symm q)
  have m1 : ¬ q1.toNatClampNeg = 3 := own_nn q1 3 h1.1 (by decide) (by simp only [Int32.reduceToInt]; omega)
  have k1 : ¬ 3 = q1.toNatClampNeg := fun q => m1 (Eq.symm q)
  have m2 : ¬ q2.toNatClampNeg = 3 := own_nn q2 3 h2.1 (by decide) (by simp only [Int32.reduceToInt]; omega)
  have k2 : ¬ 3 = q2.toNatClampNeg := fun q => m2 (Eq.symm q)
  rcases ht with rfl | rfl <;>
  first | (simp [own_c0, own_c1, own_c3, own_ap0, own_ap1, own_ap2, own_ap3, own_ap4, own_ap5, own_rmA0, own_rmA1, own_rmA2, own_rmA3, own_rmA4, own_rmA5, own_s0, a0, a1, a2, a3, n01, n10, n02, n20, n12, n21, m0, m1, m2, k0, k1, k2]; done) | (simp [own_c0, own_c1, own_c3, own_ap0, own_ap1, own_ap2, own_ap3, own_ap4, own_ap5, own_rmA0, own_rmA1, own_rmA2, own_rmA3, own_rmA4, own_rmA5, own_s0, a0, a1, a2, a3, n01, n10, n02, n20, n12, n21, m0, m1, m2, k0, k1, k2]; decide) | (simp [own_c0, own_c1, own_c3, own_ap0, own_ap1, own_ap2, own_ap3, own_ap4, own_ap5, own_rmA0, own_rmA1, own_rmA2, own_rmA3, own_rmA4, own_rmA5, own_s0, a0, a1, a2, a3, n01, n10, n02, n20, n12, n21, m0, m1, m2, k0, k1, k2]; omega)
theorem own_l2 (q0 q1 q2 t : Int32) (h0 : 0 ≤ q0.toInt ∧ q0.toInt < 3) (h1 : 0 ≤ q1.toInt ∧ q1.toInt < 3) (h2 : 0 ≤ q2.toInt ∧ q2.toInt < 3) (h01 : q0.toInt ≠ q1.toInt) (h02 : q0.toInt ≠ q2.toInt) (h12 : q1.toInt ≠ q2.toInt) (ht : t = (0 : Int32) ∨ t = (1 : Int32)) : (own_ap own_st0 q0 t) 1 q0.toNatClampNeg = (-1 : Int32) ∨ (0 ≤ ((own_ap own_st0 q0 t) 1 q0.toNatClampNeg).toInt ∧ ((own_ap own_st0 q0 t) 1 q0.toNatClampNeg).toInt < (4 : Nat)) := by
  have a0 := own_m1 q0 h0.1
  have a1 := own_m1 q1 h1.1
  have a2 := own_m1 q2 h2.1
  have a3 : ¬ (3 : Int32) = (-1 : Int32) := by decide
  have n01 := own_nn q0 q1 h0.1 h1.1 h01
  have n10 : ¬ q1.toNatClampNeg = q0.toNatClampNeg := fun q => n01 (Eq.symm q)
  have n02 := own_nn q0 q2 h0.1 h2.1 h02
  have n20 : ¬ q2.toNatClampNeg = q0.toNatClampNeg := fun q => n02 (Eq.symm q)
  have n12 := own_nn q1 q2 h1.1 h2.1 h12
  have n21 : ¬ q2.toNatClampNeg = q1.toNatClampNeg := fun q => n12 (Eq.symm q)
  have m0 : ¬ q0.toNatClampNeg = 3 := own_nn q0 3 h0.1 (by decide) (by simp only [Int32.reduceToInt]; omega)
  have k0 : ¬ 3 = q0.toNatClampNeg := fun q => m0 (Eq.symm q)
  have m1 : ¬ q1.toNatClampNeg = 3 := own_nn q1 3 h1.1 (by decide) (by simp only [Int32.reduceToInt]; omega)
  have k1 : ¬ 3 = q1.toNatClampNeg := fun q => m1 (Eq.symm q)
  have m2 : ¬ q2.toNatClampNeg = 3 := own_nn q2 3 h2.1 (by decide) (by simp only [Int32.reduceToInt]; omega)
  have k2 : ¬ 3 = q2.toNatClampNeg := fun q => m2 (Eq.symm q)
  rcases ht with rfl | rfl <;>
  first | (simp [own_c0, own_c1, own_c3, own_ap0, own_ap1, own_ap2, own_ap3, own_ap4, own_ap5, own_rmA0, own_rmA1, own_rmA2, own_rmA3, own_rmA4, own_rmA5, own_s0, a0, a1, a2, a3, n01, n10, n02, n20, n12, n21, m0, m1, m2, k0, k1, k2]; done) | (simp [own_c0, own_c1, own_c3, own_ap0, own_ap1, own_ap2, own_ap3, own_ap4, own_ap5, own_rmA0, own_rmA1, own_rmA2, own_rmA3, own_rmA4, own_rmA5, own_s0, a0, a1, a2, a3, n01, n10, n02, n20, n12, n21, m0, m1, m2, k0, k1, k2]; decide) | (simp [own_c0, own_c1, own_c3, own_ap0, own_ap1, own_ap2, own_ap3, own_ap4, own_ap5, own_rmA0, own_rmA1, own_rmA2, own_rmA3, own_rmA4, own_rmA5, own_s0, a0, a1, a2, a3, n01, n10, n02, n20, n12, n21, m0, m1, m2, k0, k1, k2]; omega)
theorem own_l3 (q0 q1 q2 t : Int32) (h0 : 0 ≤ q0.toInt ∧ q0.toInt < 3) (h1 : 0 ≤ q1.toInt ∧ q1.toInt < 3) (h2 : 0 ≤ q2.toInt ∧ q2.toInt < 3) (h01 : q0.toInt ≠ q1.toInt) (h02 : q0.toInt ≠ q2.toInt) (h12 : q1.toInt ≠ q2.toInt) (ht : t = (0 : Int32) ∨ t = (1 : Int32)) : (own_ap own_st0 q0 t) 2 q0.toNatClampNeg = (-1 : Int32) ∨ (0 ≤ ((own_ap own_st0 q0 t) 2 q0.toNatClampNeg).toInt ∧ ((own_ap own_st0 q0 t) 2 q0.toNatClampNeg).toInt < (4 : Nat)) := by
  have a0 := own_m1 q0 h0.1
  have a1 := own_m1 q1 h1.1
  have a2 := own_m1 q2 h2.1
  have a3 : ¬ (3 : Int32) = (-1 : Int32) := by decide
  have n01 := own_nn q0 q1 h0.1 h1.1 h01
  have n10 : ¬ q1.toNatClampNeg = q0.toNatClampNeg := fun q => n01 (Eq.symm q)
  have n02 := own_nn q0 q2 h0.1 h2.1 h02
  have n20 : ¬ q2.toNatClampNeg = q0.toNatClampNeg := fun q => n02 (Eq.symm q)
  have n12 := own_nn q1 q2 h1.1 h2.1 h12
  have n21 : ¬ q2.toNatClampNeg = q1.toNatClampNeg := fun q => n12 (Eq.symm q)
  have m0 : ¬ q0.toNatClampNeg = 3 := own_nn q0 3 h0.1 (by decide) (by simp only [Int32.reduceToInt]; omega)
  have k0 : ¬ 3 = q0.toNatClampNeg := fun q => m0 (Eq.symm q)
  have m1 : ¬ q1.toNatClampNeg = 3 := own_nn q1 3 h1.1 (by decide) (by simp only [Int32.reduceToInt]; omega)
  have k1 : ¬ 3 = q1.toNatClampNeg := fun q => m1 (Eq.symm q)
  have m2 : ¬ q2.toNatClampNeg = 3 := own_nn q2 3 h2.1 (by decide) (by simp only [Int32.reduceToInt]; omega)
  have k2 : ¬ 3 = q2.toNatClampNeg := fun q => m2 (Eq.symm q)
  rcases ht with rfl | rfl <;>
  first | (simp [own_c0, own_c1, own_c3, own_ap0, own_ap1, own_ap2, own_ap3, own_ap4, own_ap5, own_rmA0, own_rmA1, own_rmA2, own_rmA3, own_rmA4, own_rmA5, own_s0, a0, a1, a2, a3, n01, n10, n02, n20, n12, n21, m0, m1, m2, k0, k1, k2]; done) | (simp [own_c0, own_c1, own_c3, own_ap0, own_ap1, own_ap2, own_ap3, own_ap4, own_ap5, own_rmA0, own_rmA1, own_rmA2, own_rmA3, own_rmA4, own_rmA5, own_s0, a0, a1, a2, a3, n01, n10, n02, n20, n12, n21, m0, m1, m2, k0, k1, k2]; decide) | (simp [own_c0, own_c1, own_c3, own_ap0, own_ap1, own_ap2, own_ap3, own_ap4, own_ap5, own_rmA0, own_rmA1, own_rmA2, own_rmA3, own_rmA4, own_rmA5, own_s0, a0, a1, a2, a3, n01, n10, n02, n20, n12, n21, m0, m1, m2, k0, k1, k2]; omega)
theorem pd_3 : parseMethodDescriptor "(I)V" = some ⟨[.int], none⟩ := by decide +kernel
theorem own_l4 (q0 q1 q2 t : Int32) (h0 : 0 ≤ q0.toInt ∧ q0.toInt < 3) (h1 : 0 ≤ q1.toInt ∧ q1.toInt < 3) (h2 : 0 ≤ q2.toInt ∧ q2.toInt < 3) (h01 : q0.toInt ≠ q1.toInt) (h02 : q0.toInt ≠ q2.toInt) (h12 : q1.toInt ≠ q2.toInt) (ht : t = (0 : Int32) ∨ t = (1 : Int32)) : (own_rm (own_ap own_st0 q0 t) q0) 4 t.toNatClampNeg = (-1 : Int32) ∨ (0 ≤ ((own_rm (own_ap own_st0 q0 t) q0) 4 t.toNatClampNeg).toInt ∧ ((own_rm (own_ap own_st0 q0 t) q0) 4 t.toNatClampNeg).toInt < (4 : Nat)) := by
  have a0 := own_m1 q0 h0.1
  have a1 := own_m1 q1 h1.1
  have a2 := own_m1 q2 h2.1
  have a3 : ¬ (3 : Int32) = (-1 : Int32) := by decide
  have n01 := own_nn q0 q1 h0.1 h1.1 h01
  have n10 : ¬ q1.toNatClampNeg = q0.toNatClampNeg := fun q => n01 (Eq.symm q)
  have n02 := own_nn q0 q2 h0.1 h2.1 h02
  have n20 : ¬ q2.toNatClampNeg = q0.toNatClampNeg := fun q => n02 (Eq.symm q)
  have n12 := own_nn q1 q2 h1.1 h2.1 h12
  have n21 : ¬ q2.toNatClampNeg = q1.toNatClampNeg := fun q => n12 (Eq.symm q)
  have m0 : ¬ q0.toNatClampNeg = 3 := own_nn q0 3 h0.1 (by decide) (by simp only [Int32.reduceToInt]; omega)
  have k0 : ¬ 3 = q0.toNatClampNeg := fun q => m0 (Eq.symm q)
  have m1 : ¬ q1.toNatClampNeg = 3 := own_nn q1 3 h1.1 (by decide) (by simp only [Int32.reduceToInt]; omega)
  have k1 : ¬ 3 = q1.toNatClampNeg := fun q => m1 (Eq.symm q)
  have m2 : ¬ q2.toNatClampNeg = 3 := own_nn q2 3 h2.1 (by decide) (by simp only [Int32.reduceToInt]; omega)
  have k2 : ¬ 3 = q2.toNatClampNeg := fun q => m2 (Eq.symm q)
  rcases ht with rfl | rfl <;>
  first | (simp [own_c0, own_c1, own_c3, own_ap0, own_ap1, own_ap2, own_ap3, own_ap4, own_ap5, own_rmA0, own_rmA1, own_rmA2, own_rmA3, own_rmA4, own_rmA5, own_s0, a0, a1, a2, a3, n01, n10, n02, n20, n12, n21, m0, m1, m2, k0, k1, k2]; done) | (simp [own_c0, own_c1, own_c3, own_ap0, own_ap1, own_ap2, own_ap3, own_ap4, own_ap5, own_rmA0, own_rmA1, own_rmA2, own_rmA3, own_rmA4, own_rmA5, own_s0, a0, a1, a2, a3, n01, n10, n02, n20, n12, n21, m0, m1, m2, k0, k1, k2]; decide) | (simp [own_c0, own_c1, own_c3, own_ap0, own_ap1, own_ap2, own_ap3, own_ap4, own_ap5, own_rmA0, own_rmA1, own_rmA2, own_rmA3, own_rmA4, own_rmA5, own_s0, a0, a1, a2, a3, n01, n10, n02, n20, n12, n21, m0, m1, m2, k0, k1, k2]; omega)
theorem pd_4 : parseMethodDescriptor "(I)I" = some ⟨[.int], some .int⟩ := by decide +kernel
theorem own_l5 (q0 q1 q2 t : Int32) (h0 : 0 ≤ q0.toInt ∧ q0.toInt < 3) (h1 : 0 ≤ q1.toInt ∧ q1.toInt < 3) (h2 : 0 ≤ q2.toInt ∧ q2.toInt < 3) (h01 : q0.toInt ≠ q1.toInt) (h02 : q0.toInt ≠ q2.toInt) (h12 : q1.toInt ≠ q2.toInt) (ht : t = (0 : Int32) ∨ t = (1 : Int32)) : (own_ap (own_rm (own_ap own_st0 q0 t) q0) (3 : Int32) t) 0 q0.toNatClampNeg = (-1 : Int32) := by
  have a0 := own_m1 q0 h0.1
  have a1 := own_m1 q1 h1.1
  have a2 := own_m1 q2 h2.1
  have a3 : ¬ (3 : Int32) = (-1 : Int32) := by decide
  have n01 := own_nn q0 q1 h0.1 h1.1 h01
  have n10 : ¬ q1.toNatClampNeg = q0.toNatClampNeg := fun q => n01 (Eq.symm q)
  have n02 := own_nn q0 q2 h0.1 h2.1 h02
  have n20 : ¬ q2.toNatClampNeg = q0.toNatClampNeg := fun q => n02 (Eq.symm q)
  have n12 := own_nn q1 q2 h1.1 h2.1 h12
  have n21 : ¬ q2.toNatClampNeg = q1.toNatClampNeg := fun q => n12 (Eq.symm q)
  have m0 : ¬ q0.toNatClampNeg = 3 := own_nn q0 3 h0.1 (by decide) (by simp only [Int32.reduceToInt]; omega)
  have k0 : ¬ 3 = q0.toNatClampNeg := fun q => m0 (Eq.symm q)
  have m1 : ¬ q1.toNatClampNeg = 3 := own_nn q1 3 h1.1 (by decide) (by simp only [Int32.reduceToInt]; omega)
  have k1 : ¬ 3 = q1.toNatClampNeg := fun q => m1 (Eq.symm q)
  have m2 : ¬ q2.toNatClampNeg = 3 := own_nn q2 3 h2.1 (by decide) (by simp only [Int32.reduceToInt]; omega)
  have k2 : ¬ 3 = q2.toNatClampNeg := fun q => m2 (Eq.symm q)
  rcases ht with rfl | rfl <;>
  first | (simp [own_c0, own_c1, own_c3, own_ap0, own_ap1, own_ap2, own_ap3, own_ap4, own_ap5, own_rmA0, own_rmA1, own_rmA2, own_rmA3, own_rmA4, own_rmA5, own_s0, a0, a1, a2, a3, n01, n10, n02, n20, n12, n21, m0, m1, m2, k0, k1, k2]; done) | (simp [own_c0, own_c1, own_c3, own_ap0, own_ap1, own_ap2, own_ap3, own_ap4, own_ap5, own_rmA0, own_rmA1, own_rmA2, own_rmA3, own_rmA4, own_rmA5, own_s0, a0, a1, a2, a3, n01, n10, n02, n20, n12, n21, m0, m1, m2, k0, k1, k2]; decide) | (simp [own_c0, own_c1, own_c3, own_ap0, own_ap1, own_ap2, own_ap3, own_ap4, own_ap5, own_rmA0, own_rmA1, own_rmA2, own_rmA3, own_rmA4, own_rmA5, own_s0, a0, a1, a2, a3, n01, n10, n02, n20, n12, n21, m0, m1, m2, k0, k1, k2]; omega)
theorem own_l6 (q0 q1 q2 t : Int32) (h0 : 0 ≤ q0.toInt ∧ q0.toInt < 3) (h1 : 0 ≤ q1.toInt ∧ q1.toInt < 3) (h2 : 0 ≤ q2.toInt ∧ q2.toInt < 3) (h01 : q0.toInt ≠ q1.toInt) (h02 : q0.toInt ≠ q2.toInt) (h12 : q1.toInt ≠ q2.toInt) (ht : t = (0 : Int32) ∨ t = (1 : Int32)) : (own_ap (own_rm (own_ap own_st0 q0 t) q0) (3 : Int32) t) 5 t.toNatClampNeg = ((0 : Int32) + (1 : Int32)) := by
  have a0 := own_m1 q0 h0.1
  have a1 := own_m1 q1 h1.1
  have a2 := own_m1 q2 h2.1
  have a3 : ¬ (3 : Int32) = (-1 : Int32) := by decide
  have n01 := own_nn q0 q1 h0.1 h1.1 h01
  have n10 : ¬ q1.toNatClampNeg = q0.toNatClampNeg := fun q => n01 (Eq.symm q)
  have n02 := own_nn q0 q2 h0.1 h2.1 h02
  have n20 : ¬ q2.toNatClampNeg = q0.toNatClampNeg := fun q => n02 (Eq.symm q)
  have n12 := own_nn q1 q2 h1.1 h2.1 h12
  have n21 : ¬ q2.toNatClampNeg = q1.toNatClampNeg := fun q => n12 (Eq.symm q)
  have m0 : ¬ q0.toNatClampNeg = 3 := own_nn q0 3 h0.1 (by decide) (by simp only [Int32.reduceToInt]; omega)
  have k0 : ¬ 3 = q0.toNatClampNeg := fun q => m0 (Eq.symm q)
  have m1 : ¬ q1.toNatClampNeg = 3 := own_nn q1 3 h1.1 (by decide) (by simp only [Int32.reduceToInt]; omega)
  have k1 : ¬ 3 = q1.toNatClampNeg := fun q => m1 (Eq.symm q)
  have m2 : ¬ q2.toNatClampNeg = 3 := own_nn q2 3 h2.1 (by decide) (by simp only [Int32.reduceToInt]; omega)
  have k2 : ¬ 3 = q2.toNatClampNeg := fun q => m2 (Eq.symm q)
  rcases ht with rfl | rfl <;>
  first | (simp [own_c0, own_c1, own_c3, own_ap0, own_ap1, own_ap2, own_ap3, own_ap4, own_ap5, own_rmA0, own_rmA1, own_rmA2, own_rmA3, own_rmA4, own_rmA5, own_s0, a0, a1, a2, a3, n01, n10, n02, n20, n12, n21, m0, m1, m2, k0, k1, k2]; done) | (simp [own_c0, own_c1, own_c3, own_ap0, own_ap1, own_ap2, own_ap3, own_ap4, own_ap5, own_rmA0, own_rmA1, own_rmA2, own_rmA3, own_rmA4, own_rmA5, own_s0, a0, a1, a2, a3, n01, n10, n02, n20, n12, n21, m0, m1, m2, k0, k1, k2]; decide) | (simp [own_c0, own_c1, own_c3, own_ap0, own_ap1, own_ap2, own_ap3, own_ap4, own_ap5, own_rmA0, own_rmA1, own_rmA2, own_rmA3, own_rmA4, own_rmA5, own_s0, a0, a1, a2, a3, n01, n10, n02, n20, n12, n21, m0, m1, m2, k0, k1, k2]; omega)
theorem own_l7 (q0 q1 q2 t : Int32) (h0 : 0 ≤ q0.toInt ∧ q0.toInt < 3) (h1 : 0 ≤ q1.toInt ∧ q1.toInt < 3) (h2 : 0 ≤ q2.toInt ∧ q2.toInt < 3) (h01 : q0.toInt ≠ q1.toInt) (h02 : q0.toInt ≠ q2.toInt) (h12 : q1.toInt ≠ q2.toInt) (ht : t = (0 : Int32) ∨ t = (1 : Int32)) : (own_ap (own_rm (own_ap own_st0 q0 t) q0) (3 : Int32) t) 3 t.toNatClampNeg = (3 : Int32) := by
  have a0 := own_m1 q0 h0.1
  have a1 := own_m1 q1 h1.1
  have a2 := own_m1 q2 h2.1
  have a3 : ¬ (3 : Int32) = (-1 : Int32) := by decide
  have n01 := own_nn q0 q1 h0.1 h1.1 h01
  have n10 : ¬ q1.toNatClampNeg = q0.toNatClampNeg := fun q => n01 (Eq.symm q)
  have n02 := own_nn q0 q2 h0.1 h2.1 h02
  have n20 : ¬ q2.toNatClampNeg = q0.toNatClampNeg := fun q => n02 (Eq.symm q)
  have n12 := own_nn q1 q2 h1.1 h2.1 h12
  have n21 : ¬ q2.toNatClampNeg = q1.toNatClampNeg := fun q => n12 (Eq.symm q)
  have m0 : ¬ q0.toNatClampNeg = 3 := own_nn q0 3 h0.1 (by decide) (by simp only [Int32.reduceToInt]; omega)
  have k0 : ¬ 3 = q0.toNatClampNeg := fun q => m0 (Eq.symm q)
  have m1 : ¬ q1.toNatClampNeg = 3 := own_nn q1 3 h1.1 (by decide) (by simp only [Int32.reduceToInt]; omega)
  have k1 : ¬ 3 = q1.toNatClampNeg := fun q => m1 (Eq.symm q)
  have m2 : ¬ q2.toNatClampNeg = 3 := own_nn q2 3 h2.1 (by decide) (by simp only [Int32.reduceToInt]; omega)
  have k2 : ¬ 3 = q2.toNatClampNeg := fun q => m2 (Eq.symm q)
  rcases ht with rfl | rfl <;>
  first | (simp [own_c0, own_c1, own_c3, own_ap0, own_ap1, own_ap2, own_ap3, own_ap4, own_ap5, own_rmA0, own_rmA1, own_rmA2, own_rmA3, own_rmA4, own_rmA5, own_s0, a0, a1, a2, a3, n01, n10, n02, n20, n12, n21, m0, m1, m2, k0, k1, k2]; done) | (simp [own_c0, own_c1, own_c3, own_ap0, own_ap1, own_ap2, own_ap3, own_ap4, own_ap5, own_rmA0, own_rmA1, own_rmA2, own_rmA3, own_rmA4, own_rmA5, own_s0, a0, a1, a2, a3, n01, n10, n02, n20, n12, n21, m0, m1, m2, k0, k1, k2]; decide) | (simp [own_c0, own_c1, own_c3, own_ap0, own_ap1, own_ap2, own_ap3, own_ap4, own_ap5, own_rmA0, own_rmA1, own_rmA2, own_rmA3, own_rmA4, own_rmA5, own_s0, a0, a1, a2, a3, n01, n10, n02, n20, n12, n21, m0, m1, m2, k0, k1, k2]; omega)
theorem own_l8 (q0 q1 q2 t : Int32) (h0 : 0 ≤ q0.toInt ∧ q0.toInt < 3) (h1 : 0 ≤ q1.toInt ∧ q1.toInt < 3) (h2 : 0 ≤ q2.toInt ∧ q2.toInt < 3) (h01 : q0.toInt ≠ q1.toInt) (h02 : q0.toInt ≠ q2.toInt) (h12 : q1.toInt ≠ q2.toInt) (ht : t = (0 : Int32) ∨ t = (1 : Int32)) : (own_ap own_st0 q0 t) 4 t.toNatClampNeg = (-1 : Int32) ∨ (0 ≤ ((own_ap own_st0 q0 t) 4 t.toNatClampNeg).toInt ∧ ((own_ap own_st0 q0 t) 4 t.toNatClampNeg).toInt < (4 : Nat)) := by
  have a0 := own_m1 q0 h0.1
  have a1 := own_m1 q1 h1.1
  have a2 := own_m1 q2 h2.1
  have a3 : ¬ (3 : Int32) = (-1 : Int32) := by decide
  have n01 := own_nn q0 q1 h0.1 h1.1 h01
  have n10 : ¬ q1.toNatClampNeg = q0.toNatClampNeg := fun q => n01 (Eq.symm q)
  have n02 := own_nn q0 q2 h0.1 h2.1 h02
  have n20 : ¬ q2.toNatClampNeg = q0.toNatClampNeg := fun q => n02 (Eq.symm q)
  have n12 := own_nn q1 q2 h1.1 h2.1 h12
  have n21 : ¬ q2.toNatClampNeg = q1.toNatClampNeg := fun q => n12 (Eq.symm q)
  have m0 : ¬ q0.toNatClampNeg = 3 := own_nn q0 3 h0.1 (by decide) (by simp only [Int32.reduceToInt]; omega)
  have k0 : ¬ 3 = q0.toNatClampNeg := fun q => m0 (Eq.symm q)
  have m1 : ¬ q1.toNatClampNeg = 3 := own_nn q1 3 h1.1 (by decide) (by simp only [Int32.reduceToInt]; omega)
  have k1 : ¬ 3 = q1.toNatClampNeg := fun q => m1 (Eq.symm q)
  have m2 : ¬ q2.toNatClampNeg = 3 := own_nn q2 3 h2.1 (by decide) (by simp only [Int32.reduceToInt]; omega)
  have k2 : ¬ 3 = q2.toNatClampNeg := fun q => m2 (Eq.symm q)
  rcases ht with rfl | rfl <;>
  first | (simp [own_c0, own_c1, own_c3, own_ap0, own_ap1, own_ap2, own_ap3, own_ap4, own_ap5, own_rmA0, own_rmA1, own_rmA2, own_rmA3, own_rmA4, own_rmA5, own_s0, a0, a1, a2, a3, n01, n10, n02, n20, n12, n21, m0, m1, m2, k0, k1, k2]; done) | (simp [own_c0, own_c1, own_c3, own_ap0, own_ap1, own_ap2, own_ap3, own_ap4, own_ap5, own_rmA0, own_rmA1, own_rmA2, own_rmA3, own_rmA4, own_rmA5, own_s0, a0, a1, a2, a3, n01, n10, n02, n20, n12, n21, m0, m1, m2, k0, k1, k2]; decide) | (simp [own_c0, own_c1, own_c3, own_ap0, own_ap1, own_ap2, own_ap3, own_ap4, own_ap5, own_rmA0, own_rmA1, own_rmA2, own_rmA3, own_rmA4, own_rmA5, own_s0, a0, a1, a2, a3, n01, n10, n02, n20, n12, n21, m0, m1, m2, k0, k1, k2]; omega)
theorem own_l9 (q0 q1 q2 t : Int32) (h0 : 0 ≤ q0.toInt ∧ q0.toInt < 3) (h1 : 0 ≤ q1.toInt ∧ q1.toInt < 3) (h2 : 0 ≤ q2.toInt ∧ q2.toInt < 3) (h01 : q0.toInt ≠ q1.toInt) (h02 : q0.toInt ≠ q2.toInt) (h12 : q1.toInt ≠ q2.toInt) (ht : t = (0 : Int32) ∨ t = (1 : Int32)) : (0 ≤ ((own_ap (own_ap own_st0 q0 t) q1 t) 0 q0.toNatClampNeg).toInt ∧ ((own_ap (own_ap own_st0 q0 t) q1 t) 0 q0.toNatClampNeg).toInt < (2 : Nat)) := by
  have a0 := own_m1 q0 h0.1
  have a1 := own_m1 q1 h1.1
  have a2 := own_m1 q2 h2.1
  have a3 : ¬ (3 : Int32) = (-1 : Int32) := by decide
  have n01 := own_nn q0 q1 h0.1 h1.1 h01
  have n10 : ¬ q1.toNatClampNeg = q0.toNatClampNeg := fun q => n01 (Eq.symm q)
  have n02 := own_nn q0 q2 h0.1 h2.1 h02
  have n20 : ¬ q2.toNatClampNeg = q0.toNatClampNeg := fun q => n02 (Eq.symm q)
  have n12 := own_nn q1 q2 h1.1 h2.1 h12
  have n21 : ¬ q2.toNatClampNeg = q1.toNatClampNeg := fun q => n12 (Eq.symm q)
  have m0 : ¬ q0.toNatClampNeg = 3 := own_nn q0 3 h0.1 (by decide) (by simp only [Int32.reduceToInt]; omega)
  have k0 : ¬ 3 = q0.toNatClampNeg := fun q => m0 (Eq.symm q)
  have m1 : ¬ q1.toNatClampNeg = 3 := own_nn q1 3 h1.1 (by decide) (by simp only [Int32.reduceToInt]; omega)
  have k1 : ¬ 3 = q1.toNatClampNeg := fun q => m1 (Eq.symm q)
  have m2 : ¬ q2.toNatClampNeg = 3 := own_nn q2 3 h2.1 (by decide) (by simp only [Int32.reduceToInt]; omega)
  have k2 : ¬ 3 = q2.toNatClampNeg := fun q => m2 (Eq.symm q)
  rcases ht with rfl | rfl <;>
  first | (simp [own_c0, own_c1, own_c3, own_ap0, own_ap1, own_ap2, own_ap3, own_ap4, own_ap5, own_rmA0, own_rmA1, own_rmA2, own_rmA3, own_rmA4, own_rmA5, own_s0, a0, a1, a2, a3, n01, n10, n02, n20, n12, n21, m0, m1, m2, k0, k1, k2]; done) | (simp [own_c0, own_c1, own_c3, own_ap0, own_ap1, own_ap2, own_ap3, own_ap4, own_ap5, own_rmA0, own_rmA1, own_rmA2, own_rmA3, own_rmA4, own_rmA5, own_s0, a0, a1, a2, a3, n01, n10, n02, n20, n12, n21, m0, m1, m2, k0, k1, k2]; decide) | (simp [own_c0, own_c1, own_c3, own_ap0, own_ap1, own_ap2, own_ap3, own_ap4, own_ap5, own_rmA0, own_rmA1, own_rmA2, own_rmA3, own_rmA4, own_rmA5, own_s0, a0, a1, a2, a3, n01, n10, n02, n20, n12, n21, m0, m1, m2, k0, k1, k2]; omega)
theorem own_l10 (q0 q1 q2 t : Int32) (h0 : 0 ≤ q0.toInt ∧ q0.toInt < 3) (h1 : 0 ≤ q1.toInt ∧ q1.toInt < 3) (h2 : 0 ≤ q2.toInt ∧ q2.toInt < 3) (h01 : q0.toInt ≠ q1.toInt) (h02 : q0.toInt ≠ q2.toInt) (h12 : q1.toInt ≠ q2.toInt) (ht : t = (0 : Int32) ∨ t = (1 : Int32)) : (own_ap (own_ap own_st0 q0 t) q1 t) 1 q0.toNatClampNeg = (-1 : Int32) ∨ (0 ≤ ((own_ap (own_ap own_st0 q0 t) q1 t) 1 q0.toNatClampNeg).toInt ∧ ((own_ap (own_ap own_st0 q0 t) q1 t) 1 q0.toNatClampNeg).toInt < (4 : Nat)) := by
  have a0 := own_m1 q0 h0.1
  have a1 := own_m1 q1 h1.1
  have a2 := own_m1 q2 h2.1
  have a3 : ¬ (3 : Int32) = (-1 : Int32) := by decide
  have n01 := own_nn q0 q1 h0.1 h1.1 h01
  have n10 : ¬ q1.toNatClampNeg = q0.toNatClampNeg := fun q => n01 (Eq.symm q)
  have n02 := own_nn q0 q2 h0.1 h2.1 h02
  have n20 : ¬ q2.toNatClampNeg = q0.toNatClampNeg := fun q => n02 (Eq.symm q)
  have n12 := own_nn q1 q2 h1.1 h2.1 h12
  have n21 : ¬ q2.toNatClampNeg = q1.toNatClampNeg := fun q => n12 (Eq.symm q)
  have m0 : ¬ q0.toNatClampNeg = 3 := own_nn q0 3 h0.1 (by decide) (by simp only [Int32.reduceToInt]; omega)
  have k0 : ¬ 3 = q0.toNatClampNeg := fun q => m0 (Eq.symm q)
  have m1 : ¬ q1.toNatClampNeg = 3 := own_nn q1 3 h1.1 (by decide) (by simp only [Int32.reduceToInt]; omega)
  have k1 : ¬ 3 = q1.toNatClampNeg := fun q => m1 (Eq.symm q)
  have m2 : ¬ q2.toNatClampNeg = 3 := own_nn q2 3 h2.1 (by decide) (by simp only [Int32.reduceToInt]; omega)
  have k2 : ¬ 3 = q2.toNatClampNeg := fun q => m2 (Eq.symm q)
  rcases ht with rfl | rfl <;>
  first | (simp [own_c0, own_c1, own_c3, own_ap0, own_ap1, own_ap2, own_ap3, own_ap4, own_ap5, own_rmA0, own_rmA1, own_rmA2, own_rmA3, own_rmA4, own_rmA5, own_s0, a0, a1, a2, a3, n01, n10, n02, n20, n12, n21, m0, m1, m2, k0, k1, k2]; done) | (simp [own_c0, own_c1, own_c3, own_ap0, own_ap1, own_ap2, own_ap3, own_ap4, own_ap5, own_rmA0, own_rmA1, own_rmA2, own_rmA3, own_rmA4, own_rmA5, own_s0, a0, a1, a2, a3, n01, n10, n02, n20, n12, n21, m0, m1, m2, k0, k1, k2]; decide) | (simp [own_c0, own_c1, own_c3, own_ap0, own_ap1, own_ap2, own_ap3, own_ap4, own_ap5, own_rmA0, own_rmA1, own_rmA2, own_rmA3, own_rmA4, own_rmA5, own_s0, a0, a1, a2, a3, n01, n10, n02, n20, n12, n21, m0, m1, m2, k0, k1, k2]; omega)
theorem own_l11 (q0 q1 q2 t : Int32) (h0 : 0 ≤ q0.toInt ∧ q0.toInt < 3) (h1 : 0 ≤ q1.toInt ∧ q1.toInt < 3) (h2 : 0 ≤ q2.toInt ∧ q2.toInt < 3) (h01 : q0.toInt ≠ q1.toInt) (h02 : q0.toInt ≠ q2.toInt) (h12 : q1.toInt ≠ q2.toInt) (ht : t = (0 : Int32) ∨ t = (1 : Int32)) : (own_ap (own_ap own_st0 q0 t) q1 t) 2 q0.toNatClampNeg = (-1 : Int32) ∨ (0 ≤ ((own_ap (own_ap own_st0 q0 t) q1 t) 2 q0.toNatClampNeg).toInt ∧ ((own_ap (own_ap own_st0 q0 t) q1 t) 2 q0.toNatClampNeg).toInt < (4 : Nat)) := by
  have a0 := own_m1 q0 h0.1
  have a1 := own_m1 q1 h1.1
  have a2 := own_m1 q2 h2.1
  have a3 : ¬ (3 : Int32) = (-1 : Int32) := by decide
  have n01 := own_nn q0 q1 h0.1 h1.1 h01
  have n10 : ¬ q1.toNatClampNeg = q0.toNatClampNeg := fun q => n01 (Eq.symm q)
  have n02 := own_nn q0 q2 h0.1 h2.1 h02
  have n20 : ¬ q2.toNatClampNeg = q0.toNatClampNeg := fun q => n02 (Eq.symm q)
  have n12 := own_nn q1 q2 h1.1 h2.1 h12
  have n21 : ¬ q2.toNatClampNeg = q1.toNatClampNeg := fun q => n12 (Eq.symm q)
  have m0 : ¬ q0.toNatClampNeg = 3 := own_nn q0 3 h0.1 (by decide) (by simp only [Int32.reduceToInt]; omega)
  have k0 : ¬ 3 = q0.toNatClampNeg := fun q => m0 (Eq.symm q)
  have m1 : ¬ q1.toNatClampNeg = 3 := own_nn q1 3 h1.1 (by decide) (by simp only [Int32.reduceToInt]; omega)
  have k1 : ¬ 3 = q1.toNatClampNeg := fun q => m1 (Eq.symm q)
  have m2 : ¬ q2.toNatClampNeg = 3 := own_nn q2 3 h2.1 (by decide) (by simp only [Int32.reduceToInt]; omega)
  have k2 : ¬ 3 = q2.toNatClampNeg := fun q => m2 (Eq.symm q)
  rcases ht with rfl | rfl <;>
  first | (simp [own_c0, own_c1, own_c3, own_ap0, own_ap1, own_ap2, own_ap3, own_ap4, own_ap5, own_rmA0, own_rmA1, own_rmA2, own_rmA3, own_rmA4, own_rmA5, own_s0, a0, a1, a2, a3, n01, n10, n02, n20, n12, n21, m0, m1, m2, k0, k1, k2]; done) | (simp [own_c0, own_c1, own_c3, own_ap0, own_ap1, own_ap2, own_ap3, own_ap4, own_ap5, own_rmA0, own_rmA1, own_rmA2, own_rmA3, own_rmA4, own_rmA5, own_s0, a0, a1, a2, a3, n01, n10, n02, n20, n12, n21, m0, m1, m2, k0, k1, k2]; decide) | (simp [own_c0, own_c1, own_c3, own_ap0, own_ap1, own_ap2, own_ap3, own_ap4, own_ap5, own_rmA0, own_rmA1, own_rmA2, own_rmA3, own_rmA4, own_rmA5, own_s0, a0, a1, a2, a3, n01, n10, n02, n20, n12, n21, m0, m1, m2, k0, k1, k2]; omega)
theorem own_l12 (q0 q1 q2 t : Int32) (h0 : 0 ≤ q0.toInt ∧ q0.toInt < 3) (h1 : 0 ≤ q1.toInt ∧ q1.toInt < 3) (h2 : 0 ≤ q2.toInt ∧ q2.toInt < 3) (h01 : q0.toInt ≠ q1.toInt) (h02 : q0.toInt ≠ q2.toInt) (h12 : q1.toInt ≠ q2.toInt) (ht : t = (0 : Int32) ∨ t = (1 : Int32)) : (own_rm (own_ap (own_ap own_st0 q0 t) q1 t) q0) 4 t.toNatClampNeg = (-1 : Int32) ∨ (0 ≤ ((own_rm (own_ap (own_ap own_st0 q0 t) q1 t) q0) 4 t.toNatClampNeg).toInt ∧ ((own_rm (own_ap (own_ap own_st0 q0 t) q1 t) q0) 4 t.toNatClampNeg).toInt < (4 : Nat)) := by
  have a0 := own_m1 q0 h0.1
  have a1 := own_m1 q1 h1.1
  have a2 := own_m1 q2 h2.1
  have a3 : ¬ (3 : Int32) = (-1 : Int32) := by decide
  have n01 := own_nn q0 q1 h0.1 h1.1 h01
  have n10 : ¬ q1.toNatClampNeg = q0.toNatClampNeg := fun q => n01 (Eq.symm q)
  have n02 := own_nn q0 q2 h0.1 h2.1 h02
  have n20 : ¬ q2.toNatClampNeg = q0.toNatClampNeg := fun q => n02 (Eq.symm q)
  have n12 := own_nn q1 q2 h1.1 h2.1 h12
  have n21 : ¬ q2.toNatClampNeg = q1.toNatClampNeg := fun q => n12 (Eq.symm q)
  have m0 : ¬ q0.toNatClampNeg = 3 := own_nn q0 3 h0.1 (by decide) (by simp only [Int32.reduceToInt]; omega)
  have k0 : ¬ 3 = q0.toNatClampNeg := fun q => m0 (Eq.symm q)
  have m1 : ¬ q1.toNatClampNeg = 3 := own_nn q1 3 h1.1 (by decide) (by simp only [Int32.reduceToInt]; omega)
  have k1 : ¬ 3 = q1.toNatClampNeg := fun q => m1 (Eq.symm q)
  have m2 : ¬ q2.toNatClampNeg = 3 := own_nn q2 3 h2.1 (by decide) (by simp only [Int32.reduceToInt]; omega)
  have k2 : ¬ 3 = q2.toNatClampNeg := fun q => m2 (Eq.symm q)
  rcases ht with rfl | rfl <;>
  first | (simp [own_c0, own_c1, own_c3, own_ap0, own_ap1, own_ap2, own_ap3, own_ap4, own_ap5, own_rmA0, own_rmA1, own_rmA2, own_rmA3, own_rmA4, own_rmA5, own_s0, a0, a1, a2, a3, n01, n10, n02, n20, n12, n21, m0, m1, m2, k0, k1, k2]; done) | (simp [own_c0, own_c1, own_c3, own_ap0, own_ap1, own_ap2, own_ap3, own_ap4, own_ap5, own_rmA0, own_rmA1, own_rmA2, own_rmA3, own_rmA4, own_rmA5, own_s0, a0, a1, a2, a3, n01, n10, n02, n20, n12, n21, m0, m1, m2, k0, k1, k2]; decide) | (simp [own_c0, own_c1, own_c3, own_ap0, own_ap1, own_ap2, own_ap3, own_ap4, own_ap5, own_rmA0, own_rmA1, own_rmA2, own_rmA3, own_rmA4, own_rmA5, own_s0, a0, a1, a2, a3, n01, n10, n02, n20, n12, n21, m0, m1, m2, k0, k1, k2]; omega)
theorem own_l13 (q0 q1 q2 t : Int32) (h0 : 0 ≤ q0.toInt ∧ q0.toInt < 3) (h1 : 0 ≤ q1.toInt ∧ q1.toInt < 3) (h2 : 0 ≤ q2.toInt ∧ q2.toInt < 3) (h01 : q0.toInt ≠ q1.toInt) (h02 : q0.toInt ≠ q2.toInt) (h12 : q1.toInt ≠ q2.toInt) (ht : t = (0 : Int32) ∨ t = (1 : Int32)) : (own_ap (own_rm (own_ap (own_ap own_st0 q0 t) q1 t) q0) (3 : Int32) t) 0 q0.toNatClampNeg = (-1 : Int32) := by
  have a0 := own_m1 q0 h0.1
  have a1 := own_m1 q1 h1.1
  have a2 := own_m1 q2 h2.1
  have a3 : ¬ (3 : Int32) = (-1 : Int32) := by decide
  have n01 := own_nn q0 q1 h0.1 h1.1 h01
  have n10 : ¬ q1.toNatClampNeg = q0.toNatClampNeg := fun q => n01 (Eq.symm q)
  have n02 := own_nn q0 q2 h0.1 h2.1 h02
  have n20 : ¬ q2.toNatClampNeg = q0.toNatClampNeg := fun q => n02 (Eq.symm q)
  have n12 := own_nn q1 q2 h1.1 h2.1 h12
  have n21 : ¬ q2.toNatClampNeg = q1.toNatClampNeg := fun q => n12 (Eq.symm q)
  have m0 : ¬ q0.toNatClampNeg = 3 := own_nn q0 3 h0.1 (by decide) (by simp only [Int32.reduceToInt]; omega)
  have k0 : ¬ 3 = q0.toNatClampNeg := fun q => m0 (Eq.symm q)
  have m1 : ¬ q1.toNatClampNeg = 3 := own_nn q1 3 h1.1 (by decide) (by simp only [Int32.reduceToInt]; omega)
  have k1 : ¬ 3 = q1.toNatClampNeg := fun q => m1 (Eq.symm q)
  have m2 : ¬ q2.toNatClampNeg = 3 := own_nn q2 3 h2.1 (by decide) (by simp only [Int32.reduceToInt]; omega)
  have k2 : ¬ 3 = q2.toNatClampNeg := fun q => m2 (Eq.symm q)
  rcases ht with rfl | rfl <;>
  first | (simp [own_c0, own_c1, own_c3, own_ap0, own_ap1, own_ap2, own_ap3, own_ap4, own_ap5, own_rmA0, own_rmA1, own_rmA2, own_rmA3, own_rmA4, own_rmA5, own_s0, a0, a1, a2, a3, n01, n10, n02, n20, n12, n21, m0, m1, m2, k0, k1, k2]; done) | (simp [own_c0, own_c1, own_c3, own_ap0, own_ap1, own_ap2, own_ap3, own_ap4, own_ap5, own_rmA0, own_rmA1, own_rmA2, own_rmA3, own_rmA4, own_rmA5, own_s0, a0, a1, a2, a3, n01, n10, n02, n20, n12, n21, m0, m1, m2, k0, k1, k2]; decide) | (simp [own_c0, own_c1, own_c3, own_ap0, own_ap1, own_ap2, own_ap3, own_ap4, own_ap5, own_rmA0, own_rmA1, own_rmA2, own_rmA3, own_rmA4, own_rmA5, own_s0, a0, a1, a2, a3, n01, n10, n02, n20, n12, n21, m0, m1, m2, k0, k1, k2]; omega)
theorem own_l14 (q0 q1 q2 t : Int32) (h0 : 0 ≤ q0.toInt ∧ q0.toInt < 3) (h1 : 0 ≤ q1.toInt ∧ q1.toInt < 3) (h2 : 0 ≤ q2.toInt ∧ q2.toInt < 3) (h01 : q0.toInt ≠ q1.toInt) (h02 : q0.toInt ≠ q2.toInt) (h12 : q1.toInt ≠ q2.toInt) (ht : t = (0 : Int32) ∨ t = (1 : Int32)) : (own_ap (own_rm (own_ap (own_ap own_st0 q0 t) q1 t) q0) (3 : Int32) t) 5 t.toNatClampNeg = ((1 : Int32) + (1 : Int32)) := by
  have a0 := own_m1 q0 h0.1
  have a1 := own_m1 q1 h1.1
  have a2 := own_m1 q2 h2.1
  have a3 : ¬ (3 : Int32) = (-1 : Int32) := by decide
  have n01 := own_nn q0 q1 h0.1 h1.1 h01
  have n10 : ¬ q1.toNatClampNeg = q0.toNatClampNeg := fun q => n01 (Eq.symm q)
  have n02 := own_nn q0 q2 h0.1 h2.1 h02
  have n20 : ¬ q2.toNatClampNeg = q0.toNatClampNeg := fun q => n02 (Eq.symm q)
  have n12 := own_nn q1 q2 h1.1 h2.1 h12
  have n21 : ¬ q2.toNatClampNeg = q1.toNatClampNeg := fun q => n12 (Eq.symm q)
  have m0 : ¬ q0.toNatClampNeg = 3 := own_nn q0 3 h0.1 (by decide) (by simp only [Int32.reduceToInt]; omega)
  have k0 : ¬ 3 = q0.toNatClampNeg := fun q => m0 (Eq.symm q)
  have m1 : ¬ q1.toNatClampNeg = 3 := own_nn q1 3 h1.1 (by decide) (by simp only [Int32.reduceToInt]; omega)
  have k1 : ¬ 3 = q1.toNatClampNeg := fun q => m1 (Eq.symm q)
  have m2 : ¬ q2.toNatClampNeg = 3 := own_nn q2 3 h2.1 (by decide) (by simp only [Int32.reduceToInt]; omega)
  have k2 : ¬ 3 = q2.toNatClampNeg := fun q => m2 (Eq.symm q)
  rcases ht with rfl | rfl <;>
  first | (simp [own_c0, own_c1, own_c3, own_ap0, own_ap1, own_ap2, own_ap3, own_ap4, own_ap5, own_rmA0, own_rmA1, own_rmA2, own_rmA3, own_rmA4, own_rmA5, own_s0, a0, a1, a2, a3, n01, n10, n02, n20, n12, n21, m0, m1, m2, k0, k1, k2]; done) | (simp [own_c0, own_c1, own_c3, own_ap0, own_ap1, own_ap2, own_ap3, own_ap4, own_ap5, own_rmA0, own_rmA1, own_rmA2, own_rmA3, own_rmA4, own_rmA5, own_s0, a0, a1, a2, a3, n01, n10, n02, n20, n12, n21, m0, m1, m2, k0, k1, k2]; decide) | (simp [own_c0, own_c1, own_c3, own_ap0, own_ap1, own_ap2, own_ap3, own_ap4, own_ap5, own_rmA0, own_rmA1, own_rmA2, own_rmA3, own_rmA4, own_rmA5, own_s0, a0, a1, a2, a3, n01, n10, n02, n20, n12, n21, m0, m1, m2, k0, k1, k2]; omega)
theorem own_l15 (q0 q1 q2 t : Int32) (h0 : 0 ≤ q0.toInt ∧ q0.toInt < 3) (h1 : 0 ≤ q1.toInt ∧ q1.toInt < 3) (h2 : 0 ≤ q2.toInt ∧ q2.toInt < 3) (h01 : q0.toInt ≠ q1.toInt) (h02 : q0.toInt ≠ q2.toInt) (h12 : q1.toInt ≠ q2.toInt) (ht : t = (0 : Int32) ∨ t = (1 : Int32)) : (own_ap (own_rm (own_ap (own_ap own_st0 q0 t) q1 t) q0) (3 : Int32) t) 3 t.toNatClampNeg = q1 := by
  have a0 := own_m1 q0 h0.1
  have a1 := own_m1 q1 h1.1
  have a2 := own_m1 q2 h2.1
  have a3 : ¬ (3 : Int32) = (-1 : Int32) := by decide
  have n01 := own_nn q0 q1 h0.1 h1.1 h01
  have n10 : ¬ q1.toNatClampNeg = q0.toNatClampNeg := fun q => n01 (Eq.symm q)
  have n02 := own_nn q0 q2 h0.1 h2.1 h02
  have n20 : ¬ q2.toNatClampNeg = q0.toNatClampNeg := fun q => n02 (Eq.symm q)
  have n12 := own_nn q1 q2 h1.1 h2.1 h12
  have n21 : ¬ q2.toNatClampNeg = q1.toNatClampNeg := fun q => n12 (Eq.symm q)
  have m0 : ¬ q0.toNatClampNeg = 3 := own_nn q0 3 h0.1 (by decide) (by simp only [Int32.reduceToInt]; omega)
  have k0 : ¬ 3 = q0.toNatClampNeg := fun q => m0 (Eq.symm q)
  have m1 : ¬ q1.toNatClampNeg = 3 := own_nn q1 3 h1.1 (by decide) (by simp only [Int32.reduceToInt]; omega)
  have k1 : ¬ 3 = q1.toNatClampNeg := fun q => m1 (Eq.symm q)
  have m2 : ¬ q2.toNatClampNeg = 3 := own_nn q2 3 h2.1 (by decide) (by simp only [Int32.reduceToInt]; omega)
  have k2 : ¬ 3 = q2.toNatClampNeg := fun q => m2 (Eq.symm q)
  rcases ht with rfl | rfl <;>
  first | (simp [own_c0, own_c1, own_c3, own_ap0, own_ap1, own_ap2, own_ap3, own_ap4, own_ap5, own_rmA0, own_rmA1, own_rmA2, own_rmA3, own_rmA4, own_rmA5, own_s0, a0, a1, a2, a3, n01, n10, n02, n20, n12, n21, m0, m1, m2, k0, k1, k2]; done) | (simp [own_c0, own_c1, own_c3, own_ap0, own_ap1, own_ap2, own_ap3, own_ap4, own_ap5, own_rmA0, own_rmA1, own_rmA2, own_rmA3, own_rmA4, own_rmA5, own_s0, a0, a1, a2, a3, n01, n10, n02, n20, n12, n21, m0, m1, m2, k0, k1, k2]; decide) | (simp [own_c0, own_c1, own_c3, own_ap0, own_ap1, own_ap2, own_ap3, own_ap4, own_ap5, own_rmA0, own_rmA1, own_rmA2, own_rmA3, own_rmA4, own_rmA5, own_s0, a0, a1, a2, a3, n01, n10, n02, n20, n12, n21, m0, m1, m2, k0, k1, k2]; omega)
theorem own_l16 (q0 q1 q2 t : Int32) (h0 : 0 ≤ q0.toInt ∧ q0.toInt < 3) (h1 : 0 ≤ q1.toInt ∧ q1.toInt < 3) (h2 : 0 ≤ q2.toInt ∧ q2.toInt < 3) (h01 : q0.toInt ≠ q1.toInt) (h02 : q0.toInt ≠ q2.toInt) (h12 : q1.toInt ≠ q2.toInt) (ht : t = (0 : Int32) ∨ t = (1 : Int32)) : (own_ap (own_rm (own_ap (own_ap own_st0 q0 t) q1 t) q0) (3 : Int32) t) 2 q1.toNatClampNeg = (3 : Int32) := by
  have a0 := own_m1 q0 h0.1
  have a1 := own_m1 q1 h1.1
  have a2 := own_m1 q2 h2.1
  have a3 : ¬ (3 : Int32) = (-1 : Int32) := by decide
  have n01 := own_nn q0 q1 h0.1 h1.1 h01
  have n10 : ¬ q1.toNatClampNeg = q0.toNatClampNeg := fun q => n01 (Eq.symm q)
  have n02 := own_nn q0 q2 h0.1 h2.1 h02
  have n20 : ¬ q2.toNatClampNeg = q0.toNatClampNeg := fun q => n02 (Eq.symm q)
  have n12 := own_nn q1 q2 h1.1 h2.1 h12
  have n21 : ¬ q2.toNatClampNeg = q1.toNatClampNeg := fun q => n12 (Eq.symm q)
  have m0 : ¬ q0.toNatClampNeg = 3 := own_nn q0 3 h0.1 (by decide) (by simp only [Int32.reduceToInt]; omega)
  have k0 : ¬ 3 = q0.toNatClampNeg := fun q => m0 (Eq.symm q)
  have m1 : ¬ q1.toNatClampNeg = 3 := own_nn q1 3 h1.1 (by decide) (by simp only [Int32.reduceToInt]; omega)
  have k1 : ¬ 3 = q1.toNatClampNeg := fun q => m1 (Eq.symm q)
  have m2 : ¬ q2.toNatClampNeg = 3 := own_nn q2 3 h2.1 (by decide) (by simp only [Int32.reduceToInt]; omega)
  have k2 : ¬ 3 = q2.toNatClampNeg := fun q => m2 (Eq.symm q)
  rcases ht with rfl | rfl <;>
  first | (simp [own_c0, own_c1, own_c3, own_ap0, own_ap1, own_ap2, own_ap3, own_ap4, own_ap5, own_rmA0, own_rmA1, own_rmA2, own_rmA3, own_rmA4, own_rmA5, own_s0, a0, a1, a2, a3, n01, n10, n02, n20, n12, n21, m0, m1, m2, k0, k1, k2]; done) | (simp [own_c0, own_c1, own_c3, own_ap0, own_ap1, own_ap2, own_ap3, own_ap4, own_ap5, own_rmA0, own_rmA1, own_rmA2, own_rmA3, own_rmA4, own_rmA5, own_s0, a0, a1, a2, a3, n01, n10, n02, n20, n12, n21, m0, m1, m2, k0, k1, k2]; decide) | (simp [own_c0, own_c1, own_c3, own_ap0, own_ap1, own_ap2, own_ap3, own_ap4, own_ap5, own_rmA0, own_rmA1, own_rmA2, own_rmA3, own_rmA4, own_rmA5, own_s0, a0, a1, a2, a3, n01, n10, n02, n20, n12, n21, m0, m1, m2, k0, k1, k2]; omega)
theorem own_l17 (q0 q1 q2 t : Int32) (h0 : 0 ≤ q0.toInt ∧ q0.toInt < 3) (h1 : 0 ≤ q1.toInt ∧ q1.toInt < 3) (h2 : 0 ≤ q2.toInt ∧ q2.toInt < 3) (h01 : q0.toInt ≠ q1.toInt) (h02 : q0.toInt ≠ q2.toInt) (h12 : q1.toInt ≠ q2.toInt) (ht : t = (0 : Int32) ∨ t = (1 : Int32)) : (0 ≤ ((own_rm (own_ap (own_ap own_st0 q0 t) q1 t) q0) 0 q1.toNatClampNeg).toInt ∧ ((own_rm (own_ap (own_ap own_st0 q0 t) q1 t) q0) 0 q1.toNatClampNeg).toInt < (2 : Nat)) := by
  have a0 := own_m1 q0 h0.1
  have a1 := own_m1 q1 h1.1
  have a2 := own_m1 q2 h2.1
  have a3 : ¬ (3 : Int32) = (-1 : Int32) := by decide
  have n01 := own_nn q0 q1 h0.1 h1.1 h01
  have n10 : ¬ q1.toNatClampNeg = q0.toNatClampNeg := fun q => n01 (Eq.symm q)
  have n02 := own_nn q0 q2 h0.1 h2.1 h02
  have n20 : ¬ q2.toNatClampNeg = q0.toNatClampNeg := fun q => n02 (Eq.symm q)
  have n12 := own_nn q1 q2 h1.1 h2.1 h12
  have n21 : ¬ q2.toNatClampNeg = q1.toNatClampNeg := fun q => n12 (Eq.symm q)
  have m0 : ¬ q0.toNatClampNeg = 3 := own_nn q0 3 h0.1 (by decide) (by simp only [Int32.reduceToInt]; omega)
  have k0 : ¬ 3 = q0.toNatClampNeg := fun q => m0 (Eq.symm q)
  have m1 : ¬ q1.toNatClampNeg = 3 := own_nn q1 3 h1.1 (by decide) (by simp only [Int32.reduceToInt]; omega)
  have k1 : ¬ 3 = q1.toNatClampNeg := fun q => m1 (Eq.symm q)
  have m2 : ¬ q2.toNatClampNeg = 3 := own_nn q2 3 h2.1 (by decide) (by simp only [Int32.reduceToInt]; omega)
  have k2 : ¬ 3 = q2.toNatClampNeg := fun q => m2 (Eq.symm q)
  rcases ht with rfl | rfl <;>
  first | (simp [own_c0, own_c1, own_c3, own_ap0, own_ap1, own_ap2, own_ap3, own_ap4, own_ap5, own_rmA0, own_rmA1, own_rmA2, own_rmA3, own_rmA4, own_rmA5, own_s0, a0, a1, a2, a3, n01, n10, n02, n20, n12, n21, m0, m1, m2, k0, k1, k2]; done) | (simp [own_c0, own_c1, own_c3, own_ap0, own_ap1, own_ap2, own_ap3, own_ap4, own_ap5, own_rmA0, own_rmA1, own_rmA2, own_rmA3, own_rmA4, own_rmA5, own_s0, a0, a1, a2, a3, n01, n10, n02, n20, n12, n21, m0, m1, m2, k0, k1, k2]; decide) | (simp [own_c0, own_c1, own_c3, own_ap0, own_ap1, own_ap2, own_ap3, own_ap4, own_ap5, own_rmA0, own_rmA1, own_rmA2, own_rmA3, own_rmA4, own_rmA5, own_s0, a0, a1, a2, a3, n01, n10, n02, n20, n12, n21, m0, m1, m2, k0, k1, k2]; omega)
theorem own_l18 (q0 q1 q2 t : Int32) (h0 : 0 ≤ q0.toInt ∧ q0.toInt < 3) (h1 : 0 ≤ q1.toInt ∧ q1.toInt < 3) (h2 : 0 ≤ q2.toInt ∧ q2.toInt < 3) (h01 : q0.toInt ≠ q1.toInt) (h02 : q0.toInt ≠ q2.toInt) (h12 : q1.toInt ≠ q2.toInt) (ht : t = (0 : Int32) ∨ t = (1 : Int32)) : (own_rm (own_ap (own_ap own_st0 q0 t) q1 t) q0) 1 q1.toNatClampNeg = (-1 : Int32) ∨ (0 ≤ ((own_rm (own_ap (own_ap own_st0 q0 t) q1 t) q0) 1 q1.toNatClampNeg).toInt ∧ ((own_rm (own_ap (own_ap own_st0 q0 t) q1 t) q0) 1 q1.toNatClampNeg).toInt < (4 : Nat)) := by
  have a0 := own_m1 q0 h0.1
  have a1 := own_m1 q1 h1.1
  have a2 := own_m1 q2 h2.1
  have a3 : ¬ (3 : Int32) = (-1 : Int32) := by decide
  have n01 := own_nn q0 q1 h0.1 h1.1 h01
  have n10 : ¬ q1.toNatClampNeg = q0.toNatClampNeg := fun q => n01 (Eq.symm q)
  have n02 := own_nn q0 q2 h0.1 h2.1 h02
  have n20 : ¬ q2.toNatClampNeg = q0.toNatClampNeg := fun q => n02 (Eq.symm q)
  have n12 := own_nn q1 q2 h1.1 h2.1 h12
  have n21 : ¬ q2.toNatClampNeg = q1.toNatClampNeg := fun q => n12 (Eq.symm q)
  have m0 : ¬ q0.toNatClampNeg = 3 := own_nn q0 3 h0.1 (by decide) (by simp only [Int32.reduceToInt]; omega)
  have k0 : ¬ 3 = q0.toNatClampNeg := fun q => m0 (Eq.symm q)
  have m1 : ¬ q1.toNatClampNeg = 3 := own_nn q1 3 h1.1 (by decide) (by simp only [Int32.reduceToInt]; omega)
  have k1 : ¬ 3 = q1.toNatClampNeg := fun q => m1 (Eq.symm q)
  have m2 : ¬ q2.toNatClampNeg = 3 := own_nn q2 3 h2.1 (by decide) (by simp only [Int32.reduceToInt]; omega)
  have k2 : ¬ 3 = q2.toNatClampNeg := fun q => m2 (Eq.symm q)
  rcases ht with rfl | rfl <;>
  first | (simp [own_c0, own_c1, own_c3, own_ap0, own_ap1, own_ap2, own_ap3, own_ap4, own_ap5, own_rmA0, own_rmA1, own_rmA2, own_rmA3, own_rmA4, own_rmA5, own_s0, a0, a1, a2, a3, n01, n10, n02, n20, n12, n21, m0, m1, m2, k0, k1, k2]; done) | (simp [own_c0, own_c1, own_c3, own_ap0, own_ap1, own_ap2, own_ap3, own_ap4, own_ap5, own_rmA0, own_rmA1, own_rmA2, own_rmA3, own_rmA4, own_rmA5, own_s0, a0, a1, a2, a3, n01, n10, n02, n20, n12, n21, m0, m1, m2, k0, k1, k2]; decide) | (simp [own_c0, own_c1, own_c3, own_ap0, own_ap1, own_ap2, own_ap3, own_ap4, own_ap5, own_rmA0, own_rmA1, own_rmA2, own_rmA3, own_rmA4, own_rmA5, own_s0, a0, a1, a2, a3, n01, n10, n02, n20, n12, n21, m0, m1, m2, k0, k1, k2]; omega)
theorem own_l19 (q0 q1 q2 t : Int32) (h0 : 0 ≤ q0.toInt ∧ q0.toInt < 3) (h1 : 0 ≤ q1.toInt ∧ q1.toInt < 3) (h2 : 0 ≤ q2.toInt ∧ q2.toInt < 3) (h01 : q0.toInt ≠ q1.toInt) (h02 : q0.toInt ≠ q2.toInt) (h12 : q1.toInt ≠ q2.toInt) (ht : t = (0 : Int32) ∨ t = (1 : Int32)) : (own_rm (own_ap (own_ap own_st0 q0 t) q1 t) q0) 2 q1.toNatClampNeg = (-1 : Int32) ∨ (0 ≤ ((own_rm (own_ap (own_ap own_st0 q0 t) q1 t) q0) 2 q1.toNatClampNeg).toInt ∧ ((own_rm (own_ap (own_ap own_st0 q0 t) q1 t) q0) 2 q1.toNatClampNeg).toInt < (4 : Nat)) := by
  have a0 := own_m1 q0 h0.1
  have a1 := own_m1 q1 h1.1
  have a2 := own_m1 q2 h2.1
  have a3 : ¬ (3 : Int32) = (-1 : Int32) := by decide
  have n01 := own_nn q0 q1 h0.1 h1.1 h01
  have n10 : ¬ q1.toNatClampNeg = q0.toNatClampNeg := fun q => n01 (Eq.symm q)
  have n02 := own_nn q0 q2 h0.1 h2.1 h02
  have n20 : ¬ q2.toNatClampNeg = q0.toNatClampNeg := fun q => n02 (Eq.symm q)
  have n12 := own_nn q1 q2 h1.1 h2.1 h12
  have n21 : ¬ q2.toNatClampNeg = q1.toNatClampNeg := fun q => n12 (Eq.symm q)
  have m0 : ¬ q0.toNatClampNeg = 3 := own_nn q0 3 h0.1 (by decide) (by simp only [Int32.reduceToInt]; omega)
  have k0 : ¬ 3 = q0.toNatClampNeg := fun q => m0 (Eq.symm q)
  have m1 : ¬ q1.toNatClampNeg = 3 := own_nn q1 3 h1.1 (by decide) (by simp only [Int32.reduceToInt]; omega)
  have k1 : ¬ 3 = q1.toNatClampNeg := fun q => m1 (Eq.symm q)
  have m2 : ¬ q2.toNatClampNeg = 3 := own_nn q2 3 h2.1 (by decide) (by simp only [Int32.reduceToInt]; omega)
  have k2 : ¬ 3 = q2.toNatClampNeg := fun q => m2 (Eq.symm q)
  rcases ht with rfl | rfl <;>
  first | (simp [own_c0, own_c1, own_c3, own_ap0, own_ap1, own_ap2, own_ap3, own_ap4, own_ap5, own_rmA0, own_rmA1, own_rmA2, own_rmA3, own_rmA4, own_rmA5, own_s0, a0, a1, a2, a3, n01, n10, n02, n20, n12, n21, m0, m1, m2, k0, k1, k2]; done) | (simp [own_c0, own_c1, own_c3, own_ap0, own_ap1, own_ap2, own_ap3, own_ap4, own_ap5, own_rmA0, own_rmA1, own_rmA2, own_rmA3, own_rmA4, own_rmA5, own_s0, a0, a1, a2, a3, n01, n10, n02, n20, n12, n21, m0, m1, m2, k0, k1, k2]; decide) | (simp [own_c0, own_c1, own_c3, own_ap0, own_ap1, own_ap2, own_ap3, own_ap4, own_ap5, own_rmA0, own_rmA1, own_rmA2, own_rmA3, own_rmA4, own_rmA5, own_s0, a0, a1, a2, a3, n01, n10, n02, n20, n12, n21, m0, m1, m2, k0, k1, k2]; omega)
theorem own_l20 (q0 q1 q2 t : Int32) (h0 : 0 ≤ q0.toInt ∧ q0.toInt < 3) (h1 : 0 ≤ q1.toInt ∧ q1.toInt < 3) (h2 : 0 ≤ q2.toInt ∧ q2.toInt < 3) (h01 : q0.toInt ≠ q1.toInt) (h02 : q0.toInt ≠ q2.toInt) (h12 : q1.toInt ≠ q2.toInt) (ht : t = (0 : Int32) ∨ t = (1 : Int32)) : (own_rm (own_rm (own_ap (own_ap own_st0 q0 t) q1 t) q0) q1) 4 t.toNatClampNeg = (-1 : Int32) ∨ (0 ≤ ((own_rm (own_rm (own_ap (own_ap own_st0 q0 t) q1 t) q0) q1) 4 t.toNatClampNeg).toInt ∧ ((own_rm (own_rm (own_ap (own_ap own_st0 q0 t) q1 t) q0) q1) 4 t.toNatClampNeg).toInt < (4 : Nat)) := by
  have a0 := own_m1 q0 h0.1
  have a1 := own_m1 q1 h1.1
  have a2 := own_m1 q2 h2.1
  have a3 : ¬ (3 : Int32) = (-1 : Int32) := by decide
  have n01 := own_nn q0 q1 h0.1 h1.1 h01
  have n10 : ¬ q1.toNatClampNeg = q0.toNatClampNeg := fun q => n01 (Eq.symm q)
  have n02 := own_nn q0 q2 h0.1 h2.1 h02
  have n20 : ¬ q2.toNatClampNeg = q0.toNatClampNeg := fun q => n02 (Eq.symm q)
  have n12 := own_nn q1 q2 h1.1 h2.1 h12
  have n21 : ¬ q2.toNatClampNeg = q1.toNatClampNeg := fun q => n12 (Eq.symm q)
  have m0 : ¬ q0.toNatClampNeg = 3 := own_nn q0 3 h0.1 (by decide) (by simp only [Int32.reduceToInt]; omega)
  have k0 : ¬ 3 = q0.toNatClampNeg := fun q => m0 (Eq.symm q)
  have m1 : ¬ q1.toNatClampNeg = 3 := own_nn q1 3 h1.1 (by decide) (by simp only [Int32.reduceToInt]; omega)
  have k1 : ¬ 3 = q1.toNatClampNeg := fun q => m1 (Eq.symm q)
  have m2 : ¬ q2.toNatClampNeg = 3 := own_nn q2 3 h2.1 (by decide) (by simp only [Int32.reduceToInt]; omega)
  have k2 : ¬ 3 = q2.toNatClampNeg := fun q => m2 (Eq.symm q)
  rcases ht with rfl | rfl <;>
  first | (simp [own_c0, own_c1, own_c3, own_ap0, own_ap1, own_ap2, own_ap3, own_ap4, own_ap5, own_rmA0, own_rmA1, own_rmA2, own_rmA3, own_rmA4, own_rmA5, own_s0, a0, a1, a2, a3, n01, n10, n02, n20, n12, n21, m0, m1, m2, k0, k1, k2]; done) | (simp [own_c0, own_c1, own_c3, own_ap0, own_ap1, own_ap2, own_ap3, own_ap4, own_ap5, own_rmA0, own_rmA1, own_rmA2, own_rmA3, own_rmA4, own_rmA5, own_s0, a0, a1, a2, a3, n01, n10, n02, n20, n12, n21, m0, m1, m2, k0, k1, k2]; decide) | (simp [own_c0, own_c1, own_c3, own_ap0, own_ap1, own_ap2, own_ap3, own_ap4, own_ap5, own_rmA0, own_rmA1, own_rmA2, own_rmA3, own_rmA4, own_rmA5, own_s0, a0, a1, a2, a3, n01, n10, n02, n20, n12, n21, m0, m1, m2, k0, k1, k2]; omega)
theorem own_l21 (q0 q1 q2 t : Int32) (h0 : 0 ≤ q0.toInt ∧ q0.toInt < 3) (h1 : 0 ≤ q1.toInt ∧ q1.toInt < 3) (h2 : 0 ≤ q2.toInt ∧ q2.toInt < 3) (h01 : q0.toInt ≠ q1.toInt) (h02 : q0.toInt ≠ q2.toInt) (h12 : q1.toInt ≠ q2.toInt) (ht : t = (0 : Int32) ∨ t = (1 : Int32)) : (own_ap (own_rm (own_rm (own_ap (own_ap own_st0 q0 t) q1 t) q0) q1) (3 : Int32) t) 0 q0.toNatClampNeg = (-1 : Int32) := by
  have a0 := own_m1 q0 h0.1
  have a1 := own_m1 q1 h1.1
  have a2 := own_m1 q2 h2.1
  have a3 : ¬ (3 : Int32) = (-1 : Int32) := by decide
  have n01 := own_nn q0 q1 h0.1 h1.1 h01
  have n10 : ¬ q1.toNatClampNeg = q0.toNatClampNeg := fun q => n01 (Eq.symm q)
  have n02 := own_nn q0 q2 h0.1 h2.1 h02
  have n20 : ¬ q2.toNatClampNeg = q0.toNatClampNeg := fun q => n02 (Eq.symm q)
  have n12 := own_nn q1 q2 h1.1 h2.1 h12
  have n21 : ¬ q2.toNatClampNeg = q1.toNatClampNeg := fun q => n12 (Eq.symm q)
  have m0 : ¬ q0.toNatClampNeg = 3 := own_nn q0 3 h0.1 (by decide) (by simp only [Int32.reduceToInt]; omega)
  have k0 : ¬ 3 = q0.toNatClampNeg := fun q => m0 (Eq.symm q)
  have m1 : ¬ q1.toNatClampNeg = 3 := own_nn q1 3 h1.1 (by decide) (by simp only [Int32.reduceToInt]; omega)
  have k1 : ¬ 3 = q1.toNatClampNeg := fun q => m1 (Eq.symm q)
  have m2 : ¬ q2.toNatClampNeg = 3 := own_nn q2 3 h2.1 (by decide) (by simp only [Int32.reduceToInt]; omega)
  have k2 : ¬ 3 = q2.toNatClampNeg := fun q => m2 (Eq.symm q)
  rcases ht with rfl | rfl <;>
  first | (simp [own_c0, own_c1, own_c3, own_ap0, own_ap1, own_ap2, own_ap3, own_ap4, own_ap5, own_rmA0, own_rmA1, own_rmA2, own_rmA3, own_rmA4, own_rmA5, own_s0, a0, a1, a2, a3, n01, n10, n02, n20, n12, n21, m0, m1, m2, k0, k1, k2]; done) | (simp [own_c0, own_c1, own_c3, own_ap0, own_ap1, own_ap2, own_ap3, own_ap4, own_ap5, own_rmA0, own_rmA1, own_rmA2, own_rmA3, own_rmA4, own_rmA5, own_s0, a0, a1, a2, a3, n01, n10, n02, n20, n12, n21, m0, m1, m2, k0, k1, k2]; decide) | (simp [own_c0, own_c1, own_c3, own_ap0, own_ap1, own_ap2, own_ap3, own_ap4, own_ap5, own_rmA0, own_rmA1, own_rmA2, own_rmA3, own_rmA4, own_rmA5, own_s0, a0, a1, a2, a3, n01, n10, n02, n20, n12, n21, m0, m1, m2, k0, k1, k2]; omega)
theorem own_l22 (q0 q1 q2 t : Int32) (h0 : 0 ≤ q0.toInt ∧ q0.toInt < 3) (h1 : 0 ≤ q1.toInt ∧ q1.toInt < 3) (h2 : 0 ≤ q2.toInt ∧ q2.toInt < 3) (h01 : q0.toInt ≠ q1.toInt) (h02 : q0.toInt ≠ q2.toInt) (h12 : q1.toInt ≠ q2.toInt) (ht : t = (0 : Int32) ∨ t = (1 : Int32)) : (own_ap (own_rm (own_rm (own_ap (own_ap own_st0 q0 t) q1 t) q0) q1) (3 : Int32) t) 5 t.toNatClampNeg = ((0 : Int32) + (1 : Int32)) := by
  have a0 := own_m1 q0 h0.1
  have a1 := own_m1 q1 h1.1
  have a2 := own_m1 q2 h2.1
  have a3 : ¬ (3 : Int32) = (-1 : Int32) := by decide
  have n01 := own_nn q0 q1 h0.1 h1.1 h01
  have n10 : ¬ q1.toNatClampNeg = q0.toNatClampNeg := fun q => n01 (Eq.symm q)
  have n02 := own_nn q0 q2 h0.1 h2.1 h02
  have n20 : ¬ q2.toNatClampNeg = q0.toNatClampNeg := fun q => n02 (Eq.symm q)
  have n12 := own_nn q1 q2 h1.1 h2.1 h12
  have n21 : ¬ q2.toNatClampNeg = q1.toNatClampNeg := fun q => n12 (Eq.symm q)
  have m0 : ¬ q0.toNatClampNeg = 3 := own_nn q0 3 h0.1 (by decide) (by simp only [Int32.reduceToInt]; omega)
  have k0 : ¬ 3 = q0.toNatClampNeg := fun q => m0 (Eq.symm q)
  have m1 : ¬ q1.toNatClampNeg = 3 := own_nn q1 3 h1.1 (by decide) (by simp only [Int32.reduceToInt]; omega)
  have k1 : ¬ 3 = q1.toNatClampNeg := fun q => m1 (Eq.symm q)
  have m2 : ¬ q2.toNatClampNeg = 3 := own_nn q2 3 h2.1 (by decide) (by simp only [Int32.reduceToInt]; omega)
  have k2 : ¬ 3 = q2.toNatClampNeg := fun q => m2 (Eq.symm q)
  rcases ht with rfl | rfl <;>
  first | (simp [own_c0, own_c1, own_c3, own_ap0, own_ap1, own_ap2, own_ap3, own_ap4, own_ap5, own_rmA0, own_rmA1, own_rmA2, own_rmA3, own_rmA4, own_rmA5, own_s0, a0, a1, a2, a3, n01, n10, n02, n20, n12, n21, m0, m1, m2, k0, k1, k2]; done) | (simp [own_c0, own_c1, own_c3, own_ap0, own_ap1, own_ap2, own_ap3, own_ap4, own_ap5, own_rmA0, own_rmA1, own_rmA2, own_rmA3, own_rmA4, own_rmA5, own_s0, a0, a1, a2, a3, n01, n10, n02, n20, n12, n21, m0, m1, m2, k0, k1, k2]; decide) | (simp [own_c0, own_c1, own_c3, own_ap0, own_ap1, own_ap2, own_ap3, own_ap4, own_ap5, own_rmA0, own_rmA1, own_rmA2, own_rmA3, own_rmA4, own_rmA5, own_s0, a0, a1, a2, a3, n01, n10, n02, n20, n12, n21, m0, m1, m2, k0, k1, k2]; omega)
theorem own_l23 (q0 q1 q2 t : Int32) (h0 : 0 ≤ q0.toInt ∧ q0.toInt < 3) (h1 : 0 ≤ q1.toInt ∧ q1.toInt < 3) (h2 : 0 ≤ q2.toInt ∧ q2.toInt < 3) (h01 : q0.toInt ≠ q1.toInt) (h02 : q0.toInt ≠ q2.toInt) (h12 : q1.toInt ≠ q2.toInt) (ht : t = (0 : Int32) ∨ t = (1 : Int32)) : (own_ap (own_rm (own_rm (own_ap (own_ap own_st0 q0 t) q1 t) q0) q1) (3 : Int32) t) 3 t.toNatClampNeg = (3 : Int32) := by
  have a0 := own_m1 q0 h0.1
  have a1 := own_m1 q1 h1.1
  have a2 := own_m1 q2 h2.1
  have a3 : ¬ (3 : Int32) = (-1 : Int32) := by decide
  have n01 := own_nn q0 q1 h0.1 h1.1 h01
  have n10 : ¬ q1.toNatClampNeg = q0.toNatClampNeg := fun q => n01 (Eq.symm q)
  have n02 := own_nn q0 q2 h0.1 h2.1 h02
  have n20 : ¬ q2.toNatClampNeg = q0.toNatClampNeg := fun q => n02 (Eq.symm q)
  have n12 := own_nn q1 q2 h1.1 h2.1 h12
  have n21 : ¬ q2.toNatClampNeg = q1.toNatClampNeg := fun q => n12 (Eq.symm q)
  have m0 : ¬ q0.toNatClampNeg = 3 := own_nn q0 3 h0.1 (by decide) (by simp only [Int32.reduceToInt]; omega)
  have k0 : ¬ 3 = q0.toNatClampNeg := fun q => m0 (Eq.symm q)
  have m1 : ¬ q1.toNatClampNeg = 3 := own_nn q1 3 h1.1 (by decide) (by simp only [Int32.reduceToInt]; omega)
  have k1 : ¬ 3 = q1.toNatClampNeg := fun q => m1 (Eq.symm q)
  have m2 : ¬ q2.toNatClampNeg = 3 := own_nn q2 3 h2.1 (by decide) (by simp only [Int32.reduceToInt]; omega)
  have k2 : ¬ 3 = q2.toNatClampNeg := fun q => m2 (Eq.symm q)
  rcases ht with rfl | rfl <;>
  first | (simp [own_c0, own_c1, own_c3, own_ap0, own_ap1, own_ap2, own_ap3, own_ap4, own_ap5, own_rmA0, own_rmA1, own_rmA2, own_rmA3, own_rmA4, own_rmA5, own_s0, a0, a1, a2, a3, n01, n10, n02, n20, n12, n21, m0, m1, m2, k0, k1, k2]; done) | (simp [own_c0, own_c1, own_c3, own_ap0, own_ap1, own_ap2, own_ap3, own_ap4, own_ap5, own_rmA0, own_rmA1, own_rmA2, own_rmA3, own_rmA4, own_rmA5, own_s0, a0, a1, a2, a3, n01, n10, n02, n20, n12, n21, m0, m1, m2, k0, k1, k2]; decide) | (simp [own_c0, own_c1, own_c3, own_ap0, own_ap1, own_ap2, own_ap3, own_ap4, own_ap5, own_rmA0, own_rmA1, own_rmA2, own_rmA3, own_rmA4, own_rmA5, own_s0, a0, a1, a2, a3, n01, n10, n02, n20, n12, n21, m0, m1, m2, k0, k1, k2]; omega)
theorem own_l24 (q0 q1 q2 t : Int32) (h0 : 0 ≤ q0.toInt ∧ q0.toInt < 3) (h1 : 0 ≤ q1.toInt ∧ q1.toInt < 3) (h2 : 0 ≤ q2.toInt ∧ q2.toInt < 3) (h01 : q0.toInt ≠ q1.toInt) (h02 : q0.toInt ≠ q2.toInt) (h12 : q1.toInt ≠ q2.toInt) (ht : t = (0 : Int32) ∨ t = (1 : Int32)) : (0 ≤ ((own_ap (own_ap own_st0 q0 t) q1 t) 0 q1.toNatClampNeg).toInt ∧ ((own_ap (own_ap own_st0 q0 t) q1 t) 0 q1.toNatClampNeg).toInt < (2 : Nat)) := by
  have a0 := own_m1 q0 h0.1
  have a1 := own_m1 q1 h1.1
  have a2 := own_m1 q2 h2.1
  have a3 : ¬ (3 : Int32) = (-1 : Int32) := by decide
  have n01 := own_nn q0 q1 h0.1 h1.1 h01
  have n10 : ¬ q1.toNatClampNeg = q0.toNatClampNeg := fun q => n01 (Eq.symm q)
  have n02 := own_nn q0 q2 h0.1 h2.1 h02
  have n20 : ¬ q2.toNatClampNeg = q0.toNatClampNeg := fun q => n02 (Eq.symm q)
  have n12 := own_nn q1 q2 h1.1 h2.1 h12
  have n21 : ¬ q2.toNatClampNeg = q1.toNatClampNeg := fun q => n12 (Eq.symm q)
  have m0 : ¬ q0.toNatClampNeg = 3 := own_nn q0 3 h0.1 (by decide) (by simp only [Int32.reduceToInt]; omega)
  have k0 : ¬ 3 = q0.toNatClampNeg := fun q => m0 (Eq.symm q)
  have m1 : ¬ q1.toNatClampNeg = 3 := own_nn q1 3 h1.1 (by decide) (by simp only [Int32.reduceToInt]; omega)
  have k1 : ¬ 3 = q1.toNatClampNeg := fun q => m1 (Eq.symm q)
  have m2 : ¬ q2.toNatClampNeg = 3 := own_nn q2 3 h2.1 (by decide) (by simp only [Int32.reduceToInt]; omega)
  have k2 : ¬ 3 = q2.toNatClampNeg := fun q => m2 (Eq.symm q)
  rcases ht with rfl | rfl <;>
  first | (simp [own_c0, own_c1, own_c3, own_ap0, own_ap1, own_ap2, own_ap3, own_ap4, own_ap5, own_rmA0, own_rmA1, own_rmA2, own_rmA3, own_rmA4, own_rmA5, own_s0, a0, a1, a2, a3, n01, n10, n02, n20, n12, n21, m0, m1, m2, k0, k1, k2]; done) | (simp [own_c0, own_c1, own_c3, own_ap0, own_ap1, own_ap2, own_ap3, own_ap4, own_ap5, own_rmA0, own_rmA1, own_rmA2, own_rmA3, own_rmA4, own_rmA5, own_s0, a0, a1, a2, a3, n01, n10, n02, n20, n12, n21, m0, m1, m2, k0, k1, k2]; decide) | (simp [own_c0, own_c1, own_c3, own_ap0, own_ap1, own_ap2, own_ap3, own_ap4, own_ap5, own_rmA0, own_rmA1, own_rmA2, own_rmA3, own_rmA4, own_rmA5, own_s0, a0, a1, a2, a3, n01, n10, n02, n20, n12, n21, m0, m1, m2, k0, k1, k2]; omega)
theorem own_l25 (q0 q1 q2 t : Int32) (h0 : 0 ≤ q0.toInt ∧ q0.toInt < 3) (h1 : 0 ≤ q1.toInt ∧ q1.toInt < 3) (h2 : 0 ≤ q2.toInt ∧ q2.toInt < 3) (h01 : q0.toInt ≠ q1.toInt) (h02 : q0.toInt ≠ q2.toInt) (h12 : q1.toInt ≠ q2.toInt) (ht : t = (0 : Int32) ∨ t = (1 : Int32)) : (own_ap (own_ap own_st0 q0 t) q1 t) 1 q1.toNatClampNeg = (-1 : Int32) ∨ (0 ≤ ((own_ap (own_ap own_st0 q0 t) q1 t) 1 q1.toNatClampNeg).toInt ∧ ((own_ap (own_ap own_st0 q0 t) q1 t) 1 q1.toNatClampNeg).toInt < (4 : Nat)) := by
  have a0 := own_m1 q0 h0.1
  have a1 := own_m1 q1 h1.1
  have a2 := own_m1 q2 h2.1
  have a3 : ¬ (3 : Int32) = (-1 : Int32) := by decide
  have n01 := own_nn q0 q1 h0.1 h1.1 h01
  have n10 : ¬ q1.toNatClampNeg = q0.toNatClampNeg := fun q => n01 (Eq.symm q)
  have n02 := own_nn q0 q2 h0.1 h2.1 h02
  have n20 : ¬ q2.toNatClampNeg = q0.toNatClampNeg := fun q => n02 (Eq.symm q)
  have n12 := own_nn q1 q2 h1.1 h2.1 h12
  have n21 : ¬ q2.toNatClampNeg = q1.toNatClampNeg := fun q => n12 (Eq.symm q)
  have m0 : ¬ q0.toNatClampNeg = 3 := own_nn q0 3 h0.1 (by decide) (by simp only [Int32.reduceToInt]; omega)
  have k0 : ¬ 3 = q0.toNatClampNeg := fun q => m0 (Eq.symm q)
  have m1 : ¬ q1.toNatClampNeg = 3 := own_nn q1 3 h1.1 (by decide) (by simp only [Int32.reduceToInt]; omega)
  have k1 : ¬ 3 = q1.toNatClampNeg := fun q => m1 (Eq.symm q)
  have m2 : ¬ q2.toNatClampNeg = 3 := own_nn q2 3 h2.1 (by decide) (by simp only [Int32.reduceToInt]; omega)
  have k2 : ¬ 3 = q2.toNatClampNeg := fun q => m2 (Eq.symm q)
  rcases ht with rfl | rfl <;>
  first | (simp [own_c0, own_c1, own_c3, own_ap0, own_ap1, own_ap2, own_ap3, own_ap4, own_ap5, own_rmA0, own_rmA1, own_rmA2, own_rmA3, own_rmA4, own_rmA5, own_s0, a0, a1, a2, a3, n01, n10, n02, n20, n12, n21, m0, m1, m2, k0, k1, k2]; done) | (simp [own_c0, own_c1, own_c3, own_ap0, own_ap1, own_ap2, own_ap3, own_ap4, own_ap5, own_rmA0, own_rmA1, own_rmA2, own_rmA3, own_rmA4, own_rmA5, own_s0, a0, a1, a2, a3, n01, n10, n02, n20, n12, n21, m0, m1, m2, k0, k1, k2]; decide) | (simp [own_c0, own_c1, own_c3, own_ap0, own_ap1, own_ap2, own_ap3, own_ap4, own_ap5, own_rmA0, own_rmA1, own_rmA2, own_rmA3, own_rmA4, own_rmA5, own_s0, a0, a1, a2, a3, n01, n10, n02, n20, n12, n21, m0, m1, m2, k0, k1, k2]; omega)
theorem own_l26 (q0 q1 q2 t : Int32) (h0 : 0 ≤ q0.toInt ∧ q0.toInt < 3) (h1 : 0 ≤ q1.toInt ∧ q1.toInt < 3) (h2 : 0 ≤ q2.toInt ∧ q2.toInt < 3) (h01 : q0.toInt ≠ q1.toInt) (h02 : q0.toInt ≠ q2.toInt) (h12 : q1.toInt ≠ q2.toInt) (ht : t = (0 : Int32) ∨ t = (1 : Int32)) : (own_ap (own_ap own_st0 q0 t) q1 t) 2 q1.toNatClampNeg = (-1 : Int32) ∨ (0 ≤ ((own_ap (own_ap own_st0 q0 t) q1 t) 2 q1.toNatClampNeg).toInt ∧ ((own_ap (own_ap own_st0 q0 t) q1 t) 2 q1.toNatClampNeg).toInt < (4 : Nat)) := by
  have a0 := own_m1 q0 h0.1
  have a1 := own_m1 q1 h1.1
  have a2 := own_m1 q2 h2.1
  have a3 : ¬ (3 : Int32) = (-1 : Int32) := by decide
  have n01 := own_nn q0 q1 h0.1 h1.1 h01
  have n10 : ¬ q1.toNatClampNeg = q0.toNatClampNeg := fun q => n01 (Eq.symm q)
  have n02 := own_nn q0 q2 h0.1 h2.1 h02
  have n20 : ¬ q2.toNatClampNeg = q0.toNatClampNeg := fun q => n02 (Eq.symm q)
  have n12 := own_nn q1 q2 h1.1 h2.1 h12
  have n21 : ¬ q2.toNatClampNeg = q1.toNatClampNeg := fun q => n12 (Eq.symm q)
  have m0 : ¬ q0.toNatClampNeg = 3 := own_nn q0 3 h0.1 (by decide) (by simp only [Int32.reduceToInt]; omega)
  have k0 : ¬ 3 = q0.toNatClampNeg := fun q => m0 (Eq.symm q)
  have m1 : ¬ q1.toNatClampNeg = 3 := own_nn q1 3 h1.1 (by decide) (by simp only [Int32.reduceToInt]; omega)
  have k1 : ¬ 3 = q1.toNatClampNeg := fun q => m1 (Eq.symm q)
  have m2 : ¬ q2.toNatClampNeg = 3 := own_nn q2 3 h2.1 (by decide) (by simp only [Int32.reduceToInt]; omega)
  have k2 : ¬ 3 = q2.toNatClampNeg := fun q => m2 (Eq.symm q)
  rcases ht with rfl | rfl <;>
  first | (simp [own_c0, own_c1, own_c3, own_ap0, own_ap1, own_ap2, own_ap3, own_ap4, own_ap5, own_rmA0, own_rmA1, own_rmA2, own_rmA3, own_rmA4, own_rmA5, own_s0, a0, a1, a2, a3, n01, n10, n02, n20, n12, n21, m0, m1, m2, k0, k1, k2]; done) | (simp [own_c0, own_c1, own_c3, own_ap0, own_ap1, own_ap2, own_ap3, own_ap4, own_ap5, own_rmA0, own_rmA1, own_rmA2, own_rmA3, own_rmA4, own_rmA5, own_s0, a0, a1, a2, a3, n01, n10, n02, n20, n12, n21, m0, m1, m2, k0, k1, k2]; decide) | (simp [own_c0, own_c1, own_c3, own_ap0, own_ap1, own_ap2, own_ap3, own_ap4, own_ap5, own_rmA0, own_rmA1, own_rmA2, own_rmA3, own_rmA4, own_rmA5, own_s0, a0, a1, a2, a3, n01, n10, n02, n20, n12, n21, m0, m1, m2, k0, k1, k2]; omega)
theorem own_l27 (q0 q1 q2 t : Int32) (h0 : 0 ≤ q0.toInt ∧ q0.toInt < 3) (h1 : 0 ≤ q1.toInt ∧ q1.toInt < 3) (h2 : 0 ≤ q2.toInt ∧ q2.toInt < 3) (h01 : q0.toInt ≠ q1.toInt) (h02 : q0.toInt ≠ q2.toInt) (h12 : q1.toInt ≠ q2.toInt) (ht : t = (0 : Int32) ∨ t = (1 : Int32)) : (own_rm (own_ap (own_ap own_st0 q0 t) q1 t) q1) 4 t.toNatClampNeg = (-1 : Int32) ∨ (0 ≤ ((own_rm (own_ap (own_ap own_st0 q0 t) q1 t) q1) 4 t.toNatClampNeg).toInt ∧ ((own_rm (own_ap (own_ap own_st0 q0 t) q1 t) q1) 4 t.toNatClampNeg).toInt < (4 : Nat)) := by
  have a0 := own_m1 q0 h0.1
  have a1 := own_m1 q1 h1.1
  have a2 := own_m1 q2 h2.1
  have a3 : ¬ (3 : Int32) = (-1 : Int32) := by decide
  have n01 := own_nn q0 q1 h0.1 h1.1 h01
  have n10 : ¬ q1.toNatClampNeg = q0.toNatClampNeg := fun q => n01 (Eq.symm q)
  have n02 := own_nn q0 q2 h0.1 h2.1 h02
  have n20 : ¬ q2.toNatClampNeg = q0.toNatClampNeg := fun q => n02 (Eq.symm q)
  have n12 := own_nn q1 q2 h1.1 h2.1 h12
  have n21 : ¬ q2.toNatClampNeg = q1.toNatClampNeg := fun q => n12 (Eq.symm q)
  have m0 : ¬ q0.toNatClampNeg = 3 := own_nn q0 3 h0.1 (by decide) (by simp only [Int32.reduceToInt]; omega)
  have k0 : ¬ 3 = q0.toNatClampNeg := fun q => m0 (Eq.symm q)
  have m1 : ¬ q1.toNatClampNeg = 3 := own_nn q1 3 h1.1 (by decide) (by simp only [Int32.reduceToInt]; omega)
  have k1 : ¬ 3 = q1.toNatClampNeg := fun q => m1 (Eq.symm q)
  have m2 : ¬ q2.toNatClampNeg = 3 := own_nn q2 3 h2.1 (by decide) (by simp only [Int32.reduceToInt]; omega)
  have k2 : ¬ 3 = q2.toNatClampNeg := fun q => m2 (Eq.symm q)
  rcases ht with rfl | rfl <;>
  first | (simp [own_c0, own_c1, own_c3, own_ap0, own_ap1, own_ap2, own_ap3, own_ap4, own_ap5, own_rmA0, own_rmA1, own_rmA2, own_rmA3, own_rmA4, own_rmA5, own_s0, a0, a1, a2, a3, n01, n10, n02, n20, n12, n21, m0, m1, m2, k0, k1, k2]; done) | (simp [own_c0, own_c1, own_c3, own_ap0, own_ap1, own_ap2, own_ap3, own_ap4, own_ap5, own_rmA0, own_rmA1, own_rmA2, own_rmA3, own_rmA4, own_rmA5, own_s0, a0, a1, a2, a3, n01, n10, n02, n20, n12, n21, m0, m1, m2, k0, k1, k2]; decide) | (simp [own_c0, own_c1, own_c3, own_ap0, own_ap1, own_ap2, own_ap3, own_ap4, own_ap5, own_rmA0, own_rmA1, own_rmA2, own_rmA3, own_rmA4, own_rmA5, own_s0, a0, a1, a2, a3, n01, n10, n02, n20, n12, n21, m0, m1, m2, k0, k1, k2]; omega)
theorem own_l28 (q0 q1 q2 t : Int32) (h0 : 0 ≤ q0.toInt ∧ q0.toInt < 3) (h1 : 0 ≤ q1.toInt ∧ q1.toInt < 3) (h2 : 0 ≤ q2.toInt ∧ q2.toInt < 3) (h01 : q0.toInt ≠ q1.toInt) (h02 : q0.toInt ≠ q2.toInt) (h12 : q1.toInt ≠ q2.toInt) (ht : t = (0 : Int32) ∨ t = (1 : Int32)) : (own_ap (own_rm (own_ap (own_ap own_st0 q0 t) q1 t) q1) (3 : Int32) t) 0 q1.toNatClampNeg = (-1 : Int32) := by
  have a0 := own_m1 q0 h0.1
  have a1 := own_m1 q1 h1.1
  have a2 := own_m1 q2 h2.1
  have a3 : ¬ (3 : Int32) = (-1 : Int32) := by decide
  have n01 := own_nn q0 q1 h0.1 h1.1 h01
  have n10 : ¬ q1.toNatClampNeg = q0.toNatClampNeg := fun q => n01 (Eq.symm q)
  have n02 := own_nn q0 q2 h0.1 h2.1 h02
  have n20 : ¬ q2.toNatClampNeg = q0.toNatClampNeg := fun q => n02 (Eq.symm q)
  have n12 := own_nn q1 q2 h1.1 h2.1 h12
  have n21 : ¬ q2.toNatClampNeg = q1.toNatClampNeg := fun q => n12 (Eq.symm q)
  have m0 : ¬ q0.toNatClampNeg = 3 := own_nn q0 3 h0.1 (by decide) (by simp only [Int32.reduceToInt]; omega)
  have k0 : ¬ 3 = q0.toNatClampNeg := fun q => m0 (Eq.symm q)
  have m1 : ¬ q1.toNatClampNeg = 3 := own_nn q1 3 h1.1 (by decide) (by simp only [Int32.reduceToInt]; omega)
  have k1 : ¬ 3 = q1.toNatClampNeg := fun q => m1 (Eq.symm q)
  have m2 : ¬ q2.toNatClampNeg = 3 := own_nn q2 3 h2.1 (by decide) (by simp only [Int32.reduceToInt]; omega)
  have k2 : ¬ 3 = q2.toNatClampNeg := fun q => m2 (Eq.symm q)
  rcases ht with rfl | rfl <;>
  first | (simp [own_c0, own_c1, own_c3, own_ap0, own_ap1, own_ap2, own_ap3, own_ap4, own_ap5, own_rmA0, own_rmA1, own_rmA2, own_rmA3, own_rmA4, own_rmA5, own_s0, a0, a1, a2, a3, n01, n10, n02, n20, n12, n21, m0, m1, m2, k0, k1, k2]; done) | (simp [own_c0, own_c1, own_c3, own_ap0, own_ap1, own_ap2, own_ap3, own_ap4, own_ap5, own_rmA0, own_rmA1, own_rmA2, own_rmA3, own_rmA4, own_rmA5, own_s0, a0, a1, a2, a3, n01, n10, n02, n20, n12, n21, m0, m1, m2, k0, k1, k2]; decide) | (simp [own_c0, own_c1, own_c3, own_ap0, own_ap1, own_ap2, own_ap3, own_ap4, own_ap5, own_rmA0, own_rmA1, own_rmA2, own_rmA3, own_rmA4, own_rmA5, own_s0, a0, a1, a2, a3, n01, n10, n02, n20, n12, n21, m0, m1, m2, k0, k1, k2]; omega)
theorem own_l29 (q0 q1 q2 t : Int32) (h0 : 0 ≤ q0.toInt ∧ q0.toInt < 3) (h1 : 0 ≤ q1.toInt ∧ q1.toInt < 3) (h2 : 0 ≤ q2.toInt ∧ q2.toInt < 3) (h01 : q0.toInt ≠ q1.toInt) (h02 : q0.toInt ≠ q2.toInt) (h12 : q1.toInt ≠ q2.toInt) (ht : t = (0 : Int32) ∨ t = (1 : Int32)) : (own_ap (own_rm (own_ap (own_ap own_st0 q0 t) q1 t) q1) (3 : Int32) t) 5 t.toNatClampNeg = ((1 : Int32) + (1 : Int32)) := by
  have a0 := own_m1 q0 h0.1
  have a1 := own_m1 q1 h1.1
  have a2 := own_m1 q2 h2.1
  have a3 : ¬ (3 : Int32) = (-1 : Int32) := by decide
  have n01 := own_nn q0 q1 h0.1 h1.1 h01
  have n10 : ¬ q1.toNatClampNeg = q0.toNatClampNeg := fun q => n01 (Eq.symm q)
  have n02 := own_nn q0 q2 h0.1 h2.1 h02
  have n20 : ¬ q2.toNatClampNeg = q0.toNatClampNeg := fun q => n02 (Eq.symm q)
  have n12 := own_nn q1 q2 h1.1 h2.1 h12
  have n21 : ¬ q2.toNatClampNeg = q1.toNatClampNeg := fun q => n12 (Eq.symm q)
  have m0 : ¬ q0.toNatClampNeg = 3 := own_nn q0 3 h0.1 (by decide) (by simp only [Int32.reduceToInt]; omega)
  have k0 : ¬ 3 = q0.toNatClampNeg := fun q => m0 (Eq.symm q)
  have m1 : ¬ q1.toNatClampNeg = 3 := own_nn q1 3 h1.1 (by decide) (by simp only [Int32.reduceToInt]; omega)
  have k1 : ¬ 3 = q1.toNatClampNeg := fun q => m1 (Eq.symm q)
  have m2 : ¬ q2.toNatClampNeg = 3 := own_nn q2 3 h2.1 (by decide) (by simp only [Int32.reduceToInt]; omega)
  have k2 : ¬ 3 = q2.toNatClampNeg := fun q => m2 (Eq.symm q)
  rcases ht with rfl | rfl <;>
  first | (simp [own_c0, own_c1, own_c3, own_ap0, own_ap1, own_ap2, own_ap3, own_ap4, own_ap5, own_rmA0, own_rmA1, own_rmA2, own_rmA3, own_rmA4, own_rmA5, own_s0, a0, a1, a2, a3, n01, n10, n02, n20, n12, n21, m0, m1, m2, k0, k1, k2]; done) | (simp [own_c0, own_c1, own_c3, own_ap0, own_ap1, own_ap2, own_ap3, own_ap4, own_ap5, own_rmA0, own_rmA1, own_rmA2, own_rmA3, own_rmA4, own_rmA5, own_s0, a0, a1, a2, a3, n01, n10, n02, n20, n12, n21, m0, m1, m2, k0, k1, k2]; decide) | (simp [own_c0, own_c1, own_c3, own_ap0, own_ap1, own_ap2, own_ap3, own_ap4, own_ap5, own_rmA0, own_rmA1, own_rmA2, own_rmA3, own_rmA4, own_rmA5, own_s0, a0, a1, a2, a3, n01, n10, n02, n20, n12, n21, m0, m1, m2, k0, k1, k2]; omega)
theorem own_l30 (q0 q1 q2 t : Int32) (h0 : 0 ≤ q0.toInt ∧ q0.toInt < 3) (h1 : 0 ≤ q1.toInt ∧ q1.toInt < 3) (h2 : 0 ≤ q2.toInt ∧ q2.toInt < 3) (h01 : q0.toInt ≠ q1.toInt) (h02 : q0.toInt ≠ q2.toInt) (h12 : q1.toInt ≠ q2.toInt) (ht : t = (0 : Int32) ∨ t = (1 : Int32)) : (own_ap (own_rm (own_ap (own_ap own_st0 q0 t) q1 t) q1) (3 : Int32) t) 3 t.toNatClampNeg = q0 := by
  have a0 := own_m1 q0 h0.1
  have a1 := own_m1 q1 h1.1
  have a2 := own_m1 q2 h2.1
  have a3 : ¬ (3 : Int32) = (-1 : Int32) := by decide
  have n01 := own_nn q0 q1 h0.1 h1.1 h01
  have n10 : ¬ q1.toNatClampNeg = q0.toNatClampNeg := fun q => n01 (Eq.symm q)
  have n02 := own_nn q0 q2 h0.1 h2.1 h02
  have n20 : ¬ q2.toNatClampNeg = q0.toNatClampNeg := fun q => n02 (Eq.symm q)
  have n12 := own_nn q1 q2 h1.1 h2.1 h12
  have n21 : ¬ q2.toNatClampNeg = q1.toNatClampNeg := fun q => n12 (Eq.symm q)
  have m0 : ¬ q0.toNatClampNeg = 3 := own_nn q0 3 h0.1 (by decide) (by simp only [Int32.reduceToInt]; omega)
  have k0 : ¬ 3 = q0.toNatClampNeg := fun q => m0 (Eq.symm q)
  have m1 : ¬ q1.toNatClampNeg = 3 := own_nn q1 3 h1.1 (by decide) (by simp only [Int32.reduceToInt]; omega)
  have k1 : ¬ 3 = q1.toNatClampNeg := fun q => m1 (Eq.symm q)
  have m2 : ¬ q2.toNatClampNeg = 3 := own_nn q2 3 h2.1 (by decide) (by simp only [Int32.reduceToInt]; omega)
  have k2 : ¬ 3 = q2.toNatClampNeg := fun q => m2 (Eq.symm q)
  rcases ht with rfl | rfl <;>
  first | (simp [own_c0, own_c1, own_c3, own_ap0, own_ap1, own_ap2, own_ap3, own_ap4, own_ap5, own_rmA0, own_rmA1, own_rmA2, own_rmA3, own_rmA4, own_rmA5, own_s0, a0, a1, a2, a3, n01, n10, n02, n20, n12, n21, m0, m1, m2, k0, k1, k2]; done) | (simp [own_c0, own_c1, own_c3, own_ap0, own_ap1, own_ap2, own_ap3, own_ap4, own_ap5, own_rmA0, own_rmA1, own_rmA2, own_rmA3, own_rmA4, own_rmA5, own_s0, a0, a1, a2, a3, n01, n10, n02, n20, n12, n21, m0, m1, m2, k0, k1, k2]; decide) | (simp [own_c0, own_c1, own_c3, own_ap0, own_ap1, own_ap2, own_ap3, own_ap4, own_ap5, own_rmA0, own_rmA1, own_rmA2, own_rmA3, own_rmA4, own_rmA5, own_s0, a0, a1, a2, a3, n01, n10, n02, n20, n12, n21, m0, m1, m2, k0, k1, k2]; omega)
theorem own_l31 (q0 q1 q2 t : Int32) (h0 : 0 ≤ q0.toInt ∧ q0.toInt < 3) (h1 : 0 ≤ q1.toInt ∧ q1.toInt < 3) (h2 : 0 ≤ q2.toInt ∧ q2.toInt < 3) (h01 : q0.toInt ≠ q1.toInt) (h02 : q0.toInt ≠ q2.toInt) (h12 : q1.toInt ≠ q2.toInt) (ht : t = (0 : Int32) ∨ t = (1 : Int32)) : (own_ap (own_rm (own_ap (own_ap own_st0 q0 t) q1 t) q1) (3 : Int32) t) 2 q0.toNatClampNeg = (3 : Int32) := by
  have a0 := own_m1 q0 h0.1
  have a1 := own_m1 q1 h1.1
  have a2 := own_m1 q2 h2.1
  have a3 : ¬ (3 : Int32) = (-1 : Int32) := by decide
  have n01 := own_nn q0 q1 h0.1 h1.1 h01
  have n10 : ¬ q1.toNatClampNeg = q0.toNatClampNeg := fun q => n01 (Eq.symm q)
  have n02 := own_nn q0 q2 h0.1 h2.1 h02
  have n20 : ¬ q2.toNatClampNeg = q0.toNatClampNeg := fun q => n02 (Eq.symm q)
  have n12 := own_nn q1 q2 h1.1 h2.1 h12
  have n21 : ¬ q2.toNatClampNeg = q1.toNatClampNeg := fun q => n12 (Eq.symm q)
  have m0 : ¬ q0.toNatClampNeg = 3 := own_nn q0 3 h0.1 (by decide) (by simp only [Int32.reduceToInt]; omega)
  have k0 : ¬ 3 = q0.toNatClampNeg := fun q => m0 (Eq.symm q)
  have m1 : ¬ q1.toNatClampNeg = 3 := own_nn q1 3 h1.1 (by decide) (by simp only [Int32.reduceToInt]; omega)
  have k1 : ¬ 3 = q1.toNatClampNeg := fun q => m1 (Eq.symm q)
  have m2 : ¬ q2.toNatClampNeg = 3 := own_nn q2 3 h2.1 (by decide) (by simp only [Int32.reduceToInt]; omega)
  have k2 : ¬ 3 = q2.toNatClampNeg := fun q => m2 (Eq.symm q)
  rcases ht with rfl | rfl <;>
  first | (simp [own_c0, own_c1, own_c3, own_ap0, own_ap1, own_ap2, own_ap3, own_ap4, own_ap5, own_rmA0, own_rmA1, own_rmA2, own_rmA3, own_rmA4, own_rmA5, own_s0, a0, a1, a2, a3, n01, n10, n02, n20, n12, n21, m0, m1, m2, k0, k1, k2]; done) | (simp [own_c0, own_c1, own_c3, own_ap0, own_ap1, own_ap2, own_ap3, own_ap4, own_ap5, own_rmA0, own_rmA1, own_rmA2, own_rmA3, own_rmA4, own_rmA5, own_s0, a0, a1, a2, a3, n01, n10, n02, n20, n12, n21, m0, m1, m2, k0, k1, k2]; decide) | (simp [own_c0, own_c1, own_c3, own_ap0, own_ap1, own_ap2, own_ap3, own_ap4, own_ap5, own_rmA0, own_rmA1, own_rmA2, own_rmA3, own_rmA4, own_rmA5, own_s0, a0, a1, a2, a3, n01, n10, n02, n20, n12, n21, m0, m1, m2, k0, k1, k2]; omega)
theorem own_l32 (q0 q1 q2 t : Int32) (h0 : 0 ≤ q0.toInt ∧ q0.toInt < 3) (h1 : 0 ≤ q1.toInt ∧ q1.toInt < 3) (h2 : 0 ≤ q2.toInt ∧ q2.toInt < 3) (h01 : q0.toInt ≠ q1.toInt) (h02 : q0.toInt ≠ q2.toInt) (h12 : q1.toInt ≠ q2.toInt) (ht : t = (0 : Int32) ∨ t = (1 : Int32)) : (0 ≤ ((own_rm (own_ap (own_ap own_st0 q0 t) q1 t) q1) 0 q0.toNatClampNeg).toInt ∧ ((own_rm (own_ap (own_ap own_st0 q0 t) q1 t) q1) 0 q0.toNatClampNeg).toInt < (2 : Nat)) := by
  have a0 := own_m1 q0 h0.1
  have a1 := own_m1 q1 h1.1
  have a2 := own_m1 q2 h2.1
  have a3 : ¬ (3 : Int32) = (-1 : Int32) := by decide
  have n01 := own_nn q0 q1 h0.1 h1.1 h01
  have n10 : ¬ q1.toNatClampNeg = q0.toNatClampNeg := fun q => n01 (Eq.symm q)
  have n02 := own_nn q0 q2 h0.1 h2.1 h02
  have n20 : ¬ q2.toNatClampNeg = q0.toNatClampNeg := fun q => n02 (Eq.symm q)
  have n12 := own_nn q1 q2 h1.1 h2.1 h12
  have n21 : ¬ q2.toNatClampNeg = q1.toNatClampNeg := fun q => n12 (Eq.symm q)
  have m0 : ¬ q0.toNatClampNeg = 3 := own_nn q0 3 h0.1 (by decide) (by simp only [Int32.reduceToInt]; omega)
  have k0 : ¬ 3 = q0.toNatClampNeg := fun q => m0 (Eq.symm q)
  have m1 : ¬ q1.toNatClampNeg = 3 := own_nn q1 3 h1.1 (by decide) (by simp only [Int32.reduceToInt]; omega)
  have k1 : ¬ 3 = q1.toNatClampNeg := fun q => m1 (Eq.symm q)
  have m2 : ¬ q2.toNatClampNeg = 3 := own_nn q2 3 h2.1 (by decide) (by simp only [Int32.reduceToInt]; omega)
  have k2 : ¬ 3 = q2.toNatClampNeg := fun q => m2 (Eq.symm q)
  rcases ht with rfl | rfl <;>
  first | (simp [own_c0, own_c1, own_c3, own_ap0, own_ap1, own_ap2, own_ap3, own_ap4, own_ap5, own_rmA0, own_rmA1, own_rmA2, own_rmA3, own_rmA4, own_rmA5, own_s0, a0, a1, a2, a3, n01, n10, n02, n20, n12, n21, m0, m1, m2, k0, k1, k2]; done) | (simp [own_c0, own_c1, own_c3, own_ap0, own_ap1, own_ap2, own_ap3, own_ap4, own_ap5, own_rmA0, own_rmA1, own_rmA2, own_rmA3, own_rmA4, own_rmA5, own_s0, a0, a1, a2, a3, n01, n10, n02, n20, n12, n21, m0, m1, m2, k0, k1, k2]; decide) | (simp [own_c0, own_c1, own_c3, own_ap0, own_ap1, own_ap2, own_ap3, own_ap4, own_ap5, own_rmA0, own_rmA1, own_rmA2, own_rmA3, own_rmA4, own_rmA5, own_s0, a0, a1, a2, a3, n01, n10, n02, n20, n12, n21, m0, m1, m2, k0, k1, k2]; omega)
theorem own_l33 (q0 q1 q2 t : Int32) (h0 : 0 ≤ q0.toInt ∧ q0.toInt < 3) (h1 : 0 ≤ q1.toInt ∧ q1.toInt < 3) (h2 : 0 ≤ q2.toInt ∧ q2.toInt < 3) (h01 : q0.toInt ≠ q1.toInt) (h02 : q0.toInt ≠ q2.toInt) (h12 : q1.toInt ≠ q2.toInt) (ht : t = (0 : Int32) ∨ t = (1 : Int32)) : (own_rm (own_ap (own_ap own_st0 q0 t) q1 t) q1) 1 q0.toNatClampNeg = (-1 : Int32) ∨ (0 ≤ ((own_rm (own_ap (own_ap own_st0 q0 t) q1 t) q1) 1 q0.toNatClampNeg).toInt ∧ ((own_rm (own_ap (own_ap own_st0 q0 t) q1 t) q1) 1 q0.toNatClampNeg).toInt < (4 : Nat)) := by
  have a0 := own_m1 q0 h0.1
  have a1 := own_m1 q1 h1.1
  have a2 := own_m1 q2 h2.1
  have a3 : ¬ (3 : Int32) = (-1 : Int32) := by decide
  have n01 := own_nn q0 q1 h0.1 h1.1 h01
  have n10 : ¬ q1.toNatClampNeg = q0.toNatClampNeg := fun q => n01 (Eq.symm q)
  have n02 := own_nn q0 q2 h0.1 h2.1 h02
  have n20 : ¬ q2.toNatClampNeg = q0.toNatClampNeg := fun q => n02 (Eq.symm q)
  have n12 := own_nn q1 q2 h1.1 h2.1 h12
  have n21 : ¬ q2.toNatClampNeg = q1.toNatClampNeg := fun q => n12 (Eq.symm q)
  have m0 : ¬ q0.toNatClampNeg = 3 := own_nn q0 3 h0.1 (by decide) (by simp only [Int32.reduceToInt]; omega)
  have k0 : ¬ 3 = q0.toNatClampNeg := fun q => m0 (Eq.symm q)
  have m1 : ¬ q1.toNatClampNeg = 3 := own_nn q1 3 h1.1 (by decide) (by simp only [Int32.reduceToInt]; omega)
  have k1 : ¬ 3 = q1.toNatClampNeg := fun q => m1 (Eq.symm q)
  have m2 : ¬ q2.toNatClampNeg = 3 := own_nn q2 3 h2.1 (by decide) (by simp only [Int32.reduceToInt]; omega)
  have k2 : ¬ 3 = q2.toNatClampNeg := fun q => m2 (Eq.symm q)
  rcases ht with rfl | rfl <;>
  first | (simp [own_c0, own_c1, own_c3, own_ap0, own_ap1, own_ap2, own_ap3, own_ap4, own_ap5, own_rmA0, own_rmA1, own_rmA2, own_rmA3, own_rmA4, own_rmA5, own_s0, a0, a1, a2, a3, n01, n10, n02, n20, n12, n21, m0, m1, m2, k0, k1, k2]; done) | (simp [own_c0, own_c1, own_c3, own_ap0, own_ap1, own_ap2, own_ap3, own_ap4, own_ap5, own_rmA0, own_rmA1, own_rmA2, own_rmA3, own_rmA4, own_rmA5, own_s0, a0, a1, a2, a3, n01, n10, n02, n20, n12, n21, m0, m1, m2, k0, k1, k2]; decide) | (simp [own_c0, own_c1, own_c3, own_ap0, own_ap1, own_ap2, own_ap3, own_ap4, own_ap5, own_rmA0, own_rmA1, own_rmA2, own_rmA3, own_rmA4, own_rmA5, own_s0, a0, a1, a2, a3, n01, n10, n02, n20, n12, n21, m0, m1, m2, k0, k1, k2]; omega)
theorem own_l34 (q0 q1 q2 t : Int32) (h0 : 0 ≤ q0.toInt ∧ q0.toInt < 3) (h1 : 0 ≤ q1.toInt ∧ q1.toInt < 3) (h2 : 0 ≤ q2.toInt ∧ q2.toInt < 3) (h01 : q0.toInt ≠ q1.toInt) (h02 : q0.toInt ≠ q2.toInt) (h12 : q1.toInt ≠ q2.toInt) (ht : t = (0 : Int32) ∨ t = (1 : Int32)) : (own_rm (own_ap (own_ap own_st0 q0 t) q1 t) q1) 2 q0.toNatClampNeg = (-1 : Int32) ∨ (0 ≤ ((own_rm (own_ap (own_ap own_st0 q0 t) q1 t) q1) 2 q0.toNatClampNeg).toInt ∧ ((own_rm (own_ap (own_ap own_st0 q0 t) q1 t) q1) 2 q0.toNatClampNeg).toInt < (4 : Nat)) := by
  have a0 := own_m1 q0 h0.1
  have a1 := own_m1 q1 h1.1
  have a2 := own_m1 q2 h2.1
  have a3 : ¬ (3 : Int32) = (-1 : Int32) := by decide
  have n01 := own_nn q0 q1 h0.1 h1.1 h01
  have n10 : ¬ q1.toNatClampNeg = q0.toNatClampNeg := fun q => n01 (Eq.symm q)
  have n02 := own_nn q0 q2 h0.1 h2.1 h02
  have n20 : ¬ q2.toNatClampNeg = q0.toNatClampNeg := fun q => n02 (Eq.symm q)
  have n12 := own_nn q1 q2 h1.1 h2.1 h12
  have n21 : ¬ q2.toNatClampNeg = q1.toNatClampNeg := fun q => n12 (Eq.symm q)
  have m0 : ¬ q0.toNatClampNeg = 3 := own_nn q0 3 h0.1 (by decide) (by simp only [Int32.reduceToInt]; omega)
  have k0 : ¬ 3 = q0.toNatClampNeg := fun q => m0 (Eq.symm q)
  have m1 : ¬ q1.toNatClampNeg = 3 := own_nn q1 3 h1.1 (by decide) (by simp only [Int32.reduceToInt]; omega)
  have k1 : ¬ 3 = q1.toNatClampNeg := fun q => m1 (Eq.symm q)
  have m2 : ¬ q2.toNatClampNeg = 3 := own_nn q2 3 h2.1 (by decide) (by simp only [Int32.reduceToInt]; omega)
  have k2 : ¬ 3 = q2.toNatClampNeg := fun q => m2 (Eq.symm q)
  rcases ht with rfl | rfl <;>
  first | (simp [own_c0, own_c1, own_c3, own_ap0, own_ap1, own_ap2, own_ap3, own_ap4, own_ap5, own_rmA0, own_rmA1, own_rmA2, own_rmA3, own_rmA4, own_rmA5, own_s0, a0, a1, a2, a3, n01, n10, n02, n20, n12, n21, m0, m1, m2, k0, k1, k2]; done) | (simp [own_c0, own_c1, own_c3, own_ap0, own_ap1, own_ap2, own_ap3, own_ap4, own_ap5, own_rmA0, own_rmA1, own_rmA2, own_rmA3, own_rmA4, own_rmA5, own_s0, a0, a1, a2, a3, n01, n10, n02, n20, n12, n21, m0, m1, m2, k0, k1, k2]; decide) | (simp [own_c0, own_c1, own_c3, own_ap0, own_ap1, own_ap2, own_ap3, own_ap4, own_ap5, own_rmA0, own_rmA1, own_rmA2, own_rmA3, own_rmA4, own_rmA5, own_s0, a0, a1, a2, a3, n01, n10, n02, n20, n12, n21, m0, m1, m2, k0, k1, k2]; omega)
theorem own_l35 (q0 q1 q2 t : Int32) (h0 : 0 ≤ q0.toInt ∧ q0.toInt < 3) (h1 : 0 ≤ q1.toInt ∧ q1.toInt < 3) (h2 : 0 ≤ q2.toInt ∧ q2.toInt < 3) (h01 : q0.toInt ≠ q1.toInt) (h02 : q0.toInt ≠ q2.toInt) (h12 : q1.toInt ≠ q2.toInt) (ht : t = (0 : Int32) ∨ t = (1 : Int32)) : (own_rm (own_rm (own_ap (own_ap own_st0 q0 t) q1 t) q1) q0) 4 t.toNatClampNeg = (-1 : Int32) ∨ (0 ≤ ((own_rm (own_rm (own_ap (own_ap own_st0 q0 t) q1 t) q1) q0) 4 t.toNatClampNeg).toInt ∧ ((own_rm (own_rm (own_ap (own_ap own_st0 q0 t) q1 t) q1) q0) 4 t.toNatClampNeg).toInt < (4 : Nat)) := by
  have a0 := own_m1 q0 h0.1
  have a1 := own_m1 q1 h1.1
  have a2 := own_m1 q2 h2.1
  have a3 : ¬ (3 : Int32) = (-1 : Int32) := by decide
  have n01 := own_nn q0 q1 h0.1 h1.1 h01
  have n10 : ¬ q1.toNatClampNeg = q0.toNatClampNeg := fun q => n01 (Eq.symm q)
  have n02 := own_nn q0 q2 h0.1 h2.1 h02
  have n20 : ¬ q2.toNatClampNeg = q0.toNatClampNeg := fun q => n02 (Eq.symm q)
  have n12 := own_nn q1 q2 h1.1 h2.1 h12
  have n21 : ¬ q2.toNatClampNeg = q1.toNatClampNeg := fun q => n12 (Eq.symm q)
  have m0 : ¬ q0.toNatClampNeg = 3 := own_nn q0 3 h0.1 (by decide) (by simp only [Int32.reduceToInt]; omega)
  have k0 : ¬ 3 = q0.toNatClampNeg := fun q => m0 (Eq.symm q)
  have m1 : ¬ q1.toNatClampNeg = 3 := own_nn q1 3 h1.1 (by decide) (by simp only [Int32.reduceToInt]; omega)
  have k1 : ¬ 3 = q1.toNatClampNeg := fun q => m1 (Eq.symm q)
  have m2 : ¬ q2.toNatClampNeg = 3 := own_nn q2 3 h2.1 (by decide) (by simp only [Int32.reduceToInt]; omega)
  have k2 : ¬ 3 = q2.toNatClampNeg := fun q => m2 (Eq.symm q)
  rcases ht with rfl | rfl <;>
  first | (simp [own_c0, own_c1, own_c3, own_ap0, own_ap1, own_ap2, own_ap3, own_ap4, own_ap5, own_rmA0, own_rmA1, own_rmA2, own_rmA3, own_rmA4, own_rmA5, own_s0, a0, a1, a2, a3, n01, n10, n02, n20, n12, n21, m0, m1, m2, k0, k1, k2]; done) | (simp [own_c0, own_c1, own_c3, own_ap0, own_ap1, own_ap2, own_ap3, own_ap4, own_ap5, own_rmA0, own_rmA1, own_rmA2, own_rmA3, own_rmA4, own_rmA5, own_s0, a0, a1, a2, a3, n01, n10, n02, n20, n12, n21, m0, m1, m2, k0, k1, k2]; decide) | (simp [own_c0, own_c1, own_c3, own_ap0, own_ap1, own_ap2, own_ap3, own_ap4, own_ap5, own_rmA0, own_rmA1, own_rmA2, own_rmA3, own_rmA4, own_rmA5, own_s0, a0, a1, a2, a3, n01, n10, n02, n20, n12, n21, m0, m1, m2, k0, k1, k2]; omega)
theorem own_l36 (q0 q1 q2 t : Int32) (h0 : 0 ≤ q0.toInt ∧ q0.toInt < 3) (h1 : 0 ≤ q1.toInt ∧ q1.toInt < 3) (h2 : 0 ≤ q2.toInt ∧ q2.toInt < 3) (h01 : q0.toInt ≠ q1.toInt) (h02 : q0.toInt ≠ q2.toInt) (h12 : q1.toInt ≠ q2.toInt) (ht : t = (0 : Int32) ∨ t = (1 : Int32)) : (own_ap (own_rm (own_rm (own_ap (own_ap own_st0 q0 t) q1 t) q1) q0) (3 : Int32) t) 0 q1.toNatClampNeg = (-1 : Int32) := by
  have a0 := own_m1 q0 h0.1
  have a1 := own_m1 q1 h1.1
  have a2 := own_m1 q2 h2.1
  have a3 : ¬ (3 : Int32) = (-1 : Int32) := by decide
  have n01 := own_nn q0 q1 h0.1 h1.1 h01
  have n10 : ¬ q1.toNatClampNeg = q0.toNatClampNeg := fun q => n01 (Eq.symm q)
  have n02 := own_nn q0 q2 h0.1 h2.1 h02
  have n20 : ¬ q2.toNatClampNeg = q0.toNatClampNeg := fun q => n02 (Eq.symm q)
  have n12 := own_nn q1 q2 h1.1 h2.1 h12
  have n21 : ¬ q2.toNatClampNeg = q1.toNatClampNeg := fun q => n12 (Eq.symm q)
  have m0 : ¬ q0.toNatClampNeg = 3 := own_nn q0 3 h0.1 (by decide) (by simp only [Int32.reduceToInt]; omega)
  have k0 : ¬ 3 = q0.toNatClampNeg := fun q => m0 (Eq.symm q)
  have m1 : ¬ q1.toNatClampNeg = 3 := own_nn q1 3 h1.1 (by decide) (by simp only [Int32.reduceToInt]; omega)
  have k1 : ¬ 3 = q1.toNatClampNeg := fun q => m1 (Eq.symm q)
  have m2 : ¬ q2.toNatClampNeg = 3 := own_nn q2 3 h2.1 (by decide) (by simp only [Int32.reduceToInt]; omega)
  have k2 : ¬ 3 = q2.toNatClampNeg := fun q => m2 (Eq.symm q)
  rcases ht with rfl | rfl <;>
  first | (simp [own_c0, own_c1, own_c3, own_ap0, own_ap1, own_ap2, own_ap3, own_ap4, own_ap5, own_rmA0, own_rmA1, own_rmA2, own_rmA3, own_rmA4, own_rmA5, own_s0, a0, a1, a2, a3, n01, n10, n02, n20, n12, n21, m0, m1, m2, k0, k1, k2]; done) | (simp [own_c0, own_c1, own_c3, own_ap0, own_ap1, own_ap2, own_ap3, own_ap4, own_ap5, own_rmA0, own_rmA1, own_rmA2, own_rmA3, own_rmA4, own_rmA5, own_s0, a0, a1, a2, a3, n01, n10, n02, n20, n12, n21, m0, m1, m2, k0, k1, k2]; decide) | (simp [own_c0, own_c1, own_c3, own_ap0, own_ap1, own_ap2, own_ap3, own_ap4, own_ap5, own_rmA0, own_rmA1, own_rmA2, own_rmA3, own_rmA4, own_rmA5, own_s0, a0, a1, a2, a3, n01, n10, n02, n20, n12, n21, m0, m1, m2, k0, k1, k2]; omega)
theorem own_l37 (q0 q1 q2 t : Int32) (h0 : 0 ≤ q0.toInt ∧ q0.toInt < 3) (h1 : 0 ≤ q1.toInt ∧ q1.toInt < 3) (h2 : 0 ≤ q2.toInt ∧ q2.toInt < 3) (h01 : q0.toInt ≠ q1.toInt) (h02 : q0.toInt ≠ q2.toInt) (h12 : q1.toInt ≠ q2.toInt) (ht : t = (0 : Int32) ∨ t = (1 : Int32)) : (own_ap (own_rm (own_rm (own_ap (own_ap own_st0 q0 t) q1 t) q1) q0) (3 : Int32) t) 5 t.toNatClampNeg = ((0 : Int32) + (1 : Int32)) := by
  have a0 := own_m1 q0 h0.1
  have a1 := own_m1 q1 h1.1
  have a2 := own_m1 q2 h2.1
  have a3 : ¬ (3 : Int32) = (-1 : Int32) := by decide
  have n01 := own_nn q0 q1 h0.1 h1.1 h01
  have n10 : ¬ q1.toNatClampNeg = q0.toNatClampNeg := fun q => n01 (Eq.symm q)
  have n02 := own_nn q0 q2 h0.1 h2.1 h02
  have n20 : ¬ q2.toNatClampNeg = q0.toNatClampNeg := fun q => n02 (Eq.symm q)
  have n12 := own_nn q1 q2 h1.1 h2.1 h12
  have n21 : ¬ q2.toNatClampNeg = q1.toNatClampNeg := fun q => n12 (Eq.symm q)
  have m0 : ¬ q0.toNatClampNeg = 3 := own_nn q0 3 h0.1 (by decide) (by simp only [Int32.reduceToInt]; omega)
  have k0 : ¬ 3 = q0.toNatClampNeg := fun q => m0 (Eq.symm q)
  have m1 : ¬ q1.toNatClampNeg = 3 := own_nn q1 3 h1.1 (by decide) (by simp only [Int32.reduceToInt]; omega)
  have k1 : ¬ 3 = q1.toNatClampNeg := fun q => m1 (Eq.symm q)
  have m2 : ¬ q2.toNatClampNeg = 3 := own_nn q2 3 h2.1 (by decide) (by simp only [Int32.reduceToInt]; omega)
  have k2 : ¬ 3 = q2.toNatClampNeg := fun q => m2 (Eq.symm q)
  rcases ht with rfl | rfl <;>
  first | (simp [own_c0, own_c1, own_c3, own_ap0, own_ap1, own_ap2, own_ap3, own_ap4, own_ap5, own_rmA0, own_rmA1, own_rmA2, own_rmA3, own_rmA4, own_rmA5, own_s0, a0, a1, a2, a3, n01, n10, n02, n20, n12, n21, m0, m1, m2, k0, k1, k2]; done) | (simp [own_c0, own_c1, own_c3, own_ap0, own_ap1, own_ap2, own_ap3, own_ap4, own_ap5, own_rmA0, own_rmA1, own_rmA2, own_rmA3, own_rmA4, own_rmA5, own_s0, a0, a1, a2, a3, n01, n10, n02, n20, n12, n21, m0, m1, m2, k0, k1, k2]; decide) | (simp [own_c0, own_c1, own_c3, own_ap0, own_ap1, own_ap2, own_ap3, own_ap4, own_ap5, own_rmA0, own_rmA1, own_rmA2, own_rmA3, own_rmA4, own_rmA5, own_s0, a0, a1, a2, a3, n01, n10, n02, n20, n12, n21, m0, m1, m2, k0, k1, k2]; omega)
theorem own_l38 (q0 q1 q2 t : Int32) (h0 : 0 ≤ q0.toInt ∧ q0.toInt < 3) (h1 : 0 ≤ q1.toInt ∧ q1.toInt < 3) (h2 : 0 ≤ q2.toInt ∧ q2.toInt < 3) (h01 : q0.toInt ≠ q1.toInt) (h02 : q0.toInt ≠ q2.toInt) (h12 : q1.toInt ≠ q2.toInt) (ht : t = (0 : Int32) ∨ t = (1 : Int32)) : (own_ap (own_rm (own_rm (own_ap (own_ap own_st0 q0 t) q1 t) q1) q0) (3 : Int32) t) 3 t.toNatClampNeg = (3 : Int32) := by
  have a0 := own_m1 q0 h0.1
  have a1 := own_m1 q1 h1.1
  have a2 := own_m1 q2 h2.1
  have a3 : ¬ (3 : Int32) = (-1 : Int32) := by decide
  have n01 := own_nn q0 q1 h0.1 h1.1 h01
  have n10 : ¬ q1.toNatClampNeg = q0.toNatClampNeg := fun q => n01 (Eq.symm q)
  have n02 := own_nn q0 q2 h0.1 h2.1 h02
  have n20 : ¬ q2.toNatClampNeg = q0.toNatClampNeg := fun q => n02 (Eq.symm q)
  have n12 := own_nn q1 q2 h1.1 h2.1 h12
  have n21 : ¬ q2.toNatClampNeg = q1.toNatClampNeg := fun q => n12 (Eq.symm q)
  have m0 : ¬ q0.toNatClampNeg = 3 := own_nn q0 3 h0.1 (by decide) (by simp only [Int32.reduceToInt]; omega)
  have k0 : ¬ 3 = q0.toNatClampNeg := fun q => m0 (Eq.symm q)
  have m1 : ¬ q1.toNatClampNeg = 3 := own_nn q1 3 h1.1 (by decide) (by simp only [Int32.reduceToInt]; omega)
  have k1 : ¬ 3 = q1.toNatClampNeg := fun q => m1 (Eq.symm q)
  have m2 : ¬ q2.toNatClampNeg = 3 := own_nn q2 3 h2.1 (by decide) (by simp only [Int32.reduceToInt]; omega)
  have k2 : ¬ 3 = q2.toNatClampNeg := fun q => m2 (Eq.symm q)
  rcases ht with rfl | rfl <;>
  first | (simp [own_c0, own_c1, own_c3, own_ap0, own_ap1, own_ap2, own_ap3, own_ap4, own_ap5, own_rmA0, own_rmA1, own_rmA2, own_rmA3, own_rmA4, own_rmA5, own_s0, a0, a1, a2, a3, n01, n10, n02, n20, n12, n21, m0, m1, m2, k0, k1, k2]; done) | (simp [own_c0, own_c1, own_c3, own_ap0, own_ap1, own_ap2, own_ap3, own_ap4, own_ap5, own_rmA0, own_rmA1, own_rmA2, own_rmA3, own_rmA4, own_rmA5, own_s0, a0, a1, a2, a3, n01, n10, n02, n20, n12, n21, m0, m1, m2, k0, k1, k2]; decide) | (simp [own_c0, own_c1, own_c3, own_ap0, own_ap1, own_ap2, own_ap3, own_ap4, own_ap5, own_rmA0, own_rmA1, own_rmA2, own_rmA3, own_rmA4, own_rmA5, own_s0, a0, a1, a2, a3, n01, n10, n02, n20, n12, n21, m0, m1, m2, k0, k1, k2]; omega)
theorem own_l39 (q0 q1 q2 t : Int32) (h0 : 0 ≤ q0.toInt ∧ q0.toInt < 3) (h1 : 0 ≤ q1.toInt ∧ q1.toInt < 3) (h2 : 0 ≤ q2.toInt ∧ q2.toInt < 3) (h01 : q0.toInt ≠ q1.toInt) (h02 : q0.toInt ≠ q2.toInt) (h12 : q1.toInt ≠ q2.toInt) (ht : t = (0 : Int32) ∨ t = (1 : Int32)) : (own_ap (own_ap own_st0 q0 t) q1 t) 4 t.toNatClampNeg = (-1 : Int32) ∨ (0 ≤ ((own_ap (own_ap own_st0 q0 t) q1 t) 4 t.toNatClampNeg).toInt ∧ ((own_ap (own_ap own_st0 q0 t) q1 t) 4 t.toNatClampNeg).toInt < (4 : Nat)) := by
  have a0 := own_m1 q0 h0.1
  have a1 := own_m1 q1 h1.1
  have a2 := own_m1 q2 h2.1
  have a3 : ¬ (3 : Int32) = (-1 : Int32) := by decide
  have n01 := own_nn q0 q1 h0.1 h1.1 h01
  have n10 : ¬ q1.toNatClampNeg = q0.toNatClampNeg := fun q => n01 (Eq.symm q)
  have n02 := own_nn q0 q2 h0.1 h2.1 h02
  have n20 : ¬ q2.toNatClampNeg = q0.toNatClampNeg := fun q => n02 (Eq.symm q)
  have n12 := own_nn q1 q2 h1.1 h2.1 h12
  have n21 : ¬ q2.toNatClampNeg = q1.toNatClampNeg := fun q => n12 (Eq.symm q)
  have m0 : ¬ q0.toNatClampNeg = 3 := own_nn q0 3 h0.1 (by decide) (by simp only [Int32.reduceToInt]; omega)
  have k0 : ¬ 3 = q0.toNatClampNeg := fun q => m0 (Eq.symm q)
  have m1 : ¬ q1.toNatClampNeg = 3 := own_nn q1 3 h1.1 (by decide) (by simp only [Int32.reduceToInt]; omega)
  have k1 : ¬ 3 = q1.toNatClampNeg := fun q => m1 (Eq.symm q)
  have m2 : ¬ q2.toNatClampNeg = 3 := own_nn q2 3 h2.1 (by decide) (by simp only [Int32.reduceToInt]; omega)
  have k2 : ¬ 3 = q2.toNatClampNeg := fun q => m2 (Eq.symm q)
  rcases ht with rfl | rfl <;>
  first | (simp [own_c0, own_c1, own_c3, own_ap0, own_ap1, own_ap2, own_ap3, own_ap4, own_ap5, own_rmA0, own_rmA1, own_rmA2, own_rmA3, own_rmA4, own_rmA5, own_s0, a0, a1, a2, a3, n01, n10, n02, n20, n12, n21, m0, m1, m2, k0, k1, k2]; done) | (simp [own_c0, own_c1, own_c3, own_ap0, own_ap1, own_ap2, own_ap3, own_ap4, own_ap5, own_rmA0, own_rmA1, own_rmA2, own_rmA3, own_rmA4, own_rmA5, own_s0, a0, a1, a2, a3, n01, n10, n02, n20, n12, n21, m0, m1, m2, k0, k1, k2]; decide) | (simp [own_c0, own_c1, own_c3, own_ap0, own_ap1, own_ap2, own_ap3, own_ap4, own_ap5, own_rmA0, own_rmA1, own_rmA2, own_rmA3, own_rmA4, own_rmA5, own_s0, a0, a1, a2, a3, n01, n10, n02, n20, n12, n21, m0, m1, m2, k0, k1, k2]; omega)
theorem own_l40 (q0 q1 q2 t : Int32) (h0 : 0 ≤ q0.toInt ∧ q0.toInt < 3) (h1 : 0 ≤ q1.toInt ∧ q1.toInt < 3) (h2 : 0 ≤ q2.toInt ∧ q2.toInt < 3) (h01 : q0.toInt ≠ q1.toInt) (h02 : q0.toInt ≠ q2.toInt) (h12 : q1.toInt ≠ q2.toInt) (ht : t = (0 : Int32) ∨ t = (1 : Int32)) : (0 ≤ ((own_ap (own_ap (own_ap own_st0 q0 t) q1 t) q2 t) 0 q0.toNatClampNeg).toInt ∧ ((own_ap (own_ap (own_ap own_st0 q0 t) q1 t) q2 t) 0 q0.toNatClampNeg).toInt < (2 : Nat)) := by
  have a0 := own_m1 q0 h0.1
  have a1 := own_m1 q1 h1.1
  have a2 := own_m1 q2 h2.1
  have a3 : ¬ (3 : Int32) = (-1 : Int32) := by decide
  have n01 := own_nn q0 q1 h0.1 h1.1 h01
  have n10 : ¬ q1.toNatClampNeg = q0.toNatClampNeg := fun q => n01 (Eq.symm q)
  have n02 := own_nn q0 q2 h0.1 h2.1 h02
  have n20 : ¬ q2.toNatClampNeg = q0.toNatClampNeg := fun q => n02 (Eq.symm q)
  have n12 := own_nn q1 q2 h1.1 h2.1 h12
  have n21 : ¬ q2.toNatClampNeg = q1.toNatClampNeg := fun q => n12 (Eq.symm q)
  have m0 : ¬ q0.toNatClampNeg = 3 := own_nn q0 3 h0.1 (by decide) (by simp only [Int32.reduceToInt]; omega)
  have k0 : ¬ 3 = q0.toNatClampNeg := fun q => m0 (Eq.symm q)
  have m1 : ¬ q1.toNatClampNeg = 3 := own_nn q1 3 h1.1 (by decide) (by simp only [Int32.reduceToInt]; omega)
  have k1 : ¬ 3 = q1.toNatClampNeg := fun q => m1 (Eq.symm q)
  have m2 : ¬ q2.toNatClampNeg = 3 := own_nn q2 3 h2.1 (by decide) (by simp only [Int32.reduceToInt]; omega)
  have k2 : ¬ 3 = q2.toNatClampNeg := fun q => m2 (Eq.symm q)
  rcases ht with rfl | rfl <;>
  first | (simp [own_c0, own_c1, own_c3, own_ap0, own_ap1, own_ap2, own_ap3, own_ap4, own_ap5, own_rmA0, own_rmA1, own_rmA2, own_rmA3, own_rmA4, own_rmA5, own_s0, a0, a1, a2, a3, n01, n10, n02, n20, n12, n21, m0, m1, m2, k0, k1, k2]; done) | (simp [own_c0, own_c1, own_c3, own_ap0, own_ap1, own_ap2, own_ap3, own_ap4, own_ap5, own_rmA0, own_rmA1, own_rmA2, own_rmA3, own_rmA4, own_rmA5, own_s0, a0, a1, a2, a3, n01, n10, n02, n20, n12, n21, m0, m1, m2, k0, k1, k2]; decide) | (simp [own_c0, own_c1, own_c3, own_ap0, own_ap1, own_ap2, own_ap3, own_ap4, own_ap5, own_rmA0, own_rmA1, own_rmA2, own_rmA3, own_rmA4, own_rmA5, own_s0, a0, a1, a2, a3, n01, n10, n02, n20, n12, n21, m0, m1, m2, k0, k1, k2]; omega)
theorem own_l41 (q0 q1 q2 t : Int32) (h0 : 0 ≤ q0.toInt ∧ q0.toInt < 3) (h1 : 0 ≤ q1.toInt ∧ q1.toInt < 3) (h2 : 0 ≤ q2.toInt ∧ q2.toInt < 3) (h01 : q0.toInt ≠ q1.toInt) (h02 : q0.toInt ≠ q2.toInt) (h12 : q1.toInt ≠ q2.toInt) (ht : t = (0 : Int32) ∨ t = (1 : Int32)) : (own_ap (own_ap (own_ap own_st0 q0 t) q1 t) q2 t) 1 q0.toNatClampNeg = (-1 : Int32) ∨ (0 ≤ ((own_ap (own_ap (own_ap own_st0 q0 t) q1 t) q2 t) 1 q0.toNatClampNeg).toInt ∧ ((own_ap (own_ap (own_ap own_st0 q0 t) q1 t) q2 t) 1 q0.toNatClampNeg).toInt < (4 : Nat)) := by
  have a0 := own_m1 q0 h0.1
  have a1 := own_m1 q1 h1.1
  have a2 := own_m1 q2 h2.1
  have a3 : ¬ (3 : Int32) = (-1 : Int32) := by decide
  have n01 := own_nn q0 q1 h0.1 h1.1 h01
  have n10 : ¬ q1.toNatClampNeg = q0.toNatClampNeg := fun q => n01 (Eq.symm q)
  have n02 := own_nn q0 q2 h0.1 h2.1 h02
  have n20 : ¬ q2.toNatClampNeg = q0.toNatClampNeg := fun q => n02 (Eq.symm q)
  have n12 := own_nn q1 q2 h1.1 h2.1 h12
  have n21 : ¬ q2.toNatClampNeg = q1.toNatClampNeg := fun q => n12 (Eq.symm q)
  have m0 : ¬ q0.toNatClampNeg = 3 := own_nn q0 3 h0.1 (by decide) (by simp only [Int32.reduceToInt]; omega)
  have k0 : ¬ 3 = q0.toNatClampNeg := fun q => m0 (Eq.symm q)
  have m1 : ¬ q1.toNatClampNeg = 3 := own_nn q1 3 h1.1 (by decide) (by simp only [Int32.reduceToInt]; omega)
  have k1 : ¬ 3 = q1.toNatClampNeg := fun q => m1 (Eq.symm q)
  have m2 : ¬ q2.toNatClampNeg = 3 := own_nn q2 3 h2.1 (by decide) (by simp only [Int32.reduceToInt]; omega)
  have k2 : ¬ 3 = q2.toNatClampNeg := fun q => m2 (Eq.symm q)
  rcases ht with rfl | rfl <;>
  first | (simp [own_c0, own_c1, own_c3, own_ap0, own_ap1, own_ap2, own_ap3, own_ap4, own_ap5, own_rmA0, own_rmA1, own_rmA2, own_rmA3, own_rmA4, own_rmA5, own_s0, a0, a1, a2, a3, n01, n10, n02, n20, n12, n21, m0, m1, m2, k0, k1, k2]; done) | (simp [own_c0, own_c1, own_c3, own_ap0, own_ap1, own_ap2, own_ap3, own_ap4, own_ap5, own_rmA0, own_rmA1, own_rmA2, own_rmA3, own_rmA4, own_rmA5, own_s0, a0, a1, a2, a3, n01, n10, n02, n20, n12, n21, m0, m1, m2, k0, k1, k2]; decide) | (simp [own_c0, own_c1, own_c3, own_ap0, own_ap1, own_ap2, own_ap3, own_ap4, own_ap5, own_rmA0, own_rmA1, own_rmA2, own_rmA3, own_rmA4, own_rmA5, own_s0, a0, a1, a2, a3, n01, n10, n02, n20, n12, n21, m0, m1, m2, k0, k1, k2]; omega)
theorem own_l42 (q0 q1 q2 t : Int32) (h0 : 0 ≤ q0.toInt ∧ q0.toInt < 3) (h1 : 0 ≤ q1.toInt ∧ q1.toInt < 3) (h2 : 0 ≤ q2.toInt ∧ q2.toInt < 3) (h01 : q0.toInt ≠ q1.toInt) (h02 : q0.toInt ≠ q2.toInt) (h12 : q1.toInt ≠ q2.toInt) (ht : t = (0 : Int32) ∨ t = (1 : Int32)) : (own_ap (own_ap (own_ap own_st0 q0 t) q1 t) q2 t) 2 q0.toNatClampNeg = (-1 : Int32) ∨ (0 ≤ ((own_ap (own_ap (own_ap own_st0 q0 t) q1 t) q2 t) 2 q0.toNatClampNeg).toInt ∧ ((own_ap (own_ap (own_ap own_st0 q0 t) q1 t) q2 t) 2 q0.toNatClampNeg).toInt < (4 : Nat)) := by
  have a0 := own_m1 q0 h0.1
  have a1 := own_m1 q1 h1.1
  have a2 := own_m1 q2 h2.1
  have a3 : ¬ (3 : Int32) = (-1 : Int32) := by decide
  have n01 := own_nn q0 q1 h0.1 h1.1 h01
  have n10 : ¬ q1.toNatClampNeg = q0.toNatClampNeg := fun q => n01 (Eq.symm q)
  have n02 := own_nn q0 q2 h0.1 h2.1 h02
  have n20 : ¬ q2.toNatClampNeg = q0.toNatClampNeg := fun q => n02 (Eq.symm q)
  have n12 := own_nn q1 q2 h1.1 h2.1 h12
  have n21 : ¬ q2.toNatClampNeg = q1.toNatClampNeg := fun q => n12 (Eq.symm q)
  have m0 : ¬ q0.toNatClampNeg = 3 := own_nn q0 3 h0.1 (by decide) (by simp only [Int32.reduceToInt]; omega)
  have k0 : ¬ 3 = q0.toNatClampNeg := fun q => m0 (Eq.symm q)
  have m1 : ¬ q1.toNatClampNeg = 3 := own_nn q1 3 h1.1 (by decide) (by simp only [Int32.reduceToInt]; omega)
  have k1 : ¬ 3 = q1.toNatClampNeg := fun q => m1 (Eq.symm q)
  have m2 : ¬ q2.toNatClampNeg = 3 := own_nn q2 3 h2.1 (by decide) (by simp only [Int32.reduceToInt]; omega)
  have k2 : ¬ 3 = q2.toNatClampNeg := fun q => m2 (Eq.symm q)
  rcases ht with rfl | rfl <;>
  first | (simp [own_c0, own_c1, own_c3, own_ap0, own_ap1, own_ap2, own_ap3, own_ap4, own_ap5, own_rmA0, own_rmA1, own_rmA2, own_rmA3, own_rmA4, own_rmA5, own_s0, a0, a1, a2, a3, n01, n10, n02, n20, n12, n21, m0, m1, m2, k0, k1, k2]; done) | (simp [own_c0, own_c1, own_c3, own_ap0, own_ap1, own_ap2, own_ap3, own_ap4, own_ap5, own_rmA0, own_rmA1, own_rmA2, own_rmA3, own_rmA4, own_rmA5, own_s0, a0, a1, a2, a3, n01, n10, n02, n20, n12, n21, m0, m1, m2, k0, k1, k2]; decide) | (simp [own_c0, own_c1, own_c3, own_ap0, own_ap1, own_ap2, own_ap3, own_ap4, own_ap5, own_rmA0, own_rmA1, own_rmA2, own_rmA3, own_rmA4, own_rmA5, own_s0, a0, a1, a2, a3, n01, n10, n02, n20, n12, n21, m0, m1, m2, k0, k1, k2]; omega)
theorem own_l43 (q0 q1 q2 t : Int32) (h0 : 0 ≤ q0.toInt ∧ q0.toInt < 3) (h1 : 0 ≤ q1.toInt ∧ q1.toInt < 3) (h2 : 0 ≤ q2.toInt ∧ q2.toInt < 3) (h01 : q0.toInt ≠ q1.toInt) (h02 : q0.toInt ≠ q2.toInt) (h12 : q1.toInt ≠ q2.toInt) (ht : t = (0 : Int32) ∨ t = (1 : Int32)) : (own_rm (own_ap (own_ap (own_ap own_st0 q0 t) q1 t) q2 t) q0) 4 t.toNatClampNeg = (-1 : Int32) ∨ (0 ≤ ((own_rm (own_ap (own_ap (own_ap own_st0 q0 t) q1 t) q2 t) q0) 4 t.toNatClampNeg).toInt ∧ ((own_rm (own_ap (own_ap (own_ap own_st0 q0 t) q1 t) q2 t) q0) 4 t.toNatClampNeg).toInt < (4 : Nat)) := by
  have a0 := own_m1 q0 h0.1
  have a1 := own_m1 q1 h1.1
  have a2 := own_m1 q2 h2.1
  have a3 : ¬ (3 : Int32) = (-1 : Int32) := by decide
  have n01 := own_nn q0 q1 h0.1 h1.1 h01
  have n10 : ¬ q1.toNatClampNeg = q0.toNatClampNeg := fun q => n01 (Eq.symm q)
  have n02 := own_nn q0 q2 h0.1 h2.1 h02
  have n20 : ¬ q2.toNatClampNeg = q0.toNatClampNeg := fun q => n02 (Eq.symm q)
  have n12 := own_nn q1 q2 h1.1 h2.1 h12
  have n21 : ¬ q2.toNatClampNeg = q1.toNatClampNeg := fun q => n12 (Eq.symm q)
  have m0 : ¬ q0.toNatClampNeg = 3 := own_nn q0 3 h0.1 (by decide) (by simp only [Int32.reduceToInt]; omega)
  have k0 : ¬ 3 = q0.toNatClampNeg := fun q => m0 (Eq.symm q)
  have m1 : ¬ q1.toNatClampNeg = 3 := own_nn q1 3 h1.1 (by decide) (by simp only [Int32.reduceToInt]; omega)
  have k1 : ¬ 3 = q1.toNatClampNeg := fun q => m1 (Eq.symm q)
  have m2 : ¬ q2.toNatClampNeg = 3 := own_nn q2 3 h2.1 (by decide) (by simp only [Int32.reduceToInt]; omega)
  have k2 : ¬ 3 = q2.toNatClampNeg := fun q => m2 (Eq.symm q)
  rcases ht with rfl | rfl <;>
  first | (simp [own_c0, own_c1, own_c3, own_ap0, own_ap1, own_ap2, own_ap3, own_ap4, own_ap5, own_rmA0, own_rmA1, own_rmA2, own_rmA3, own_rmA4, own_rmA5, own_s0, a0, a1, a2, a3, n01, n10, n02, n20, n12, n21, m0, m1, m2, k0, k1, k2]; done) | (simp [own_c0, own_c1, own_c3, own_ap0, own_ap1, own_ap2, own_ap3, own_ap4, own_ap5, own_rmA0, own_rmA1, own_rmA2, own_rmA3, own_rmA4, own_rmA5, own_s0, a0, a1, a2, a3, n01, n10, n02, n20, n12, n21, m0, m1, m2, k0, k1, k2]; decide) | (simp [own_c0, own_c1, own_c3, own_ap0, own_ap1, own_ap2, own_ap3, own_ap4, own_ap5, own_rmA0, own_rmA1, own_rmA2, own_rmA3, own_rmA4, own_rmA5, own_s0, a0, a1, a2, a3, n01, n10, n02, n20, n12, n21, m0, m1, m2, k0, k1, k2]; omega)
theorem own_l44 (q0 q1 q2 t : Int32) (h0 : 0 ≤ q0.toInt ∧ q0.toInt < 3) (h1 : 0 ≤ q1.toInt ∧ q1.toInt < 3) (h2 : 0 ≤ q2.toInt ∧ q2.toInt < 3) (h01 : q0.toInt ≠ q1.toInt) (h02 : q0.toInt ≠ q2.toInt) (h12 : q1.toInt ≠ q2.toInt) (ht : t = (0 : Int32) ∨ t = (1 : Int32)) : (own_ap (own_rm (own_ap (own_ap (own_ap own_st0 q0 t) q1 t) q2 t) q0) (3 : Int32) t) 0 q0.toNatClampNeg = (-1 : Int32) := by
  have a0 := own_m1 q0 h0.1
  have a1 := own_m1 q1 h1.1
  have a2 := own_m1 q2 h2.1
  have a3 : ¬ (3 : Int32) = (-1 : Int32) := by decide
  have n01 := own_nn q0 q1 h0.1 h1.1 h01
  have n10 : ¬ q1.toNatClampNeg = q0.toNatClampNeg := fun q => n01 (Eq.symm q)
  have n02 := own_nn q0 q2 h0.1 h2.1 h02
  have n20 : ¬ q2.toNatClampNeg = q0.toNatClampNeg := fun q => n02 (Eq.symm q)
  have n12 := own_nn q1 q2 h1.1 h2.1 h12
  have n21 : ¬ q2.toNatClampNeg = q1.toNatClampNeg := fun q => n12 (Eq.symm q)
  have m0 : ¬ q0.toNatClampNeg = 3 := own_nn q0 3 h0.1 (by decide) (by simp only [Int32.reduceToInt]; omega)
  have k0 : ¬ 3 = q0.toNatClampNeg := fun q => m0 (Eq.symm q)
  have m1 : ¬ q1.toNatClampNeg = 3 := own_nn q1 3 h1.1 (by decide) (by simp only [Int32.reduceToInt]; omega)
  have k1 : ¬ 3 = q1.toNatClampNeg := fun q => m1 (Eq.symm q)
  have m2 : ¬ q2.toNatClampNeg = 3 := own_nn q2 3 h2.1 (by decide) (by simp only [Int32.reduceToInt]; omega)
  have k2 : ¬ 3 = q2.toNatClampNeg := fun q => m2 (Eq.symm q)
  rcases ht with rfl | rfl <;>
  first | (simp [own_c0, own_c1, own_c3, own_ap0, own_ap1, own_ap2, own_ap3, own_ap4, own_ap5, own_rmA0, own_rmA1, own_rmA2, own_rmA3, own_rmA4, own_rmA5, own_s0, a0, a1, a2, a3, n01, n10, n02, n20, n12, n21, m0, m1, m2, k0, k1, k2]; done) | (simp [own_c0, own_c1, own_c3, own_ap0, own_ap1, own_ap2, own_ap3, own_ap4, own_ap5, own_rmA0, own_rmA1, own_rmA2, own_rmA3, own_rmA4, own_rmA5, own_s0, a0, a1, a2, a3, n01, n10, n02, n20, n12, n21, m0, m1, m2, k0, k1, k2]; decide) | (simp [own_c0, own_c1, own_c3, own_ap0, own_ap1, own_ap2, own_ap3, own_ap4, own_ap5, own_rmA0, own_rmA1, own_rmA2, own_rmA3, own_rmA4, own_rmA5, own_s0, a0, a1, a2, a3, n01, n10, n02, n20, n12, n21, m0, m1, m2, k0, k1, k2]; omega)
theorem own_l45 (q0 q1 q2 t : Int32) (h0 : 0 ≤ q0.toInt ∧ q0.toInt < 3) (h1 : 0 ≤ q1.toInt ∧ q1.toInt < 3) (h2 : 0 ≤ q2.toInt ∧ q2.toInt < 3) (h01 : q0.toInt ≠ q1.toInt) (h02 : q0.toInt ≠ q2.toInt) (h12 : q1.toInt ≠ q2.toInt) (ht : t = (0 : Int32) ∨ t = (1 : Int32)) : (own_ap (own_rm (own_ap (own_ap (own_ap own_st0 q0 t) q1 t) q2 t) q0) (3 : Int32) t) 5 t.toNatClampNeg = ((2 : Int32) + (1 : Int32)) := by
  have a0 := own_m1 q0 h0.1
  have a1 := own_m1 q1 h1.1
  have a2 := own_m1 q2 h2.1
  have a3 : ¬ (3 : Int32) = (-1 : Int32) := by decide
  have n01 := own_nn q0 q1 h0.1 h1.1 h01
  have n10 : ¬ q1.toNatClampNeg = q0.toNatClampNeg := fun q => n01 (Eq.symm q)
  have n02 := own_nn q0 q2 h0.1 h2.1 h02
  have n20 : ¬ q2.toNatClampNeg = q0.toNatClampNeg := fun q => n02 (Eq.symm q)
  have n12 := own_nn q1 q2 h1.1 h2.1 h12
  have n21 : ¬ q2.toNatClampNeg = q1.toNatClampNeg := fun q => n12 (Eq.symm q)
  have m0 : ¬ q0.toNatClampNeg = 3 := own_nn q0 3 h0.1 (by decide) (by simp only [Int32.reduceToInt]; omega)
  have k0 : ¬ 3 = q0.toNatClampNeg := fun q => m0 (Eq.symm q)
  have m1 : ¬ q1.toNatClampNeg = 3 := own_nn q1 3 h1.1 (by decide) (by simp only [Int32.reduceToInt]; omega)
  have k1 : ¬ 3 = q1.toNatClampNeg := fun q => m1 (Eq.symm q)
  have m2 : ¬ q2.toNatClampNeg = 3 := own_nn q2 3 h2.1 (by decide) (by simp only [Int32.reduceToInt]; omega)
  have k2 : ¬ 3 = q2.toNatClampNeg := fun q => m2 (Eq.symm q)
  rcases ht with rfl | rfl <;>
  first | (simp [own_c0, own_c1, own_c3, own_ap0, own_ap1, own_ap2, own_ap3, own_ap4, own_ap5, own_rmA0, own_rmA1, own_rmA2, own_rmA3, own_rmA4, own_rmA5, own_s0, a0, a1, a2, a3, n01, n10, n02, n20, n12, n21, m0, m1, m2, k0, k1, k2]; done) | (simp [own_c0, own_c1, own_c3, own_ap0, own_ap1, own_ap2, own_ap3, own_ap4, own_ap5, own_rmA0, own_rmA1, own_rmA2, own_rmA3, own_rmA4, own_rmA5, own_s0, a0, a1, a2, a3, n01, n10, n02, n20, n12, n21, m0, m1, m2, k0, k1, k2]; decide) | (simp [own_c0, own_c1, own_c3, own_ap0, own_ap1, own_ap2, own_ap3, own_ap4, own_ap5, own_rmA0, own_rmA1, own_rmA2, own_rmA3, own_rmA4, own_rmA5, own_s0, a0, a1, a2, a3, n01, n10, n02, n20, n12, n21, m0, m1, m2, k0, k1, k2]; omega)
theorem own_l46 (q0 q1 q2 t : Int32) (h0 : 0 ≤ q0.toInt ∧ q0.toInt < 3) (h1 : 0 ≤ q1.toInt ∧ q1.toInt < 3) (h2 : 0 ≤ q2.toInt ∧ q2.toInt < 3) (h01 : q0.toInt ≠ q1.toInt) (h02 : q0.toInt ≠ q2.toInt) (h12 : q1.toInt ≠ q2.toInt) (ht : t = (0 : Int32) ∨ t = (1 : Int32)) : (own_ap (own_rm (own_ap (own_ap (own_ap own_st0 q0 t) q1 t) q2 t) q0) (3 : Int32) t) 3 t.toNatClampNeg = q1 := by
  have a0 := own_m1 q0 h0.1
  have a1 := own_m1 q1 h1.1
  have a2 := own_m1 q2 h2.1
  have a3 : ¬ (3 : Int32) = (-1 : Int32) := by decide
  have n01 := own_nn q0 q1 h0.1 h1.1 h01
  have n10 : ¬ q1.toNatClampNeg = q0.toNatClampNeg := fun q => n01 (Eq.symm q)
  have n02 := own_nn q0 q2 h0.1 h2.1 h02
  have n20 : ¬ q2.toNatClampNeg = q0.toNatClampNeg := fun q => n02 (Eq.symm q)
  have n12 := own_nn q1 q2 h1.1 h2.1 h12
  have n21 : ¬ q2.toNatClampNeg = q1.toNatClampNeg := fun q => n12 (Eq.symm q)
  have m0 : ¬ q0.toNatClampNeg = 3 := own_nn q0 3 h0.1 (by decide) (by simp only [Int32.reduceToInt]; omega)
  have k0 : ¬ 3 = q0.toNatClampNeg := fun q => m0 (Eq.symm q)
  have m1 : ¬ q1.toNatClampNeg = 3 := own_nn q1 3 h1.1 (by decide) (by simp only [Int32.reduceToInt]; omega)
  have k1 : ¬ 3 = q1.toNatClampNeg := fun q => m1 (Eq.symm q)
  have m2 : ¬ q2.toNatClampNeg = 3 := own_nn q2 3 h2.1 (by decide) (by simp only [Int32.reduceToInt]; omega)
  have k2 : ¬ 3 = q2.toNatClampNeg := fun q => m2 (Eq.symm q)
  rcases ht with rfl | rfl <;>
  first | (simp [own_c0, own_c1, own_c3, own_ap0, own_ap1, own_ap2, own_ap3, own_ap4, own_ap5, own_rmA0, own_rmA1, own_rmA2, own_rmA3, own_rmA4, own_rmA5, own_s0, a0, a1, a2, a3, n01, n10, n02, n20, n12, n21, m0, m1, m2, k0, k1, k2]; done) | (simp [own_c0, own_c1, own_c3, own_ap0, own_ap1, own_ap2, own_ap3, own_ap4, own_ap5, own_rmA0, own_rmA1, own_rmA2, own_rmA3, own_rmA4, own_rmA5, own_s0, a0, a1, a2, a3, n01, n10, n02, n20, n12, n21, m0, m1, m2, k0, k1, k2]; decide) | (simp [own_c0, own_c1, own_c3, own_ap0, own_ap1, own_ap2, own_ap3, own_ap4, own_ap5, own_rmA0, own_rmA1, own_rmA2, own_rmA3, own_rmA4, own_rmA5, own_s0, a0, a1, a2, a3, n01, n10, n02, n20, n12, n21, m0, m1, m2, k0, k1, k2]; omega)
theorem own_l47 (q0 q1 q2 t : Int32) (h0 : 0 ≤ q0.toInt ∧ q0.toInt < 3) (h1 : 0 ≤ q1.toInt ∧ q1.toInt < 3) (h2 : 0 ≤ q2.toInt ∧ q2.toInt < 3) (h01 : q0.toInt ≠ q1.toInt) (h02 : q0.toInt ≠ q2.toInt) (h12 : q1.toInt ≠ q2.toInt) (ht : t = (0 : Int32) ∨ t = (1 : Int32)) : (own_ap (own_rm (own_ap (own_ap (own_ap own_st0 q0 t) q1 t) q2 t) q0) (3 : Int32) t) 2 q1.toNatClampNeg = q2 := by
  have a0 := own_m1 q0 h0.1
  have a1 := own_m1 q1 h1.1
  have a2 := own_m1 q2 h2.1
  have a3 : ¬ (3 : Int32) = (-1 : Int32) := by decide
  have n01 := own_nn q0 q1 h0.1 h1.1 h01
  have n10 : ¬ q1.toNatClampNeg = q0.toNatClampNeg := fun q => n01 (Eq.symm q)
  have n02 := own_nn q0 q2 h0.1 h2.1 h02
  have n20 : ¬ q2.toNatClampNeg = q0.toNatClampNeg := fun q => n02 (Eq.symm q)
  have n12 := own_nn q1 q2 h1.1 h2.1 h12
  have n21 : ¬ q2.toNatClampNeg = q1.toNatClampNeg := fun q => n12 (Eq.symm q)
  have m0 : ¬ q0.toNatClampNeg = 3 := own_nn q0 3 h0.1 (by decide) (by simp only [Int32.reduceToInt]; omega)
  have k0 : ¬ 3 = q0.toNatClampNeg := fun q => m0 (Eq.symm q)
  have m1 : ¬ q1.toNatClampNeg = 3 := own_nn q1 3 h1.1 (by decide) (by simp only [Int32.reduceToInt]; omega)
  have k1 : ¬ 3 = q1.toNatClampNeg := fun q => m1 (Eq.symm q)
  have m2 : ¬ q2.toNatClampNeg = 3 := own_nn q2 3 h2.1 (by decide) (by simp only [Int32.reduceToInt]; omega)
  have k2 : ¬ 3 = q2.toNatClampNeg := fun q => m2 (Eq.symm q)
  rcases ht with rfl | rfl <;>
  first | (simp [own_c0, own_c1, own_c3, own_ap0, own_ap1, own_ap2, own_ap3, own_ap4, own_ap5, own_rmA0, own_rmA1, own_rmA2, own_rmA3, own_rmA4, own_rmA5, own_s0, a0, a1, a2, a3, n01, n10, n02, n20, n12, n21, m0, m1, m2, k0, k1, k2]; done) | (simp [own_c0, own_c1, own_c3, own_ap0, own_ap1, own_ap2, own_ap3, own_ap4, own_ap5, own_rmA0, own_rmA1, own_rmA2, own_rmA3, own_rmA4, own_rmA5, own_s0, a0, a1, a2, a3, n01, n10, n02, n20, n12, n21, m0, m1, m2, k0, k1, k2]; decide) | (simp [own_c0, own_c1, own_c3, own_ap0, own_ap1, own_ap2, own_ap3, own_ap4, own_ap5, own_rmA0, own_rmA1, own_rmA2, own_rmA3, own_rmA4, own_rmA5, own_s0, a0, a1, a2, a3, n01, n10, n02, n20, n12, n21, m0, m1, m2, k0, k1, k2]; omega)
theorem own_l48 (q0 q1 q2 t : Int32) (h0 : 0 ≤ q0.toInt ∧ q0.toInt < 3) (h1 : 0 ≤ q1.toInt ∧ q1.toInt < 3) (h2 : 0 ≤ q2.toInt ∧ q2.toInt < 3) (h01 : q0.toInt ≠ q1.toInt) (h02 : q0.toInt ≠ q2.toInt) (h12 : q1.toInt ≠ q2.toInt) (ht : t = (0 : Int32) ∨ t = (1 : Int32)) : (own_ap (own_rm (own_ap (own_ap (own_ap own_st0 q0 t) q1 t) q2 t) q0) (3 : Int32) t) 2 q2.toNatClampNeg = (3 : Int32) := by
  have a0 := own_m1 q0 h0.1
  have a1 := own_m1 q1 h1.1
  have a2 := own_m1 q2 h2.1
  have a3 : ¬ (3 : Int32) = (-1 : Int32) := by decide
  have n01 := own_nn q0 q1 h0.1 h1.1 h01
  have n10 : ¬ q1.toNatClampNeg = q0.toNatClampNeg := fun q => n01 (Eq.symm q)
  have n02 := own_nn q0 q2 h0.1 h2.1 h02
  have n20 : ¬ q2.toNatClampNeg = q0.toNatClampNeg := fun q => n02 (Eq.symm q)
  have n12 := own_nn q1 q2 h1.1 h2.1 h12
  have n21 : ¬ q2.toNatClampNeg = q1.toNatClampNeg := fun q => n12 (Eq.symm q)
  have m0 : ¬ q0.toNatClampNeg = 3 := own_nn q0 3 h0.1 (by decide) (by simp only [Int32.reduceToInt]; omega)
  have k0 : ¬ 3 = q0.toNatClampNeg := fun q => m0 (Eq.symm q)
  have m1 : ¬ q1.toNatClampNeg = 3 := own_nn q1 3 h1.1 (by decide) (by simp only [Int32.reduceToInt]; omega)
  have k1 : ¬ 3 = q1.toNatClampNeg := fun q => m1 (Eq.symm q)
  have m2 : ¬ q2.toNatClampNeg = 3 := own_nn q2 3 h2.1 (by decide) (by simp only [Int32.reduceToInt]; omega)
  have k2 : ¬ 3 = q2.toNatClampNeg := fun q => m2 (Eq.symm q)
  rcases ht with rfl | rfl <;>
  first | (simp [own_c0, own_c1, own_c3, own_ap0, own_ap1, own_ap2, own_ap3, own_ap4, own_ap5, own_rmA0, own_rmA1, own_rmA2, own_rmA3, own_rmA4, own_rmA5, own_s0, a0, a1, a2, a3, n01, n10, n02, n20, n12, n21, m0, m1, m2, k0, k1, k2]; done) | (simp [own_c0, own_c1, own_c3, own_ap0, own_ap1, own_ap2, own_ap3, own_ap4, own_ap5, own_rmA0, own_rmA1, own_rmA2, own_rmA3, own_rmA4, own_rmA5, own_s0, a0, a1, a2, a3, n01, n10, n02, n20, n12, n21, m0, m1, m2, k0, k1, k2]; decide) | (simp [own_c0, own_c1, own_c3, own_ap0, own_ap1, own_ap2, own_ap3, own_ap4, own_ap5, own_rmA0, own_rmA1, own_rmA2, own_rmA3, own_rmA4, own_rmA5, own_s0, a0, a1, a2, a3, n01, n10, n02, n20, n12, n21, m0, m1, m2, k0, k1, k2]; omega)
theorem own_l49 (q0 q1 q2 t : Int32) (h0 : 0 ≤ q0.toInt ∧ q0.toInt < 3) (h1 : 0 ≤ q1.toInt ∧ q1.toInt < 3) (h2 : 0 ≤ q2.toInt ∧ q2.toInt < 3) (h01 : q0.toInt ≠ q1.toInt) (h02 : q0.toInt ≠ q2.toInt) (h12 : q1.toInt ≠ q2.toInt) (ht : t = (0 : Int32) ∨ t = (1 : Int32)) : (0 ≤ ((own_rm (own_ap (own_ap (own_ap own_st0 q0 t) q1 t) q2 t) q0) 0 q1.toNatClampNeg).toInt ∧ ((own_rm (own_ap (own_ap (own_ap own_st0 q0 t) q1 t) q2 t) q0) 0 q1.toNatClampNeg).toInt < (2 : Nat)) := by
  have a0 := own_m1 q0 h0.1
  have a1 := own_m1 q1 h1.1
  have a2 := own_m1 q2 h2.1
  have a3 : ¬ (3 : Int32) = (-1 : Int32) := by decide
  have n01 := own_nn q0 q1 h0.1 h1.1 h01
  have n10 : ¬ q1.toNatClampNeg = q0.toNatClampNeg := fun q => n01 (Eq.symm q)
  have n02 := own_nn q0 q2 h0.1 h2.1 h02
  have n20 : ¬ q2.toNatClampNeg = q0.toNatClampNeg := fun q => n02 (Eq.symm q)
  have n12 := own_nn q1 q2 h1.1 h2.1 h12
  have n21 : ¬ q2.toNatClampNeg = q1.toNatClampNeg := fun q => n12 (Eq.symm q)
  have m0 : ¬ q0.toNatClampNeg = 3 := own_nn q0 3 h0.1 (by decide) (by simp only [Int32.reduceToInt]; omega)
  have k0 : ¬ 3 = q0.toNatClampNeg := fun q => m0 (Eq.symm q)
  have m1 : ¬ q1.toNatClampNeg = 3 := own_nn q1 3 h1.1 (by decide) (by simp only [Int32.reduceToInt]; omega)
  have k1 : ¬ 3 = q1.toNatClampNeg := fun q => m1 (Eq.symm q)
  have m2 : ¬ q2.toNatClampNeg = 3 := own_nn q2 3 h2.1 (by decide) (by simp only [Int32.reduceToInt]; omega)
  have k2 : ¬ 3 = q2.toNatClampNeg := fun q => m2 (Eq.symm q)
  rcases ht with rfl | rfl <;>
  first | (simp [own_c0, own_c1, own_c3, own_ap0, own_ap1, own_ap2, own_ap3, own_ap4, own_ap5, own_rmA0, own_rmA1, own_rmA2, own_rmA3, own_rmA4, own_rmA5, own_s0, a0, a1, a2, a3, n01, n10, n02, n20, n12, n21, m0, m1, m2, k0, k1, k2]; done) | (simp [own_c0, own_c1, own_c3, own_ap0, own_ap1, own_ap2, own_ap3, own_ap4, own_ap5, own_rmA0, own_rmA1, own_rmA2, own_rmA3, own_rmA4, own_rmA5, own_s0, a0, a1, a2, a3, n01, n10, n02, n20, n12, n21, m0, m1, m2, k0, k1, k2]; decide) | (simp [own_c0, own_c1, own_c3, own_ap0, own_ap1, own_ap2, own_ap3, own_ap4, own_ap5, own_rmA0, own_rmA1, own_rmA2, own_rmA3, own_rmA4, own_rmA5, own_s0, a0, a1, a2, a3, n01, n10, n02, n20, n12, n21, m0, m1, m2, k0, k1, k2]; omega)
theorem own_l50 (q0 q1 q2 t : Int32) (h0 : 0 ≤ q0.toInt ∧ q0.toInt < 3) (h1 : 0 ≤ q1.toInt ∧ q1.toInt < 3) (h2 : 0 ≤ q2.toInt ∧ q2.toInt < 3) (h01 : q0.toInt ≠ q1.toInt) (h02 : q0.toInt ≠ q2.toInt) (h12 : q1.toInt ≠ q2.toInt) (ht : t = (0 : Int32) ∨ t = (1 : Int32)) : (own_rm (own_ap (own_ap (own_ap own_st0 q0 t) q1 t) q2 t) q0) 1 q1.toNatClampNeg = (-1 : Int32) ∨ (0 ≤ ((own_rm (own_ap (own_ap (own_ap own_st0 q0 t) q1 t) q2 t) q0) 1 q1.toNatClampNeg).toInt ∧ ((own_rm (own_ap (own_ap (own_ap own_st0 q0 t) q1 t) q2 t) q0) 1 q1.toNatClampNeg).toInt < (4 : Nat)) := by
  have a0 := own_m1 q0 h0.1
  have a1 := own_m1 q1 h1.1
  have a2 := own_m1 q2 h2.1
  have a3 : ¬ (3 : Int32) = (-1 : Int32) := by decide
  have n01 := own_nn q0 q1 h0.1 h1.1 h01
  have n10 : ¬ q1.toNatClampNeg = q0.toNatClampNeg := fun q => n01 (Eq.symm q)
  have n02 := own_nn q0 q2 h0.1 h2.1 h02
  have n20 : ¬ q2.toNatClampNeg = q0.toNatClampNeg := fun q => n02 (Eq.symm q)
  have n12 := own_nn q1 q2 h1.1 h2.1 h12
  have n21 : ¬ q2.toNatClampNeg = q1.toNatClampNeg := fun q => n12 (Eq.symm q)
  have m0 : ¬ q0.toNatClampNeg = 3 := own_nn q0 3 h0.1 (by decide) (by simp only [Int32.reduceToInt]; omega)
  have k0 : ¬ 3 = q0.toNatClampNeg := fun q => m0 (Eq.symm q)
  have m1 : ¬ q1.toNatClampNeg = 3 := own_nn q1 3 h1.1 (by decide) (by simp only [Int32.reduceToInt]; omega)
  have k1 : ¬ 3 = q1.toNatClampNeg := fun q => m1 (Eq.symm q)
  have m2 : ¬ q2.toNatClampNeg = 3 := own_nn q2 3 h2.1 (by decide) (by simp only [Int32.reduceToInt]; omega)
  have k2 : ¬ 3 = q2.toNatClampNeg := fun q => m2 (Eq.symm q)
  rcases ht with rfl | rfl <;>
  first | (simp [own_c0, own_c1, own_c3, own_ap0, own_ap1, own_ap2, own_ap3, own_ap4, own_ap5, own_rmA0, own_rmA1, own_rmA2, own_rmA3, own_rmA4, own_rmA5, own_s0, a0, a1, a2, a3, n01, n10, n02, n20, n12, n21, m0, m1, m2, k0, k1, k2]; done) | (simp [own_c0, own_c1, own_c3, own_ap0, own_ap1, own_ap2, own_ap3, own_ap4, own_ap5, own_rmA0, own_rmA1, own_rmA2, own_rmA3, own_rmA4, own_rmA5, own_s0, a0, a1, a2, a3, n01, n10, n02, n20, n12, n21, m0, m1, m2, k0, k1, k2]; decide) | (simp [own_c0, own_c1, own_c3, own_ap0, own_ap1, own_ap2, own_ap3, own_ap4, own_ap5, own_rmA0, own_rmA1, own_rmA2, own_rmA3, own_rmA4, own_rmA5, own_s0, a0, a1, a2, a3, n01, n10, n02, n20, n12, n21, m0, m1, m2, k0, k1, k2]; omega)
theorem own_l51 (q0 q1 q2 t : Int32) (h0 : 0 ≤ q0.toInt ∧ q0.toInt < 3) (h1 : 0 ≤ q1.toInt ∧ q1.toInt < 3) (h2 : 0 ≤ q2.toInt ∧ q2.toInt < 3) (h01 : q0.toInt ≠ q1.toInt) (h02 : q0.toInt ≠ q2.toInt) (h12 : q1.toInt ≠ q2.toInt) (ht : t = (0 : Int32) ∨ t = (1 : Int32)) : (own_rm (own_ap (own_ap (own_ap own_st0 q0 t) q1 t) q2 t) q0) 2 q1.toNatClampNeg = (-1 : Int32) ∨ (0 ≤ ((own_rm (own_ap (own_ap (own_ap own_st0 q0 t) q1 t) q2 t) q0) 2 q1.toNatClampNeg).toInt ∧ ((own_rm (own_ap (own_ap (own_ap own_st0 q0 t) q1 t) q2 t) q0) 2 q1.toNatClampNeg).toInt < (4 : Nat)) := by
  have a0 := own_m1 q0 h0.1
  have a1 := own_m1 q1 h1.1
  have a2 := own_m1 q2 h2.1
  have a3 : ¬ (3 : Int32) = (-1 : Int32) := by decide
  have n01 := own_nn q0 q1 h0.1 h1.1 h01
  have n10 : ¬ q1.toNatClampNeg = q0.toNatClampNeg := fun q => n01 (Eq.symm q)
  have n02 := own_nn q0 q2 h0.1 h2.1 h02
  have n20 : ¬ q2.toNatClampNeg = q0.toNatClampNeg := fun q => n02 (Eq.symm q)
  have n12 := own_nn q1 q2 h1.1 h2.1 h12
  have n21 : ¬ q2.toNatClampNeg = q1.toNatClampNeg := fun q => n12 (Eq.symm q)
  have m0 : ¬ q0.toNatClampNeg = 3 := own_nn q0 3 h0.1 (by decide) (by simp only [Int32.reduceToInt]; omega)
  have k0 : ¬ 3 = q0.toNatClampNeg := fun q => m0 (Eq.symm q)
  have m1 : ¬ q1.toNatClampNeg = 3 := own_nn q1 3 h1.1 (by decide) (by simp only [Int32.reduceToInt]; omega)
  have k1 : ¬ 3 = q1.toNatClampNeg := fun q => m1 (Eq.symm q)
  have m2 : ¬ q2.toNatClampNeg = 3 := own_nn q2 3 h2.1 (by decide) (by simp only [Int32.reduceToInt]; omega)
  have k2 : ¬ 3 = q2.toNatClampNeg := fun q => m2 (Eq.symm q)
  rcases ht with rfl | rfl <;>
  first | (simp [own_c0, own_c1, own_c3, own_ap0, own_ap1, own_ap2, own_ap3, own_ap4, own_ap5, own_rmA0, own_rmA1, own_rmA2, own_rmA3, own_rmA4, own_rmA5, own_s0, a0, a1, a2, a3, n01, n10, n02, n20, n12, n21, m0, m1, m2, k0, k1, k2]; done) | (simp [own_c0, own_c1, own_c3, own_ap0, own_ap1, own_ap2, own_ap3, own_ap4, own_ap5, own_rmA0, own_rmA1, own_rmA2, own_rmA3, own_rmA4, own_rmA5, own_s0, a0, a1, a2, a3, n01, n10, n02, n20, n12, n21, m0, m1, m2, k0, k1, k2]; decide) | (simp [own_c0, own_c1, own_c3, own_ap0, own_ap1, own_ap2, own_ap3, own_ap4, own_ap5, own_rmA0, own_rmA1, own_rmA2, own_rmA3, own_rmA4, own_rmA5, own_s0, a0, a1, a2, a3, n01, n10, n02, n20, n12, n21, m0, m1, m2, k0, k1, k2]; omega)
theorem own_l52 (q0 q1 q2 t : Int32) (h0 : 0 ≤ q0.toInt ∧ q0.toInt < 3) (h1 : 0 ≤ q1.toInt ∧ q1.toInt < 3) (h2 : 0 ≤ q2.toInt ∧ q2.toInt < 3) (h01 : q0.toInt ≠ q1.toInt) (h02 : q0.toInt ≠ q2.toInt) (h12 : q1.toInt ≠ q2.toInt) (ht : t = (0 : Int32) ∨ t = (1 : Int32)) : (own_rm (own_rm (own_ap (own_ap (own_ap own_st0 q0 t) q1 t) q2 t) q0) q1) 4 t.toNatClampNeg = (-1 : Int32) ∨ (0 ≤ ((own_rm (own_rm (own_ap (own_ap (own_ap own_st0 q0 t) q1 t) q2 t) q0) q1) 4 t.toNatClampNeg).toInt ∧ ((own_rm (own_rm (own_ap (own_ap (own_ap own_st0 q0 t) q1 t) q2 t) q0) q1) 4 t.toNatClampNeg).toInt < (4 : Nat)) := by
  have a0 := own_m1 q0 h0.1
  have a1 := own_m1 q1 h1.1
  have a2 := own_m1 q2 h2.1
  have a3 : ¬ (3 : Int32) = (-1 : Int32) := by decide
  have n01 := own_nn q0 q1 h0.1 h1.1 h01
  have n10 : ¬ q1.toNatClampNeg = q0.toNatClampNeg := fun q => n01 (Eq.symm q)
  have n02 := own_nn q0 q2 h0.1 h2.1 h02
  have n20 : ¬ q2.toNatClampNeg = q0.toNatClampNeg := fun q => n02 (Eq.symm q)
  have n12 := own_nn q1 q2 h1.1 h2.1 h12
  have n21 : ¬ q2.toNatClampNeg = q1.toNatClampNeg := fun q => n12 (Eq.symm q)
  have m0 : ¬ q0.toNatClampNeg = 3 := own_nn q0 3 h0.1 (by decide) (by simp only [Int32.reduceToInt]; omega)
  have k0 : ¬ 3 = q0.toNatClampNeg := fun q => m0 (Eq.symm q)
  have m1 : ¬ q1.toNatClampNeg = 3 := own_nn q1 3 h1.1 (by decide) (by simp only [Int32.reduceToInt]; omega)
  have k1 : ¬ 3 = q1.toNatClampNeg := fun q => m1 (Eq.symm q)
  have m2 : ¬ q2.toNatClampNeg = 3 := own_nn q2 3 h2.1 (by decide) (by simp only [Int32.reduceToInt]; omega)
  have k2 : ¬ 3 = q2.toNatClampNeg := fun q => m2 (Eq.symm q)
  rcases ht with rfl | rfl <;>
  first | (simp [own_c0, own_c1, own_c3, own_ap0, own_ap1, own_ap2, own_ap3, own_ap4, own_ap5, own_rmA0, own_rmA1, own_rmA2, own_rmA3, own_rmA4, own_rmA5, own_s0, a0, a1, a2, a3, n01, n10, n02, n20, n12, n21, m0, m1, m2, k0, k1, k2]; done) | (simp [own_c0, own_c1, own_c3, own_ap0, own_ap1, own_ap2, own_ap3, own_ap4, own_ap5, own_rmA0, own_rmA1, own_rmA2, own_rmA3, own_rmA4, own_rmA5, own_s0, a0, a1, a2, a3, n01, n10, n02, n20, n12, n21, m0, m1, m2, k0, k1, k2]; decide) | (simp [own_c0, own_c1, own_c3, own_ap0, own_ap1, own_ap2, own_ap3, own_ap4, own_ap5, own_rmA0, own_rmA1, own_rmA2, own_rmA3, own_rmA4, own_rmA5, own_s0, a0, a1, a2, a3, n01, n10, n02, n20, n12, n21, m0, m1, m2, k0, k1, k2]; omega)
theorem own_l53 (q0 q1 q2 t : Int32) (h0 : 0 ≤ q0.toInt ∧ q0.toInt < 3) (h1 : 0 ≤ q1.toInt ∧ q1.toInt < 3) (h2 : 0 ≤ q2.toInt ∧ q2.toInt < 3) (h01 : q0.toInt ≠ q1.toInt) (h02 : q0.toInt ≠ q2.toInt) (h12 : q1.toInt ≠ q2.toInt) (ht : t = (0 : Int32) ∨ t = (1 : Int32)) : (own_ap (own_rm (own_rm (own_ap (own_ap (own_ap own_st0 q0 t) q1 t) q2 t) q0) q1) (3 : Int32) t) 0 q0.toNatClampNeg = (-1 : Int32) := by
  have a0 := own_m1 q0 h0.1
  have a1 := own_m1 q1 h1.1
  have a2 := own_m1 q2 h2.1
  have a3 : ¬ (3 : Int32) = (-1 : Int32) := by decide
  have n01 := own_nn q0 q1 h0.1 h1.1 h01
  have n10 : ¬ q1.toNatClampNeg = q0.toNatClampNeg := fun q => n01 (Eq.symm q)
  have n02 := own_nn q0 q2 h0.1 h2.1 h02
  have n20 : ¬ q2.toNatClampNeg = q0.toNatClampNeg := fun q => n02 (Eq.symm q)
  have n12 := own_nn q1 q2 h1.1 h2.1 h12
  have n21 : ¬ q2.toNatClampNeg = q1.toNatClampNeg := fun q => n12 (Eq.symm q)
  have m0 : ¬ q0.toNatClampNeg = 3 := own_nn q0 3 h0.1 (by decide) (by simp only [Int32.reduceToInt]; omega)
  have k0 : ¬ 3 = q0.toNatClampNeg := fun q => m0 (Eq.symm q)
  have m1 : ¬ q1.toNatClampNeg = 3 := own_nn q1 3 h1.1 (by decide) (by simp only [Int32.reduceToInt]; omega)
  have k1 : ¬ 3 = q1.toNatClampNeg := fun q => m1 (Eq.symm q)
  have m2 : ¬ q2.toNatClampNeg = 3 := own_nn q2 3 h2.1 (by decide) (by simp only [Int32.reduceToInt]; omega)
  have k2 : ¬ 3 = q2.toNatClampNeg := fun q => m2 (Eq.symm q)
  rcases ht with rfl | rfl <;>
  first | (simp [own_c0, own_c1, own_c3, own_ap0, own_ap1, own_ap2, own_ap3, own_ap4, own_ap5, own_rmA0, own_rmA1, own_rmA2, own_rmA3, own_rmA4, own_rmA5, own_s0, a0, a1, a2, a3, n01, n10, n02, n20, n12, n21, m0, m1, m2, k0, k1, k2]; done) | (simp [own_c0, own_c1, own_c3, own_ap0, own_ap1, own_ap2, own_ap3, own_ap4, own_ap5, own_rmA0, own_rmA1, own_rmA2, own_rmA3, own_rmA4, own_rmA5, own_s0, a0, a1, a2, a3, n01, n10, n02, n20, n12, n21, m0, m1, m2, k0, k1, k2]; decide) | (simp [own_c0, own_c1, own_c3, own_ap0, own_ap1, own_ap2, own_ap3, own_ap4, own_ap5, own_rmA0, own_rmA1, own_rmA2, own_rmA3, own_rmA4, own_rmA5, own_s0, a0, a1, a2, a3, n01, n10, n02, n20, n12, n21, m0, m1, m2, k0, k1, k2]; omega)
theorem own_l54 (q0 q1 q2 t : Int32) (h0 : 0 ≤ q0.toInt ∧ q0.toInt < 3) (h1 : 0 ≤ q1.toInt ∧ q1.toInt < 3) (h2 : 0 ≤ q2.toInt ∧ q2.toInt < 3) (h01 : q0.toInt ≠ q1.toInt) (h02 : q0.toInt ≠ q2.toInt) (h12 : q1.toInt ≠ q2.toInt) (ht : t = (0 : Int32) ∨ t = (1 : Int32)) : (own_ap (own_rm (own_rm (own_ap (own_ap (own_ap own_st0 q0 t) q1 t) q2 t) q0) q1) (3 : Int32) t) 5 t.toNatClampNeg = ((1 : Int32) + (1 : Int32)) := by
  have a0 := own_m1 q0 h0.1
  have a1 := own_m1 q1 h1.1
  have a2 := own_m1 q2 h2.1
  have a3 : ¬ (3 : Int32) = (-1 : Int32) := by decide
  have n01 := own_nn q0 q1 h0.1 h1.1 h01
  have n10 : ¬ q1.toNatClampNeg = q0.toNatClampNeg := fun q => n01 (Eq.symm q)
  have n02 := own_nn q0 q2 h0.1 h2.1 h02
  have n20 : ¬ q2.toNatClampNeg = q0.toNatClampNeg := fun q => n02 (Eq.symm q)
  have n12 := own_nn q1 q2 h1.1 h2.1 h12
  have n21 : ¬ q2.toNatClampNeg = q1.toNatClampNeg := fun q => n12 (Eq.symm q)
  have m0 : ¬ q0.toNatClampNeg = 3 := own_nn q0 3 h0.1 (by decide) (by simp only [Int32.reduceToInt]; omega)
  have k0 : ¬ 3 = q0.toNatClampNeg := fun q => m0 (Eq.symm q)
  have m1 : ¬ q1.toNatClampNeg = 3 := own_nn q1 3 h1.1 (by decide) (by simp only [Int32.reduceToInt]; omega)
  have k1 : ¬ 3 = q1.toNatClampNeg := fun q => m1 (Eq.symm q)
  have m2 : ¬ q2.toNatClampNeg = 3 := own_nn q2 3 h2.1 (by decide) (by simp only [Int32.reduceToInt]; omega)
  have k2 : ¬ 3 = q2.toNatClampNeg := fun q => m2 (Eq.symm q)
  rcases ht with rfl | rfl <;>
  first | (simp [own_c0, own_c1, own_c3, own_ap0, own_ap1, own_ap2, own_ap3, own_ap4, own_ap5, own_rmA0, own_rmA1, own_rmA2, own_rmA3, own_rmA4, own_rmA5, own_s0, a0, a1, a2, a3, n01, n10, n02, n20, n12, n21, m0, m1, m2, k0, k1, k2]; done) | (simp [own_c0, own_c1, own_c3, own_ap0, own_ap1, own_ap2, own_ap3, own_ap4, own_ap5, own_rmA0, own_rmA1, own_rmA2, own_rmA3, own_rmA4, own_rmA5, own_s0, a0, a1, a2, a3, n01, n10, n02, n20, n12, n21, m0, m1, m2, k0, k1, k2]; decide) | (simp [own_c0, own_c1, own_c3, own_ap0, own_ap1, own_ap2, own_ap3, own_ap4, own_ap5, own_rmA0, own_rmA1, own_rmA2, own_rmA3, own_rmA4, own_rmA5, own_s0, a0, a1, a2, a3, n01, n10, n02, n20, n12, n21, m0, m1, m2, k0, k1, k2]; omega)
theorem own_l55 (q0 q1 q2 t : Int32) (h0 : 0 ≤ q0.toInt ∧ q0.toInt < 3) (h1 : 0 ≤ q1.toInt ∧ q1.toInt < 3) (h2 : 0 ≤ q2.toInt ∧ q2.toInt < 3) (h01 : q0.toInt ≠ q1.toInt) (h02 : q0.toInt ≠ q2.toInt) (h12 : q1.toInt ≠ q2.toInt) (ht : t = (0 : Int32) ∨ t = (1 : Int32)) : (own_ap (own_rm (own_rm (own_ap (own_ap (own_ap own_st0 q0 t) q1 t) q2 t) q0) q1) (3 : Int32) t) 3 t.toNatClampNeg = q2 := by
  have a0 := own_m1 q0 h0.1
  have a1 := own_m1 q1 h1.1
  have a2 := own_m1 q2 h2.1
  have a3 : ¬ (3 : Int32) = (-1 : Int32) := by decide
  have n01 := own_nn q0 q1 h0.1 h1.1 h01
  have n10 : ¬ q1.toNatClampNeg = q0.toNatClampNeg := fun q => n01 (Eq.symm q)
  have n02 := own_nn q0 q2 h0.1 h2.1 h02
  have n20 : ¬ q2.toNatClampNeg = q0.toNatClampNeg := fun q => n02 (Eq.symm q)
  have n12 := own_nn q1 q2 h1.1 h2.1 h12
  have n21 : ¬ q2.toNatClampNeg = q1.toNatClampNeg := fun q => n12 (Eq.symm q)
  have m0 : ¬ q0.toNatClampNeg = 3 := own_nn q0 3 h0.1 (by decide) (by simp only [Int32.reduceToInt]; omega)
  have k0 : ¬ 3 = q0.toNatClampNeg := fun q => m0 (Eq.symm q)
  have m1 : ¬ q1.toNatClampNeg = 3 := own_nn q1 3 h1.1 (by decide) (by simp only [Int32.reduceToInt]; omega)
  have k1 : ¬ 3 = q1.toNatClampNeg := fun q => m1 (Eq.symm q)
  have m2 : ¬ q2.toNatClampNeg = 3 := own_nn q2 3 h2.1 (by decide) (by simp only [Int32.reduceToInt]; omega)
  have k2 : ¬ 3 = q2.toNatClampNeg := fun q => m2 (Eq.symm q)
  rcases ht with rfl | rfl <;>
  first | (simp [own_c0, own_c1, own_c3, own_ap0, own_ap1, own_ap2, own_ap3, own_ap4, own_ap5, own_rmA0, own_rmA1, own_rmA2, own_rmA3, own_rmA4, own_rmA5, own_s0, a0, a1, a2, a3, n01, n10, n02, n20, n12, n21, m0, m1, m2, k0, k1, k2]; done) | (simp [own_c0, own_c1, own_c3, own_ap0, own_ap1, own_ap2, own_ap3, own_ap4, own_ap5, own_rmA0, own_rmA1, own_rmA2, own_rmA3, own_rmA4, own_rmA5, own_s0, a0, a1, a2, a3, n01, n10, n02, n20, n12, n21, m0, m1, m2, k0, k1, k2]; decide) | (simp [own_c0, own_c1, own_c3, own_ap0, own_ap1, own_ap2, own_ap3, own_ap4, own_ap5, own_rmA0, own_rmA1, own_rmA2, own_rmA3, own_rmA4, own_rmA5, own_s0, a0, a1, a2, a3, n01, n10, n02, n20, n12, n21, m0, m1, m2, k0, k1, k2]; omega)
theorem own_l56 (q0 q1 q2 t : Int32) (h0 : 0 ≤ q0.toInt ∧ q0.toInt < 3) (h1 : 0 ≤ q1.toInt ∧ q1.toInt < 3) (h2 : 0 ≤ q2.toInt ∧ q2.toInt < 3) (h01 : q0.toInt ≠ q1.toInt) (h02 : q0.toInt ≠ q2.toInt) (h12 : q1.toInt ≠ q2.toInt) (ht : t = (0 : Int32) ∨ t = (1 : Int32)) : (own_ap (own_rm (own_rm (own_ap (own_ap (own_ap own_st0 q0 t) q1 t) q2 t) q0) q1) (3 : Int32) t) 2 q2.toNatClampNeg = (3 : Int32) := by
  have a0 := own_m1 q0 h0.1
  have a1 := own_m1 q1 h1.1
  have a2 := own_m1 q2 h2.1
  have a3 : ¬ (3 : Int32) = (-1 : Int32) := by decide
  have n01 := own_nn q0 q1 h0.1 h1.1 h01
  have n10 : ¬ q1.toNatClampNeg = q0.toNatClampNeg := fun q => n01 (Eq.symm q)
  have n02 := own_nn q0 q2 h0.1 h2.1 h02
  have n20 : ¬ q2.toNatClampNeg = q0.toNatClampNeg := fun q => n02 (Eq.symm q)
  have n12 := own_nn q1 q2 h1.1 h2.1 h12
  have n21 : ¬ q2.toNatClampNeg = q1.toNatClampNeg := fun q => n12 (Eq.symm q)
  have m0 : ¬ q0.toNatClampNeg = 3 := own_nn q0 3 h0.1 (by decide) (by simp only [Int32.reduceToInt]; omega)
  have k0 : ¬ 3 = q0.toNatClampNeg := fun q => m0 (Eq.symm q)
  have m1 : ¬ q1.toNatClampNeg = 3 := own_nn q1 3 h1.1 (by decide) (by simp only [Int32.reduceToInt]; omega)
  have k1 : ¬ 3 = q1.toNatClampNeg := fun q => m1 (Eq.symm q)
  have m2 : ¬ q2.toNatClampNeg = 3 := own_nn q2 3 h2.1 (by decide) (by simp only [Int32.reduceToInt]; omega)
  have k2 : ¬ 3 = q2.toNatClampNeg := fun q => m2 (Eq.symm q)
  rcases ht with rfl | rfl <;>
  first | (simp [own_c0, own_c1, own_c3, own_ap0, own_ap1, own_ap2, own_ap3, own_ap4, own_ap5, own_rmA0, own_rmA1, own_rmA2, own_rmA3, own_rmA4, own_rmA5, own_s0, a0, a1, a2, a3, n01, n10, n02, n20, n12, n21, m0, m1, m2, k0, k1, k2]; done) | (simp [own_c0, own_c1, own_c3, own_ap0, own_ap1, own_ap2, own_ap3, own_ap4, own_ap5, own_rmA0, own_rmA1, own_rmA2, own_rmA3, own_rmA4, own_rmA5, own_s0, a0, a1, a2, a3, n01, n10, n02, n20, n12, n21, m0, m1, m2, k0, k1, k2]; decide) | (simp [own_c0, own_c1, own_c3, own_ap0, own_ap1, own_ap2, own_ap3, own_ap4, own_ap5, own_rmA0, own_rmA1, own_rmA2, own_rmA3, own_rmA4, own_rmA5, own_s0, a0, a1, a2, a3, n01, n10, n02, n20, n12, n21, m0, m1, m2, k0, k1, k2]; omega)
theorem own_l57 (q0 q1 q2 t : Int32) (h0 : 0 ≤ q0.toInt ∧ q0.toInt < 3) (h1 : 0 ≤ q1.toInt ∧ q1.toInt < 3) (h2 : 0 ≤ q2.toInt ∧ q2.toInt < 3) (h01 : q0.toInt ≠ q1.toInt) (h02 : q0.toInt ≠ q2.toInt) (h12 : q1.toInt ≠ q2.toInt) (ht : t = (0 : Int32) ∨ t = (1 : Int32)) : (0 ≤ ((own_rm (own_ap (own_ap (own_ap own_st0 q0 t) q1 t) q2 t) q0) 0 q2.toNatClampNeg).toInt ∧ ((own_rm (own_ap (own_ap (own_ap own_st0 q0 t) q1 t) q2 t) q0) 0 q2.toNatClampNeg).toInt < (2 : Nat)) := by
  have a0 := own_m1 q0 h0.1
  have a1 := own_m1 q1 h1.1
  have a2 := own_m1 q2 h2.1
  have a3 : ¬ (3 : Int32) = (-1 : Int32) := by decide
  have n01 := own_nn q0 q1 h0.1 h1.1 h01
  have n10 : ¬ q1.toNatClampNeg = q0.toNatClampNeg := fun q => n01 (Eq.symm q)
  have n02 := own_nn q0 q2 h0.1 h2.1 h02
  have n20 : ¬ q2.toNatClampNeg = q0.toNatClampNeg := fun q => n02 (Eq.symm q)
  have n12 := own_nn q1 q2 h1.1 h2.1 h12
  have n21 : ¬ q2.toNatClampNeg = q1.toNatClampNeg := fun q => n12 (Eq.symm q)
  have m0 : ¬ q0.toNatClampNeg = 3 := own_nn q0 3 h0.1 (by decide) (by simp only [Int32.reduceToInt]; omega)
  have k0 : ¬ 3 = q0.toNatClampNeg := fun q => m0 (Eq.symm q)
  have m1 : ¬ q1.toNatClampNeg = 3 := own_nn q1 3 h1.1 (by decide) (by simp only [Int32.reduceToInt]; omega)
  have k1 : ¬ 3 = q1.toNatClampNeg := fun q => m1 (Eq.symm q)
  have m2 : ¬ q2.toNatClampNeg = 3 := own_nn q2 3 h2.1 (by decide) (by simp only [Int32.reduceToInt]; omega)
  have k2 : ¬ 3 = q2.toNatClampNeg := fun q => m2 (Eq.symm q)
  rcases ht with rfl | rfl <;>
  first | (simp [own_c0, own_c1, own_c3, own_ap0, own_ap1, own_ap2, own_ap3, own_ap4, own_ap5, own_rmA0, own_rmA1, own_rmA2, own_rmA3, own_rmA4, own_rmA5, own_s0, a0, a1, a2, a3, n01, n10, n02, n20, n12, n21, m0, m1, m2, k0, k1, k2]; done) | (simp [own_c0, own_c1, own_c3, own_ap0, own_ap1, own_ap2, own_ap3, own_ap4, own_ap5, own_rmA0, own_rmA1, own_rmA2, own_rmA3, own_rmA4, own_rmA5, own_s0, a0, a1, a2, a3, n01, n10, n02, n20, n12, n21, m0, m1, m2, k0, k1, k2]; decide) | (simp [own_c0, own_c1, own_c3, own_ap0, own_ap1, own_ap2, own_ap3, own_ap4, own_ap5, own_rmA0, own_rmA1, own_rmA2, own_rmA3, own_rmA4, own_rmA5, own_s0, a0, a1, a2, a3, n01, n10, n02, n20, n12, n21, m0, m1, m2, k0, k1, k2]; omega)
theorem own_l58 (q0 q1 q2 t : Int32) (h0 : 0 ≤ q0.toInt ∧ q0.toInt < 3) (h1 : 0 ≤ q1.toInt ∧ q1.toInt < 3) (h2 : 0 ≤ q2.toInt ∧ q2.toInt < 3) (h01 : q0.toInt ≠ q1.toInt) (h02 : q0.toInt ≠ q2.toInt) (h12 : q1.toInt ≠ q2.toInt) (ht : t = (0 : Int32) ∨ t = (1 : Int32)) : (own_rm (own_ap (own_ap (own_ap own_st0 q0 t) q1 t) q2 t) q0) 1 q2.toNatClampNeg = (-1 : Int32) ∨ (0 ≤ ((own_rm (own_ap (own_ap (own_ap own_st0 q0 t) q1 t) q2 t) q0) 1 q2.toNatClampNeg).toInt ∧ ((own_rm (own_ap (own_ap (own_ap own_st0 q0 t) q1 t) q2 t) q0) 1 q2.toNatClampNeg).toInt < (4 : Nat)) := by
  have a0 := own_m1 q0 h0.1
  have a1 := own_m1 q1 h1.1
  have a2 := own_m1 q2 h2.1
  have a3 : ¬ (3 : Int32) = (-1 : Int32) := by decide
  have n01 := own_nn q0 q1 h0.1 h1.1 h01
  have n10 : ¬ q1.toNatClampNeg = q0.toNatClampNeg := fun q => n01 (Eq.symm q)
  have n02 := own_nn q0 q2 h0.1 h2.1 h02
  have n20 : ¬ q2.toNatClampNeg = q0.toNatClampNeg := fun q => n02 (Eq.symm q)
  have n12 := own_nn q1 q2 h1.1 h2.1 h12
  have n21 : ¬ q2.toNatClampNeg = q1.toNatClampNeg := fun q => n12 (Eq.symm q)
  have m0 : ¬ q0.toNatClampNeg = 3 := own_nn q0 3 h0.1 (by decide) (by simp only [Int32.reduceToInt]; omega)
  have k0 : ¬ 3 = q0.toNatClampNeg := fun q => m0 (Eq.symm q)
  have m1 : ¬ q1.toNatClampNeg = 3 := own_nn q1 3 h1.1 (by decide) (by simp only [Int32.reduceToInt]; omega)
  have k1 : ¬ 3 = q1.toNatClampNeg := fun q => m1 (Eq.symm q)
  have m2 : ¬ q2.toNatClampNeg = 3 := own_nn q2 3 h2.1 (by decide) (by simp only [Int32.reduceToInt]; omega)
  have k2 : ¬ 3 = q2.toNatClampNeg := fun q => m2 (Eq.symm q)
  rcases ht with rfl | rfl <;>
  first | (simp [own_c0, own_c1, own_c3, own_ap0, own_ap1, own_ap2, own_ap3, own_ap4, own_ap5, own_rmA0, own_rmA1, own_rmA2, own_rmA3, own_rmA4, own_rmA5, own_s0, a0, a1, a2, a3, n01, n10, n02, n20, n12, n21, m0, m1, m2, k0, k1, k2]; done) | (simp [own_c0, own_c1, own_c3, own_ap0, own_ap1, own_ap2, own_ap3, own_ap4, own_ap5, own_rmA0, own_rmA1, own_rmA2, own_rmA3, own_rmA4, own_rmA5, own_s0, a0, a1, a2, a3, n01, n10, n02, n20, n12, n21, m0, m1, m2, k0, k1, k2]; decide) | (simp [own_c0, own_c1, own_c3, own_ap0, own_ap1, own_ap2, own_ap3, own_ap4, own_ap5, own_rmA0, own_rmA1, own_rmA2, own_rmA3, own_rmA4, own_rmA5, own_s0, a0, a1, a2, a3, n01, n10, n02, n20, n12, n21, m0, m1, m2, k0, k1, k2]; omega)
theorem own_l59 (q0 q1 q2 t : Int32) (h0 : 0 ≤ q0.toInt ∧ q0.toInt < 3) (h1 : 0 ≤ q1.toInt ∧ q1.toInt < 3) (h2 : 0 ≤ q2.toInt ∧ q2.toInt < 3) (h01 : q0.toInt ≠ q1.toInt) (h02 : q0.toInt ≠ q2.toInt) (h12 : q1.toInt ≠ q2.toInt) (ht : t = (0 : Int32) ∨ t = (1 : Int32)) : (own_rm (own_ap (own_ap (own_ap own_st0 q0 t) q1 t) q2 t) q0) 2 q2.toNatClampNeg = (-1 : Int32) ∨ (0 ≤ ((own_rm (own_ap (own_ap (own_ap own_st0 q0 t) q1 t) q2 t) q0) 2 q2.toNatClampNeg).toInt ∧ ((own_rm (own_ap (own_ap (own_ap own_st0 q0 t) q1 t) q2 t) q0) 2 q2.toNatClampNeg).toInt < (4 : Nat)) := by
  have a0 := own_m1 q0 h0.1
  have a1 := own_m1 q1 h1.1
  have a2 := own_m1 q2 h2.1
  have a3 : ¬ (3 : Int32) = (-1 : Int32) := by decide
  have n01 := own_nn q0 q1 h0.1 h1.1 h01
  have n10 : ¬ q1.toNatClampNeg = q0.toNatClampNeg := fun q => n01 (Eq.symm q)
  have n02 := own_nn q0 q2 h0.1 h2.1 h02
  have n20 : ¬ q2.toNatClampNeg = q0.toNatClampNeg := fun q => n02 (Eq.symm q)
  have n12 := own_nn q1 q2 h1.1 h2.1 h12
  have n21 : ¬ q2.toNatClampNeg = q1.toNatClampNeg := fun q => n12 (Eq.symm q)
  have m0 : ¬ q0.toNatClampNeg = 3 := own_nn q0 3 h0.1 (by decide) (by simp only [Int32.reduceToInt]; omega)
  have k0 : ¬ 3 = q0.toNatClampNeg := fun q => m0 (Eq.symm q)
  have m1 : ¬ q1.toNatClampNeg = 3 := own_nn q1 3 h1.1 (by decide) (by simp only [Int32.reduceToInt]; omega)
  have k1 : ¬ 3 = q1.toNatClampNeg := fun q => m1 (Eq.symm q)
  have m2 : ¬ q2.toNatClampNeg = 3 := own_nn q2 3 h2.1 (by decide) (by simp only [Int32.reduceToInt]; omega)
  have k2 : ¬ 3 = q2.toNatClampNeg := fun q => m2 (Eq.symm q)
  rcases ht with rfl | rfl <;>
  first | (simp [own_c0, own_c1, own_c3, own_ap0, own_ap1, own_ap2, own_ap3, own_ap4, own_ap5, own_rmA0, own_rmA1, own_rmA2, own_rmA3, own_rmA4, own_rmA5, own_s0, a0, a1, a2, a3, n01, n10, n02, n20, n12, n21, m0, m1, m2, k0, k1, k2]; done) | (simp [own_c0, own_c1, own_c3, own_ap0, own_ap1, own_ap2, own_ap3, own_ap4, own_ap5, own_rmA0, own_rmA1, own_rmA2, own_rmA3, own_rmA4, own_rmA5, own_s0, a0, a1, a2, a3, n01, n10, n02, n20, n12, n21, m0, m1, m2, k0, k1, k2]; decide) | (simp [own_c0, own_c1, own_c3, own_ap0, own_ap1, own_ap2, own_ap3, own_ap4, own_ap5, own_rmA0, own_rmA1, own_rmA2, own_rmA3, own_rmA4, own_rmA5, own_s0, a0, a1, a2, a3, n01, n10, n02, n20, n12, n21, m0, m1, m2, k0, k1, k2]; omega)
theorem own_l60 (q0 q1 q2 t : Int32) (h0 : 0 ≤ q0.toInt ∧ q0.toInt < 3) (h1 : 0 ≤ q1.toInt ∧ q1.toInt < 3) (h2 : 0 ≤ q2.toInt ∧ q2.toInt < 3) (h01 : q0.toInt ≠ q1.toInt) (h02 : q0.toInt ≠ q2.toInt) (h12 : q1.toInt ≠ q2.toInt) (ht : t = (0 : Int32) ∨ t = (1 : Int32)) : (own_rm (own_rm (own_ap (own_ap (own_ap own_st0 q0 t) q1 t) q2 t) q0) q2) 4 t.toNatClampNeg = (-1 : Int32) ∨ (0 ≤ ((own_rm (own_rm (own_ap (own_ap (own_ap own_st0 q0 t) q1 t) q2 t) q0) q2) 4 t.toNatClampNeg).toInt ∧ ((own_rm (own_rm (own_ap (own_ap (own_ap own_st0 q0 t) q1 t) q2 t) q0) q2) 4 t.toNatClampNeg).toInt < (4 : Nat)) := by
  have a0 := own_m1 q0 h0.1
  have a1 := own_m1 q1 h1.1
  have a2 := own_m1 q2 h2.1
  have a3 : ¬ (3 : Int32) = (-1 : Int32) := by decide
  have n01 := own_nn q0 q1 h0.1 h1.1 h01
  have n10 : ¬ q1.toNatClampNeg = q0.toNatClampNeg := fun q => n01 (Eq.symm q)
  have n02 := own_nn q0 q2 h0.1 h2.1 h02
  have n20 : ¬ q2.toNatClampNeg = q0.toNatClampNeg := fun q => n02 (Eq.symm q)
  have n12 := own_nn q1 q2 h1.1 h2.1 h12
  have n21 : ¬ q2.toNatClampNeg = q1.toNatClampNeg := fun q => n12 (Eq.symm q)
  have m0 : ¬ q0.toNatClampNeg = 3 := own_nn q0 3 h0.1 (by decide) (by simp only [Int32.reduceToInt]; omega)
  have k0 : ¬ 3 = q0.toNatClampNeg := fun q => m0 (Eq.symm q)
  have m1 : ¬ q1.toNatClampNeg = 3 := own_nn q1 3 h1.1 (by decide) (by simp only [Int32.reduceToInt]; omega)
  have k1 : ¬ 3 = q1.toNatClampNeg := fun q => m1 (Eq.symm q)
  have m2 : ¬ q2.toNatClampNeg = 3 := own_nn q2 3 h2.1 (by decide) (by simp only [Int32.reduceToInt]; omega)
  have k2 : ¬ 3 = q2.toNatClampNeg := fun q => m2 (Eq.symm q)
  rcases ht with rfl | rfl <;>
  first | (simp [own_c0, own_c1, own_c3, own_ap0, own_ap1, own_ap2, own_ap3, own_ap4, own_ap5, own_rmA0, own_rmA1, own_rmA2, own_rmA3, own_rmA4, own_rmA5, own_s0, a0, a1, a2, a3, n01, n10, n02, n20, n12, n21, m0, m1, m2, k0, k1, k2]; done) | (simp [own_c0, own_c1, own_c3, own_ap0, own_ap1, own_ap2, own_ap3, own_ap4, own_ap5, own_rmA0, own_rmA1, own_rmA2, own_rmA3, own_rmA4, own_rmA5, own_s0, a0, a1, a2, a3, n01, n10, n02, n20, n12, n21, m0, m1, m2, k0, k1, k2]; decide) | (simp [own_c0, own_c1, own_c3, own_ap0, own_ap1, own_ap2, own_ap3, own_ap4, own_ap5, own_rmA0, own_rmA1, own_rmA2, own_rmA3, own_rmA4, own_rmA5, own_s0, a0, a1, a2, a3, n01, n10, n02, n20, n12, n21, m0, m1, m2, k0, k1, k2]; omega)
theorem own_l61 (q0 q1 q2 t : Int32) (h0 : 0 ≤ q0.toInt ∧ q0.toInt < 3) (h1 : 0 ≤ q1.toInt ∧ q1.toInt < 3) (h2 : 0 ≤ q2.toInt ∧ q2.toInt < 3) (h01 : q0.toInt ≠ q1.toInt) (h02 : q0.toInt ≠ q2.toInt) (h12 : q1.toInt ≠ q2.toInt) (ht : t = (0 : Int32) ∨ t = (1 : Int32)) : (own_ap (own_rm (own_rm (own_ap (own_ap (own_ap own_st0 q0 t) q1 t) q2 t) q0) q2) (3 : Int32) t) 0 q0.toNatClampNeg = (-1 : Int32) := by
  have a0 := own_m1 q0 h0.1
  have a1 := own_m1 q1 h1.1
  have a2 := own_m1 q2 h2.1
  have a3 : ¬ (3 : Int32) = (-1 : Int32) := by decide
  have n01 := own_nn q0 q1 h0.1 h1.1 h01
  have n10 : ¬ q1.toNatClampNeg = q0.toNatClampNeg := fun q => n01 (Eq.symm q)
  have n02 := own_nn q0 q2 h0.1 h2.1 h02
  have n20 : ¬ q2.toNatClampNeg = q0.toNatClampNeg := fun q => n02 (Eq.symm q)
  have n12 := own_nn q1 q2 h1.1 h2.1 h12
  have n21 : ¬ q2.toNatClampNeg = q1.toNatClampNeg := fun q => n12 (Eq.symm q)
  have m0 : ¬ q0.toNatClampNeg = 3 := own_nn q0 3 h0.1 (by decide) (by simp only [Int32.reduceToInt]; omega)
  have k0 : ¬ 3 = q0.toNatClampNeg := fun q => m0 (Eq.symm q)
  have m1 : ¬ q1.toNatClampNeg = 3 := own_nn q1 3 h1.1 (by decide) (by simp only [Int32.reduceToInt]; omega)
  have k1 : ¬ 3 = q1.toNatClampNeg := fun q => m1 (Eq.symm q)
  have m2 : ¬ q2.toNatClampNeg = 3 := own_nn q2 3 h2.1 (by decide) (by simp only [Int32.reduceToInt]; omega)
  have k2 : ¬ 3 = q2.toNatClampNeg := fun q => m2 (Eq.symm q)
  rcases ht with rfl | rfl <;>
  first | (simp [own_c0, own_c1, own_c3, own_ap0, own_ap1, own_ap2, own_ap3, own_ap4, own_ap5, own_rmA0, own_rmA1, own_rmA2, own_rmA3, own_rmA4, own_rmA5, own_s0, a0, a1, a2, a3, n01, n10, n02, n20, n12, n21, m0, m1, m2, k0, k1, k2]; done) | (simp [own_c0, own_c1, own_c3, own_ap0, own_ap1, own_ap2, own_ap3, own_ap4, own_ap5, own_rmA0, own_rmA1, own_rmA2, own_rmA3, own_rmA4, own_rmA5, own_s0, a0, a1, a2, a3, n01, n10, n02, n20, n12, n21, m0, m1, m2, k0, k1, k2]; decide) | (simp [own_c0, own_c1, own_c3, own_ap0, own_ap1, own_ap2, own_ap3, own_ap4, own_ap5, own_rmA0, own_rmA1, own_rmA2, own_rmA3, own_rmA4, own_rmA5, own_s0, a0, a1, a2, a3, n01, n10, n02, n20, n12, n21, m0, m1, m2, k0, k1, k2]; omega)
theorem own_l62 (q0 q1 q2 t : Int32) (h0 : 0 ≤ q0.toInt ∧ q0.toInt < 3) (h1 : 0 ≤ q1.toInt ∧ q1.toInt < 3) (h2 : 0 ≤ q2.toInt ∧ q2.toInt < 3) (h01 : q0.toInt ≠ q1.toInt) (h02 : q0.toInt ≠ q2.toInt) (h12 : q1.toInt ≠ q2.toInt) (ht : t = (0 : Int32) ∨ t = (1 : Int32)) : (own_ap (own_rm (own_rm (own_ap (own_ap (own_ap own_st0 q0 t) q1 t) q2 t) q0) q2) (3 : Int32) t) 5 t.toNatClampNeg = ((1 : Int32) + (1 : Int32)) := by
  have a0 := own_m1 q0 h0.1
  have a1 := own_m1 q1 h1.1
  have a2 := own_m1 q2 h2.1
  have a3 : ¬ (3 : Int32) = (-1 : Int32) := by decide
  have n01 := own_nn q0 q1 h0.1 h1.1 h01
  have n10 : ¬ q1.toNatClampNeg = q0.toNatClampNeg := fun q => n01 (Eq.symm q)
  have n02 := own_nn q0 q2 h0.1 h2.1 h02
  have n20 : ¬ q2.toNatClampNeg = q0.toNatClampNeg := fun q => n02 (Eq.symm q)
  have n12 := own_nn q1 q2 h1.1 h2.1 h12
  have n21 : ¬ q2.toNatClampNeg = q1.toNatClampNeg := fun q => n12 (Eq.symm q)
  have m0 : ¬ q0.toNatClampNeg = 3 := own_nn q0 3 h0.1 (by decide) (by simp only [Int32.reduceToInt]; omega)
  have k0 : ¬ 3 = q0.toNatClampNeg := fun q => m0 (Eq.symm q)
  have m1 : ¬ q1.toNatClampNeg = 3 := own_nn q1 3 h1.1 (by decide) (by simp only [Int32.reduceToInt]; omega)
  have k1 : ¬ 3 = q1.toNatClampNeg := fun q => m1 (Eq.symm q)
  have m2 : ¬ q2.toNatClampNeg = 3 := own_nn q2 3 h2.1 (by decide) (by simp only [Int32.reduceToInt]; omega)
  have k2 : ¬ 3 = q2.toNatClampNeg := fun q => m2 (Eq.symm q)
  rcases ht with rfl | rfl <;>
  first | (simp [own_c0, own_c1, own_c3, own_ap0, own_ap1, own_ap2, own_ap3, own_ap4, own_ap5, own_rmA0, own_rmA1, own_rmA2, own_rmA3, own_rmA4, own_rmA5, own_s0, a0, a1, a2, a3, n01, n10, n02, n20, n12, n21, m0, m1, m2, k0, k1, k2]; done) | (simp [own_c0, own_c1, own_c3, own_ap0, own_ap1, own_ap2, own_ap3, own_ap4, own_ap5, own_rmA0, own_rmA1, own_rmA2, own_rmA3, own_rmA4, own_rmA5, own_s0, a0, a1, a2, a3, n01, n10, n02, n20, n12, n21, m0, m1, m2, k0, k1, k2]; decide) | (simp [own_c0, own_c1, own_c3, own_ap0, own_ap1, own_ap2, own_ap3, own_ap4, own_ap5, own_rmA0, own_rmA1, own_rmA2, own_rmA3, own_rmA4, own_rmA5, own_s0, a0, a1, a2, a3, n01, n10, n02, n20, n12, n21, m0, m1, m2, k0, k1, k2]; omega)
theorem own_l63 (q0 q1 q2 t : Int32) (h0 : 0 ≤ q0.toInt ∧ q0.toInt < 3) (h1 : 0 ≤ q1.toInt ∧ q1.toInt < 3) (h2 : 0 ≤ q2.toInt ∧ q2.toInt < 3) (h01 : q0.toInt ≠ q1.toInt) (h02 : q0.toInt ≠ q2.toInt) (h12 : q1.toInt ≠ q2.toInt) (ht : t = (0 : Int32) ∨ t = (1 : Int32)) : (own_ap (own_rm (own_rm (own_ap (own_ap (own_ap own_st0 q0 t) q1 t) q2 t) q0) q2) (3 : Int32) t) 3 t.toNatClampNeg = q1 := by
  have a0 := own_m1 q0 h0.1
  have a1 := own_m1 q1 h1.1
  have a2 := own_m1 q2 h2.1
  have a3 : ¬ (3 : Int32) = (-1 : Int32) := by decide
  have n01 := own_nn q0 q1 h0.1 h1.1 h01
  have n10 : ¬ q1.toNatClampNeg = q0.toNatClampNeg := fun q => n01 (Eq.symm q)
  have n02 := own_nn q0 q2 h0.1 h2.1 h02
  have n20 : ¬ q2.toNatClampNeg = q0.toNatClampNeg := fun q => n02 (Eq.symm q)
  have n12 := own_nn q1 q2 h1.1 h2.1 h12
  have n21 : ¬ q2.toNatClampNeg = q1.toNatClampNeg := fun q => n12 (Eq.symm q)
  have m0 : ¬ q0.toNatClampNeg = 3 := own_nn q0 3 h0.1 (by decide) (by simp only [Int32.reduceToInt]; omega)
  have k0 : ¬ 3 = q0.toNatClampNeg := fun q => m0 (Eq.symm q)
  have m1 : ¬ q1.toNatClampNeg = 3 := own_nn q1 3 h1.1 (by decide) (by simp only [Int32.reduceToInt]; omega)
  have k1 : ¬ 3 = q1.toNatClampNeg := fun q => m1 (Eq.symm q)
  have m2 : ¬ q2.toNatClampNeg = 3 := own_nn q2 3 h2.1 (by decide) (by simp only [Int32.reduceToInt]; omega)
  have k2 : ¬ 3 = q2.toNatClampNeg := fun q => m2 (Eq.symm q)
  rcases ht with rfl | rfl <;>
  first | (simp [own_c0, own_c1, own_c3, own_ap0, own_ap1, own_ap2, own_ap3, own_ap4, own_ap5, own_rmA0, own_rmA1, own_rmA2, own_rmA3, own_rmA4, own_rmA5, own_s0, a0, a1, a2, a3, n01, n10, n02, n20, n12, n21, m0, m1, m2, k0, k1, k2]; done) | (simp [own_c0, own_c1, own_c3, own_ap0, own_ap1, own_ap2, own_ap3, own_ap4, own_ap5, own_rmA0, own_rmA1, own_rmA2, own_rmA3, own_rmA4, own_rmA5, own_s0, a0, a1, a2, a3, n01, n10, n02, n20, n12, n21, m0, m1, m2, k0, k1, k2]; decide) | (simp [own_c0, own_c1, own_c3, own_ap0, own_ap1, own_ap2, own_ap3, own_ap4, own_ap5, own_rmA0, own_rmA1, own_rmA2, own_rmA3, own_rmA4, own_rmA5, own_s0, a0, a1, a2, a3, n01, n10, n02, n20, n12, n21, m0, m1, m2, k0, k1, k2]; omega)
theorem own_l64 (q0 q1 q2 t : Int32) (h0 : 0 ≤ q0.toInt ∧ q0.toInt < 3) (h1 : 0 ≤ q1.toInt ∧ q1.toInt < 3) (h2 : 0 ≤ q2.toInt ∧ q2.toInt < 3) (h01 : q0.toInt ≠ q1.toInt) (h02 : q0.toInt ≠ q2.toInt) (h12 : q1.toInt ≠ q2.toInt) (ht : t = (0 : Int32) ∨ t = (1 : Int32)) : (own_ap (own_rm (own_rm (own_ap (own_ap (own_ap own_st0 q0 t) q1 t) q2 t) q0) q2) (3 : Int32) t) 2 q1.toNatClampNeg = (3 : Int32) := by
  have a0 := own_m1 q0 h0.1
  have a1 := own_m1 q1 h1.1
  have a2 := own_m1 q2 h2.1
  have a3 : ¬ (3 : Int32) = (-1 : Int32) := by decide
  have n01 := own_nn q0 q1 h0.1 h1.1 h01
  have n10 : ¬ q1.toNatClampNeg = q0.toNatClampNeg := fun q => n01 (Eq.symm q)
  have n02 := own_nn q0 q2 h0.1 h2.1 h02
  have n20 : ¬ q2.toNatClampNeg = q0.toNatClampNeg := fun q => n02 (Eq.symm q)
  have n12 := own_nn q1 q2 h1.1 h2.1 h12
  have n21 : ¬ q2.toNatClampNeg = q1.toNatClampNeg := fun q => n12 (Eq.symm q)
  have m0 : ¬ q0.toNatClampNeg = 3 := own_nn q0 3 h0.1 (by decide) (by simp only [Int32.reduceToInt]; omega)
  have k0 : ¬ 3 = q0.toNatClampNeg := fun q => m0 (Eq.symm q)
  have m1 : ¬ q1.toNatClampNeg = 3 := own_nn q1 3 h1.1 (by decide) (by simp only [Int32.reduceToInt]; omega)
  have k1 : ¬ 3 = q1.toNatClampNeg := fun q => m1 (Eq.symm q)
  have m2 : ¬ q2.toNatClampNeg = 3 := own_nn q2 3 h2.1 (by decide) (by simp only [Int32.reduceToInt]; omega)
  have k2 : ¬ 3 = q2.toNatClampNeg := fun q => m2 (Eq.symm q)
  rcases ht with rfl | rfl <;>
  first | (simp [own_c0, own_c1, own_c3, own_ap0, own_ap1, own_ap2, own_ap3, own_ap4, own_ap5, own_rmA0, own_rmA1, own_rmA2, own_rmA3, own_rmA4, own_rmA5, own_s0, a0, a1, a2, a3, n01, n10, n02, n20, n12, n21, m0, m1, m2, k0, k1, k2]; done) | (simp [own_c0, own_c1, own_c3, own_ap0, own_ap1, own_ap2, own_ap3, own_ap4, own_ap5, own_rmA0, own_rmA1, own_rmA2, own_rmA3, own_rmA4, own_rmA5, own_s0, a0, a1, a2, a3, n01, n10, n02, n20, n12, n21, m0, m1, m2, k0, k1, k2]; decide) | (simp [own_c0, own_c1, own_c3, own_ap0, own_ap1, own_ap2, own_ap3, own_ap4, own_ap5, own_rmA0, own_rmA1, own_rmA2, own_rmA3, own_rmA4, own_rmA5, own_s0, a0, a1, a2, a3, n01, n10, n02, n20, n12, n21, m0, m1, m2, k0, k1, k2]; omega)
theorem own_l65 (q0 q1 q2 t : Int32) (h0 : 0 ≤ q0.toInt ∧ q0.toInt < 3) (h1 : 0 ≤ q1.toInt ∧ q1.toInt < 3) (h2 : 0 ≤ q2.toInt ∧ q2.toInt < 3) (h01 : q0.toInt ≠ q1.toInt) (h02 : q0.toInt ≠ q2.toInt) (h12 : q1.toInt ≠ q2.toInt) (ht : t = (0 : Int32) ∨ t = (1 : Int32)) : (0 ≤ ((own_ap (own_ap (own_ap own_st0 q0 t) q1 t) q2 t) 0 q1.toNatClampNeg).toInt ∧ ((own_ap (own_ap (own_ap own_st0 q0 t) q1 t) q2 t) 0 q1.toNatClampNeg).toInt < (2 : Nat)) := by
  have a0 := own_m1 q0 h0.1
  have a1 := own_m1 q1 h1.1
  have a2 := own_m1 q2 h2.1
  have a3 : ¬ (3 : Int32) = (-1 : Int32) := by decide
  have n01 := own_nn q0 q1 h0.1 h1.1 h01
  have n10 : ¬ q1.toNatClampNeg = q0.toNatClampNeg := fun q => n01 (Eq.symm q)
  have n02 := own_nn q0 q2 h0.1 h2.1 h02
  have n20 : ¬ q2.toNatClampNeg = q0.toNatClampNeg := fun q => n02 (Eq.symm q)
  have n12 := own_nn q1 q2 h1.1 h2.1 h12
  have n21 : ¬ q2.toNatClampNeg = q1.toNatClampNeg := fun q => n12 (Eq.symm q)
  have m0 : ¬ q0.toNatClampNeg = 3 := own_nn q0 3 h0.1 (by decide) (by simp only [Int32.reduceToInt]; omega)
  have k0 : ¬ 3 = q0.toNatClampNeg := fun q => m0 (Eq.symm q)
  have m1 : ¬ q1.toNatClampNeg = 3 := own_nn q1 3 h1.1 (by decide) (by simp only [Int32.reduceToInt]; omega)
  have k1 : ¬ 3 = q1.toNatClampNeg := fun q => m1 (Eq.symm q)
  have m2 : ¬ q2.toNatClampNeg = 3 := own_nn q2 3 h2.1 (by decide) (by simp only [Int32.reduceToInt]; omega)
  have k2 : ¬ 3 = q2.toNatClampNeg := fun q => m2 (Eq.symm q)
  rcases ht with rfl | rfl <;>
  first | (simp [own_c0, own_c1, own_c3, own_ap0, own_ap1, own_ap2, own_ap3, own_ap4, own_ap5, own_rmA0, own_rmA1, own_rmA2, own_rmA3, own_rmA4, own_rmA5, own_s0, a0, a1, a2, a3, n01, n10, n02, n20, n12, n21, m0, m1, m2, k0, k1, k2]; done) | (simp [own_c0, own_c1, own_c3, own_ap0, own_ap1, own_ap2, own_ap3, own_ap4, own_ap5, own_rmA0, own_rmA1, own_rmA2, own_rmA3, own_rmA4, own_rmA5, own_s0, a0, a1, a2, a3, n01, n10, n02, n20, n12, n21, m0, m1, m2, k0, k1, k2]; decide) | (simp [own_c0, own_c1, own_c3, own_ap0, own_ap1, own_ap2, own_ap3, own_ap4, own_ap5, own_rmA0, own_rmA1, own_rmA2, own_rmA3, own_rmA4, own_rmA5, own_s0, a0, a1, a2, a3, n01, n10, n02, n20, n12, n21, m0, m1, m2, k0, k1, k2]; omega)
theorem own_l66 (q0 q1 q2 t : Int32) (h0 : 0 ≤ q0.toInt ∧ q0.toInt < 3) (h1 : 0 ≤ q1.toInt ∧ q1.toInt < 3) (h2 : 0 ≤ q2.toInt ∧ q2.toInt < 3) (h01 : q0.toInt ≠ q1.toInt) (h02 : q0.toInt ≠ q2.toInt) (h12 : q1.toInt ≠ q2.toInt) (ht : t = (0 : Int32) ∨ t = (1 : Int32)) : (own_ap (own_ap (own_ap own_st0 q0 t) q1 t) q2 t) 1 q1.toNatClampNeg = (-1 : Int32) ∨ (0 ≤ ((own_ap (own_ap (own_ap own_st0 q0 t) q1 t) q2 t) 1 q1.toNatClampNeg).toInt ∧ ((own_ap (own_ap (own_ap own_st0 q0 t) q1 t) q2 t) 1 q1.toNatClampNeg).toInt < (4 : Nat)) := by
  have a0 := own_m1 q0 h0.1
  have a1 := own_m1 q1 h1.1
  have a2 := own_m1 q2 h2.1
  have a3 : ¬ (3 : Int32) = (-1 : Int32) := by decide
  have n01 := own_nn q0 q1 h0.1 h1.1 h01
  have n10 : ¬ q1.toNatClampNeg = q0.toNatClampNeg := fun q => n01 (Eq.symm q)
  have n02 := own_nn q0 q2 h0.1 h2.1 h02
  have n20 : ¬ q2.toNatClampNeg = q0.toNatClampNeg := fun q => n02 (Eq.symm q)
  have n12 := own_nn q1 q2 h1.1 h2.1 h12
  have n21 : ¬ q2.toNatClampNeg = q1.toNatClampNeg := fun q => n12 (Eq.symm q)
  have m0 : ¬ q0.toNatClampNeg = 3 := own_nn q0 3 h0.1 (by decide) (by simp only [Int32.reduceToInt]; omega)
  have k0 : ¬ 3 = q0.toNatClampNeg := fun q => m0 (Eq.symm q)
  have m1 : ¬ q1.toNatClampNeg = 3 := own_nn q1 3 h1.1 (by decide) (by simp only [Int32.reduceToInt]; omega)
  have k1 : ¬ 3 = q1.toNatClampNeg := fun q => m1 (Eq.symm q)
  have m2 : ¬ q2.toNatClampNeg = 3 := own_nn q2 3 h2.1 (by decide) (by simp only [Int32.reduceToInt]; omega)
  have k2 : ¬ 3 = q2.toNatClampNeg := fun q => m2 (Eq.symm q)
  rcases ht with rfl | rfl <;>
  first | (simp [own_c0, own_c1, own_c3, own_ap0, own_ap1, own_ap2, own_ap3, own_ap4, own_ap5, own_rmA0, own_rmA1, own_rmA2, own_rmA3, own_rmA4, own_rmA5, own_s0, a0, a1, a2, a3, n01, n10, n02, n20, n12, n21, m0, m1, m2, k0, k1, k2]; done) | (simp [own_c0, own_c1, own_c3, own_ap0, own_ap1, own_ap2, own_ap3, own_ap4, own_ap5, own_rmA0, own_rmA1, own_rmA2, own_rmA3, own_rmA4, own_rmA5, own_s0, a0, a1, a2, a3, n01, n10, n02, n20, n12, n21, m0, m1, m2, k0, k1, k2]; decide) | (simp [own_c0, own_c1, own_c3, own_ap0, own_ap1, own_ap2, own_ap3, own_ap4, own_ap5, own_rmA0, own_rmA1, own_rmA2, own_rmA3, own_rmA4, own_rmA5, own_s0, a0, a1, a2, a3, n01, n10, n02, n20, n12, n21, m0, m1, m2, k0, k1, k2]; omega)
theorem own_l67 (q0 q1 q2 t : Int32) (h0 : 0 ≤ q0.toInt ∧ q0.toInt < 3) (h1 : 0 ≤ q1.toInt ∧ q1.toInt < 3) (h2 : 0 ≤ q2.toInt ∧ q2.toInt < 3) (h01 : q0.toInt ≠ q1.toInt) (h02 : q0.toInt ≠ q2.toInt) (h12 : q1.toInt ≠ q2.toInt) (ht : t = (0 : Int32) ∨ t = (1 : Int32)) : (own_ap (own_ap (own_ap own_st0 q0 t) q1 t) q2 t) 2 q1.toNatClampNeg = (-1 : Int32) ∨ (0 ≤ ((own_ap (own_ap (own_ap own_st0 q0 t) q1 t) q2 t) 2 q1.toNatClampNeg).toInt ∧ ((own_ap (own_ap (own_ap own_st0 q0 t) q1 t) q2 t) 2 q1.toNatClampNeg).toInt < (4 : Nat)) := by
  have a0 := own_m1 q0 h0.1
  have a1 := own_m1 q1 h1.1
  have a2 := own_m1 q2 h2.1
  have a3 : ¬ (3 : Int32) = (-1 : Int32) := by decide
  have n01 := own_nn q0 q1 h0.1 h1.1 h01
  have n10 : ¬ q1.toNatClampNeg = q0.toNatClampNeg := fun q => n01 (Eq.symm q)
  have n02 := own_nn q0 q2 h0.1 h2.1 h02
  have n20 : ¬ q2.toNatClampNeg = q0.toNatClampNeg := fun q => n02 (Eq.symm q)
  have n12 := own_nn q1 q2 h1.1 h2.1 h12
  have n21 : ¬ q2.toNatClampNeg = q1.toNatClampNeg := fun q => n12 (Eq.symm q)
  have m0 : ¬ q0.toNatClampNeg = 3 := own_nn q0 3 h0.1 (by decide) (by simp only [Int32.reduceToInt]; omega)
  have k0 : ¬ 3 = q0.toNatClampNeg := fun q => m0 (Eq.symm q)
  have m1 : ¬ q1.toNatClampNeg = 3 := own_nn q1 3 h1.1 (by decide) (by simp only [Int32.reduceToInt]; omega)
  have k1 : ¬ 3 = q1.toNatClampNeg := fun q => m1 (Eq.symm q)
  have m2 : ¬ q2.toNatClampNeg = 3 := own_nn q2 3 h2.1 (by decide) (by simp only [Int32.reduceToInt]; omega)
  have k2 : ¬ 3 = q2.toNatClampNeg := fun q => m2 (Eq.symm q)
  rcases ht with rfl | rfl <;>
  first | (simp [own_c0, own_c1, own_c3, own_ap0, own_ap1, own_ap2, own_ap3, own_ap4, own_ap5, own_rmA0, own_rmA1, own_rmA2, own_rmA3, own_rmA4, own_rmA5, own_s0, a0, a1, a2, a3, n01, n10, n02, n20, n12, n21, m0, m1, m2, k0, k1, k2]; done) | (simp [own_c0, own_c1, own_c3, own_ap0, own_ap1, own_ap2, own_ap3, own_ap4, own_ap5, own_rmA0, own_rmA1, own_rmA2, own_rmA3, own_rmA4, own_rmA5, own_s0, a0, a1, a2, a3, n01, n10, n02, n20, n12, n21, m0, m1, m2, k0, k1, k2]; decide) | (simp [own_c0, own_c1, own_c3, own_ap0, own_ap1, own_ap2, own_ap3, own_ap4, own_ap5, own_rmA0, own_rmA1, own_rmA2, own_rmA3, own_rmA4, own_rmA5, own_s0, a0, a1, a2, a3, n01, n10, n02, n20, n12, n21, m0, m1, m2, k0, k1, k2]; omega)
theorem own_l68 (q0 q1 q2 t : Int32) (h0 : 0 ≤ q0.toInt ∧ q0.toInt < 3) (h1 : 0 ≤ q1.toInt ∧ q1.toInt < 3) (h2 : 0 ≤ q2.toInt ∧ q2.toInt < 3) (h01 : q0.toInt ≠ q1.toInt) (h02 : q0.toInt ≠ q2.toInt) (h12 : q1.toInt ≠ q2.toInt) (ht : t = (0 : Int32) ∨ t = (1 : Int32)) : (own_rm (own_ap (own_ap (own_ap own_st0 q0 t) q1 t) q2 t) q1) 4 t.toNatClampNeg = (-1 : Int32) ∨ (0 ≤ ((own_rm (own_ap (own_ap (own_ap own_st0 q0 t) q1 t) q2 t) q1) 4 t.toNatClampNeg).toInt ∧ ((own_rm (own_ap (own_ap (own_ap own_st0 q0 t) q1 t) q2 t) q1) 4 t.toNatClampNeg).toInt < (4 : Nat)) := by
  have a0 := own_m1 q0 h0.1
  have a1 := own_m1 q1 h1.1
  have a2 := own_m1 q2 h2.1
  have a3 : ¬ (3 : Int32) = (-1 : Int32) := by decide
  have n01 := own_nn q0 q1 h0.1 h1.1 h01
  have n10 : ¬ q1.toNatClampNeg = q0.toNatClampNeg := fun q => n01 (Eq.symm q)
  have n02 := own_nn q0 q2 h0.1 h2.1 h02
  have n20 : ¬ q2.toNatClampNeg = q0.toNatClampNeg := fun q => n02 (Eq.symm q)
  have n12 := own_nn q1 q2 h1.1 h2.1 h12
  have n21 : ¬ q2.toNatClampNeg = q1.toNatClampNeg := fun q => n12 (Eq.symm q)
  have m0 : ¬ q0.toNatClampNeg = 3 := own_nn q0 3 h0.1 (by decide) (by simp only [Int32.reduceToInt]; omega)
  have k0 : ¬ 3 = q0.toNatClampNeg := fun q => m0 (Eq.symm q)
  have m1 : ¬ q1.toNatClampNeg = 3 := own_nn q1 3 h1.1 (by decide) (by simp only [Int32.reduceToInt]; omega)
  have k1 : ¬ 3 = q1.toNatClampNeg := fun q => m1 (Eq.symm q)
  have m2 : ¬ q2.toNatClampNeg = 3 := own_nn q2 3 h2.1 (by decide) (by simp only [Int32.reduceToInt]; omega)
  have k2 : ¬ 3 = q2.toNatClampNeg := fun q => m2 (Eq.symm q)
  rcases ht with rfl | rfl <;>
  first | (simp [own_c0, own_c1, own_c3, own_ap0, own_ap1, own_ap2, own_ap3, own_ap4, own_ap5, own_rmA0, own_rmA1, own_rmA2, own_rmA3, own_rmA4, own_rmA5, own_s0, a0, a1, a2, a3, n01, n10, n02, n20, n12, n21, m0, m1, m2, k0, k1, k2]; done) | (simp [own_c0, own_c1, own_c3, own_ap0, own_ap1, own_ap2, own_ap3, own_ap4, own_ap5, own_rmA0, own_rmA1, own_rmA2, own_rmA3, own_rmA4, own_rmA5, own_s0, a0, a1, a2, a3, n01, n10, n02, n20, n12, n21, m0, m1, m2, k0, k1, k2]; decide) | (simp [own_c0, own_c1, own_c3, own_ap0, own_ap1, own_ap2, own_ap3, own_ap4, own_ap5, own_rmA0, own_rmA1, own_rmA2, own_rmA3, own_rmA4, own_rmA5, own_s0, a0, a1, a2, a3, n01, n10, n02, n20, n12, n21, m0, m1, m2, k0, k1, k2]; omega)
theorem own_l69 (q0 q1 q2 t : Int32) (h0 : 0 ≤ q0.toInt ∧ q0.toInt < 3) (h1 : 0 ≤ q1.toInt ∧ q1.toInt < 3) (h2 : 0 ≤ q2.toInt ∧ q2.toInt < 3) (h01 : q0.toInt ≠ q1.toInt) (h02 : q0.toInt ≠ q2.toInt) (h12 : q1.toInt ≠ q2.toInt) (ht : t = (0 : Int32) ∨ t = (1 : Int32)) : (own_ap (own_rm (own_ap (own_ap (own_ap own_st0 q0 t) q1 t) q2 t) q1) (3 : Int32) t) 0 q1.toNatClampNeg = (-1 : Int32) := by
  have a0 := own_m1 q0 h0.1
  have a1 := own_m1 q1 h1.1
  have a2 := own_m1 q2 h2.1
  have a3 : ¬ (3 : Int32) = (-1 : Int32) := by decide
  have n01 := own_nn q0 q1 h0.1 h1.1 h01
  have n10 : ¬ q1.toNatClampNeg = q0.toNatClampNeg := fun q => n01 (Eq.symm q)
  have n02 := own_nn q0 q2 h0.1 h2.1 h02
  have n20 : ¬ q2.toNatClampNeg = q0.toNatClampNeg := fun q => n02 (Eq.symm q)
  have n12 := own_nn q1 q2 h1.1 h2.1 h12
  have n21 : ¬ q2.toNatClampNeg = q1.toNatClampNeg := fun q => n12 (Eq.symm q)
  have m0 : ¬ q0.toNatClampNeg = 3 := own_nn q0 3 h0.1 (by decide) (by simp only [Int32.reduceToInt]; omega)
  have k0 : ¬ 3 = q0.toNatClampNeg := fun q => m0 (Eq.symm q)
  have m1 : ¬ q1.toNatClampNeg = 3 := own_nn q1 3 h1.1 (by decide) (by simp only [Int32.reduceToInt]; omega)
  have k1 : ¬ 3 = q1.toNatClampNeg := fun q => m1 (Eq.symm q)
  have m2 : ¬ q2.toNatClampNeg = 3 := own_nn q2 3 h2.1 (by decide) (by simp only [Int32.reduceToInt]; omega)
  have k2 : ¬ 3 = q2.toNatClampNeg := fun q => m2 (Eq.symm q)
  rcases ht with rfl | rfl <;>
  first | (simp [own_c0, own_c1, own_c3, own_ap0, own_ap1, own_ap2, own_ap3, own_ap4, own_ap5, own_rmA0, own_rmA1, own_rmA2, own_rmA3, own_rmA4, own_rmA5, own_s0, a0, a1, a2, a3, n01, n10, n02, n20, n12, n21, m0, m1, m2, k0, k1, k2]; done) | (simp [own_c0, own_c1, own_c3, own_ap0, own_ap1, own_ap2, own_ap3, own_ap4, own_ap5, own_rmA0, own_rmA1, own_rmA2, own_rmA3, own_rmA4, own_rmA5, own_s0, a0, a1, a2, a3, n01, n10, n02, n20, n12, n21, m0, m1, m2, k0, k1, k2]; decide) | (simp [own_c0, own_c1, own_c3, own_ap0, own_ap1, own_ap2, own_ap3, own_ap4, own_ap5, own_rmA0, own_rmA1, own_rmA2, own_rmA3, own_rmA4, own_rmA5, own_s0, a0, a1, a2, a3, n01, n10, n02, n20, n12, n21, m0, m1, m2, k0, k1, k2]; omega)
theorem own_l70 (q0 q1 q2 t : Int32) (h0 : 0 ≤ q0.toInt ∧ q0.toInt < 3) (h1 : 0 ≤ q1.toInt ∧ q1.toInt < 3) (h2 : 0 ≤ q2.toInt ∧ q2.toInt < 3) (h01 : q0.toInt ≠ q1.toInt) (h02 : q0.toInt ≠ q2.toInt) (h12 : q1.toInt ≠ q2.toInt) (ht : t = (0 : Int32) ∨ t = (1 : Int32)) : (own_ap (own_rm (own_ap (own_ap (own_ap own_st0 q0 t) q1 t) q2 t) q1) (3 : Int32) t) 5 t.toNatClampNeg = ((2 : Int32) + (1 : Int32)) := by
  have a0 := own_m1 q0 h0.1
  have a1 := own_m1 q1 h1.1
  have a2 := own_m1 q2 h2.1
  have a3 : ¬ (3 : Int32) = (-1 : Int32) := by decide
  have n01 := own_nn q0 q1 h0.1 h1.1 h01
  have n10 : ¬ q1.toNatClampNeg = q0.toNatClampNeg := fun q => n01 (Eq.symm q)
  have n02 := own_nn q0 q2 h0.1 h2.1 h02
  have n20 : ¬ q2.toNatClampNeg = q0.toNatClampNeg := fun q => n02 (Eq.symm q)
  have n12 := own_nn q1 q2 h1.1 h2.1 h12
  have n21 : ¬ q2.toNatClampNeg = q1.toNatClampNeg := fun q => n12 (Eq.symm q)
  have m0 : ¬ q0.toNatClampNeg = 3 := own_nn q0 3 h0.1 (by decide) (by simp only [Int32.reduceToInt]; omega)
  have k0 : ¬ 3 = q0.toNatClampNeg := fun q => m0 (Eq.symm q)
  have m1 : ¬ q1.toNatClampNeg = 3 := own_nn q1 3 h1.1 (by decide) (by simp only [Int32.reduceToInt]; omega)
  have k1 : ¬ 3 = q1.toNatClampNeg := fun q => m1 (Eq.symm q)
  have m2 : ¬ q2.toNatClampNeg = 3 := own_nn q2 3 h2.1 (by decide) (by simp only [Int32.reduceToInt]; omega)
  have k2 : ¬ 3 = q2.toNatClampNeg := fun q => m2 (Eq.symm q)
  rcases ht with rfl | rfl <;>
  first | (simp [own_c0, own_c1, own_c3, own_ap0, own_ap1, own_ap2, own_ap3, own_ap4, own_ap5, own_rmA0, own_rmA1, own_rmA2, own_rmA3, own_rmA4, own_rmA5, own_s0, a0, a1, a2, a3, n01, n10, n02, n20, n12, n21, m0, m1, m2, k0, k1, k2]; done) | (simp [own_c0, own_c1, own_c3, own_ap0, own_ap1, own_ap2, own_ap3, own_ap4, own_ap5, own_rmA0, own_rmA1, own_rmA2, own_rmA3, own_rmA4, own_rmA5, own_s0, a0, a1, a2, a3, n01, n10, n02, n20, n12, n21, m0, m1, m2, k0, k1, k2]; decide) | (simp [own_c0, own_c1, own_c3, own_ap0, own_ap1, own_ap2, own_ap3, own_ap4, own_ap5, own_rmA0, own_rmA1, own_rmA2, own_rmA3, own_rmA4, own_rmA5, own_s0, a0, a1, a2, a3, n01, n10, n02, n20, n12, n21, m0, m1, m2, k0, k1, k2]; omega)
theorem own_l71 (q0 q1 q2 t : Int32) (h0 : 0 ≤ q0.toInt ∧ q0.toInt < 3) (h1 : 0 ≤ q1.toInt ∧ q1.toInt < 3) (h2 : 0 ≤ q2.toInt ∧ q2.toInt < 3) (h01 : q0.toInt ≠ q1.toInt) (h02 : q0.toInt ≠ q2.toInt) (h12 : q1.toInt ≠ q2.toInt) (ht : t = (0 : Int32) ∨ t = (1 : Int32)) : (own_ap (own_rm (own_ap (own_ap (own_ap own_st0 q0 t) q1 t) q2 t) q1) (3 : Int32) t) 3 t.toNatClampNeg = q0 := by
  have a0 := own_m1 q0 h0.1
  have a1 := own_m1 q1 h1.1
  have a2 := own_m1 q2 h2.1
  have a3 : ¬ (3 : Int32) = (-1 : Int32) := by decide
  have n01 := own_nn q0 q1 h0.1 h1.1 h01
  have n10 : ¬ q1.toNatClampNeg = q0.toNatClampNeg := fun q => n01 (Eq.symm q)
  have n02 := own_nn q0 q2 h0.1 h2.1 h02
  have n20 : ¬ q2.toNatClampNeg = q0.toNatClampNeg := fun q => n02 (Eq.symm q)
  have n12 := own_nn q1 q2 h1.1 h2.1 h12
  have n21 : ¬ q2.toNatClampNeg = q1.toNatClampNeg := fun q => n12 (Eq.symm q)
  have m0 : ¬ q0.toNatClampNeg = 3 := own_nn q0 3 h0.1 (by decide) (by simp only [Int32.reduceToInt]; omega)
  have k0 : ¬ 3 = q0.toNatClampNeg := fun q => m0 (Eq.symm q)
  have m1 : ¬ q1.toNatClampNeg = 3 := own_nn q1 3 h1.1 (by decide) (by simp only [Int32.reduceToInt]; omega)
  have k1 : ¬ 3 = q1.toNatClampNeg := fun q => m1 (Eq.symm q)
  have m2 : ¬ q2.toNatClampNeg = 3 := own_nn q2 3 h2.1 (by decide) (by simp only [Int32.reduceToInt]; omega)
  have k2 : ¬ 3 = q2.toNatClampNeg := fun q => m2 (Eq.symm q)
  rcases ht with rfl | rfl <;>
  first | (simp [own_c0, own_c1, own_c3, own_ap0, own_ap1, own_ap2, own_ap3, own_ap4, own_ap5, own_rmA0, own_rmA1, own_rmA2, own_rmA3, own_rmA4, own_rmA5, own_s0, a0, a1, a2, a3, n01, n10, n02, n20, n12, n21, m0, m1, m2, k0, k1, k2]; done) | (simp [own_c0, own_c1, own_c3, own_ap0, own_ap1, own_ap2, own_ap3, own_ap4, own_ap5, own_rmA0, own_rmA1, own_rmA2, own_rmA3, own_rmA4, own_rmA5, own_s0, a0, a1, a2, a3, n01, n10, n02, n20, n12, n21, m0, m1, m2, k0, k1, k2]; decide) | (simp [own_c0, own_c1, own_c3, own_ap0, own_ap1, own_ap2, own_ap3, own_ap4, own_ap5, own_rmA0, own_rmA1, own_rmA2, own_rmA3, own_rmA4, own_rmA5, own_s0, a0, a1, a2, a3, n01, n10, n02, n20, n12, n21, m0, m1, m2, k0, k1, k2]; omega)
theorem own_l72 (q0 q1 q2 t : Int32) (h0 : 0 ≤ q0.toInt ∧ q0.toInt < 3) (h1 : 0 ≤ q1.toInt ∧ q1.toInt < 3) (h2 : 0 ≤ q2.toInt ∧ q2.toInt < 3) (h01 : q0.toInt ≠ q1.toInt) (h02 : q0.toInt ≠ q2.toInt) (h12 : q1.toInt ≠ q2.toInt) (ht : t = (0 : Int32) ∨ t = (1 : Int32)) : (own_ap (own_rm (own_ap (own_ap (own_ap own_st0 q0 t) q1 t) q2 t) q1) (3 : Int32) t) 2 q0.toNatClampNeg = q2 := by
  have a0 := own_m1 q0 h0.1
  have a1 := own_m1 q1 h1.1
  have a2 := own_m1 q2 h2.1
  have a3 : ¬ (3 : Int32) = (-1 : Int32) := by decide
  have n01 := own_nn q0 q1 h0.1 h1.1 h01
  have n10 : ¬ q1.toNatClampNeg = q0.toNatClampNeg := fun q => n01 (Eq.symm q)
  have n02 := own_nn q0 q2 h0.1 h2.1 h02
  have n20 : ¬ q2.toNatClampNeg = q0.toNatClampNeg := fun q => n02 (Eq.symm q)
  have n12 := own_nn q1 q2 h1.1 h2.1 h12
  have n21 : ¬ q2.toNatClampNeg = q1.toNatClampNeg := fun q => n12 (Eq.symm q)
  have m0 : ¬ q0.toNatClampNeg = 3 := own_nn q0 3 h0.1 (by decide) (by simp only [Int32.reduceToInt]; omega)
  have k0 : ¬ 3 = q0.toNatClampNeg := fun q => m0 (Eq.symm q)
  have m1 : ¬ q1.toNatClampNeg = 3 := own_nn q1 3 h1.1 (by decide) (by simp only [Int32.reduceToInt]; omega)
  have k1 : ¬ 3 = q1.toNatClampNeg := fun q => m1 (Eq.symm q)
  have m2 : ¬ q2.toNatClampNeg = 3 := own_nn q2 3 h2.1 (by decide) (by simp only [Int32.reduceToInt]; omega)
  have k2 : ¬ 3 = q2.toNatClampNeg := fun q => m2 (Eq.symm q)
  rcases ht with rfl | rfl <;>
  first | (simp [own_c0, own_c1, own_c3, own_ap0, own_ap1, own_ap2, own_ap3, own_ap4, own_ap5, own_rmA0, own_rmA1, own_rmA2, own_rmA3, own_rmA4, own_rmA5, own_s0, a0, a1, a2, a3, n01, n10, n02, n20, n12, n21, m0, m1, m2, k0, k1, k2]; done) | (simp [own_c0, own_c1, own_c3, own_ap0, own_ap1, own_ap2, own_ap3, own_ap4, own_ap5, own_rmA0, own_rmA1, own_rmA2, own_rmA3, own_rmA4, own_rmA5, own_s0, a0, a1, a2, a3, n01, n10, n02, n20, n12, n21, m0, m1, m2, k0, k1, k2]; decide) | (simp [own_c0, own_c1, own_c3, own_ap0, own_ap1, own_ap2, own_ap3, own_ap4, own_ap5, own_rmA0, own_rmA1, own_rmA2, own_rmA3, own_rmA4, own_rmA5, own_s0, a0, a1, a2, a3, n01, n10, n02, n20, n12, n21, m0, m1, m2, k0, k1, k2]; omega)
theorem own_l73 (q0 q1 q2 t : Int32) (h0 : 0 ≤ q0.toInt ∧ q0.toInt < 3) (h1 : 0 ≤ q1.toInt ∧ q1.toInt < 3) (h2 : 0 ≤ q2.toInt ∧ q2.toInt < 3) (h01 : q0.toInt ≠ q1.toInt) (h02 : q0.toInt ≠ q2.toInt) (h12 : q1.toInt ≠ q2.toInt) (ht : t = (0 : Int32) ∨ t = (1 : Int32)) : (own_ap (own_rm (own_ap (own_ap (own_ap own_st0 q0 t) q1 t) q2 t) q1) (3 : Int32) t) 2 q2.toNatClampNeg = (3 : Int32) := by
  have a0 := own_m1 q0 h0.1
  have a1 := own_m1 q1 h1.1
  have a2 := own_m1 q2 h2.1
  have a3 : ¬ (3 : Int32) = (-1 : Int32) := by decide
  have n01 := own_nn q0 q1 h0.1 h1.1 h01
  have n10 : ¬ q1.toNatClampNeg = q0.toNatClampNeg := fun q => n01 (Eq.symm q)
  have n02 := own_nn q0 q2 h0.1 h2.1 h02
  have n20 : ¬ q2.toNatClampNeg = q0.toNatClampNeg := fun q => n02 (Eq.symm q)
  have n12 := own_nn q1 q2 h1.1 h2.1 h12
  have n21 : ¬ q2.toNatClampNeg = q1.toNatClampNeg := fun q => n12 (Eq.symm q)
  have m0 : ¬ q0.toNatClampNeg = 3 := own_nn q0 3 h0.1 (by decide) (by simp only [Int32.reduceToInt]; omega)
  have k0 : ¬ 3 = q0.toNatClampNeg := fun q => m0 (Eq.symm q)
  have m1 : ¬ q1.toNatClampNeg = 3 := own_nn q1 3 h1.1 (by decide) (by simp only [Int32.reduceToInt]; omega)
  have k1 : ¬ 3 = q1.toNatClampNeg := fun q => m1 (Eq.symm q)
  have m2 : ¬ q2.toNatClampNeg = 3 := own_nn q2 3 h2.1 (by decide) (by simp only [Int32.reduceToInt]; omega)
  have k2 : ¬ 3 = q2.toNatClampNeg := fun q => m2 (Eq.symm q)
  rcases ht with rfl | rfl <;>
  first | (simp [own_c0, own_c1, own_c3, own_ap0, own_ap1, own_ap2, own_ap3, own_ap4, own_ap5, own_rmA0, own_rmA1, own_rmA2, own_rmA3, own_rmA4, own_rmA5, own_s0, a0, a1, a2, a3, n01, n10, n02, n20, n12, n21, m0, m1, m2, k0, k1, k2]; done) | (simp [own_c0, own_c1, own_c3, own_ap0, own_ap1, own_ap2, own_ap3, own_ap4, own_ap5, own_rmA0, own_rmA1, own_rmA2, own_rmA3, own_rmA4, own_rmA5, own_s0, a0, a1, a2, a3, n01, n10, n02, n20, n12, n21, m0, m1, m2, k0, k1, k2]; decide) | (simp [own_c0, own_c1, own_c3, own_ap0, own_ap1, own_ap2, own_ap3, own_ap4, own_ap5, own_rmA0, own_rmA1, own_rmA2, own_rmA3, own_rmA4, own_rmA5, own_s0, a0, a1, a2, a3, n01, n10, n02, n20, n12, n21, m0, m1, m2, k0, k1, k2]; omega)
theorem own_l74 (q0 q1 q2 t : Int32) (h0 : 0 ≤ q0.toInt ∧ q0.toInt < 3) (h1 : 0 ≤ q1.toInt ∧ q1.toInt < 3) (h2 : 0 ≤ q2.toInt ∧ q2.toInt < 3) (h01 : q0.toInt ≠ q1.toInt) (h02 : q0.toInt ≠ q2.toInt) (h12 : q1.toInt ≠ q2.toInt) (ht : t = (0 : Int32) ∨ t = (1 : Int32)) : (0 ≤ ((own_rm (own_ap (own_ap (own_ap own_st0 q0 t) q1 t) q2 t) q1) 0 q2.toNatClampNeg).toInt ∧ ((own_rm (own_ap (own_ap (own_ap own_st0 q0 t) q1 t) q2 t) q1) 0 q2.toNatClampNeg).toInt < (2 : Nat)) := by
  have a0 := own_m1 q0 h0.1
  have a1 := own_m1 q1 h1.1
  have a2 := own_m1 q2 h2.1
  have a3 : ¬ (3 : Int32) = (-1 : Int32) := by decide
  have n01 := own_nn q0 q1 h0.1 h1.1 h01
  have n10 : ¬ q1.toNatClampNeg = q0.toNatClampNeg := fun q => n01 (Eq.symm q)
  have n02 := own_nn q0 q2 h0.1 h2.1 h02
  have n20 : ¬ q2.toNatClampNeg = q0.toNatClampNeg := fun q => n02 (Eq.symm q)
  have n12 := own_nn q1 q2 h1.1 h2.1 h12
  have n21 : ¬ q2.toNatClampNeg = q1.toNatClampNeg := fun q => n12 (Eq.symm q)
  have m0 : ¬ q0.toNatClampNeg = 3 := own_nn q0 3 h0.1 (by decide) (by simp only [Int32.reduceToInt]; omega)
  have k0 : ¬ 3 = q0.toNatClampNeg := fun q => m0 (Eq.symm q)
  have m1 : ¬ q1.toNatClampNeg = 3 := own_nn q1 3 h1.1 (by decide) (by simp only [Int32.reduceToInt]; omega)
  have k1 : ¬ 3 = q1.toNatClampNeg := fun q => m1 (Eq.symm q)
  have m2 : ¬ q2.toNatClampNeg = 3 := own_nn q2 3 h2.1 (by decide) (by simp only [Int32.reduceToInt]; omega)
  have k2 : ¬ 3 = q2.toNatClampNeg := fun q => m2 (Eq.symm q)
  rcases ht with rfl | rfl <;>
  first | (simp [own_c0, own_c1, own_c3, own_ap0, own_ap1, own_ap2, own_ap3, own_ap4, own_ap5, own_rmA0, own_rmA1, own_rmA2, own_rmA3, own_rmA4, own_rmA5, own_s0, a0, a1, a2, a3, n01, n10, n02, n20, n12, n21, m0, m1, m2, k0, k1, k2]; done) | (simp [own_c0, own_c1, own_c3, own_ap0, own_ap1, own_ap2, own_ap3, own_ap4, own_ap5, own_rmA0, own_rmA1, own_rmA2, own_rmA3, own_rmA4, own_rmA5, own_s0, a0, a1, a2, a3, n01, n10, n02, n20, n12, n21, m0, m1, m2, k0, k1, k2]; decide) | (simp [own_c0, own_c1, own_c3, own_ap0, own_ap1, own_ap2, own_ap3, own_ap4, own_ap5, own_rmA0, own_rmA1, own_rmA2, own_rmA3, own_rmA4, own_rmA5, own_s0, a0, a1, a2, a3, n01, n10, n02, n20, n12, n21, m0, m1, m2, k0, k1, k2]; omega)
theorem own_l75 (q0 q1 q2 t : Int32) (h0 : 0 ≤ q0.toInt ∧ q0.toInt < 3) (h1 : 0 ≤ q1.toInt ∧ q1.toInt < 3) (h2 : 0 ≤ q2.toInt ∧ q2.toInt < 3) (h01 : q0.toInt ≠ q1.toInt) (h02 : q0.toInt ≠ q2.toInt) (h12 : q1.toInt ≠ q2.toInt) (ht : t = (0 : Int32) ∨ t = (1 : Int32)) : (own_rm (own_ap (own_ap (own_ap own_st0 q0 t) q1 t) q2 t) q1) 1 q2.toNatClampNeg = (-1 : Int32) ∨ (0 ≤ ((own_rm (own_ap (own_ap (own_ap own_st0 q0 t) q1 t) q2 t) q1) 1 q2.toNatClampNeg).toInt ∧ ((own_rm (own_ap (own_ap (own_ap own_st0 q0 t) q1 t) q2 t) q1) 1 q2.toNatClampNeg).toInt < (4 : Nat)) := by
  have a0 := own_m1 q0 h0.1
  have a1 := own_m1 q1 h1.1
  have a2 := own_m1 q2 h2.1
  have a3 : ¬ (3 : Int32) = (-1 : Int32) := by decide
  have n01 := own_nn q0 q1 h0.1 h1.1 h01
  have n10 : ¬ q1.toNatClampNeg = q0.toNatClampNeg := fun q => n01 (Eq.symm q)
  have n02 := own_nn q0 q2 h0.1 h2.1 h02
  have n20 : ¬ q2.toNatClampNeg = q0.toNatClampNeg := fun q => n02 (Eq.symm q)
  have n12 := own_nn q1 q2 h1.1 h2.1 h12
  have n21 : ¬ q2.toNatClampNeg = q1.toNatClampNeg := fun q => n12 (Eq.symm q)
  have m0 : ¬ q0.toNatClampNeg = 3 := own_nn q0 3 h0.1 (by decide) (by simp only [Int32.reduceToInt]; omega)
  have k0 : ¬ 3 = q0.toNatClampNeg := fun q => m0 (Eq.symm q)
  have m1 : ¬ q1.toNatClampNeg = 3 := own_nn q1 3 h1.1 (by decide) (by simp only [Int32.reduceToInt]; omega)
  have k1 : ¬ 3 = q1.toNatClampNeg := fun q => m1 (Eq.symm q)
  have m2 : ¬ q2.toNatClampNeg = 3 := own_nn q2 3 h2.1 (by decide) (by simp only [Int32.reduceToInt]; omega)
  have k2 : ¬ 3 = q2.toNatClampNeg := fun q => m2 (Eq.symm q)
  rcases ht with rfl | rfl <;>
  first | (simp [own_c0, own_c1, own_c3, own_ap0, own_ap1, own_ap2, own_ap3, own_ap4, own_ap5, own_rmA0, own_rmA1, own_rmA2, own_rmA3, own_rmA4, own_rmA5, own_s0, a0, a1, a2, a3, n01, n10, n02, n20, n12, n21, m0, m1, m2, k0, k1, k2]; done) | (simp [own_c0, own_c1, own_c3, own_ap0, own_ap1, own_ap2, own_ap3, own_ap4, own_ap5, own_rmA0, own_rmA1, own_rmA2, own_rmA3, own_rmA4, own_rmA5, own_s0, a0, a1, a2, a3, n01, n10, n02, n20, n12, n21, m0, m1, m2, k0, k1, k2]; decide) | (simp [own_c0, own_c1, own_c3, own_ap0, own_ap1, own_ap2, own_ap3, own_ap4, own_ap5, own_rmA0, own_rmA1, own_rmA2, own_rmA3, own_rmA4, own_rmA5, own_s0, a0, a1, a2, a3, n01, n10, n02, n20, n12, n21, m0, m1, m2, k0, k1, k2]; omega)
theorem own_l76 (q0 q1 q2 t : Int32) (h0 : 0 ≤ q0.toInt ∧ q0.toInt < 3) (h1 : 0 ≤ q1.toInt ∧ q1.toInt < 3) (h2 : 0 ≤ q2.toInt ∧ q2.toInt < 3) (h01 : q0.toInt ≠ q1.toInt) (h02 : q0.toInt ≠ q2.toInt) (h12 : q1.toInt ≠ q2.toInt) (ht : t = (0 : Int32) ∨ t = (1 : Int32)) : (own_rm (own_ap (own_ap (own_ap own_st0 q0 t) q1 t) q2 t) q1) 2 q2.toNatClampNeg = (-1 : Int32) ∨ (0 ≤ ((own_rm (own_ap (own_ap (own_ap own_st0 q0 t) q1 t) q2 t) q1) 2 q2.toNatClampNeg).toInt ∧ ((own_rm (own_ap (own_ap (own_ap own_st0 q0 t) q1 t) q2 t) q1) 2 q2.toNatClampNeg).toInt < (4 : Nat)) := by
  have a0 := own_m1 q0 h0.1
  have a1 := own_m1 q1 h1.1
  have a2 := own_m1 q2 h2.1
  have a3 : ¬ (3 : Int32) = (-1 : Int32) := by decide
  have n01 := own_nn q0 q1 h0.1 h1.1 h01
  have n10 : ¬ q1.toNatClampNeg = q0.toNatClampNeg := fun q => n01 (Eq.symm q)
  have n02 := own_nn q0 q2 h0.1 h2.1 h02
  have n20 : ¬ q2.toNatClampNeg = q0.toNatClampNeg := fun q => n02 (Eq.symm q)
  have n12 := own_nn q1 q2 h1.1 h2.1 h12
  have n21 : ¬ q2.toNatClampNeg = q1.toNatClampNeg := fun q => n12 (Eq.symm q)
  have m0 : ¬ q0.toNatClampNeg = 3 := own_nn q0 3 h0.1 (by decide) (by simp only [Int32.reduceToInt]; omega)
  have k0 : ¬ 3 = q0.toNatClampNeg := fun q => m0 (Eq.symm q)
  have m1 : ¬ q1.toNatClampNeg = 3 := own_nn q1 3 h1.1 (by decide) (by simp only [Int32.reduceToInt]; omega)
  have k1 : ¬ 3 = q1.toNatClampNeg := fun q => m1 (Eq.symm q)
  have m2 : ¬ q2.toNatClampNeg = 3 := own_nn q2 3 h2.1 (by decide) (by simp only [Int32.reduceToInt]; omega)
  have k2 : ¬ 3 = q2.toNatClampNeg := fun q => m2 (Eq.symm q)
  rcases ht with rfl | rfl <;>
  first | (simp [own_c0, own_c1, own_c3, own_ap0, own_ap1, own_ap2, own_ap3, own_ap4, own_ap5, own_rmA0, own_rmA1, own_rmA2, own_rmA3, own_rmA4, own_rmA5, own_s0, a0, a1, a2, a3, n01, n10, n02, n20, n12, n21, m0, m1, m2, k0, k1, k2]; done) | (simp [own_c0, own_c1, own_c3, own_ap0, own_ap1, own_ap2, own_ap3, own_ap4, own_ap5, own_rmA0, own_rmA1, own_rmA2, own_rmA3, own_rmA4, own_rmA5, own_s0, a0, a1, a2, a3, n01, n10, n02, n20, n12, n21, m0, m1, m2, k0, k1, k2]; decide) | (simp [own_c0, own_c1, own_c3, own_ap0, own_ap1, own_ap2, own_ap3, own_ap4, own_ap5, own_rmA0, own_rmA1, own_rmA2, own_rmA3, own_rmA4, own_rmA5, own_s0, a0, a1, a2, a3, n01, n10, n02, n20, n12, n21, m0, m1, m2, k0, k1, k2]; omega)
theorem own_l77 (q0 q1 q2 t : Int32) (h0 : 0 ≤ q0.toInt ∧ q0.toInt < 3) (h1 : 0 ≤ q1.toInt ∧ q1.toInt < 3) (h2 : 0 ≤ q2.toInt ∧ q2.toInt < 3) (h01 : q0.toInt ≠ q1.toInt) (h02 : q0.toInt ≠ q2.toInt) (h12 : q1.toInt ≠ q2.toInt) (ht : t = (0 : Int32) ∨ t = (1 : Int32)) : (own_rm (own_rm (own_ap (own_ap (own_ap own_st0 q0 t) q1 t) q2 t) q1) q2) 4 t.toNatClampNeg = (-1 : Int32) ∨ (0 ≤ ((own_rm (own_rm (own_ap (own_ap (own_ap own_st0 q0 t) q1 t) q2 t) q1) q2) 4 t.toNatClampNeg).toInt ∧ ((own_rm (own_rm (own_ap (own_ap (own_ap own_st0 q0 t) q1 t) q2 t) q1) q2) 4 t.toNatClampNeg).toInt < (4 : Nat)) := by
  have a0 := own_m1 q0 h0.1
  have a1 := own_m1 q1 h1.1
  have a2 := own_m1 q2 h2.1
  have a3 : ¬ (3 : Int32) = (-1 : Int32) := by decide
  have n01 := own_nn q0 q1 h0.1 h1.1 h01
  have n10 : ¬ q1.toNatClampNeg = q0.toNatClampNeg := fun q => n01 (Eq.symm q)
  have n02 := own_nn q0 q2 h0.1 h2.1 h02
  have n20 : ¬ q2.toNatClampNeg = q0.toNatClampNeg := fun q => n02 (Eq.symm q)
  have n12 := own_nn q1 q2 h1.1 h2.1 h12
  have n21 : ¬ q2.toNatClampNeg = q1.toNatClampNeg := fun q => n12 (Eq.symm q)
  have m0 : ¬ q0.toNatClampNeg = 3 := own_nn q0 3 h0.1 (by decide) (by simp only [Int32.reduceToInt]; omega)
  have k0 : ¬ 3 = q0.toNatClampNeg := fun q => m0 (Eq.symm q)
  have m1 : ¬ q1.toNatClampNeg = 3 := own_nn q1 3 h1.1 (by decide) (by simp only [Int32.reduceToInt]; omega)
  have k1 : ¬ 3 = q1.toNatClampNeg := fun q => m1 (Eq.symm q)
  have m2 : ¬ q2.toNatClampNeg = 3 := own_nn q2 3 h2.1 (by decide) (by simp only [Int32.reduceToInt]; omega)
  have k2 : ¬ 3 = q2.toNatClampNeg := fun q => m2 (Eq.symm q)
  rcases ht with rfl | rfl <;>
  first | (simp [own_c0, own_c1, own_c3, own_ap0, own_ap1, own_ap2, own_ap3, own_ap4, own_ap5, own_rmA0, own_rmA1, own_rmA2, own_rmA3, own_rmA4, own_rmA5, own_s0, a0, a1, a2, a3, n01, n10, n02, n20, n12, n21, m0, m1, m2, k0, k1, k2]; done) | (simp [own_c0, own_c1, own_c3, own_ap0, own_ap1, own_ap2, own_ap3, own_ap4, own_ap5, own_rmA0, own_rmA1, own_rmA2, own_rmA3, own_rmA4, own_rmA5, own_s0, a0, a1, a2, a3, n01, n10, n02, n20, n12, n21, m0, m1, m2, k0, k1, k2]; decide) | (simp [own_c0, own_c1, own_c3, own_ap0, own_ap1, own_ap2, own_ap3, own_ap4, own_ap5, own_rmA0, own_rmA1, own_rmA2, own_rmA3, own_rmA4, own_rmA5, own_s0, a0, a1, a2, a3, n01, n10, n02, n20, n12, n21, m0, m1, m2, k0, k1, k2]; omega)
theorem own_l78 (q0 q1 q2 t : Int32) (h0 : 0 ≤ q0.toInt ∧ q0.toInt < 3) (h1 : 0 ≤ q1.toInt ∧ q1.toInt < 3) (h2 : 0 ≤ q2.toInt ∧ q2.toInt < 3) (h01 : q0.toInt ≠ q1.toInt) (h02 : q0.toInt ≠ q2.toInt) (h12 : q1.toInt ≠ q2.toInt) (ht : t = (0 : Int32) ∨ t = (1 : Int32)) : (own_ap (own_rm (own_rm (own_ap (own_ap (own_ap own_st0 q0 t) q1 t) q2 t) q1) q2) (3 : Int32) t) 0 q1.toNatClampNeg = (-1 : Int32) := by
  have a0 := own_m1 q0 h0.1
  have a1 := own_m1 q1 h1.1
  have a2 := own_m1 q2 h2.1
  have a3 : ¬ (3 : Int32) = (-1 : Int32) := by decide
  have n01 := own_nn q0 q1 h0.1 h1.1 h01
  have n10 : ¬ q1.toNatClampNeg = q0.toNatClampNeg := fun q => n01 (Eq.symm q)
  have n02 := own_nn q0 q2 h0.1 h2.1 h02
  have n20 : ¬ q2.toNatClampNeg = q0.toNatClampNeg := fun q => n02 (Eq.symm q)
  have n12 := own_nn q1 q2 h1.1 h2.1 h12
  have n21 : ¬ q2.toNatClampNeg = q1.toNatClampNeg := fun q => n12 (Eq.symm q)
  have m0 : ¬ q0.toNatClampNeg = 3 := own_nn q0 3 h0.1 (by decide) (by simp only [Int32.reduceToInt]; omega)
  have k0 : ¬ 3 = q0.toNatClampNeg := fun q => m0 (Eq.symm q)
  have m1 : ¬ q1.toNatClampNeg = 3 := own_nn q1 3 h1.1 (by decide) (by simp only [Int32.reduceToInt]; omega)
  have k1 : ¬ 3 = q1.toNatClampNeg := fun q => m1 (Eq.symm q)
  have m2 : ¬ q2.toNatClampNeg = 3 := own_nn q2 3 h2.1 (by decide) (by simp only [Int32.reduceToInt]; omega)
  have k2 : ¬ 3 = q2.toNatClampNeg := fun q => m2 (Eq.symm q)
  rcases ht with rfl | rfl <;>
  first | (simp [own_c0, own_c1, own_c3, own_ap0, own_ap1, own_ap2, own_ap3, own_ap4, own_ap5, own_rmA0, own_rmA1, own_rmA2, own_rmA3, own_rmA4, own_rmA5, own_s0, a0, a1, a2, a3, n01, n10, n02, n20, n12, n21, m0, m1, m2, k0, k1, k2]; done) | (simp [own_c0, own_c1, own_c3, own_ap0, own_ap1, own_ap2, own_ap3, own_ap4, own_ap5, own_rmA0, own_rmA1, own_rmA2, own_rmA3, own_rmA4, own_rmA5, own_s0, a0, a1, a2, a3, n01, n10, n02, n20, n12, n21, m0, m1, m2, k0, k1, k2]; decide) | (simp [own_c0, own_c1, own_c3, own_ap0, own_ap1, own_ap2, own_ap3, own_ap4, own_ap5, own_rmA0, own_rmA1, own_rmA2, own_rmA3, own_rmA4, own_rmA5, own_s0, a0, a1, a2, a3, n01, n10, n02, n20, n12, n21, m0, m1, m2, k0, k1, k2]; omega)
theorem own_l79 (q0 q1 q2 t : Int32) (h0 : 0 ≤ q0.toInt ∧ q0.toInt < 3) (h1 : 0 ≤ q1.toInt ∧ q1.toInt < 3) (h2 : 0 ≤ q2.toInt ∧ q2.toInt < 3) (h01 : q0.toInt ≠ q1.toInt) (h02 : q0.toInt ≠ q2.toInt) (h12 : q1.toInt ≠ q2.toInt) (ht : t = (0 : Int32) ∨ t = (1 : Int32)) : (own_ap (own_rm (own_rm (own_ap (own_ap (own_ap own_st0 q0 t) q1 t) q2 t) q1) q2) (3 : Int32) t) 5 t.toNatClampNeg = ((1 : Int32) + (1 : Int32)) := by
  have a0 := own_m1 q0 h0.1
  have a1 := own_m1 q1 h1.1
  have a2 := own_m1 q2 h2.1
  have a3 : ¬ (3 : Int32) = (-1 : Int32) := by decide
  have n01 := own_nn q0 q1 h0.1 h1.1 h01
  have n10 : ¬ q1.toNatClampNeg = q0.toNatClampNeg := fun q => n01 (Eq.symm q)
  have n02 := own_nn q0 q2 h0.1 h2.1 h02
  have n20 : ¬ q2.toNatClampNeg = q0.toNatClampNeg := fun q => n02 (Eq.symm q)
  have n12 := own_nn q1 q2 h1.1 h2.1 h12
  have n21 : ¬ q2.toNatClampNeg = q1.toNatClampNeg := fun q => n12 (Eq.symm q)
  have m0 : ¬ q0.toNatClampNeg = 3 := own_nn q0 3 h0.1 (by decide) (by simp only [Int32.reduceToInt]; omega)
  have k0 : ¬ 3 = q0.toNatClampNeg := fun q => m0 (Eq.symm q)
  have m1 : ¬ q1.toNatClampNeg = 3 := own_nn q1 3 h1.1 (by decide) (by simp only [Int32.reduceToInt]; omega)
  have k1 : ¬ 3 = q1.toNatClampNeg := fun q => m1 (Eq.symm q)
  have m2 : ¬ q2.toNatClampNeg = 3 := own_nn q2 3 h2.1 (by decide) (by simp only [Int32.reduceToInt]; omega)
  have k2 : ¬ 3 = q2.toNatClampNeg := fun q => m2 (Eq.symm q)
  rcases ht with rfl | rfl <;>
  first | (simp [own_c0, own_c1, own_c3, own_ap0, own_ap1, own_ap2, own_ap3, own_ap4, own_ap5, own_rmA0, own_rmA1, own_rmA2, own_rmA3, own_rmA4, own_rmA5, own_s0, a0, a1, a2, a3, n01, n10, n02, n20, n12, n21, m0, m1, m2, k0, k1, k2]; done) | (simp [own_c0, own_c1, own_c3, own_ap0, own_ap1, own_ap2, own_ap3, own_ap4, own_ap5, own_rmA0, own_rmA1, own_rmA2, own_rmA3, own_rmA4, own_rmA5, own_s0, a0, a1, a2, a3, n01, n10, n02, n20, n12, n21, m0, m1, m2, k0, k1, k2]; decide) | (simp [own_c0, own_c1, own_c3, own_ap0, own_ap1, own_ap2, own_ap3, own_ap4, own_ap5, own_rmA0, own_rmA1, own_rmA2, own_rmA3, own_rmA4, own_rmA5, own_s0, a0, a1, a2, a3, n01, n10, n02, n20, n12, n21, m0, m1, m2, k0, k1, k2]; omega)
theorem own_l80 (q0 q1 q2 t : Int32) (h0 : 0 ≤ q0.toInt ∧ q0.toInt < 3) (h1 : 0 ≤ q1.toInt ∧ q1.toInt < 3) (h2 : 0 ≤ q2.toInt ∧ q2.toInt < 3) (h01 : q0.toInt ≠ q1.toInt) (h02 : q0.toInt ≠ q2.toInt) (h12 : q1.toInt ≠ q2.toInt) (ht : t = (0 : Int32) ∨ t = (1 : Int32)) : (own_ap (own_rm (own_rm (own_ap (own_ap (own_ap own_st0 q0 t) q1 t) q2 t) q1) q2) (3 : Int32) t) 3 t.toNatClampNeg = q0 := by
  have a0 := own_m1 q0 h0.1
  have a1 := own_m1 q1 h1.1
  have a2 := own_m1 q2 h2.1
  have a3 : ¬ (3 : Int32) = (-1 : Int32) := by decide
  have n01 := own_nn q0 q1 h0.1 h1.1 h01
  have n10 : ¬ q1.toNatClampNeg = q0.toNatClampNeg := fun q => n01 (Eq.symm q)
  have n02 := own_nn q0 q2 h0.1 h2.1 h02
  have n20 : ¬ q2.toNatClampNeg = q0.toNatClampNeg := fun q => n02 (Eq.symm q)
  have n12 := own_nn q1 q2 h1.1 h2.1 h12
  have n21 : ¬ q2.toNatClampNeg = q1.toNatClampNeg := fun q => n12 (Eq.symm q)
  have m0 : ¬ q0.toNatClampNeg = 3 := own_nn q0 3 h0.1 (by decide) (by simp only [Int32.reduceToInt]; omega)
  have k0 : ¬ 3 = q0.toNatClampNeg := fun q => m0 (Eq.symm q)
  have m1 : ¬ q1.toNatClampNeg = 3 := own_nn q1 3 h1.1 (by decide) (by simp only [Int32.reduceToInt]; omega)
  have k1 : ¬ 3 = q1.toNatClampNeg := fun q => m1 (Eq.symm q)
  have m2 : ¬ q2.toNatClampNeg = 3 := own_nn q2 3 h2.1 (by decide) (by simp only [Int32.reduceToInt]; omega)
  have k2 : ¬ 3 = q2.toNatClampNeg := fun q => m2 (Eq.symm q)
  rcases ht with rfl | rfl <;>
  first | (simp [own_c0, own_c1, own_c3, own_ap0, own_ap1, own_ap2, own_ap3, own_ap4, own_ap5, own_rmA0, own_rmA1, own_rmA2, own_rmA3, own_rmA4, own_rmA5, own_s0, a0, a1, a2, a3, n01, n10, n02, n20, n12, n21, m0, m1, m2, k0, k1, k2]; done) | (simp [own_c0, own_c1, own_c3, own_ap0, own_ap1, own_ap2, own_ap3, own_ap4, own_ap5, own_rmA0, own_rmA1, own_rmA2, own_rmA3, own_rmA4, own_rmA5, own_s0, a0, a1, a2, a3, n01, n10, n02, n20, n12, n21, m0, m1, m2, k0, k1, k2]; decide) | (simp [own_c0, own_c1, own_c3, own_ap0, own_ap1, own_ap2, own_ap3, own_ap4, own_ap5, own_rmA0, own_rmA1, own_rmA2, own_rmA3, own_rmA4, own_rmA5, own_s0, a0, a1, a2, a3, n01, n10, n02, n20, n12, n21, m0, m1, m2, k0, k1, k2]; omega)
theorem own_l81 (q0 q1 q2 t : Int32) (h0 : 0 ≤ q0.toInt ∧ q0.toInt < 3) (h1 : 0 ≤ q1.toInt ∧ q1.toInt < 3) (h2 : 0 ≤ q2.toInt ∧ q2.toInt < 3) (h01 : q0.toInt ≠ q1.toInt) (h02 : q0.toInt ≠ q2.toInt) (h12 : q1.toInt ≠ q2.toInt) (ht : t = (0 : Int32) ∨ t = (1 : Int32)) : (own_ap (own_rm (own_rm (own_ap (own_ap (own_ap own_st0 q0 t) q1 t) q2 t) q1) q2) (3 : Int32) t) 2 q0.toNatClampNeg = (3 : Int32) := by
  have a0 := own_m1 q0 h0.1
  have a1 := own_m1 q1 h1.1
  have a2 := own_m1 q2 h2.1
  have a3 : ¬ (3 : Int32) = (-1 : Int32) := by decide
  have n01 := own_nn q0 q1 h0.1 h1.1 h01
  have n10 : ¬ q1.toNatClampNeg = q0.toNatClampNeg := fun q => n01 (Eq.symm q)
  have n02 := own_nn q0 q2 h0.1 h2.1 h02
  have n20 : ¬ q2.toNatClampNeg = q0.toNatClampNeg := fun q => n02 (Eq.symm q)
  have n12 := own_nn q1 q2 h1.1 h2.1 h12
  have n21 : ¬ q2.toNatClampNeg = q1.toNatClampNeg := fun q => n12 (Eq.symm q)
  have m0 : ¬ q0.toNatClampNeg = 3 := own_nn q0 3 h0.1 (by decide) (by simp only [Int32.reduceToInt]; omega)
  have k0 : ¬ 3 = q0.toNatClampNeg := fun q => m0 (Eq.symm q)
  have m1 : ¬ q1.toNatClampNeg = 3 := own_nn q1 3 h1.1 (by decide) (by simp only [Int32.reduceToInt]; omega)
  have k1 : ¬ 3 = q1.toNatClampNeg := fun q => m1 (Eq.symm q)
  have m2 : ¬ q2.toNatClampNeg = 3 := own_nn q2 3 h2.1 (by decide) (by simp only [Int32.reduceToInt]; omega)
  have k2 : ¬ 3 = q2.toNatClampNeg := fun q => m2 (Eq.symm q)
  rcases ht with rfl | rfl <;>
  first | (simp [own_c0, own_c1, own_c3, own_ap0, own_ap1, own_ap2, own_ap3, own_ap4, own_ap5, own_rmA0, own_rmA1, own_rmA2, own_rmA3, own_rmA4, own_rmA5, own_s0, a0, a1, a2, a3, n01, n10, n02, n20, n12, n21, m0, m1, m2, k0, k1, k2]; done) | (simp [own_c0, own_c1, own_c3, own_ap0, own_ap1, own_ap2, own_ap3, own_ap4, own_ap5, own_rmA0, own_rmA1, own_rmA2, own_rmA3, own_rmA4, own_rmA5, own_s0, a0, a1, a2, a3, n01, n10, n02, n20, n12, n21, m0, m1, m2, k0, k1, k2]; decide) | (simp [own_c0, own_c1, own_c3, own_ap0, own_ap1, own_ap2, own_ap3, own_ap4, own_ap5, own_rmA0, own_rmA1, own_rmA2, own_rmA3, own_rmA4, own_rmA5, own_s0, a0, a1, a2, a3, n01, n10, n02, n20, n12, n21, m0, m1, m2, k0, k1, k2]; omega)
theorem own_l82 (q0 q1 q2 t : Int32) (h0 : 0 ≤ q0.toInt ∧ q0.toInt < 3) (h1 : 0 ≤ q1.toInt ∧ q1.toInt < 3) (h2 : 0 ≤ q2.toInt ∧ q2.toInt < 3) (h01 : q0.toInt ≠ q1.toInt) (h02 : q0.toInt ≠ q2.toInt) (h12 : q1.toInt ≠ q2.toInt) (ht : t = (0 : Int32) ∨ t = (1 : Int32)) : (0 ≤ ((own_rm (own_ap (own_ap (own_ap own_st0 q0 t) q1 t) q2 t) q1) 0 q0.toNatClampNeg).toInt ∧ ((own_rm (own_ap (own_ap (own_ap own_st0 q0 t) q1 t) q2 t) q1) 0 q0.toNatClampNeg).toInt < (2 : Nat)) := by
  have a0 := own_m1 q0 h0.1
  have a1 := own_m1 q1 h1.1
  have a2 := own_m1 q2 h2.1
  have a3 : ¬ (3 : Int32) = (-1 : Int32) := by decide
  have n01 := own_nn q0 q1 h0.1 h1.1 h01
  have n10 : ¬ q1.toNatClampNeg = q0.toNatClampNeg := fun q => n01 (Eq.symm q)
  have n02 := own_nn q0 q2 h0.1 h2.1 h02
  have n20 : ¬ q2.toNatClampNeg = q0.toNatClampNeg := fun q => n02 (Eq.symm q)
  have n12 := own_nn q1 q2 h1.1 h2.1 h12
  have n21 : ¬ q2.toNatClampNeg = q1.toNatClampNeg := fun q => n12 (Eq.symm q)
  have m0 : ¬ q0.toNatClampNeg = 3 := own_nn q0 3 h0.1 (by decide) (by simp only [Int32.reduceToInt]; omega)
  have k0 : ¬ 3 = q0.toNatClampNeg := fun q => m0 (Eq.symm q)
  have m1 : ¬ q1.toNatClampNeg = 3 := own_nn q1 3 h1.1 (by decide) (by simp only [Int32.reduceToInt]; omega)
  have k1 : ¬ 3 = q1.toNatClampNeg := fun q => m1 (Eq.symm q)
  have m2 : ¬ q2.toNatClampNeg = 3 := own_nn q2 3 h2.1 (by decide) (by simp only [Int32.reduceToInt]; omega)
  have k2 : ¬ 3 = q2.toNatClampNeg := fun q => m2 (Eq.symm q)
  rcases ht with rfl | rfl <;>
  first | (simp [own_c0, own_c1, own_c3, own_ap0, own_ap1, own_ap2, own_ap3, own_ap4, own_ap5, own_rmA0, own_rmA1, own_rmA2, own_rmA3, own_rmA4, own_rmA5, own_s0, a0, a1, a2, a3, n01, n10, n02, n20, n12, n21, m0, m1, m2, k0, k1, k2]; done) | (simp [own_c0, own_c1, own_c3, own_ap0, own_ap1, own_ap2, own_ap3, own_ap4, own_ap5, own_rmA0, own_rmA1, own_rmA2, own_rmA3, own_rmA4, own_rmA5, own_s0, a0, a1, a2, a3, n01, n10, n02, n20, n12, n21, m0, m1, m2, k0, k1, k2]; decide) | (simp [own_c0, own_c1, own_c3, own_ap0, own_ap1, own_ap2, own_ap3, own_ap4, own_ap5, own_rmA0, own_rmA1, own_rmA2, own_rmA3, own_rmA4, own_rmA5, own_s0, a0, a1, a2, a3, n01, n10, n02, n20, n12, n21, m0, m1, m2, k0, k1, k2]; omega)
theorem own_l83 (q0 q1 q2 t : Int32) (h0 : 0 ≤ q0.toInt ∧ q0.toInt < 3) (h1 : 0 ≤ q1.toInt ∧ q1.toInt < 3) (h2 : 0 ≤ q2.toInt ∧ q2.toInt < 3) (h01 : q0.toInt ≠ q1.toInt) (h02 : q0.toInt ≠ q2.toInt) (h12 : q1.toInt ≠ q2.toInt) (ht : t = (0 : Int32) ∨ t = (1 : Int32)) : (own_rm (own_ap (own_ap (own_ap own_st0 q0 t) q1 t) q2 t) q1) 1 q0.toNatClampNeg = (-1 : Int32) ∨ (0 ≤ ((own_rm (own_ap (own_ap (own_ap own_st0 q0 t) q1 t) q2 t) q1) 1 q0.toNatClampNeg).toInt ∧ ((own_rm (own_ap (own_ap (own_ap own_st0 q0 t) q1 t) q2 t) q1) 1 q0.toNatClampNeg).toInt < (4 : Nat)) := by
  have a0 := own_m1 q0 h0.1
  have a1 := own_m1 q1 h1.1
  have a2 := own_m1 q2 h2.1
  have a3 : ¬ (3 : Int32) = (-1 : Int32) := by decide
  have n01 := own_nn q0 q1 h0.1 h1.1 h01
  have n10 : ¬ q1.toNatClampNeg = q0.toNatClampNeg := fun q => n01 (Eq.symm q)
  have n02 := own_nn q0 q2 h0.1 h2.1 h02
  have n20 : ¬ q2.toNatClampNeg = q0.toNatClampNeg := fun q => n02 (Eq.symm q)
  have n12 := own_nn q1 q2 h1.1 h2.1 h12
  have n21 : ¬ q2.toNatClampNeg = q1.toNatClampNeg := fun q => n12 (Eq.symm q)
  have m0 : ¬ q0.toNatClampNeg = 3 := own_nn q0 3 h0.1 (by decide) (by simp only [Int32.reduceToInt]; omega)
  have k0 : ¬ 3 = q0.toNatClampNeg := fun q => m0 (Eq.symm q)
  have m1 : ¬ q1.toNatClampNeg = 3 := own_nn q1 3 h1.1 (by decide) (by simp only [Int32.reduceToInt]; omega)
  have k1 : ¬ 3 = q1.toNatClampNeg := fun q => m1 (Eq.symm q)
  have m2 : ¬ q2.toNatClampNeg = 3 := own_nn q2 3 h2.1 (by decide) (by simp only [Int32.reduceToInt]; omega)
  have k2 : ¬ 3 = q2.toNatClampNeg := fun q => m2 (Eq.symm q)
  rcases ht with rfl | rfl <;>
  first | (simp [own_c0, own_c1, own_c3, own_ap0, own_ap1, own_ap2, own_ap3, own_ap4, own_ap5, own_rmA0, own_rmA1, own_rmA2, own_rmA3, own_rmA4, own_rmA5, own_s0, a0, a1, a2, a3, n01, n10, n02, n20, n12, n21, m0, m1, m2, k0, k1, k2]; done) | (simp [own_c0, own_c1, own_c3, own_ap0, own_ap1, own_ap2, own_ap3, own_ap4, own_ap5, own_rmA0, own_rmA1, own_rmA2, own_rmA3, own_rmA4, own_rmA5, own_s0, a0, a1, a2, a3, n01, n10, n02, n20, n12, n21, m0, m1, m2, k0, k1, k2]; decide) | (simp [own_c0, own_c1, own_c3, own_ap0, own_ap1, own_ap2, own_ap3, own_ap4, own_ap5, own_rmA0, own_rmA1, own_rmA2, own_rmA3, own_rmA4, own_rmA5, own_s0, a0, a1, a2, a3, n01, n10, n02, n20, n12, n21, m0, m1, m2, k0, k1, k2]; omega)
theorem own_l84 (q0 q1 q2 t : Int32) (h0 : 0 ≤ q0.toInt ∧ q0.toInt < 3) (h1 : 0 ≤ q1.toInt ∧ q1.toInt < 3) (h2 : 0 ≤ q2.toInt ∧ q2.toInt < 3) (h01 : q0.toInt ≠ q1.toInt) (h02 : q0.toInt ≠ q2.toInt) (h12 : q1.toInt ≠ q2.toInt) (ht : t = (0 : Int32) ∨ t = (1 : Int32)) : (own_rm (own_ap (own_ap (own_ap own_st0 q0 t) q1 t) q2 t) q1) 2 q0.toNatClampNeg = (-1 : Int32) ∨ (0 ≤ ((own_rm (own_ap (own_ap (own_ap own_st0 q0 t) q1 t) q2 t) q1) 2 q0.toNatClampNeg).toInt ∧ ((own_rm (own_ap (own_ap (own_ap own_st0 q0 t) q1 t) q2 t) q1) 2 q0.toNatClampNeg).toInt < (4 : Nat)) := by
  have a0 := own_m1 q0 h0.1
  have a1 := own_m1 q1 h1.1
  have a2 := own_m1 q2 h2.1
  have a3 : ¬ (3 : Int32) = (-1 : Int32) := by decide
  have n01 := own_nn q0 q1 h0.1 h1.1 h01
  have n10 : ¬ q1.toNatClampNeg = q0.toNatClampNeg := fun q => n01 (Eq.symm q)
  have n02 := own_nn q0 q2 h0.1 h2.1 h02
  have n20 : ¬ q2.toNatClampNeg = q0.toNatClampNeg := fun q => n02 (Eq.symm q)
  have n12 := own_nn q1 q2 h1.1 h2.1 h12
  have n21 : ¬ q2.toNatClampNeg = q1.toNatClampNeg := fun q => n12 (Eq.symm q)
  have m0 : ¬ q0.toNatClampNeg = 3 := own_nn q0 3 h0.1 (by decide) (by simp only [Int32.reduceToInt]; omega)
  have k0 : ¬ 3 = q0.toNatClampNeg := fun q => m0 (Eq.symm q)
  have m1 : ¬ q1.toNatClampNeg = 3 := own_nn q1 3 h1.1 (by decide) (by simp only [Int32.reduceToInt]; omega)
  have k1 : ¬ 3 = q1.toNatClampNeg := fun q => m1 (Eq.symm q)
  have m2 : ¬ q2.toNatClampNeg = 3 := own_nn q2 3 h2.1 (by decide) (by simp only [Int32.reduceToInt]; omega)
  have k2 : ¬ 3 = q2.toNatClampNeg := fun q => m2 (Eq.symm q)
  rcases ht with rfl | rfl <;>
  first | (simp [own_c0, own_c1, own_c3, own_ap0, own_ap1, own_ap2, own_ap3, own_ap4, own_ap5, own_rmA0, own_rmA1, own_rmA2, own_rmA3, own_rmA4, own_rmA5, own_s0, a0, a1, a2, a3, n01, n10, n02, n20, n12, n21, m0, m1, m2, k0, k1, k2]; done) | (simp [own_c0, own_c1, own_c3, own_ap0, own_ap1, own_ap2, own_ap3, own_ap4, own_ap5, own_rmA0, own_rmA1, own_rmA2, own_rmA3, own_rmA4, own_rmA5, own_s0, a0, a1, a2, a3, n01, n10, n02, n20, n12, n21, m0, m1, m2, k0, k1, k2]; decide) | (simp [own_c0, own_c1, own_c3, own_ap0, own_ap1, own_ap2, own_ap3, own_ap4, own_ap5, own_rmA0, own_rmA1, own_rmA2, own_rmA3, own_rmA4, own_rmA5, own_s0, a0, a1, a2, a3, n01, n10, n02, n20, n12, n21, m0, m1, m2, k0, k1, k2]; omega)
theorem own_l85 (q0 q1 q2 t : Int32) (h0 : 0 ≤ q0.toInt ∧ q0.toInt < 3) (h1 : 0 ≤ q1.toInt ∧ q1.toInt < 3) (h2 : 0 ≤ q2.toInt ∧ q2.toInt < 3) (h01 : q0.toInt ≠ q1.toInt) (h02 : q0.toInt ≠ q2.toInt) (h12 : q1.toInt ≠ q2.toInt) (ht : t = (0 : Int32) ∨ t = (1 : Int32)) : (own_rm (own_rm (own_ap (own_ap (own_ap own_st0 q0 t) q1 t) q2 t) q1) q0) 4 t.toNatClampNeg = (-1 : Int32) ∨ (0 ≤ ((own_rm (own_rm (own_ap (own_ap (own_ap own_st0 q0 t) q1 t) q2 t) q1) q0) 4 t.toNatClampNeg).toInt ∧ ((own_rm (own_rm (own_ap (own_ap (own_ap own_st0 q0 t) q1 t) q2 t) q1) q0) 4 t.toNatClampNeg).toInt < (4 : Nat)) := by
  have a0 := own_m1 q0 h0.1
  have a1 := own_m1 q1 h1.1
  have a2 := own_m1 q2 h2.1
  have a3 : ¬ (3 : Int32) = (-1 : Int32) := by decide
  have n01 := own_nn q0 q1 h0.1 h1.1 h01
  have n10 : ¬ q1.toNatClampNeg = q0.toNatClampNeg := fun q => n01 (Eq.symm q)
  have n02 := own_nn q0 q2 h0.1 h2.1 h02
  have n20 : ¬ q2.toNatClampNeg = q0.toNatClampNeg := fun q => n02 (Eq.symm q)
  have n12 := own_nn q1 q2 h1.1 h2.1 h12
  have n21 : ¬ q2.toNatClampNeg = q1.toNatClampNeg := fun q => n12 (Eq.symm q)
  have m0 : ¬ q0.toNatClampNeg = 3 := own_nn q0 3 h0.1 (by decide) (by simp only [Int32.reduceToInt]; omega)
  have k0 : ¬ 3 = q0.toNatClampNeg := fun q => m0 (Eq.symm q)
  have m1 : ¬ q1.toNatClampNeg = 3 := own_nn q1 3 h1.1 (by decide) (by simp only [Int32.reduceToInt]; omega)
  have k1 : ¬ 3 = q1.toNatClampNeg := fun q => m1 (Eq.symm q)
  have m2 : ¬ q2.toNatClampNeg = 3 := own_nn q2 3 h2.1 (by decide) (by simp only [Int32.reduceToInt]; omega)
  have k2 : ¬ 3 = q2.toNatClampNeg := fun q => m2 (Eq.symm q)
  rcases ht with rfl | rfl <;>
  first | (simp [own_c0, own_c1, own_c3, own_ap0, own_ap1, own_ap2, own_ap3, own_ap4, own_ap5, own_rmA0, own_rmA1, own_rmA2, own_rmA3, own_rmA4, own_rmA5, own_s0, a0, a1, a2, a3, n01, n10, n02, n20, n12, n21, m0, m1, m2, k0, k1, k2]; done) | (simp [own_c0, own_c1, own_c3, own_ap0, own_ap1, own_ap2, own_ap3, own_ap4, own_ap5, own_rmA0, own_rmA1, own_rmA2, own_rmA3, own_rmA4, own_rmA5, own_s0, a0, a1, a2, a3, n01, n10, n02, n20, n12, n21, m0, m1, m2, k0, k1, k2]; decide) | (simp [own_c0, own_c1, own_c3, own_ap0, own_ap1, own_ap2, own_ap3, own_ap4, own_ap5, own_rmA0, own_rmA1, own_rmA2, own_rmA3, own_rmA4, own_rmA5, own_s0, a0, a1, a2, a3, n01, n10, n02, n20, n12, n21, m0, m1, m2, k0, k1, k2]; omega)
theorem own_l86 (q0 q1 q2 t : Int32) (h0 : 0 ≤ q0.toInt ∧ q0.toInt < 3) (h1 : 0 ≤ q1.toInt ∧ q1.toInt < 3) (h2 : 0 ≤ q2.toInt ∧ q2.toInt < 3) (h01 : q0.toInt ≠ q1.toInt) (h02 : q0.toInt ≠ q2.toInt) (h12 : q1.toInt ≠ q2.toInt) (ht : t = (0 : Int32) ∨ t = (1 : Int32)) : (own_ap (own_rm (own_rm (own_ap (own_ap (own_ap own_st0 q0 t) q1 t) q2 t) q1) q0) (3 : Int32) t) 0 q1.toNatClampNeg = (-1 : Int32) := by
  have a0 := own_m1 q0 h0.1
  have a1 := own_m1 q1 h1.1
  have a2 := own_m1 q2 h2.1
  have a3 : ¬ (3 : Int32) = (-1 : Int32) := by decide
  have n01 := own_nn q0 q1 h0.1 h1.1 h01
  have n10 : ¬ q1.toNatClampNeg = q0.toNatClampNeg := fun q => n01 (Eq.symm q)
  have n02 := own_nn q0 q2 h0.1 h2.1 h02
  have n20 : ¬ q2.toNatClampNeg = q0.toNatClampNeg := fun q => n02 (Eq.symm q)
  have n12 := own_nn q1 q2 h1.1 h2.1 h12
  have n21 : ¬ q2.toNatClampNeg = q1.toNatClampNeg := fun q => n12 (Eq.symm q)
  have m0 : ¬ q0.toNatClampNeg = 3 := own_nn q0 3 h0.1 (by decide) (by simp only [Int32.reduceToInt]; omega)
  have k0 : ¬ 3 = q0.toNatClampNeg := fun q => m0 (Eq.symm q)
  have m1 : ¬ q1.toNatClampNeg = 3 := own_nn q1 3 h1.1 (by decide) (by simp only [Int32.reduceToInt]; omega)
  have k1 : ¬ 3 = q1.toNatClampNeg := fun q => m1 (Eq.symm q)
  have m2 : ¬ q2.toNatClampNeg = 3 := own_nn q2 3 h2.1 (by decide) (by simp only [Int32.reduceToInt]; omega)
  have k2 : ¬ 3 = q2.toNatClampNeg := fun q => m2 (Eq.symm q)
  rcases ht with rfl | rfl <;>
  first | (simp [own_c0, own_c1, own_c3, own_ap0, own_ap1, own_ap2, own_ap3, own_ap4, own_ap5, own_rmA0, own_rmA1, own_rmA2, own_rmA3, own_rmA4, own_rmA5, own_s0, a0, a1, a2, a3, n01, n10, n02, n20, n12, n21, m0, m1, m2, k0, k1, k2]; done) | (simp [own_c0, own_c1, own_c3, own_ap0, own_ap1, own_ap2, own_ap3, own_ap4, own_ap5, own_rmA0, own_rmA1, own_rmA2, own_rmA3, own_rmA4, own_rmA5, own_s0, a0, a1, a2, a3, n01, n10, n02, n20, n12, n21, m0, m1, m2, k0, k1, k2]; decide) | (simp [own_c0, own_c1, own_c3, own_ap0, own_ap1, own_ap2, own_ap3, own_ap4, own_ap5, own_rmA0, own_rmA1, own_rmA2, own_rmA3, own_rmA4, own_rmA5, own_s0, a0, a1, a2, a3, n01, n10, n02, n20, n12, n21, m0, m1, m2, k0, k1, k2]; omega)
theorem own_l87 (q0 q1 q2 t : Int32) (h0 : 0 ≤ q0.toInt ∧ q0.toInt < 3) (h1 : 0 ≤ q1.toInt ∧ q1.toInt < 3) (h2 : 0 ≤ q2.toInt ∧ q2.toInt < 3) (h01 : q0.toInt ≠ q1.toInt) (h02 : q0.toInt ≠ q2.toInt) (h12 : q1.toInt ≠ q2.toInt) (ht : t = (0 : Int32) ∨ t = (1 : Int32)) : (own_ap (own_rm (own_rm (own_ap (own_ap (own_ap own_st0 q0 t) q1 t) q2 t) q1) q0) (3 : Int32) t) 5 t.toNatClampNeg = ((1 : Int32) + (1 : Int32)) := by
  have a0 := own_m1 q0 h0.1
  have a1 := own_m1 q1 h1.1
  have a2 := own_m1 q2 h2.1
  have a3 : ¬ (3 : Int32) = (-1 : Int32) := by decide
  have n01 := own_nn q0 q1 h0.1 h1.1 h01
  have n10 : ¬ q1.toNatClampNeg = q0.toNatClampNeg := fun q => n01 (Eq.symm q)
  have n02 := own_nn q0 q2 h0.1 h2.1 h02
  have n20 : ¬ q2.toNatClampNeg = q0.toNatClampNeg := fun q => n02 (Eq.symm q)
  have n12 := own_nn q1 q2 h1.1 h2.1 h12
  have n21 : ¬ q2.toNatClampNeg = q1.toNatClampNeg := fun q => n12 (Eq.symm q)
  have m0 : ¬ q0.toNatClampNeg = 3 := own_nn q0 3 h0.1 (by decide) (by simp only [Int32.reduceToInt]; omega)
  have k0 : ¬ 3 = q0.toNatClampNeg := fun q => m0 (Eq.symm q)
  have m1 : ¬ q1.toNatClampNeg = 3 := own_nn q1 3 h1.1 (by decide) (by simp only [Int32.reduceToInt]; omega)
  have k1 : ¬ 3 = q1.toNatClampNeg := fun q => m1 (Eq.symm q)
  have m2 : ¬ q2.toNatClampNeg = 3 := own_nn q2 3 h2.1 (by decide) (by simp only [Int32.reduceToInt]; omega)
  have k2 : ¬ 3 = q2.toNatClampNeg := fun q => m2 (Eq.symm q)
  rcases ht with rfl | rfl <;>
  first | (simp [own_c0, own_c1, own_c3, own_ap0, own_ap1, own_ap2, own_ap3, own_ap4, own_ap5, own_rmA0, own_rmA1, own_rmA2, own_rmA3, own_rmA4, own_rmA5, own_s0, a0, a1, a2, a3, n01, n10, n02, n20, n12, n21, m0, m1, m2, k0, k1, k2]; done) | (simp [own_c0, own_c1, own_c3, own_ap0, own_ap1, own_ap2, own_ap3, own_ap4, own_ap5, own_rmA0, own_rmA1, own_rmA2, own_rmA3, own_rmA4, own_rmA5, own_s0, a0, a1, a2, a3, n01, n10, n02, n20, n12, n21, m0, m1, m2, k0, k1, k2]; decide) | (simp [own_c0, own_c1, own_c3, own_ap0, own_ap1, own_ap2, own_ap3, own_ap4, own_ap5, own_rmA0, own_rmA1, own_rmA2, own_rmA3, own_rmA4, own_rmA5, own_s0, a0, a1, a2, a3, n01, n10, n02, n20, n12, n21, m0, m1, m2, k0, k1, k2]; omega)
theorem own_l88 (q0 q1 q2 t : Int32) (h0 : 0 ≤ q0.toInt ∧ q0.toInt < 3) (h1 : 0 ≤ q1.toInt ∧ q1.toInt < 3) (h2 : 0 ≤ q2.toInt ∧ q2.toInt < 3) (h01 : q0.toInt ≠ q1.toInt) (h02 : q0.toInt ≠ q2.toInt) (h12 : q1.toInt ≠ q2.toInt) (ht : t = (0 : Int32) ∨ t = (1 : Int32)) : (own_ap (own_rm (own_rm (own_ap (own_ap (own_ap own_st0 q0 t) q1 t) q2 t) q1) q0) (3 : Int32) t) 3 t.toNatClampNeg = q2 := by
  have a0 := own_m1 q0 h0.1
  have a1 := own_m1 q1 h1.1
  have a2 := own_m1 q2 h2.1
  have a3 : ¬ (3 : Int32) = (-1 : Int32) := by decide
  have n01 := own_nn q0 q1 h0.1 h1.1 h01
  have n10 : ¬ q1.toNatClampNeg = q0.toNatClampNeg := fun q => n01 (Eq.symm q)
  have n02 := own_nn q0 q2 h0.1 h2.1 h02
  have n20 : ¬ q2.toNatClampNeg = q0.toNatClampNeg := fun q => n02 (Eq.symm q)
  have n12 := own_nn q1 q2 h1.1 h2.1 h12
  have n21 : ¬ q2.toNatClampNeg = q1.toNatClampNeg := fun q => n12 (Eq.symm q)
  have m0 : ¬ q0.toNatClampNeg = 3 := own_nn q0 3 h0.1 (by decide) (by simp only [Int32.reduceToInt]; omega)
  have k0 : ¬ 3 = q0.toNatClampNeg := fun q => m0 (Eq.symm q)
  have m1 : ¬ q1.toNatClampNeg = 3 := own_nn q1 3 h1.1 (by decide) (by simp only [Int32.reduceToInt]; omega)
  have k1 : ¬ 3 = q1.toNatClampNeg := fun q => m1 (Eq.symm q)
  have m2 : ¬ q2.toNatClampNeg = 3 := own_nn q2 3 h2.1 (by decide) (by simp only [Int32.reduceToInt]; omega)
  have k2 : ¬ 3 = q2.toNatClampNeg := fun q => m2 (Eq.symm q)
  rcases ht with rfl | rfl <;>
  first | (simp [own_c0, own_c1, own_c3, own_ap0, own_ap1, own_ap2, own_ap3, own_ap4, own_ap5, own_rmA0, own_rmA1, own_rmA2, own_rmA3, own_rmA4, own_rmA5, own_s0, a0, a1, a2, a3, n01, n10, n02, n20, n12, n21, m0, m1, m2, k0, k1, k2]; done) | (simp [own_c0, own_c1, own_c3, own_ap0, own_ap1, own_ap2, own_ap3, own_ap4, own_ap5, own_rmA0, own_rmA1, own_rmA2, own_rmA3, own_rmA4, own_rmA5, own_s0, a0, a1, a2, a3, n01, n10, n02, n20, n12, n21, m0, m1, m2, k0, k1, k2]; decide) | (simp [own_c0, own_c1, own_c3, own_ap0, own_ap1, own_ap2, own_ap3, own_ap4, own_ap5, own_rmA0, own_rmA1, own_rmA2, own_rmA3, own_rmA4, own_rmA5, own_s0, a0, a1, a2, a3, n01, n10, n02, n20, n12, n21, m0, m1, m2, k0, k1, k2]; omega)
theorem own_l89 (q0 q1 q2 t : Int32) (h0 : 0 ≤ q0.toInt ∧ q0.toInt < 3) (h1 : 0 ≤ q1.toInt ∧ q1.toInt < 3) (h2 : 0 ≤ q2.toInt ∧ q2.toInt < 3) (h01 : q0.toInt ≠ q1.toInt) (h02 : q0.toInt ≠ q2.toInt) (h12 : q1.toInt ≠ q2.toInt) (ht : t = (0 : Int32) ∨ t = (1 : Int32)) : (own_ap (own_rm (own_rm (own_ap (own_ap (own_ap own_st0 q0 t) q1 t) q2 t) q1) q0) (3 : Int32) t) 2 q2.toNatClampNeg = (3 : Int32) := by
  have a0 := own_m1 q0 h0.1
  have a1 := own_m1 q1 h1.1
  have a2 := own_m1 q2 h2.1
  have a3 : ¬ (3 : Int32) = (-1 : Int32) := by decide
  have n01 := own_nn q0 q1 h0.1 h1.1 h01
  have n10 : ¬ q1.toNatClampNeg = q0.toNatClampNeg := fun q => n01 (Eq.symm q)
  have n02 := own_nn q0 q2 h0.1 h2.1 h02
  have n20 : ¬ q2.toNatClampNeg = q0.toNatClampNeg := fun q => n02 (Eq.symm q)
  have n12 := own_nn q1 q2 h1.1 h2.1 h12
  have n21 : ¬ q2.toNatClampNeg = q1.toNatClampNeg := fun q => n12 (Eq.symm q)
  have m0 : ¬ q0.toNatClampNeg = 3 := own_nn q0 3 h0.1 (by decide) (by simp only [Int32.reduceToInt]; omega)
  have k0 : ¬ 3 = q0.toNatClampNeg := fun q => m0 (Eq.symm q)
  have m1 : ¬ q1.toNatClampNeg = 3 := own_nn q1 3 h1.1 (by decide) (by simp only [Int32.reduceToInt]; omega)
  have k1 : ¬ 3 = q1.toNatClampNeg := fun q => m1 (Eq.symm q)
  have m2 : ¬ q2.toNatClampNeg = 3 := own_nn q2 3 h2.1 (by decide) (by simp only [Int32.reduceToInt]; omega)
  have k2 : ¬ 3 = q2.toNatClampNeg := fun q => m2 (Eq.symm q)
  rcases ht with rfl | rfl <;>
  first | (simp [own_c0, own_c1, own_c3, own_ap0, own_ap1, own_ap2, own_ap3, own_ap4, own_ap5, own_rmA0, own_rmA1, own_rmA2, own_rmA3, own_rmA4, own_rmA5, own_s0, a0, a1, a2, a3, n01, n10, n02, n20, n12, n21, m0, m1, m2, k0, k1, k2]; done) | (simp [own_c0, own_c1, own_c3, own_ap0, own_ap1, own_ap2, own_ap3, own_ap4, own_ap5, own_rmA0, own_rmA1, own_rmA2, own_rmA3, own_rmA4, own_rmA5, own_s0, a0, a1, a2, a3, n01, n10, n02, n20, n12, n21, m0, m1, m2, k0, k1, k2]; decide) | (simp [own_c0, own_c1, own_c3, own_ap0, own_ap1, own_ap2, own_ap3, own_ap4, own_ap5, own_rmA0, own_rmA1, own_rmA2, own_rmA3, own_rmA4, own_rmA5, own_s0, a0, a1, a2, a3, n01, n10, n02, n20, n12, n21, m0, m1, m2, k0, k1, k2]; omega)
theorem own_l90 (q0 q1 q2 t : Int32) (h0 : 0 ≤ q0.toInt ∧ q0.toInt < 3) (h1 : 0 ≤ q1.toInt ∧ q1.toInt < 3) (h2 : 0 ≤ q2.toInt ∧ q2.toInt < 3) (h01 : q0.toInt ≠ q1.toInt) (h02 : q0.toInt ≠ q2.toInt) (h12 : q1.toInt ≠ q2.toInt) (ht : t = (0 : Int32) ∨ t = (1 : Int32)) : (0 ≤ ((own_ap (own_ap (own_ap own_st0 q0 t) q1 t) q2 t) 0 q2.toNatClampNeg).toInt ∧ ((own_ap (own_ap (own_ap own_st0 q0 t) q1 t) q2 t) 0 q2.toNatClampNeg).toInt < (2 : Nat)) := by
  have a0 := own_m1 q0 h0.1
  have a1 := own_m1 q1 h1.1
  have a2 := own_m1 q2 h2.1
  have a3 : ¬ (3 : Int32) = (-1 : Int32) := by decide
  have n01 := own_nn q0 q1 h0.1 h1.1 h01
  have n10 : ¬ q1.toNatClampNeg = q0.toNatClampNeg := fun q => n01 (Eq.symm q)
  have n02 := own_nn q0 q2 h0.1 h2.1 h02
  have n20 : ¬ q2.toNatClampNeg = q0.toNatClampNeg := fun q => n02 (Eq.symm q)
  have n12 := own_nn q1 q2 h1.1 h2.1 h12
  have n21 : ¬ q2.toNatClampNeg = q1.toNatClampNeg := fun q => n12 (Eq.symm q)
  have m0 : ¬ q0.toNatClampNeg = 3 := own_nn q0 3 h0.1 (by decide) (by simp only [Int32.reduceToInt]; omega)
  have k0 : ¬ 3 = q0.toNatClampNeg := fun q => m0 (Eq.symm q)
  have m1 : ¬ q1.toNatClampNeg = 3 := own_nn q1 3 h1.1 (by decide) (by simp only [Int32.reduceToInt]; omega)
  have k1 : ¬ 3 = q1.toNatClampNeg := fun q => m1 (Eq.symm q)
  have m2 : ¬ q2.toNatClampNeg = 3 := own_nn q2 3 h2.1 (by decide) (by simp only [Int32.reduceToInt]; omega)
  have k2 : ¬ 3 = q2.toNatClampNeg := fun q => m2 (Eq.symm q)
  rcases ht with rfl | rfl <;>
  first | (simp [own_c0, own_c1, own_c3, own_ap0, own_ap1, own_ap2, own_ap3, own_ap4, own_ap5, own_rmA0, own_rmA1, own_rmA2, own_rmA3, own_rmA4, own_rmA5, own_s0, a0, a1, a2, a3, n01, n10, n02, n20, n12, n21, m0, m1, m2, k0, k1, k2]; done) | (simp [own_c0, own_c1, own_c3, own_ap0, own_ap1, own_ap2, own_ap3, own_ap4, own_ap5, own_rmA0, own_rmA1, own_rmA2, own_rmA3, own_rmA4, own_rmA5, own_s0, a0, a1, a2, a3, n01, n10, n02, n20, n12, n21, m0, m1, m2, k0, k1, k2]; decide) | (simp [own_c0, own_c1, own_c3, own_ap0, own_ap1, own_ap2, own_ap3, own_ap4, own_ap5, own_rmA0, own_rmA1, own_rmA2, own_rmA3, own_rmA4, own_rmA5, own_s0, a0, a1, a2, a3, n01, n10, n02, n20, n12, n21, m0, m1, m2, k0, k1, k2]; omega)
theorem own_l91 (q0 q1 q2 t : Int32) (h0 : 0 ≤ q0.toInt ∧ q0.toInt < 3) (h1 : 0 ≤ q1.toInt ∧ q1.toInt < 3) (h2 : 0 ≤ q2.toInt ∧ q2.toInt < 3) (h01 : q0.toInt ≠ q1.toInt) (h02 : q0.toInt ≠ q2.toInt) (h12 : q1.toInt ≠ q2.toInt) (ht : t = (0 : Int32) ∨ t = (1 : Int32)) : (own_ap (own_ap (own_ap own_st0 q0 t) q1 t) q2 t) 1 q2.toNatClampNeg = (-1 : Int32) ∨ (0 ≤ ((own_ap (own_ap (own_ap own_st0 q0 t) q1 t) q2 t) 1 q2.toNatClampNeg).toInt ∧ ((own_ap (own_ap (own_ap own_st0 q0 t) q1 t) q2 t) 1 q2.toNatClampNeg).toInt < (4 : Nat)) := by
  have a0 := own_m1 q0 h0.1
  have a1 := own_m1 q1 h1.1
  have a2 := own_m1 q2 h2.1
  have a3 : ¬ (3 : Int32) = (-1 : Int32) := by decide
  have n01 := own_nn q0 q1 h0.1 h1.1 h01
  have n10 : ¬ q1.toNatClampNeg = q0.toNatClampNeg := fun q => n01 (Eq.symm q)
  have n02 := own_nn q0 q2 h0.1 h2.1 h02
  have n20 : ¬ q2.toNatClampNeg = q0.toNatClampNeg := fun q => n02 (Eq.symm q)
  have n12 := own_nn q1 q2 h1.1 h2.1 h12
  have n21 : ¬ q2.toNatClampNeg = q1.toNatClampNeg := fun q => n12 (Eq.symm q)
  have m0 : ¬ q0.toNatClampNeg = 3 := own_nn q0 3 h0.1 (by decide) (by simp only [Int32.reduceToInt]; omega)
  have k0 : ¬ 3 = q0.toNatClampNeg := fun q => m0 (Eq.symm q)
  have m1 : ¬ q1.toNatClampNeg = 3 := own_nn q1 3 h1.1 (by decide) (by simp only [Int32.reduceToInt]; omega)
  have k1 : ¬ 3 = q1.toNatClampNeg := fun q => m1 (Eq.symm q)
  have m2 : ¬ q2.toNatClampNeg = 3 := own_nn q2 3 h2.1 (by decide) (by simp only [Int32.reduceToInt]; omega)
  have k2 : ¬ 3 = q2.toNatClampNeg := fun q => m2 (Eq.symm q)
  rcases ht with rfl | rfl <;>
  first | (simp [own_c0, own_c1, own_c3, own_ap0, own_ap1, own_ap2, own_ap3, own_ap4, own_ap5, own_rmA0, own_rmA1, own_rmA2, own_rmA3, own_rmA4, own_rmA5, own_s0, a0, a1, a2, a3, n01, n10, n02, n20, n12, n21, m0, m1, m2, k0, k1, k2]; done) | (simp [own_c0, own_c1, own_c3, own_ap0, own_ap1, own_ap2, own_ap3, own_ap4, own_ap5, own_rmA0, own_rmA1, own_rmA2, own_rmA3, own_rmA4, own_rmA5, own_s0, a0, a1, a2, a3, n01, n10, n02, n20, n12, n21, m0, m1, m2, k0, k1, k2]; decide) | (simp [own_c0, own_c1, own_c3, own_ap0, own_ap1, own_ap2, own_ap3, own_ap4, own_ap5, own_rmA0, own_rmA1, own_rmA2, own_rmA3, own_rmA4, own_rmA5, own_s0, a0, a1, a2, a3, n01, n10, n02, n20, n12, n21, m0, m1, m2, k0, k1, k2]; omega)
theorem own_l92 (q0 q1 q2 t : Int32) (h0 : 0 ≤ q0.toInt ∧ q0.toInt < 3) (h1 : 0 ≤ q1.toInt ∧ q1.toInt < 3) (h2 : 0 ≤ q2.toInt ∧ q2.toInt < 3) (h01 : q0.toInt ≠ q1.toInt) (h02 : q0.toInt ≠ q2.toInt) (h12 : q1.toInt ≠ q2.toInt) (ht : t = (0 : Int32) ∨ t = (1 : Int32)) : (own_ap (own_ap (own_ap own_st0 q0 t) q1 t) q2 t) 2 q2.toNatClampNeg = (-1 : Int32) ∨ (0 ≤ ((own_ap (own_ap (own_ap own_st0 q0 t) q1 t) q2 t) 2 q2.toNatClampNeg).toInt ∧ ((own_ap (own_ap (own_ap own_st0 q0 t) q1 t) q2 t) 2 q2.toNatClampNeg).toInt < (4 : Nat)) := by
  have a0 := own_m1 q0 h0.1
  have a1 := own_m1 q1 h1.1
  have a2 := own_m1 q2 h2.1
  have a3 : ¬ (3 : Int32) = (-1 : Int32) := by decide
  have n01 := own_nn q0 q1 h0.1 h1.1 h01
  have n10 : ¬ q1.toNatClampNeg = q0.toNatClampNeg := fun q => n01 (Eq.symm q)
  have n02 := own_nn q0 q2 h0.1 h2.1 h02
  have n20 : ¬ q2.toNatClampNeg = q0.toNatClampNeg := fun q => n02 (Eq.symm q)
  have n12 := own_nn q1 q2 h1.1 h2.1 h12
  have n21 : ¬ q2.toNatClampNeg = q1.toNatClampNeg := fun q => n12 (Eq.symm q)
  have m0 : ¬ q0.toNatClampNeg = 3 := own_nn q0 3 h0.1 (by decide) (by simp only [Int32.reduceToInt]; omega)
  have k0 : ¬ 3 = q0.toNatClampNeg := fun q => m0 (Eq.symm q)
  have m1 : ¬ q1.toNatClampNeg = 3 := own_nn q1 3 h1.1 (by decide) (by simp only [Int32.reduceToInt]; omega)
  have k1 : ¬ 3 = q1.toNatClampNeg := fun q => m1 (Eq.symm q)
  have m2 : ¬ q2.toNatClampNeg = 3 := own_nn q2 3 h2.1 (by decide) (by simp only [Int32.reduceToInt]; omega)
  have k2 : ¬ 3 = q2.toNatClampNeg := fun q => m2 (Eq.symm q)
  rcases ht with rfl | rfl <;>
  first | (simp [own_c0, own_c1, own_c3, own_ap0, own_ap1, own_ap2, own_ap3, own_ap4, own_ap5, own_rmA0, own_rmA1, own_rmA2, own_rmA3, own_rmA4, own_rmA5, own_s0, a0, a1, a2, a3, n01, n10, n02, n20, n12, n21, m0, m1, m2, k0, k1, k2]; done) | (simp [own_c0, own_c1, own_c3, own_ap0, own_ap1, own_ap2, own_ap3, own_ap4, own_ap5, own_rmA0, own_rmA1, own_rmA2, own_rmA3, own_rmA4, own_rmA5, own_s0, a0, a1, a2, a3, n01, n10, n02, n20, n12, n21, m0, m1, m2, k0, k1, k2]; decide) | (simp [own_c0, own_c1, own_c3, own_ap0, own_ap1, own_ap2, own_ap3, own_ap4, own_ap5, own_rmA0, own_rmA1, own_rmA2, own_rmA3, own_rmA4, own_rmA5, own_s0, a0, a1, a2, a3, n01, n10, n02, n20, n12, n21, m0, m1, m2, k0, k1, k2]; omega)
theorem own_l93 (q0 q1 q2 t : Int32) (h0 : 0 ≤ q0.toInt ∧ q0.toInt < 3) (h1 : 0 ≤ q1.toInt ∧ q1.toInt < 3) (h2 : 0 ≤ q2.toInt ∧ q2.toInt < 3) (h01 : q0.toInt ≠ q1.toInt) (h02 : q0.toInt ≠ q2.toInt) (h12 : q1.toInt ≠ q2.toInt) (ht : t = (0 : Int32) ∨ t = (1 : Int32)) : (own_rm (own_ap (own_ap (own_ap own_st0 q0 t) q1 t) q2 t) q2) 4 t.toNatClampNeg = (-1 : Int32) ∨ (0 ≤ ((own_rm (own_ap (own_ap (own_ap own_st0 q0 t) q1 t) q2 t) q2) 4 t.toNatClampNeg).toInt ∧ ((own_rm (own_ap (own_ap (own_ap own_st0 q0 t) q1 t) q2 t) q2) 4 t.toNatClampNeg).toInt < (4 : Nat)) := by
  have a0 := own_m1 q0 h0.1
  have a1 := own_m1 q1 h1.1
  have a2 := own_m1 q2 h2.1
  have a3 : ¬ (3 : Int32) = (-1 : Int32) := by decide
  have n01 := own_nn q0 q1 h0.1 h1.1 h01
  have n10 : ¬ q1.toNatClampNeg = q0.toNatClampNeg := fun q => n01 (Eq.symm q)
  have n02 := own_nn q0 q2 h0.1 h2.1 h02
  have n20 : ¬ q2.toNatClampNeg = q0.toNatClampNeg := fun q => n02 (Eq.symm q)
  have n12 := own_nn q1 q2 h1.1 h2.1 h12
  have n21 : ¬ q2.toNatClampNeg = q1.toNatClampNeg := fun q => n12 (Eq.symm q)
  have m0 : ¬ q0.toNatClampNeg = 3 := own_nn q0 3 h0.1 (by decide) (by simp only [Int32.reduceToInt]; omega)
  have k0 : ¬ 3 = q0.toNatClampNeg := fun q => m0 (Eq.symm q)
  have m1 : ¬ q1.toNatClampNeg = 3 := own_nn q1 3 h1.1 (by decide) (by simp only [Int32.reduceToInt]; omega)
  have k1 : ¬ 3 = q1.toNatClampNeg := fun q => m1 (Eq.symm q)
  have m2 : ¬ q2.toNatClampNeg = 3 := own_nn q2 3 h2.1 (by decide) (by simp only [Int32.reduceToInt]; omega)
  have k2 : ¬ 3 = q2.toNatClampNeg := fun q => m2 (Eq.symm q)
  rcases ht with rfl | rfl <;>
  first | (simp [own_c0, own_c1, own_c3, own_ap0, own_ap1, own_ap2, own_ap3, own_ap4, own_ap5, own_rmA0, own_rmA1, own_rmA2, own_rmA3, own_rmA4, own_rmA5, own_s0, a0, a1, a2, a3, n01, n10, n02, n20, n12, n21, m0, m1, m2, k0, k1, k2]; done) | (simp [own_c0, own_c1, own_c3, own_ap0, own_ap1, own_ap2, own_ap3, own_ap4, own_ap5, own_rmA0, own_rmA1, own_rmA2, own_rmA3, own_rmA4, own_rmA5, own_s0, a0, a1, a2, a3, n01, n10, n02, n20, n12, n21, m0, m1, m2, k0, k1, k2]; decide) | (simp [own_c0, own_c1, own_c3, own_ap0, own_ap1, own_ap2, own_ap3, own_ap4, own_ap5, own_rmA0, own_rmA1, own_rmA2, own_rmA3, own_rmA4, own_rmA5, own_s0, a0, a1, a2, a3, n01, n10, n02, n20, n12, n21, m0, m1, m2, k0, k1, k2]; omega)
theorem own_l94 (q0 q1 q2 t : Int32) (h0 : 0 ≤ q0.toInt ∧ q0.toInt < 3) (h1 : 0 ≤ q1.toInt ∧ q1.toInt < 3) (h2 : 0 ≤ q2.toInt ∧ q2.toInt < 3) (h01 : q0.toInt ≠ q1.toInt) (h02 : q0.toInt ≠ q2.toInt) (h12 : q1.toInt ≠ q2.toInt) (ht : t = (0 : Int32) ∨ t = (1 : Int32)) : (own_ap (own_rm (own_ap (own_ap (own_ap own_st0 q0 t) q1 t) q2 t) q2) (3 : Int32) t) 0 q2.toNatClampNeg = (-1 : Int32) := by
  have a0 := own_m1 q0 h0.1
  have a1 := own_m1 q1 h1.1
  have a2 := own_m1 q2 h2.1
  have a3 : ¬ (3 : Int32) = (-1 : Int32) := by decide
  have n01 := own_nn q0 q1 h0.1 h1.1 h01
  have n10 : ¬ q1.toNatClampNeg = q0.toNatClampNeg := fun q => n01 (Eq.symm q)
  have n02 := own_nn q0 q2 h0.1 h2.1 h02
  have n20 : ¬ q2.toNatClampNeg = q0.toNatClampNeg := fun q => n02 (Eq.symm q)
  have n12 := own_nn q1 q2 h1.1 h2.1 h12
  have n21 : ¬ q2.toNatClampNeg = q1.toNatClampNeg := fun q => n12 (Eq.symm q)
  have m0 : ¬ q0.toNatClampNeg = 3 := own_nn q0 3 h0.1 (by decide) (by simp only [Int32.reduceToInt]; omega)
  have k0 : ¬ 3 = q0.toNatClampNeg := fun q => m0 (Eq.symm q)
  have m1 : ¬ q1.toNatClampNeg = 3 := own_nn q1 3 h1.1 (by decide) (by simp only [Int32.reduceToInt]; omega)
  have k1 : ¬ 3 = q1.toNatClampNeg := fun q => m1 (Eq.symm q)
  have m2 : ¬ q2.toNatClampNeg = 3 := own_nn q2 3 h2.1 (by decide) (by simp only [Int32.reduceToInt]; omega)
  have k2 : ¬ 3 = q2.toNatClampNeg := fun q => m2 (Eq.symm q)
  rcases ht with rfl | rfl <;>
  first | (simp [own_c0, own_c1, own_c3, own_ap0, own_ap1, own_ap2, own_ap3, own_ap4, own_ap5, own_rmA0, own_rmA1, own_rmA2, own_rmA3, own_rmA4, own_rmA5, own_s0, a0, a1, a2, a3, n01, n10, n02, n20, n12, n21, m0, m1, m2, k0, k1, k2]; done) | (simp [own_c0, own_c1, own_c3, own_ap0, own_ap1, own_ap2, own_ap3, own_ap4, own_ap5, own_rmA0, own_rmA1, own_rmA2, own_rmA3, own_rmA4, own_rmA5, own_s0, a0, a1, a2, a3, n01, n10, n02, n20, n12, n21, m0, m1, m2, k0, k1, k2]; decide) | (simp [own_c0, own_c1, own_c3, own_ap0, own_ap1, own_ap2, own_ap3, own_ap4, own_ap5, own_rmA0, own_rmA1, own_rmA2, own_rmA3, own_rmA4, own_rmA5, own_s0, a0, a1, a2, a3, n01, n10, n02, n20, n12, n21, m0, m1, m2, k0, k1, k2]; omega)
theorem own_l95 (q0 q1 q2 t : Int32) (h0 : 0 ≤ q0.toInt ∧ q0.toInt < 3) (h1 : 0 ≤ q1.toInt ∧ q1.toInt < 3) (h2 : 0 ≤ q2.toInt ∧ q2.toInt < 3) (h01 : q0.toInt ≠ q1.toInt) (h02 : q0.toInt ≠ q2.toInt) (h12 : q1.toInt ≠ q2.toInt) (ht : t = (0 : Int32) ∨ t = (1 : Int32)) : (own_ap (own_rm (own_ap (own_ap (own_ap own_st0 q0 t) q1 t) q2 t) q2) (3 : Int32) t) 5 t.toNatClampNeg = ((2 : Int32) + (1 : Int32)) := by
  have a0 := own_m1 q0 h0.1
  have a1 := own_m1 q1 h1.1
  have a2 := own_m1 q2 h2.1
  have a3 : ¬ (3 : Int32) = (-1 : Int32) := by decide
  have n01 := own_nn q0 q1 h0.1 h1.1 h01
  have n10 : ¬ q1.toNatClampNeg = q0.toNatClampNeg := fun q => n01 (Eq.symm q)
  have n02 := own_nn q0 q2 h0.1 h2.1 h02
  have n20 : ¬ q2.toNatClampNeg = q0.toNatClampNeg := fun q => n02 (Eq.symm q)
  have n12 := own_nn q1 q2 h1.1 h2.1 h12
  have n21 : ¬ q2.toNatClampNeg = q1.toNatClampNeg := fun q => n12 (Eq.symm q)
  have m0 : ¬ q0.toNatClampNeg = 3 := own_nn q0 3 h0.1 (by decide) (by simp only [Int32.reduceToInt]; omega)
  have k0 : ¬ 3 = q0.toNatClampNeg := fun q => m0 (Eq.symm q)
  have m1 : ¬ q1.toNatClampNeg = 3 := own_nn q1 3 h1.1 (by decide) (by simp only [Int32.reduceToInt]; omega)
  have k1 : ¬ 3 = q1.toNatClampNeg := fun q => m1 (Eq.symm q)
  have m2 : ¬ q2.toNatClampNeg = 3 := own_nn q2 3 h2.1 (by decide) (by simp only [Int32.reduceToInt]; omega)
  have k2 : ¬ 3 = q2.toNatClampNeg := fun q => m2 (Eq.symm q)
  rcases ht with rfl | rfl <;>
  first | (simp [own_c0, own_c1, own_c3, own_ap0, own_ap1, own_ap2, own_ap3, own_ap4, own_ap5, own_rmA0, own_rmA1, own_rmA2, own_rmA3, own_rmA4, own_rmA5, own_s0, a0, a1, a2, a3, n01, n10, n02, n20, n12, n21, m0, m1, m2, k0, k1, k2]; done) | (simp [own_c0, own_c1, own_c3, own_ap0, own_ap1, own_ap2, own_ap3, own_ap4, own_ap5, own_rmA0, own_rmA1, own_rmA2, own_rmA3, own_rmA4, own_rmA5, own_s0, a0, a1, a2, a3, n01, n10, n02, n20, n12, n21, m0, m1, m2, k0, k1, k2]; decide) | (simp [own_c0, own_c1, own_c3, own_ap0, own_ap1, own_ap2, own_ap3, own_ap4, own_ap5, own_rmA0, own_rmA1, own_rmA2, own_rmA3, own_rmA4, own_rmA5, own_s0, a0, a1, a2, a3, n01, n10, n02, n20, n12, n21, m0, m1, m2, k0, k1, k2]; omega)
theorem own_l96 (q0 q1 q2 t : Int32) (h0 : 0 ≤ q0.toInt ∧ q0.toInt < 3) (h1 : 0 ≤ q1.toInt ∧ q1.toInt < 3) (h2 : 0 ≤ q2.toInt ∧ q2.toInt < 3) (h01 : q0.toInt ≠ q1.toInt) (h02 : q0.toInt ≠ q2.toInt) (h12 : q1.toInt ≠ q2.toInt) (ht : t = (0 : Int32) ∨ t = (1 : Int32)) : (own_ap (own_rm (own_ap (own_ap (own_ap own_st0 q0 t) q1 t) q2 t) q2) (3 : Int32) t) 3 t.toNatClampNeg = q0 := by
  have a0 := own_m1 q0 h0.1
  have a1 := own_m1 q1 h1.1
  have a2 := own_m1 q2 h2.1
  have a3 : ¬ (3 : Int32) = (-1 : Int32) := by decide
  have n01 := own_nn q0 q1 h0.1 h1.1 h01
  have n10 : ¬ q1.toNatClampNeg = q0.toNatClampNeg := fun q => n01 (Eq.symm q)
  have n02 := own_nn q0 q2 h0.1 h2.1 h02
  have n20 : ¬ q2.toNatClampNeg = q0.toNatClampNeg := fun q => n02 (Eq.symm q)
  have n12 := own_nn q1 q2 h1.1 h2.1 h12
  have n21 : ¬ q2.toNatClampNeg = q1.toNatClampNeg := fun q => n12 (Eq.symm q)
  have m0 : ¬ q0.toNatClampNeg = 3 := own_nn q0 3 h0.1 (by decide) (by simp only [Int32.reduceToInt]; omega)
  have k0 : ¬ 3 = q0.toNatClampNeg := fun q => m0 (Eq.symm q)
  have m1 : ¬ q1.toNatClampNeg = 3 := own_nn q1 3 h1.1 (by decide) (by simp only [Int32.reduceToInt]; omega)
  have k1 : ¬ 3 = q1.toNatClampNeg := fun q => m1 (Eq.symm q)
  have m2 : ¬ q2.toNatClampNeg = 3 := own_nn q2 3 h2.1 (by decide) (by simp only [Int32.reduceToInt]; omega)
  have k2 : ¬ 3 = q2.toNatClampNeg := fun q => m2 (Eq.symm q)
  rcases ht with rfl | rfl <;>
  first | (simp [own_c0, own_c1, own_c3, own_ap0, own_ap1, own_ap2, own_ap3, own_ap4, own_ap5, own_rmA0, own_rmA1, own_rmA2, own_rmA3, own_rmA4, own_rmA5, own_s0, a0, a1, a2, a3, n01, n10, n02, n20, n12, n21, m0, m1, m2, k0, k1, k2]; done) | (simp [own_c0, own_c1, own_c3, own_ap0, own_ap1, own_ap2, own_ap3, own_ap4, own_ap5, own_rmA0, own_rmA1, own_rmA2, own_rmA3, own_rmA4, own_rmA5, own_s0, a0, a1, a2, a3, n01, n10, n02, n20, n12, n21, m0, m1, m2, k0, k1, k2]; decide) | (simp [own_c0, own_c1, own_c3, own_ap0, own_ap1, own_ap2, own_ap3, own_ap4, own_ap5, own_rmA0, own_rmA1, own_rmA2, own_rmA3, own_rmA4, own_rmA5, own_s0, a0, a1, a2, a3, n01, n10, n02, n20, n12, n21, m0, m1, m2, k0, k1, k2]; omega)
theorem own_l97 (q0 q1 q2 t : Int32) (h0 : 0 ≤ q0.toInt ∧ q0.toInt < 3) (h1 : 0 ≤ q1.toInt ∧ q1.toInt < 3) (h2 : 0 ≤ q2.toInt ∧ q2.toInt < 3) (h01 : q0.toInt ≠ q1.toInt) (h02 : q0.toInt ≠ q2.toInt) (h12 : q1.toInt ≠ q2.toInt) (ht : t = (0 : Int32) ∨ t = (1 : Int32)) : (own_ap (own_rm (own_ap (own_ap (own_ap own_st0 q0 t) q1 t) q2 t) q2) (3 : Int32) t) 2 q0.toNatClampNeg = q1 := by
  have a0 := own_m1 q0 h0.1
  have a1 := own_m1 q1 h1.1
  have a2 := own_m1 q2 h2.1
  have a3 : ¬ (3 : Int32) = (-1 : Int32) := by decide
  have n01 := own_nn q0 q1 h0.1 h1.1 h01
  have n10 : ¬ q1.toNatClampNeg = q0.toNatClampNeg := fun q => n01 (Eq.symm q)
  have n02 := own_nn q0 q2 h0.1 h2.1 h02
  have n20 : ¬ q2.toNatClampNeg = q0.toNatClampNeg := fun q => n02 (Eq.symm q)
  have n12 := own_nn q1 q2 h1.1 h2.1 h12
  have n21 : ¬ q2.toNatClampNeg = q1.toNatClampNeg := fun q => n12 (Eq.symm q)
  have m0 : ¬ q0.toNatClampNeg = 3 := own_nn q0 3 h0.1 (by decide) (by simp only [Int32.reduceToInt]; omega)
  have k0 : ¬ 3 = q0.toNatClampNeg := fun q => m0 (Eq.symm q)
  have m1 : ¬ q1.toNatClampNeg = 3 := own_nn q1 3 h1.1 (by decide) (by simp only [Int32.reduceToInt]; omega)
  have k1 : ¬ 3 = q1.toNatClampNeg := fun q => m1 (Eq.symm q)
  have m2 : ¬ q2.toNatClampNeg = 3 := own_nn q2 3 h2.1 (by decide) (by simp only [Int32.reduceToInt]; omega)
  have k2 : ¬ 3 = q2.toNatClampNeg := fun q => m2 (Eq.symm q)
  rcases ht with rfl | rfl <;>
  first | (simp [own_c0, own_c1, own_c3, own_ap0, own_ap1, own_ap2, own_ap3, own_ap4, own_ap5, own_rmA0, own_rmA1, own_rmA2, own_rmA3, own_rmA4, own_rmA5, own_s0, a0, a1, a2, a3, n01, n10, n02, n20, n12, n21, m0, m1, m2, k0, k1, k2]; done) | (simp [own_c0, own_c1, own_c3, own_ap0, own_ap1, own_ap2, own_ap3, own_ap4, own_ap5, own_rmA0, own_rmA1, own_rmA2, own_rmA3, own_rmA4, own_rmA5, own_s0, a0, a1, a2, a3, n01, n10, n02, n20, n12, n21, m0, m1, m2, k0, k1, k2]; decide) | (simp [own_c0, own_c1, own_c3, own_ap0, own_ap1, own_ap2, own_ap3, own_ap4, own_ap5, own_rmA0, own_rmA1, own_rmA2, own_rmA3, own_rmA4, own_rmA5, own_s0, a0, a1, a2, a3, n01, n10, n02, n20, n12, n21, m0, m1, m2, k0, k1, k2]; omega)
theorem own_l98 (q0 q1 q2 t : Int32) (h0 : 0 ≤ q0.toInt ∧ q0.toInt < 3) (h1 : 0 ≤ q1.toInt ∧ q1.toInt < 3) (h2 : 0 ≤ q2.toInt ∧ q2.toInt < 3) (h01 : q0.toInt ≠ q1.toInt) (h02 : q0.toInt ≠ q2.toInt) (h12 : q1.toInt ≠ q2.toInt) (ht : t = (0 : Int32) ∨ t = (1 : Int32)) : (own_ap (own_rm (own_ap (own_ap (own_ap own_st0 q0 t) q1 t) q2 t) q2) (3 : Int32) t) 2 q1.toNatClampNeg = (3 : Int32) := by
  have a0 := own_m1 q0 h0.1
  have a1 := own_m1 q1 h1.1
  have a2 := own_m1 q2 h2.1
  have a3 : ¬ (3 : Int32) = (-1 : Int32) := by decide
  have n01 := own_nn q0 q1 h0.1 h1.1 h01
  have n10 : ¬ q1.toNatClampNeg = q0.toNatClampNeg := fun q => n01 (Eq.symm q)
  have n02 := own_nn q0 q2 h0.1 h2.1 h02
  have n20 : ¬ q2.toNatClampNeg = q0.toNatClampNeg := fun q => n02 (Eq.symm q)
  have n12 := own_nn q1 q2 h1.1 h2.1 h12
  have n21 : ¬ q2.toNatClampNeg = q1.toNatClampNeg := fun q => n12 (Eq.symm q)
  have m0 : ¬ q0.toNatClampNeg = 3 := own_nn q0 3 h0.1 (by decide) (by simp only [Int32.reduceToInt]; omega)
  have k0 : ¬ 3 = q0.toNatClampNeg := fun q => m0 (Eq.symm q)
  have m1 : ¬ q1.toNatClampNeg = 3 := own_nn q1 3 h1.1 (by decide) (by simp only [Int32.reduceToInt]; omega)
  have k1 : ¬ 3 = q1.toNatClampNeg := fun q => m1 (Eq.symm q)
  have m2 : ¬ q2.toNatClampNeg = 3 := own_nn q2 3 h2.1 (by decide) (by simp only [Int32.reduceToInt]; omega)
  have k2 : ¬ 3 = q2.toNatClampNeg := fun q => m2 (Eq.symm q)
  rcases ht with rfl | rfl <;>
  first | (simp [own_c0, own_c1, own_c3, own_ap0, own_ap1, own_ap2, own_ap3, own_ap4, own_ap5, own_rmA0, own_rmA1, own_rmA2, own_rmA3, own_rmA4, own_rmA5, own_s0, a0, a1, a2, a3, n01, n10, n02, n20, n12, n21, m0, m1, m2, k0, k1, k2]; done) | (simp [own_c0, own_c1, own_c3, own_ap0, own_ap1, own_ap2, own_ap3, own_ap4, own_ap5, own_rmA0, own_rmA1, own_rmA2, own_rmA3, own_rmA4, own_rmA5, own_s0, a0, a1, a2, a3, n01, n10, n02, n20, n12, n21, m0, m1, m2, k0, k1, k2]; decide) | (simp [own_c0, own_c1, own_c3, own_ap0, own_ap1, own_ap2, own_ap3, own_ap4, own_ap5, own_rmA0, own_rmA1, own_rmA2, own_rmA3, own_rmA4, own_rmA5, own_s0, a0, a1, a2, a3, n01, n10, n02, n20, n12, n21, m0, m1, m2, k0, k1, k2]; omega)
theorem own_l99 (q0 q1 q2 t : Int32) (h0 : 0 ≤ q0.toInt ∧ q0.toInt < 3) (h1 : 0 ≤ q1.toInt ∧ q1.toInt < 3) (h2 : 0 ≤ q2.toInt ∧ q2.toInt < 3) (h01 : q0.toInt ≠ q1.toInt) (h02 : q0.toInt ≠ q2.toInt) (h12 : q1.toInt ≠ q2.toInt) (ht : t = (0 : Int32) ∨ t = (1 : Int32)) : (0 ≤ ((own_rm (own_ap (own_ap (own_ap own_st0 q0 t) q1 t) q2 t) q2) 0 q0.toNatClampNeg).toInt ∧ ((own_rm (own_ap (own_ap (own_ap own_st0 q0 t) q1 t) q2 t) q2) 0 q0.toNatClampNeg).toInt < (2 : Nat)) := by
  have a0 := own_m1 q0 h0.1
  have a1 := own_m1 q1 h1.1
  have a2 := own_m1 q2 h2.1
  have a3 : ¬ (3 : Int32) = (-1 : Int32) := by decide
  have n01 := own_nn q0 q1 h0.1 h1.1 h01
  have n10 : ¬ q1.toNatClampNeg = q0.toNatClampNeg := fun q => n01 (Eq.symm q)
  have n02 := own_nn q0 q2 h0.1 h2.1 h02
  have n20 : ¬ q2.toNatClampNeg = q0.toNatClampNeg := fun q => n02 (Eq.symm q)
  have n12 := own_nn q1 q2 h1.1 h2.1 h12
  have n21 : ¬ q2.toNatClampNeg = q1.toNatClampNeg := fun q => n12 (Eq.symm q)
  have m0 : ¬ q0.toNatClampNeg = 3 := own_nn q0 3 h0.1 (by decide) (by simp only [Int32.reduceToInt]; omega)
  have k0 : ¬ 3 = q0.toNatClampNeg := fun q => m0 (Eq.symm q)
  have m1 : ¬ q1.toNatClampNeg = 3 := own_nn q1 3 h1.1 (by decide) (by simp only [Int32.reduceToInt]; omega)
  have k1 : ¬ 3 = q1.toNatClampNeg := fun q => m1 (Eq.symm q)
  have m2 : ¬ q2.toNatClampNeg = 3 := own_nn q2 3 h2.1 (by decide) (by simp only [Int32.reduceToInt]; omega)
  have k2 : ¬ 3 = q2.toNatClampNeg := fun q => m2 (Eq.symm q)
  rcases ht with rfl | rfl <;>
  first | (simp [own_c0, own_c1, own_c3, own_ap0, own_ap1, own_ap2, own_ap3, own_ap4, own_ap5, own_rmA0, own_rmA1, own_rmA2, own_rmA3, own_rmA4, own_rmA5, own_s0, a0, a1, a2, a3, n01, n10, n02, n20, n12, n21, m0, m1, m2, k0, k1, k2]; done) | (simp [own_c0, own_c1, own_c3, own_ap0, own_ap1, own_ap2, own_ap3, own_ap4, own_ap5, own_rmA0, own_rmA1, own_rmA2, own_rmA3, own_rmA4, own_rmA5, own_s0, a0, a1, a2, a3, n01, n10, n02, n20, n12, n21, m0, m1, m2, k0, k1, k2]; decide) | (simp [own_c0, own_c1, own_c3, own_ap0, own_ap1, own_ap2, own_ap3, own_ap4, own_ap5, own_rmA0, own_rmA1, own_rmA2, own_rmA3, own_rmA4, own_rmA5, own_s0, a0, a1, a2, a3, n01, n10, n02, n20, n12, n21, m0, m1, m2, k0, k1, k2]; omega)
theorem own_l100 (q0 q1 q2 t : Int32) (h0 : 0 ≤ q0.toInt ∧ q0.toInt < 3) (h1 : 0 ≤ q1.toInt ∧ q1.toInt < 3) (h2 : 0 ≤ q2.toInt ∧ q2.toInt < 3) (h01 : q0.toInt ≠ q1.toInt) (h02 : q0.toInt ≠ q2.toInt) (h12 : q1.toInt ≠ q2.toInt) (ht : t = (0 : Int32) ∨ t = (1 : Int32)) : (own_rm (own_ap (own_ap (own_ap own_st0 q0 t) q1 t) q2 t) q2) 1 q0.toNatClampNeg = (-1 : Int32) ∨ (0 ≤ ((own_rm (own_ap (own_ap (own_ap own_st0 q0 t) q1 t) q2 t) q2) 1 q0.toNatClampNeg).toInt ∧ ((own_rm (own_ap (own_ap (own_ap own_st0 q0 t) q1 t) q2 t) q2) 1 q0.toNatClampNeg).toInt < (4 : Nat)) := by
  have a0 := own_m1 q0 h0.1
  have a1 := own_m1 q1 h1.1
  have a2 := own_m1 q2 h2.1
  have a3 : ¬ (3 : Int32) = (-1 : Int32) := by decide
  have n01 := own_nn q0 q1 h0.1 h1.1 h01
  have n10 : ¬ q1.toNatClampNeg = q0.toNatClampNeg := fun q => n01 (Eq.symm q)
  have n02 := own_nn q0 q2 h0.1 h2.1 h02
  have n20 : ¬ q2.toNatClampNeg = q0.toNatClampNeg := fun q => n02 (Eq.symm q)
  have n12 := own_nn q1 q2 h1.1 h2.1 h12
  have n21 : ¬ q2.toNatClampNeg = q1.toNatClampNeg := fun q => n12 (Eq.symm q)
  have m0 : ¬ q0.toNatClampNeg = 3 := own_nn q0 3 h0.1 (by decide) (by simp only [Int32.reduceToInt]; omega)
  have k0 : ¬ 3 = q0.toNatClampNeg := fun q => m0 (Eq.symm q)
  have m1 : ¬ q1.toNatClampNeg = 3 := own_nn q1 3 h1.1 (by decide) (by simp only [Int32.reduceToInt]; omega)
  have k1 : ¬ 3 = q1.toNatClampNeg := fun q => m1 (Eq.symm q)
  have m2 : ¬ q2.toNatClampNeg = 3 := own_nn q2 3 h2.1 (by decide) (by simp only [Int32.reduceToInt]; omega)
  have k2 : ¬ 3 = q2.toNatClampNeg := fun q => m2 (Eq.symm q)
  rcases ht with rfl | rfl <;>
  first | (simp [own_c0, own_c1, own_c3, own_ap0, own_ap1, own_ap2, own_ap3, own_ap4, own_ap5, own_rmA0, own_rmA1, own_rmA2, own_rmA3, own_rmA4, own_rmA5, own_s0, a0, a1, a2, a3, n01, n10, n02, n20, n12, n21, m0, m1, m2, k0, k1, k2]; done) | (simp [own_c0, own_c1, own_c3, own_ap0, own_ap1, own_ap2, own_ap3, own_ap4, own_ap5, own_rmA0, own_rmA1, own_rmA2, own_rmA3, own_rmA4, own_rmA5, own_s0, a0, a1, a2, a3, n01, n10, n02, n20, n12, n21, m0, m1, m2, k0, k1, k2]; decide) | (simp [own_c0, own_c1, own_c3, own_ap0, own_ap1, own_ap2, own_ap3, own_ap4, own_ap5, own_rmA0, own_rmA1, own_rmA2, own_rmA3, own_rmA4, own_rmA5, own_s0, a0, a1, a2, a3, n01, n10, n02, n20, n12, n21, m0, m1, m2, k0, k1, k2]; omega)
theorem own_l101 (q0 q1 q2 t : Int32) (h0 : 0 ≤ q0.toInt ∧ q0.toInt < 3) (h1 : 0 ≤ q1.toInt ∧ q1.toInt < 3) (h2 : 0 ≤ q2.toInt ∧ q2.toInt < 3) (h01 : q0.toInt ≠ q1.toInt) (h02 : q0.toInt ≠ q2.toInt) (h12 : q1.toInt ≠ q2.toInt) (ht : t = (0 : Int32) ∨ t = (1 : Int32)) : (own_rm (own_ap (own_ap (own_ap own_st0 q0 t) q1 t) q2 t) q2) 2 q0.toNatClampNeg = (-1 : Int32) ∨ (0 ≤ ((own_rm (own_ap (own_ap (own_ap own_st0 q0 t) q1 t) q2 t) q2) 2 q0.toNatClampNeg).toInt ∧ ((own_rm (own_ap (own_ap (own_ap own_st0 q0 t) q1 t) q2 t) q2) 2 q0.toNatClampNeg).toInt < (4 : Nat)) := by
  have a0 := own_m1 q0 h0.1
  have a1 := own_m1 q1 h1.1
  have a2 := own_m1 q2 h2.1
  have a3 : ¬ (3 : Int32) = (-1 : Int32) := by decide
  have n01 := own_nn q0 q1 h0.1 h1.1 h01
  have n10 : ¬ q1.toNatClampNeg = q0.toNatClampNeg := fun q => n01 (Eq.symm q)
  have n02 := own_nn q0 q2 h0.1 h2.1 h02
  have n20 : ¬ q2.toNatClampNeg = q0.toNatClampNeg := fun q => n02 (Eq.symm q)
  have n12 := own_nn q1 q2 h1.1 h2.1 h12
  have n21 : ¬ q2.toNatClampNeg = q1.toNatClampNeg := fun q => n12 (Eq.symm q)
  have m0 : ¬ q0.toNatClampNeg = 3 := own_nn q0 3 h0.1 (by decide) (by simp only [Int32.reduceToInt]; omega)
  have k0 : ¬ 3 = q0.toNatClampNeg := fun q => m0 (Eq.symm q)
  have m1 : ¬ q1.toNatClampNeg = 3 := own_nn q1 3 h1.1 (by decide) (by simp only [Int32.reduceToInt]; omega)
  have k1 : ¬ 3 = q1.toNatClampNeg := fun q => m1 (Eq.symm q)
  have m2 : ¬ q2.toNatClampNeg = 3 := own_nn q2 3 h2.1 (by decide) (by simp only [Int32.reduceToInt]; omega)
  have k2 : ¬ 3 = q2.toNatClampNeg := fun q => m2 (Eq.symm q)
  rcases ht with rfl | rfl <;>
  first | (simp [own_c0, own_c1, own_c3, own_ap0, own_ap1, own_ap2, own_ap3, own_ap4, own_ap5, own_rmA0, own_rmA1, own_rmA2, own_rmA3, own_rmA4, own_rmA5, own_s0, a0, a1, a2, a3, n01, n10, n02, n20, n12, n21, m0, m1, m2, k0, k1, k2]; done) | (simp [own_c0, own_c1, own_c3, own_ap0, own_ap1, own_ap2, own_ap3, own_ap4, own_ap5, own_rmA0, own_rmA1, own_rmA2, own_rmA3, own_rmA4, own_rmA5, own_s0, a0, a1, a2, a3, n01, n10, n02, n20, n12, n21, m0, m1, m2, k0, k1, k2]; decide) | (simp [own_c0, own_c1, own_c3, own_ap0, own_ap1, own_ap2, own_ap3, own_ap4, own_ap5, own_rmA0, own_rmA1, own_rmA2, own_rmA3, own_rmA4, own_rmA5, own_s0, a0, a1, a2, a3, n01, n10, n02, n20, n12, n21, m0, m1, m2, k0, k1, k2]; omega)
theorem own_l102 (q0 q1 q2 t : Int32) (h0 : 0 ≤ q0.toInt ∧ q0.toInt < 3) (h1 : 0 ≤ q1.toInt ∧ q1.toInt < 3) (h2 : 0 ≤ q2.toInt ∧ q2.toInt < 3) (h01 : q0.toInt ≠ q1.toInt) (h02 : q0.toInt ≠ q2.toInt) (h12 : q1.toInt ≠ q2.toInt) (ht : t = (0 : Int32) ∨ t = (1 : Int32)) : (own_rm (own_rm (own_ap (own_ap (own_ap own_st0 q0 t) q1 t) q2 t) q2) q0) 4 t.toNatClampNeg = (-1 : Int32) ∨ (0 ≤ ((own_rm (own_rm (own_ap (own_ap (own_ap own_st0 q0 t) q1 t) q2 t) q2) q0) 4 t.toNatClampNeg).toInt ∧ ((own_rm (own_rm (own_ap (own_ap (own_ap own_st0 q0 t) q1 t) q2 t) q2) q0) 4 t.toNatClampNeg).toInt < (4 : Nat)) := by
  have a0 := own_m1 q0 h0.1
  have a1 := own_m1 q1 h1.1
  have a2 := own_m1 q2 h2.1
  have a3 : ¬ (3 : Int32) = (-1 : Int32) := by decide
  have n01 := own_nn q0 q1 h0.1 h1.1 h01
  have n10 : ¬ q1.toNatClampNeg = q0.toNatClampNeg := fun q => n01 (Eq.symm q)
  have n02 := own_nn q0 q2 h0.1 h2.1 h02
  have n20 : ¬ q2.toNatClampNeg = q0.toNatClampNeg := fun q => n02 (Eq.symm q)
  have n12 := own_nn q1 q2 h1.1 h2.1 h12
  have n21 : ¬ q2.toNatClampNeg = q1.toNatClampNeg := fun q => n12 (Eq.symm q)
  have m0 : ¬ q0.toNatClampNeg = 3 := own_nn q0 3 h0.1 (by decide) (by simp only [Int32.reduceToInt]; omega)
  have k0 : ¬ 3 = q0.toNatClampNeg := fun q => m0 (Eq.symm q)
  have m1 : ¬ q1.toNatClampNeg = 3 := own_nn q1 3 h1.1 (by decide) (by simp only [Int32.reduceToInt]; omega)
  have k1 : ¬ 3 = q1.toNatClampNeg := fun q => m1 (Eq.symm q)
  have m2 : ¬ q2.toNatClampNeg = 3 := own_nn q2 3 h2.1 (by decide) (by simp only [Int32.reduceToInt]; omega)
  have k2 : ¬ 3 = q2.toNatClampNeg := fun q => m2 (Eq.symm q)
  rcases ht with rfl | rfl <;>
  first | (simp [own_c0, own_c1, own_c3, own_ap0, own_ap1, own_ap2, own_ap3, own_ap4, own_ap5, own_rmA0, own_rmA1, own_rmA2, own_rmA3, own_rmA4, own_rmA5, own_s0, a0, a1, a2, a3, n01, n10, n02, n20, n12, n21, m0, m1, m2, k0, k1, k2]; done) | (simp [own_c0, own_c1, own_c3, own_ap0, own_ap1, own_ap2, own_ap3, own_ap4, own_ap5, own_rmA0, own_rmA1, own_rmA2, own_rmA3, own_rmA4, own_rmA5, own_s0, a0, a1, a2, a3, n01, n10, n02, n20, n12, n21, m0, m1, m2, k0, k1, k2]; decide) | (simp [own_c0, own_c1, own_c3, own_ap0, own_ap1, own_ap2, own_ap3, own_ap4, own_ap5, own_rmA0, own_rmA1, own_rmA2, own_rmA3, own_rmA4, own_rmA5, own_s0, a0, a1, a2, a3, n01, n10, n02, n20, n12, n21, m0, m1, m2, k0, k1, k2]; omega)
theorem own_l103 (q0 q1 q2 t : Int32) (h0 : 0 ≤ q0.toInt ∧ q0.toInt < 3) (h1 : 0 ≤ q1.toInt ∧ q1.toInt < 3) (h2 : 0 ≤ q2.toInt ∧ q2.toInt < 3) (h01 : q0.toInt ≠ q1.toInt) (h02 : q0.toInt ≠ q2.toInt) (h12 : q1.toInt ≠ q2.toInt) (ht : t = (0 : Int32) ∨ t = (1 : Int32)) : (own_ap (own_rm (own_rm (own_ap (own_ap (own_ap own_st0 q0 t) q1 t) q2 t) q2) q0) (3 : Int32) t) 0 q2.toNatClampNeg = (-1 : Int32) := by
  have a0 := own_m1 q0 h0.1
  have a1 := own_m1 q1 h1.1
  have a2 := own_m1 q2 h2.1
  have a3 : ¬ (3 : Int32) = (-1 : Int32) := by decide
  have n01 := own_nn q0 q1 h0.1 h1.1 h01
  have n10 : ¬ q1.toNatClampNeg = q0.toNatClampNeg := fun q => n01 (Eq.symm q)
  have n02 := own_nn q0 q2 h0.1 h2.1 h02
  have n20 : ¬ q2.toNatClampNeg = q0.toNatClampNeg := fun q => n02 (Eq.symm q)
  have n12 := own_nn q1 q2 h1.1 h2.1 h12
  have n21 : ¬ q2.toNatClampNeg = q1.toNatClampNeg := fun q => n12 (Eq.symm q)
  have m0 : ¬ q0.toNatClampNeg = 3 := own_nn q0 3 h0.1 (by decide) (by simp only [Int32.reduceToInt]; omega)
  have k0 : ¬ 3 = q0.toNatClampNeg := fun q => m0 (Eq.symm q)
  have m1 : ¬ q1.toNatClampNeg = 3 := own_nn q1 3 h1.1 (by decide) (by simp only [Int32.reduceToInt]; omega)
  have k1 : ¬ 3 = q1.toNatClampNeg := fun q => m1 (Eq.symm q)
  have m2 : ¬ q2.toNatClampNeg = 3 := own_nn q2 3 h2.1 (by decide) (by simp only [Int32.reduceToInt]; omega)
  have k2 : ¬ 3 = q2.toNatClampNeg := fun q => m2 (Eq.symm q)
  rcases ht with rfl | rfl <;>
  first | (simp [own_c0, own_c1, own_c3, own_ap0, own_ap1, own_ap2, own_ap3, own_ap4, own_ap5, own_rmA0, own_rmA1, own_rmA2, own_rmA3, own_rmA4, own_rmA5, own_s0, a0, a1, a2, a3, n01, n10, n02, n20, n12, n21, m0, m1, m2, k0, k1, k2]; done) | (simp [own_c0, own_c1, own_c3, own_ap0, own_ap1, own_ap2, own_ap3, own_ap4, own_ap5, own_rmA0, own_rmA1, own_rmA2, own_rmA3, own_rmA4, own_rmA5, own_s0, a0, a1, a2, a3, n01, n10, n02, n20, n12, n21, m0, m1, m2, k0, k1, k2]; decide) | (simp [own_c0, own_c1, own_c3, own_ap0, own_ap1, own_ap2, own_ap3, own_ap4, own_ap5, own_rmA0, own_rmA1, own_rmA2, own_rmA3, own_rmA4, own_rmA5, own_s0, a0, a1, a2, a3, n01, n10, n02, n20, n12, n21, m0, m1, m2, k0, k1, k2]; omega)
theorem own_l104 (q0 q1 q2 t : Int32) (h0 : 0 ≤ q0.toInt ∧ q0.toInt < 3) (h1 : 0 ≤ q1.toInt ∧ q1.toInt < 3) (h2 : 0 ≤ q2.toInt ∧ q2.toInt < 3) (h01 : q0.toInt ≠ q1.toInt) (h02 : q0.toInt ≠ q2.toInt) (h12 : q1.toInt ≠ q2.toInt) (ht : t = (0 : Int32) ∨ t = (1 : Int32)) : (own_ap (own_rm (own_rm (own_ap (own_ap (own_ap own_st0 q0 t) q1 t) q2 t) q2) q0) (3 : Int32) t) 5 t.toNatClampNeg = ((1 : Int32) + (1 : Int32)) := by
  have a0 := own_m1 q0 h0.1
  have a1 := own_m1 q1 h1.1
  have a2 := own_m1 q2 h2.1
  have a3 : ¬ (3 : Int32) = (-1 : Int32) := by decide
  have n01 := own_nn q0 q1 h0.1 h1.1 h01
  have n10 : ¬ q1.toNatClampNeg = q0.toNatClampNeg := fun q => n01 (Eq.symm q)
  have n02 := own_nn q0 q2 h0.1 h2.1 h02
  have n20 : ¬ q2.toNatClampNeg = q0.toNatClampNeg := fun q => n02 (Eq.symm q)
  have n12 := own_nn q1 q2 h1.1 h2.1 h12
  have n21 : ¬ q2.toNatClampNeg = q1.toNatClampNeg := fun q => n12 (Eq.symm q)
  have m0 : ¬ q0.toNatClampNeg = 3 := own_nn q0 3 h0.1 (by decide) (by simp only [Int32.reduceToInt]; omega)
  have k0 : ¬ 3 = q0.toNatClampNeg := fun q => m0 (Eq.symm q)
  have m1 : ¬ q1.toNatClampNeg = 3 := own_nn q1 3 h1.1 (by decide) (by simp only [Int32.reduceToInt]; omega)
  have k1 : ¬ 3 = q1.toNatClampNeg := fun q => m1 (Eq.symm q)
  have m2 : ¬ q2.toNatClampNeg = 3 := own_nn q2 3 h2.1 (by decide) (by simp only [Int32.reduceToInt]; omega)
  have k2 : ¬ 3 = q2.toNatClampNeg := fun q => m2 (Eq.symm q)
  rcases ht with rfl | rfl <;>
  first | (simp [own_c0, own_c1, own_c3, own_ap0, own_ap1, own_ap2, own_ap3, own_ap4, own_ap5, own_rmA0, own_rmA1, own_rmA2, own_rmA3, own_rmA4, own_rmA5, own_s0, a0, a1, a2, a3, n01, n10, n02, n20, n12, n21, m0, m1, m2, k0, k1, k2]; done) | (simp [own_c0, own_c1, own_c3, own_ap0, own_ap1, own_ap2, own_ap3, own_ap4, own_ap5, own_rmA0, own_rmA1, own_rmA2, own_rmA3, own_rmA4, own_rmA5, own_s0, a0, a1, a2, a3, n01, n10, n02, n20, n12, n21, m0, m1, m2, k0, k1, k2]; decide) | (simp [own_c0, own_c1, own_c3, own_ap0, own_ap1, own_ap2, own_ap3, own_ap4, own_ap5, own_rmA0, own_rmA1, own_rmA2, own_rmA3, own_rmA4, own_rmA5, own_s0, a0, a1, a2, a3, n01, n10, n02, n20, n12, n21, m0, m1, m2, k0, k1, k2]; omega)
theorem own_l105 (q0 q1 q2 t : Int32) (h0 : 0 ≤ q0.toInt ∧ q0.toInt < 3) (h1 : 0 ≤ q1.toInt ∧ q1.toInt < 3) (h2 : 0 ≤ q2.toInt ∧ q2.toInt < 3) (h01 : q0.toInt ≠ q1.toInt) (h02 : q0.toInt ≠ q2.toInt) (h12 : q1.toInt ≠ q2.toInt) (ht : t = (0 : Int32) ∨ t = (1 : Int32)) : (own_ap (own_rm (own_rm (own_ap (own_ap (own_ap own_st0 q0 t) q1 t) q2 t) q2) q0) (3 : Int32) t) 3 t.toNatClampNeg = q1 := by
  have a0 := own_m1 q0 h0.1
  have a1 := own_m1 q1 h1.1
  have a2 := own_m1 q2 h2.1
  have a3 : ¬ (3 : Int32) = (-1 : Int32) := by decide
  have n01 := own_nn q0 q1 h0.1 h1.1 h01
  have n10 : ¬ q1.toNatClampNeg = q0.toNatClampNeg := fun q => n01 (Eq.symm q)
  have n02 := own_nn q0 q2 h0.1 h2.1 h02
  have n20 : ¬ q2.toNatClampNeg = q0.toNatClampNeg := fun q => n02 (Eq.symm q)
  have n12 := own_nn q1 q2 h1.1 h2.1 h12
  have n21 : ¬ q2.toNatClampNeg = q1.toNatClampNeg := fun q => n12 (Eq.symm q)
  have m0 : ¬ q0.toNatClampNeg = 3 := own_nn q0 3 h0.1 (by decide) (by simp only [Int32.reduceToInt]; omega)
  have k0 : ¬ 3 = q0.toNatClampNeg := fun q => m0 (Eq.symm q)
  have m1 : ¬ q1.toNatClampNeg = 3 := own_nn q1 3 h1.1 (by decide) (by simp only [Int32.reduceToInt]; omega)
  have k1 : ¬ 3 = q1.toNatClampNeg := fun q => m1 (Eq.symm q)
  have m2 : ¬ q2.toNatClampNeg = 3 := own_nn q2 3 h2.1 (by decide) (by simp only [Int32.reduceToInt]; omega)
  have k2 : ¬ 3 = q2.toNatClampNeg := fun q => m2 (Eq.symm q)
  rcases ht with rfl | rfl <;>
  first | (simp [own_c0, own_c1, own_c3, own_ap0, own_ap1, own_ap2, own_ap3, own_ap4, own_ap5, own_rmA0, own_rmA1, own_rmA2, own_rmA3, own_rmA4, own_rmA5, own_s0, a0, a1, a2, a3, n01, n10, n02, n20, n12, n21, m0, m1, m2, k0, k1, k2]; done) | (simp [own_c0, own_c1, own_c3, own_ap0, own_ap1, own_ap2, own_ap3, own_ap4, own_ap5, own_rmA0, own_rmA1, own_rmA2, own_rmA3, own_rmA4, own_rmA5, own_s0, a0, a1, a2, a3, n01, n10, n02, n20, n12, n21, m0, m1, m2, k0, k1, k2]; decide) | (simp [own_c0, own_c1, own_c3, own_ap0, own_ap1, own_ap2, own_ap3, own_ap4, own_ap5, own_rmA0, own_rmA1, own_rmA2, own_rmA3, own_rmA4, own_rmA5, own_s0, a0, a1, a2, a3, n01, n10, n02, n20, n12, n21, m0, m1, m2, k0, k1, k2]; omega)
theorem own_l106 (q0 q1 q2 t : Int32) (h0 : 0 ≤ q0.toInt ∧ q0.toInt < 3) (h1 : 0 ≤ q1.toInt ∧ q1.toInt < 3) (h2 : 0 ≤ q2.toInt ∧ q2.toInt < 3) (h01 : q0.toInt ≠ q1.toInt) (h02 : q0.toInt ≠ q2.toInt) (h12 : q1.toInt ≠ q2.toInt) (ht : t = (0 : Int32) ∨ t = (1 : Int32)) : (own_ap (own_rm (own_rm (own_ap (own_ap (own_ap own_st0 q0 t) q1 t) q2 t) q2) q0) (3 : Int32) t) 2 q1.toNatClampNeg = (3 : Int32) := by
  have a0 := own_m1 q0 h0.1
  have a1 := own_m1 q1 h1.1
  have a2 := own_m1 q2 h2.1
  have a3 : ¬ (3 : Int32) = (-1 : Int32) := by decide
  have n01 := own_nn q0 q1 h0.1 h1.1 h01
  have n10 : ¬ q1.toNatClampNeg = q0.toNatClampNeg := fun q => n01 (Eq.symm q)
  have n02 := own_nn q0 q2 h0.1 h2.1 h02
  have n20 : ¬ q2.toNatClampNeg = q0.toNatClampNeg := fun q => n02 (Eq.symm q)
  have n12 := own_nn q1 q2 h1.1 h2.1 h12
  have n21 : ¬ q2.toNatClampNeg = q1.toNatClampNeg := fun q => n12 (Eq.symm q)
  have m0 : ¬ q0.toNatClampNeg = 3 := own_nn q0 3 h0.1 (by decide) (by simp only [Int32.reduceToInt]; omega)
  have k0 : ¬ 3 = q0.toNatClampNeg := fun q => m0 (Eq.symm q)
  have m1 : ¬ q1.toNatClampNeg = 3 := own_nn q1 3 h1.1 (by decide) (by simp only [Int32.reduceToInt]; omega)
  have k1 : ¬ 3 = q1.toNatClampNeg := fun q => m1 (Eq.symm q)
  have m2 : ¬ q2.toNatClampNeg = 3 := own_nn q2 3 h2.1 (by decide) (by simp only [Int32.reduceToInt]; omega)
  have k2 : ¬ 3 = q2.toNatClampNeg := fun q => m2 (Eq.symm q)
  rcases ht with rfl | rfl <;>
  first | (simp [own_c0, own_c1, own_c3, own_ap0, own_ap1, own_ap2, own_ap3, own_ap4, own_ap5, own_rmA0, own_rmA1, own_rmA2, own_rmA3, own_rmA4, own_rmA5, own_s0, a0, a1, a2, a3, n01, n10, n02, n20, n12, n21, m0, m1, m2, k0, k1, k2]; done) | (simp [own_c0, own_c1, own_c3, own_ap0, own_ap1, own_ap2, own_ap3, own_ap4, own_ap5, own_rmA0, own_rmA1, own_rmA2, own_rmA3, own_rmA4, own_rmA5, own_s0, a0, a1, a2, a3, n01, n10, n02, n20, n12, n21, m0, m1, m2, k0, k1, k2]; decide) | (simp [own_c0, own_c1, own_c3, own_ap0, own_ap1, own_ap2, own_ap3, own_ap4, own_ap5, own_rmA0, own_rmA1, own_rmA2, own_rmA3, own_rmA4, own_rmA5, own_s0, a0, a1, a2, a3, n01, n10, n02, n20, n12, n21, m0, m1, m2, k0, k1, k2]; omega)
theorem own_l107 (q0 q1 q2 t : Int32) (h0 : 0 ≤ q0.toInt ∧ q0.toInt < 3) (h1 : 0 ≤ q1.toInt ∧ q1.toInt < 3) (h2 : 0 ≤ q2.toInt ∧ q2.toInt < 3) (h01 : q0.toInt ≠ q1.toInt) (h02 : q0.toInt ≠ q2.toInt) (h12 : q1.toInt ≠ q2.toInt) (ht : t = (0 : Int32) ∨ t = (1 : Int32)) : (0 ≤ ((own_rm (own_ap (own_ap (own_ap own_st0 q0 t) q1 t) q2 t) q2) 0 q1.toNatClampNeg).toInt ∧ ((own_rm (own_ap (own_ap (own_ap own_st0 q0 t) q1 t) q2 t) q2) 0 q1.toNatClampNeg).toInt < (2 : Nat)) := by
  have a0 := own_m1 q0 h0.1
  have a1 := own_m1 q1 h1.1
  have a2 := own_m1 q2 h2.1
  have a3 : ¬ (3 : Int32) = (-1 : Int32) := by decide
  have n01 := own_nn q0 q1 h0.1 h1.1 h01
  have n10 : ¬ q1.toNatClampNeg = q0.toNatClampNeg := fun q => n01 (Eq.symm q)
  have n02 := own_nn q0 q2 h0.1 h2.1 h02
  have n20 : ¬ q2.toNatClampNeg = q0.toNatClampNeg := fun q => n02 (Eq.symm q)
  have n12 := own_nn q1 q2 h1.1 h2.1 h12
  have n21 : ¬ q2.toNatClampNeg = q1.toNatClampNeg := fun q => n12 (Eq.symm q)
  have m0 : ¬ q0.toNatClampNeg = 3 := own_nn q0 3 h0.1 (by decide) (by simp only [Int32.reduceToInt]; omega)
  have k0 : ¬ 3 = q0.toNatClampNeg := fun q => m0 (Eq.symm q)
  have m1 : ¬ q1.toNatClampNeg = 3 := own_nn q1 3 h1.1 (by decide) (by simp only [Int32.reduceToInt]; omega)
  have k1 : ¬ 3 = q1.toNatClampNeg := fun q => m1 (Eq.symm q)
  have m2 : ¬ q2.toNatClampNeg = 3 := own_nn q2 3 h2.1 (by decide) (by simp only [Int32.reduceToInt]; omega)
  have k2 : ¬ 3 = q2.toNatClampNeg := fun q => m2 (Eq.symm q)
  rcases ht with rfl | rfl <;>
  first | (simp [own_c0, own_c1, own_c3, own_ap0, own_ap1, own_ap2, own_ap3, own_ap4, own_ap5, own_rmA0, own_rmA1, own_rmA2, own_rmA3, own_rmA4, own_rmA5, own_s0, a0, a1, a2, a3, n01, n10, n02, n20, n12, n21, m0, m1, m2, k0, k1, k2]; done) | (simp [own_c0, own_c1, own_c3, own_ap0, own_ap1, own_ap2, own_ap3, own_ap4, own_ap5, own_rmA0, own_rmA1, own_rmA2, own_rmA3, own_rmA4, own_rmA5, own_s0, a0, a1, a2, a3, n01, n10, n02, n20, n12, n21, m0, m1, m2, k0, k1, k2]; decide) | (simp [own_c0, own_c1, own_c3, own_ap0, own_ap1, own_ap2, own_ap3, own_ap4, own_ap5, own_rmA0, own_rmA1, own_rmA2, own_rmA3, own_rmA4, own_rmA5, own_s0, a0, a1, a2, a3, n01, n10, n02, n20, n12, n21, m0, m1, m2, k0, k1, k2]; omega)
theorem own_l108 (q0 q1 q2 t : Int32) (h0 : 0 ≤ q0.toInt ∧ q0.toInt < 3) (h1 : 0 ≤ q1.toInt ∧ q1.toInt < 3) (h2 : 0 ≤ q2.toInt ∧ q2.toInt < 3) (h01 : q0.toInt ≠ q1.toInt) (h02 : q0.toInt ≠ q2.toInt) (h12 : q1.toInt ≠ q2.toInt) (ht : t = (0 : Int32) ∨ t = (1 : Int32)) : (own_rm (own_ap (own_ap (own_ap own_st0 q0 t) q1 t) q2 t) q2) 1 q1.toNatClampNeg = (-1 : Int32) ∨ (0 ≤ ((own_rm (own_ap (own_ap (own_ap own_st0 q0 t) q1 t) q2 t) q2) 1 q1.toNatClampNeg).toInt ∧ ((own_rm (own_ap (own_ap (own_ap own_st0 q0 t) q1 t) q2 t) q2) 1 q1.toNatClampNeg).toInt < (4 : Nat)) := by
  have a0 := own_m1 q0 h0.1
  have a1 := own_m1 q1 h1.1
  have a2 := own_m1 q2 h2.1
  have a3 : ¬ (3 : Int32) = (-1 : Int32) := by decide
  have n01 := own_nn q0 q1 h0.1 h1.1 h01
  have n10 : ¬ q1.toNatClampNeg = q0.toNatClampNeg := fun q => n01 (Eq.symm q)
  have n02 := own_nn q0 q2 h0.1 h2.1 h02
  have n20 : ¬ q2.toNatClampNeg = q0.toNatClampNeg := fun q => n02 (Eq.symm q)
  have n12 := own_nn q1 q2 h1.1 h2.1 h12
  have n21 : ¬ q2.toNatClampNeg = q1.toNatClampNeg := fun q => n12 (Eq.symm q)
  have m0 : ¬ q0.toNatClampNeg = 3 := own_nn q0 3 h0.1 (by decide) (by simp only [Int32.reduceToInt]; omega)
  have k0 : ¬ 3 = q0.toNatClampNeg := fun q => m0 (Eq.symm q)
  have m1 : ¬ q1.toNatClampNeg = 3 := own_nn q1 3 h1.1 (by decide) (by simp only [Int32.reduceToInt]; omega)
  have k1 : ¬ 3 = q1.toNatClampNeg := fun q => m1 (Eq.symm q)
  have m2 : ¬ q2.toNatClampNeg = 3 := own_nn q2 3 h2.1 (by decide) (by simp only [Int32.reduceToInt]; omega)
  have k2 : ¬ 3 = q2.toNatClampNeg := fun q => m2 (Eq.symm q)
  rcases ht with rfl | rfl <;>
  first | (simp [own_c0, own_c1, own_c3, own_ap0, own_ap1, own_ap2, own_ap3, own_ap4, own_ap5, own_rmA0, own_rmA1, own_rmA2, own_rmA3, own_rmA4, own_rmA5, own_s0, a0, a1, a2, a3, n01, n10, n02, n20, n12, n21, m0, m1, m2, k0, k1, k2]; done) | (simp [own_c0, own_c1, own_c3, own_ap0, own_ap1, own_ap2, own_ap3, own_ap4, own_ap5, own_rmA0, own_rmA1, own_rmA2, own_rmA3, own_rmA4, own_rmA5, own_s0, a0, a1, a2, a3, n01, n10, n02, n20, n12, n21, m0, m1, m2, k0, k1, k2]; decide) | (simp [own_c0, own_c1, own_c3, own_ap0, own_ap1, own_ap2, own_ap3, own_ap4, own_ap5, own_rmA0, own_rmA1, own_rmA2, own_rmA3, own_rmA4, own_rmA5, own_s0, a0, a1, a2, a3, n01, n10, n02, n20, n12, n21, m0, m1, m2, k0, k1, k2]; omega)
theorem own_l109 (q0 q1 q2 t : Int32) (h0 : 0 ≤ q0.toInt ∧ q0.toInt < 3) (h1 : 0 ≤ q1.toInt ∧ q1.toInt < 3) (h2 : 0 ≤ q2.toInt ∧ q2.toInt < 3) (h01 : q0.toInt ≠ q1.toInt) (h02 : q0.toInt ≠ q2.toInt) (h12 : q1.toInt ≠ q2.toInt) (ht : t = (0 : Int32) ∨ t = (1 : Int32)) : (own_rm (own_ap (own_ap (own_ap own_st0 q0 t) q1 t) q2 t) q2) 2 q1.toNatClampNeg = (-1 : Int32) ∨ (0 ≤ ((own_rm (own_ap (own_ap (own_ap own_st0 q0 t) q1 t) q2 t) q2) 2 q1.toNatClampNeg).toInt ∧ ((own_rm (own_ap (own_ap (own_ap own_st0 q0 t) q1 t) q2 t) q2) 2 q1.toNatClampNeg).toInt < (4 : Nat)) := by
  have a0 := own_m1 q0 h0.1
  have a1 := own_m1 q1 h1.1
  have a2 := own_m1 q2 h2.1
  have a3 : ¬ (3 : Int32) = (-1 : Int32) := by decide
  have n01 := own_nn q0 q1 h0.1 h1.1 h01
  have n10 : ¬ q1.toNatClampNeg = q0.toNatClampNeg := fun q => n01 (Eq.symm q)
  have n02 := own_nn q0 q2 h0.1 h2.1 h02
  have n20 : ¬ q2.toNatClampNeg = q0.toNatClampNeg := fun q => n02 (Eq.symm q)
  have n12 := own_nn q1 q2 h1.1 h2.1 h12
  have n21 : ¬ q2.toNatClampNeg = q1.toNatClampNeg := fun q => n12 (Eq.symm q)
  have m0 : ¬ q0.toNatClampNeg = 3 := own_nn q0 3 h0.1 (by decide) (by simp only [Int32.reduceToInt]; omega)
  have k0 : ¬ 3 = q0.toNatClampNeg := fun q => m0 (Eq.symm q)
  have m1 : ¬ q1.toNatClampNeg = 3 := own_nn q1 3 h1.1 (by decide) (by simp only [Int32.reduceToInt]; omega)
  have k1 : ¬ 3 = q1.toNatClampNeg := fun q => m1 (Eq.symm q)
  have m2 : ¬ q2.toNatClampNeg = 3 := own_nn q2 3 h2.1 (by decide) (by simp only [Int32.reduceToInt]; omega)
  have k2 : ¬ 3 = q2.toNatClampNeg := fun q => m2 (Eq.symm q)
  rcases ht with rfl | rfl <;>
  first | (simp [own_c0, own_c1, own_c3, own_ap0, own_ap1, own_ap2, own_ap3, own_ap4, own_ap5, own_rmA0, own_rmA1, own_rmA2, own_rmA3, own_rmA4, own_rmA5, own_s0, a0, a1, a2, a3, n01, n10, n02, n20, n12, n21, m0, m1, m2, k0, k1, k2]; done) | (simp [own_c0, own_c1, own_c3, own_ap0, own_ap1, own_ap2, own_ap3, own_ap4, own_ap5, own_rmA0, own_rmA1, own_rmA2, own_rmA3, own_rmA4, own_rmA5, own_s0, a0, a1, a2, a3, n01, n10, n02, n20, n12, n21, m0, m1, m2, k0, k1, k2]; decide) | (simp [own_c0, own_c1, own_c3, own_ap0, own_ap1, own_ap2, own_ap3, own_ap4, own_ap5, own_rmA0, own_rmA1, own_rmA2, own_rmA3, own_rmA4, own_rmA5, own_s0, a0, a1, a2, a3, n01, n10, n02, n20, n12, n21, m0, m1, m2, k0, k1, k2]; omega)
theorem own_l110 (q0 q1 q2 t : Int32) (h0 : 0 ≤ q0.toInt ∧ q0.toInt < 3) (h1 : 0 ≤ q1.toInt ∧ q1.toInt < 3) (h2 : 0 ≤ q2.toInt ∧ q2.toInt < 3) (h01 : q0.toInt ≠ q1.toInt) (h02 : q0.toInt ≠ q2.toInt) (h12 : q1.toInt ≠ q2.toInt) (ht : t = (0 : Int32) ∨ t = (1 : Int32)) : (own_rm (own_rm (own_ap (own_ap (own_ap own_st0 q0 t) q1 t) q2 t) q2) q1) 4 t.toNatClampNeg = (-1 : Int32) ∨ (0 ≤ ((own_rm (own_rm (own_ap (own_ap (own_ap own_st0 q0 t) q1 t) q2 t) q2) q1) 4 t.toNatClampNeg).toInt ∧ ((own_rm (own_rm (own_ap (own_ap (own_ap own_st0 q0 t) q1 t) q2 t) q2) q1) 4 t.toNatClampNeg).toInt < (4 : Nat)) := by
  have a0 := own_m1 q0 h0.1
  have a1 := own_m1 q1 h1.1
  have a2 := own_m1 q2 h2.1
  have a3 : ¬ (3 : Int32) = (-1 : Int32) := by decide
  have n01 := own_nn q0 q1 h0.1 h1.1 h01
  have n10 : ¬ q1.toNatClampNeg = q0.toNatClampNeg := fun q => n01 (Eq.symm q)
  have n02 := own_nn q0 q2 h0.1 h2.1 h02
  have n20 : ¬ q2.toNatClampNeg = q0.toNatClampNeg := fun q => n02 (Eq.symm q)
  have n12 := own_nn q1 q2 h1.1 h2.1 h12
  have n21 : ¬ q2.toNatClampNeg = q1.toNatClampNeg := fun q => n12 (Eq.symm q)
  have m0 : ¬ q0.toNatClampNeg = 3 := own_nn q0 3 h0.1 (by decide) (by simp only [Int32.reduceToInt]; omega)
  have k0 : ¬ 3 = q0.toNatClampNeg := fun q => m0 (Eq.symm q)
  have m1 : ¬ q1.toNatClampNeg = 3 := own_nn q1 3 h1.1 (by decide) (by simp only [Int32.reduceToInt]; omega)
  have k1 : ¬ 3 = q1.toNatClampNeg := fun q => m1 (Eq.symm q)
  have m2 : ¬ q2.toNatClampNeg = 3 := own_nn q2 3 h2.1 (by decide) (by simp only [Int32.reduceToInt]; omega)
  have k2 : ¬ 3 = q2.toNatClampNeg := fun q => m2 (Eq.symm q)
  rcases ht with rfl | rfl <;>
  first | (simp [own_c0, own_c1, own_c3, own_ap0, own_ap1, own_ap2, own_ap3, own_ap4, own_ap5, own_rmA0, own_rmA1, own_rmA2, own_rmA3, own_rmA4, own_rmA5, own_s0, a0, a1, a2, a3, n01, n10, n02, n20, n12, n21, m0, m1, m2, k0, k1, k2]; done) | (simp [own_c0, own_c1, own_c3, own_ap0, own_ap1, own_ap2, own_ap3, own_ap4, own_ap5, own_rmA0, own_rmA1, own_rmA2, own_rmA3, own_rmA4, own_rmA5, own_s0, a0, a1, a2, a3, n01, n10, n02, n20, n12, n21, m0, m1, m2, k0, k1, k2]; decide) | (simp [own_c0, own_c1, own_c3, own_ap0, own_ap1, own_ap2, own_ap3, own_ap4, own_ap5, own_rmA0, own_rmA1, own_rmA2, own_rmA3, own_rmA4, own_rmA5, own_s0, a0, a1, a2, a3, n01, n10, n02, n20, n12, n21, m0, m1, m2, k0, k1, k2]; omega)
theorem own_l111 (q0 q1 q2 t : Int32) (h0 : 0 ≤ q0.toInt ∧ q0.toInt < 3) (h1 : 0 ≤ q1.toInt ∧ q1.toInt < 3) (h2 : 0 ≤ q2.toInt ∧ q2.toInt < 3) (h01 : q0.toInt ≠ q1.toInt) (h02 : q0.toInt ≠ q2.toInt) (h12 : q1.toInt ≠ q2.toInt) (ht : t = (0 : Int32) ∨ t = (1 : Int32)) : (own_ap (own_rm (own_rm (own_ap (own_ap (own_ap own_st0 q0 t) q1 t) q2 t) q2) q1) (3 : Int32) t) 0 q2.toNatClampNeg = (-1 : Int32) := by
  have a0 := own_m1 q0 h0.1
  have a1 := own_m1 q1 h1.1
  have a2 := own_m1 q2 h2.1
  have a3 : ¬ (3 : Int32) = (-1 : Int32) := by decide
  have n01 := own_nn q0 q1 h0.1 h1.1 h01
  have n10 : ¬ q1.toNatClampNeg = q0.toNatClampNeg := fun q => n01 (Eq.symm q)
  have n02 := own_nn q0 q2 h0.1 h2.1 h02
  have n20 : ¬ q2.toNatClampNeg = q0.toNatClampNeg := fun q => n02 (Eq.symm q)
  have n12 := own_nn q1 q2 h1.1 h2.1 h12
  have n21 : ¬ q2.toNatClampNeg = q1.toNatClampNeg := fun q => n12 (Eq.symm q)
  have m0 : ¬ q0.toNatClampNeg = 3 := own_nn q0 3 h0.1 (by decide) (by simp only [Int32.reduceToInt]; omega)
  have k0 : ¬ 3 = q0.toNatClampNeg := fun q => m0 (Eq.symm q)
  have m1 : ¬ q1.toNatClampNeg = 3 := own_nn q1 3 h1.1 (by decide) (by simp only [Int32.reduceToInt]; omega)
  have k1 : ¬ 3 = q1.toNatClampNeg := fun q => m1 (Eq.symm q)
  have m2 : ¬ q2.toNatClampNeg = 3 := own_nn q2 3 h2.1 (by decide) (by simp only [Int32.reduceToInt]; omega)
  have k2 : ¬ 3 = q2.toNatClampNeg := fun q => m2 (Eq.symm q)
  rcases ht with rfl | rfl <;>
  first | (simp [own_c0, own_c1, own_c3, own_ap0, own_ap1, own_ap2, own_ap3, own_ap4, own_ap5, own_rmA0, own_rmA1, own_rmA2, own_rmA3, own_rmA4, own_rmA5, own_s0, a0, a1, a2, a3, n01, n10, n02, n20, n12, n21, m0, m1, m2, k0, k1, k2]; done) | (simp [own_c0, own_c1, own_c3, own_ap0, own_ap1, own_ap2, own_ap3, own_ap4, own_ap5, own_rmA0, own_rmA1, own_rmA2, own_rmA3, own_rmA4, own_rmA5, own_s0, a0, a1, a2, a3, n01, n10, n02, n20, n12, n21, m0, m1, m2, k0, k1, k2]; decide) | (simp [own_c0, own_c1, own_c3, own_ap0, own_ap1, own_ap2, own_ap3, own_ap4, own_ap5, own_rmA0, own_rmA1, own_rmA2, own_rmA3, own_rmA4, own_rmA5, own_s0, a0, a1, a2, a3, n01, n10, n02, n20, n12, n21, m0, m1, m2, k0, k1, k2]; omega)
theorem own_l112 (q0 q1 q2 t : Int32) (h0 : 0 ≤ q0.toInt ∧ q0.toInt < 3) (h1 : 0 ≤ q1.toInt ∧ q1.toInt < 3) (h2 : 0 ≤ q2.toInt ∧ q2.toInt < 3) (h01 : q0.toInt ≠ q1.toInt) (h02 : q0.toInt ≠ q2.toInt) (h12 : q1.toInt ≠ q2.toInt) (ht : t = (0 : Int32) ∨ t = (1 : Int32)) : (own_ap (own_rm (own_rm (own_ap (own_ap (own_ap own_st0 q0 t) q1 t) q2 t) q2) q1) (3 : Int32) t) 5 t.toNatClampNeg = ((1 : Int32) + (1 : Int32)) := by
  have a0 := own_m1 q0 h0.1
  have a1 := own_m1 q1 h1.1
  have a2 := own_m1 q2 h2.1
  have a3 : ¬ (3 : Int32) = (-1 : Int32) := by decide
  have n01 := own_nn q0 q1 h0.1 h1.1 h01
  have n10 : ¬ q1.toNatClampNeg = q0.toNatClampNeg := fun q => n01 (Eq.symm q)
  have n02 := own_nn q0 q2 h0.1 h2.1 h02
  have n20 : ¬ q2.toNatClampNeg = q0.toNatClampNeg := fun q => n02 (Eq.symm q)
  have n12 := own_nn q1 q2 h1.1 h2.1 h12
  have n21 : ¬ q2.toNatClampNeg = q1.toNatClampNeg := fun q => n12 (Eq.symm q)
  have m0 : ¬ q0.toNatClampNeg = 3 := own_nn q0 3 h0.1 (by decide) (by simp only [Int32.reduceToInt]; omega)
  have k0 : ¬ 3 = q0.toNatClampNeg := fun q => m0 (Eq.symm q)
  have m1 : ¬ q1.toNatClampNeg = 3 := own_nn q1 3 h1.1 (by decide) (by simp only [Int32.reduceToInt]; omega)
  have k1 : ¬ 3 = q1.toNatClampNeg := fun q => m1 (Eq.symm q)
  have m2 : ¬ q2.toNatClampNeg = 3 := own_nn q2 3 h2.1 (by decide) (by simp only [Int32.reduceToInt]; omega)
  have k2 : ¬ 3 = q2.toNatClampNeg := fun q => m2 (Eq.symm q)
  rcases ht with rfl | rfl <;>
  first | (simp [own_c0, own_c1, own_c3, own_ap0, own_ap1, own_ap2, own_ap3, own_ap4, own_ap5, own_rmA0, own_rmA1, own_rmA2, own_rmA3, own_rmA4, own_rmA5, own_s0, a0, a1, a2, a3, n01, n10, n02, n20, n12, n21, m0, m1, m2, k0, k1, k2]; done) | (simp [own_c0, own_c1, own_c3, own_ap0, own_ap1, own_ap2, own_ap3, own_ap4, own_ap5, own_rmA0, own_rmA1, own_rmA2, own_rmA3, own_rmA4, own_rmA5, own_s0, a0, a1, a2, a3, n01, n10, n02, n20, n12, n21, m0, m1, m2, k0, k1, k2]; decide) | (simp [own_c0, own_c1, own_c3, own_ap0, own_ap1, own_ap2, own_ap3, own_ap4, own_ap5, own_rmA0, own_rmA1, own_rmA2, own_rmA3, own_rmA4, own_rmA5, own_s0, a0, a1, a2, a3, n01, n10, n02, n20, n12, n21, m0, m1, m2, k0, k1, k2]; omega)
theorem own_l113 (q0 q1 q2 t : Int32) (h0 : 0 ≤ q0.toInt ∧ q0.toInt < 3) (h1 : 0 ≤ q1.toInt ∧ q1.toInt < 3) (h2 : 0 ≤ q2.toInt ∧ q2.toInt < 3) (h01 : q0.toInt ≠ q1.toInt) (h02 : q0.toInt ≠ q2.toInt) (h12 : q1.toInt ≠ q2.toInt) (ht : t = (0 : Int32) ∨ t = (1 : Int32)) : (own_ap (own_rm (own_rm (own_ap (own_ap (own_ap own_st0 q0 t) q1 t) q2 t) q2) q1) (3 : Int32) t) 3 t.toNatClampNeg = q0 := by
  have a0 := own_m1 q0 h0.1
  have a1 := own_m1 q1 h1.1
  have a2 := own_m1 q2 h2.1
  have a3 : ¬ (3 : Int32) = (-1 : Int32) := by decide
  have n01 := own_nn q0 q1 h0.1 h1.1 h01
  have n10 : ¬ q1.toNatClampNeg = q0.toNatClampNeg := fun q => n01 (Eq.symm q)
  have n02 := own_nn q0 q2 h0.1 h2.1 h02
  have n20 : ¬ q2.toNatClampNeg = q0.toNatClampNeg := fun q => n02 (Eq.symm q)
  have n12 := own_nn q1 q2 h1.1 h2.1 h12
  have n21 : ¬ q2.toNatClampNeg = q1.toNatClampNeg := fun q => n12 (Eq.symm q)
  have m0 : ¬ q0.toNatClampNeg = 3 := own_nn q0 3 h0.1 (by decide) (by simp only [Int32.reduceToInt]; omega)
  have k0 : ¬ 3 = q0.toNatClampNeg := fun q => m0 (Eq.symm q)
  have m1 : ¬ q1.toNatClampNeg = 3 := own_nn q1 3 h1.1 (by decide) (by simp only [Int32.reduceToInt]; omega)
  have k1 : ¬ 3 = q1.toNatClampNeg := fun q => m1 (Eq.symm q)
  have m2 : ¬ q2.toNatClampNeg = 3 := own_nn q2 3 h2.1 (by decide) (by simp only [Int32.reduceToInt]; omega)
  have k2 : ¬ 3 = q2.toNatClampNeg := fun q => m2 (Eq.symm q)
  rcases ht with rfl | rfl <;>
  first | (simp [own_c0, own_c1, own_c3, own_ap0, own_ap1, own_ap2, own_ap3, own_ap4, own_ap5, own_rmA0, own_rmA1, own_rmA2, own_rmA3, own_rmA4, own_rmA5, own_s0, a0, a1, a2, a3, n01, n10, n02, n20, n12, n21, m0, m1, m2, k0, k1, k2]; done) | (simp [own_c0, own_c1, own_c3, own_ap0, own_ap1, own_ap2, own_ap3, own_ap4, own_ap5, own_rmA0, own_rmA1, own_rmA2, own_rmA3, own_rmA4, own_rmA5, own_s0, a0, a1, a2, a3, n01, n10, n02, n20, n12, n21, m0, m1, m2, k0, k1, k2]; decide) | (simp [own_c0, own_c1, own_c3, own_ap0, own_ap1, own_ap2, own_ap3, own_ap4, own_ap5, own_rmA0, own_rmA1, own_rmA2, own_rmA3, own_rmA4, own_rmA5, own_s0, a0, a1, a2, a3, n01, n10, n02, n20, n12, n21, m0, m1, m2, k0, k1, k2]; omega)
theorem own_l114 (q0 q1 q2 t : Int32) (h0 : 0 ≤ q0.toInt ∧ q0.toInt < 3) (h1 : 0 ≤ q1.toInt ∧ q1.toInt < 3) (h2 : 0 ≤ q2.toInt ∧ q2.toInt < 3) (h01 : q0.toInt ≠ q1.toInt) (h02 : q0.toInt ≠ q2.toInt) (h12 : q1.toInt ≠ q2.toInt) (ht : t = (0 : Int32) ∨ t = (1 : Int32)) : (own_ap (own_rm (own_rm (own_ap (own_ap (own_ap own_st0 q0 t) q1 t) q2 t) q2) q1) (3 : Int32) t) 2 q0.toNatClampNeg = (3 : Int32) := by
  have a0 := own_m1 q0 h0.1
  have a1 := own_m1 q1 h1.1
  have a2 := own_m1 q2 h2.1
  have a3 : ¬ (3 : Int32) = (-1 : Int32) := by decide
  have n01 := own_nn q0 q1 h0.1 h1.1 h01
  have n10 : ¬ q1.toNatClampNeg = q0.toNatClampNeg := fun q => n01 (Eq.symm q)
  have n02 := own_nn q0 q2 h0.1 h2.1 h02
  have n20 : ¬ q2.toNatClampNeg = q0.toNatClampNeg := fun q => n02 (Eq.symm q)
  have n12 := own_nn q1 q2 h1.1 h2.1 h12
  have n21 : ¬ q2.toNatClampNeg = q1.toNatClampNeg := fun q => n12 (Eq.symm q)
  have m0 : ¬ q0.toNatClampNeg = 3 := own_nn q0 3 h0.1 (by decide) (by simp only [Int32.reduceToInt]; omega)
  have k0 : ¬ 3 = q0.toNatClampNeg := fun q => m0 (Eq.symm q)
  have m1 : ¬ q1.toNatClampNeg = 3 := own_nn q1 3 h1.1 (by decide) (by simp only [Int32.reduceToInt]; omega)
  have k1 : ¬ 3 = q1.toNatClampNeg := fun q => m1 (Eq.symm q)
  have m2 : ¬ q2.toNatClampNeg = 3 := own_nn q2 3 h2.1 (by decide) (by simp only [Int32.reduceToInt]; omega)
  have k2 : ¬ 3 = q2.toNatClampNeg := fun q => m2 (Eq.symm q)
  rcases ht with rfl | rfl <;>
  first | (simp [own_c0, own_c1, own_c3, own_ap0, own_ap1, own_ap2, own_ap3, own_ap4, own_ap5, own_rmA0, own_rmA1, own_rmA2, own_rmA3, own_rmA4, own_rmA5, own_s0, a0, a1, a2, a3, n01, n10, n02, n20, n12, n21, m0, m1, m2, k0, k1, k2]; done) | (simp [own_c0, own_c1, own_c3, own_ap0, own_ap1, own_ap2, own_ap3, own_ap4, own_ap5, own_rmA0, own_rmA1, own_rmA2, own_rmA3, own_rmA4, own_rmA5, own_s0, a0, a1, a2, a3, n01, n10, n02, n20, n12, n21, m0, m1, m2, k0, k1, k2]; decide) | (simp [own_c0, own_c1, own_c3, own_ap0, own_ap1, own_ap2, own_ap3, own_ap4, own_ap5, own_rmA0, own_rmA1, own_rmA2, own_rmA3, own_rmA4, own_rmA5, own_s0, a0, a1, a2, a3, n01, n10, n02, n20, n12, n21, m0, m1, m2, k0, k1, k2]; omega)
theorem pn_2 : plainName "com/example/tierstone/tierstone/PageListsRemovePinLaw" = true := by first | (simp [plainName, overriddenIn]; done) | decide +kernel
theorem ef_0 (m : MethodId) (x0 : Int32) (x1 : Int32) (x2 : Int32) (x3 : Int32) (x4 : Int32) : entryFrame m #[(.int x0), (.int x1), (.int x2), (.int x3), (.int x4)] maxLocals = mkF m 0 #[.val (.int x0), .val (.int x1), .val (.int x2), .val (.int x3), .val (.int x4), .unset, .unset, .unset, .unset, .unset, .unset, .unset, .unset, .unset] [] := by first | (simp [entryFrame, mkF, argsToLocals, Value.category, maxLocals]; done) | rfl
set_option maxRecDepth 65536 in
set_option maxHeartbeats 40000000 in
theorem rm0 (l : Launch) (Z : State) (a0 : Array Value) (hw : ∀ d ∈ tables_1, d.before a0 Z = true) (ws : List Jvm.Cond) (x0 : Int32) (x1 : Int32) (x2 : Int32) (x3 : Int32) (x4 : Int32) (h0 : Heap) (n0 : Nat) (Z0 : n0 ≤ h0.size) :
    MetFree l x (head1 (Jvm.Cond.code x code maxLocals ret :: ws) room_1) (fun a U => a = #[(.int x0), (.int x1), (.int x2), (.int x3), (.int x4)] ∧ Z.Warmed39 U.vm ∧ U.heap = h0) (fun _ _ _ _ _ => True) (fun _ U o U' => ∃ v L, o = .returned v ∧ (own_Q0 n0) v U'.heap L ∧ FrameEnd U o U' L room_1.cells room_1.slots) := by
  refine own_body (own := "com/example/tierstone/tierstone/PageListsRemovePinLaw") pn_2 rfl (fun m => ef_0 m x0 x1 x2 x3 x4) ?_
  intro p e s m below meth c T0 hx hby hml hown hnm hlk hret hZ X0 e0
  have w_0 := hw _ (List.mem_of_getElem? (i := 0) rfl)
  have w_1 := hw _ (List.mem_of_getElem? (i := 1) rfl)
  have w_2 := hw _ (List.mem_of_getElem? (i := 2) rfl)
  have w_3 := hw _ (List.mem_of_getElem? (i := 3) rfl)
  have w_4 := hw _ (List.mem_of_getElem? (i := 4) rfl)
  have w_5 := hw _ (List.mem_of_getElem? (i := 5) rfl)
  have w_6 := hw _ (List.mem_of_getElem? (i := 6) rfl)
  have w_7 := hw _ (List.mem_of_getElem? (i := 7) rfl)
  have w_8 := hw _ (List.mem_of_getElem? (i := 8) rfl)
  have w_14 := hw _ (List.mem_of_getElem? (i := 14) rfl)
  have w_20 := hw _ (List.mem_of_getElem? (i := 20) rfl)
  have w_22 := hw _ (List.mem_of_getElem? (i := 22) rfl)
  have w_24 := hw _ (List.mem_of_getElem? (i := 24) rfl)
  have w_26 := hw _ (List.mem_of_getElem? (i := 26) rfl)
  have w_31 := hw _ (List.mem_of_getElem? (i := 31) rfl)
  have w_32 := hw _ (List.mem_of_getElem? (i := 32) rfl)
  have w_33 := hw _ (List.mem_of_getElem? (i := 33) rfl)
  have w_34 := hw _ (List.mem_of_getElem? (i := 34) rfl)
  have w_35 := hw _ (List.mem_of_getElem? (i := 35) rfl)
  have w_36 := hw _ (List.mem_of_getElem? (i := 36) rfl)
  have w_37 := hw _ (List.mem_of_getElem? (i := 37) rfl)
  have w_38 := hw _ (List.mem_of_getElem? (i := 38) rfl)
  have w_39 := hw _ (List.mem_of_getElem? (i := 39) rfl)
  have w_40 := hw _ (List.mem_of_getElem? (i := 40) rfl)
  have w_41 := hw _ (List.mem_of_getElem? (i := 41) rfl)
  have w_42 := hw _ (List.mem_of_getElem? (i := 42) rfl)
  have w_43 := hw _ (List.mem_of_getElem? (i := 43) rfl)
  have w_44 := hw _ (List.mem_of_getElem? (i := 44) rfl)
  have w_45 := hw _ (List.mem_of_getElem? (i := 45) rfl)
  have w_46 := hw _ (List.mem_of_getElem? (i := 46) rfl)
  have w_47 := hw _ (List.mem_of_getElem? (i := 47) rfl)
  have w_48 := hw _ (List.mem_of_getElem? (i := 48) rfl)
  have w_49 := hw _ (List.mem_of_getElem? (i := 49) rfl)
  have w_50 := hw _ (List.mem_of_getElem? (i := 50) rfl)
  have w_51 := hw _ (List.mem_of_getElem? (i := 51) rfl)
  have w_52 := hw _ (List.mem_of_getElem? (i := 52) rfl)
  have w_53 := hw _ (List.mem_of_getElem? (i := 53) rfl)
  have w_54 := hw _ (List.mem_of_getElem? (i := 54) rfl)
  have w_55 := hw _ (List.mem_of_getElem? (i := 55) rfl)
  have w_56 := hw _ (List.mem_of_getElem? (i := 56) rfl)
  have w_57 := hw _ (List.mem_of_getElem? (i := 57) rfl)
  have w_58 := hw _ (List.mem_of_getElem? (i := 58) rfl)
  have w_59 := hw _ (List.mem_of_getElem? (i := 59) rfl)
  have w_60 := hw _ (List.mem_of_getElem? (i := 60) rfl)
  have w_61 := hw _ (List.mem_of_getElem? (i := 61) rfl)
  have N0 := Fr.nil n0
  refine g_iconst X0.here hx (Jvm.hb hby at_0) (pc' := 1) rfl (z := (1 : Int32)) rfl ?_
  refine g_iloadN X0.here hx (Jvm.hb hby at_1) (pc' := 2) rfl rfl ?_
  refine g_ldc X0 hx hZ hown w_0 (Jvm.hb hby at_2) (pc' := 4) rfl ?_
  refine g_iand X0.here hx (Jvm.hb hby at_4) (pc' := 5) rfl ?_
  refine g_iconst X0.here hx (Jvm.hb hby at_5) (pc' := 6) rfl (z := (3 : Int32)) rfl ?_
  refine g_irem X0 hx (Jvm.hb hby at_6) (pc' := 7) rfl (by decide) ?_
  refine g_iadd X0.here hx (Jvm.hb hby at_7) (pc' := 8) rfl ?_
  refine g_istore X0.here hx (Jvm.hb hby at_8) (pc' := 10) rfl (L' := #[.val (.int x0), .val (.int x1), .val (.int x2), .val (.int x3), .val (.int x4), .val (.int ((1 : Int32) + ((x0 &&& (2147483647 : Int32)) % (3 : Int32)))), .unset, .unset, .unset, .unset, .unset, .unset, .unset, .unset]) rfl ?_
  generalize hnn : ((1 : Int32) + ((x0 &&& (2147483647 : Int32)) % (3 : Int32))) = nn
  have hn : nn = (1 : Int32) ∨ nn = (2 : Int32) ∨ nn = (3 : Int32) := by
    have e := c_mask x0 2147483647 31 (by decide) (by decide)
    have e2 := c_irem (x0 &&& 2147483647) 3 3 (by decide)
    have e3 := c_iadd 1 ((x0 &&& 2147483647) % 3)
    have r := rng32 nn
    simp only [Nat.reducePow, Int32.reduceToInt] at e e3
    rw [hnn] at e3
    simp only [← Int32.toInt_inj, Int32.reduceToInt]
    omega
  clear hnn
  rcases hn with rfl | rfl | rfl
  · refine g_iloadN X0.here hx (Jvm.hb hby at_10) (pc' := 11) rfl rfl ?_
    refine g_ldc X0 hx hZ hown w_0 (Jvm.hb hby at_11) (pc' := 13) rfl ?_
    refine g_iand X0.here hx (Jvm.hb hby at_13) (pc' := 14) rfl ?_
    refine g_iload X0.here hx (Jvm.hb hby at_14) (pc' := 16) rfl rfl ?_
    refine g_irem X0 hx (Jvm.hb hby at_16) (pc' := 17) rfl (by decide) ?_
    refine g_istore X0.here hx (Jvm.hb hby at_17) (pc' := 19) rfl (L' := #[.val (.int x0), .val (.int x1), .val (.int x2), .val (.int x3), .val (.int x4), .val (.int (1 : Int32)), .val (.int ((x1 &&& (2147483647 : Int32)) % (1 : Int32))), .unset, .unset, .unset, .unset, .unset, .unset, .unset]) rfl ?_
    generalize hkk : ((x1 &&& (2147483647 : Int32)) % (1 : Int32)) = kk
    have hk : kk = (0 : Int32) := by
      have e := c_mask x1 2147483647 31 (by decide) (by decide)
      have e2 := c_irem (x1 &&& 2147483647) 1 1 (by decide)
      simp only [Nat.reducePow] at e
      rw [hkk] at e2
      simp only [← Int32.toInt_inj, Int32.reduceToInt]
      omega
    clear hkk
    subst hk
    refine g_iloadN X0.here hx (Jvm.hb hby at_19) (pc' := 20) rfl rfl ?_
    refine g_iconst X0.here hx (Jvm.hb hby at_20) (pc' := 21) rfl (z := (1 : Int32)) rfl ?_
    refine g_iand X0.here hx (Jvm.hb hby at_21) (pc' := 22) rfl ?_
    refine g_istore X0.here hx (Jvm.hb hby at_22) (pc' := 24) rfl (L' := #[.val (.int x0), .val (.int x1), .val (.int x2), .val (.int x3), .val (.int x4), .val (.int (1 : Int32)), .val (.int (0 : Int32)), .val (.int (x2 &&& (1 : Int32))), .unset, .unset, .unset, .unset, .unset, .unset]) rfl ?_
    generalize htt : (x2 &&& (1 : Int32)) = tt
    have ht := and_one x2
    rw [htt] at ht
    have rt := own_rg tt ht
    refine g_iload X0.here hx (Jvm.hb hby at_24) (pc' := 26) rfl rfl ?_
    refine g_ldc X0 hx hZ hown w_0 (Jvm.hb hby at_26) (pc' := 28) rfl ?_
    refine g_iand X0.here hx (Jvm.hb hby at_28) (pc' := 29) rfl ?_
    refine g_iconst X0.here hx (Jvm.hb hby at_29) (pc' := 30) rfl (z := (3 : Int32)) rfl ?_
    refine g_irem X0 hx (Jvm.hb hby at_30) (pc' := 31) rfl (by decide) ?_
    refine g_istore X0.here hx (Jvm.hb hby at_31) (pc' := 33) rfl (L' := #[.val (.int x0), .val (.int x1), .val (.int x2), .val (.int x3), .val (.int x4), .val (.int (1 : Int32)), .val (.int (0 : Int32)), .val (.int tt), .val (.int ((x4 &&& (2147483647 : Int32)) % (3 : Int32))), .unset, .unset, .unset, .unset, .unset]) rfl ?_
    generalize hq0 : ((x4 &&& (2147483647 : Int32)) % (3 : Int32)) = q0
    obtain ⟨q1, hq1⟩ : ∃ z, ((q0 + (1 : Int32)) % (3 : Int32)) = z := ⟨_, rfl⟩
    obtain ⟨q2, hq2⟩ : ∃ z, ((q0 + (2 : Int32)) % (3 : Int32)) = z := ⟨_, rfl⟩
    obtain ⟨h0, h1, h2, h01, h02, h12⟩ := own_pg x4 q0 q0 q1 q2 hq0 hq1 hq2
    refine g_iconst X0.here hx (Jvm.hb hby at_33) (pc' := 34) rfl (z := (3 : Int32)) rfl ?_
    refine g_newarr X0 hx hZ (ty := .int) rfl rfl w_1 e0 (Jvm.hb hby at_34) (pc' := 36) rfl (n := 3) (by decide) 3 (by decide) (by decide) (cells' := 1) (slots' := 3) rfl rfl (by decide) (by decide) ?_
    intro T1 hh1 ad1 gb1 X1 e1 E1 V1
    have g_ad1 : n0 ≤ ad1 := by rw [gb1]; exact Z0
    have Z2 : n0 ≤ hh1.size := Nat.le_trans Z0 E1.1
    refine g_astore X1.here hx (Jvm.hb hby at_36) (pc' := 38) rfl rfl (L' := #[.val (.int x0), .val (.int x1), .val (.int x2), .val (.int x3), .val (.int x4), .val (.int (1 : Int32)), .val (.int (0 : Int32)), .val (.int tt), .val (.int q0), .val (.ref ad1), .unset, .unset, .unset, .unset]) rfl ?_
    refine g_aload X1.here hx (Jvm.hb hby at_38) (pc' := 40) rfl rfl rfl ?_
    refine g_iconst X1.here hx (Jvm.hb hby at_40) (pc' := 41) rfl (z := (0 : Int32)) rfl ?_
    refine g_iload X1.here hx (Jvm.hb hby at_41) (pc' := 43) rfl rfl ?_
    refine g_iastore X1 hx hZ e1 V1 ⟨by decide, by decide⟩ (Jvm.hb hby at_43) (pc' := 44) rfl ?_
    intro T3 hh3 X3 e3 W3 V3
    have N3 := Fr.snoc X3 N0 g_ad1
    have Z4 : n0 ≤ hh3.size := (by rw [W3.size]; exact Z2)
    refine g_aload X3.here hx (Jvm.hb hby at_44) (pc' := 46) rfl rfl rfl ?_
    refine g_iconst X3.here hx (Jvm.hb hby at_46) (pc' := 47) rfl (z := (1 : Int32)) rfl ?_
    refine g_iload X3.here hx (Jvm.hb hby at_47) (pc' := 49) rfl rfl ?_
    refine g_iconst X3.here hx (Jvm.hb hby at_49) (pc' := 50) rfl (z := (1 : Int32)) rfl ?_
    refine g_iadd X3.here hx (Jvm.hb hby at_50) (pc' := 51) rfl ?_
    refine g_iconst X3.here hx (Jvm.hb hby at_51) (pc' := 52) rfl (z := (3 : Int32)) rfl ?_
    refine g_irem X3 hx (Jvm.hb hby at_52) (pc' := 53) rfl (by decide) ?_
    rw [hq1]
    refine g_iastore X3 hx hZ e3 V3 ⟨by decide, by decide⟩ (Jvm.hb hby at_53) (pc' := 54) rfl ?_
    intro T5 hh5 X5 e5 W5 V5
    have N5 := Fr.snoc X5 N3 g_ad1
    have Z6 : n0 ≤ hh5.size := (by rw [W5.size]; exact Z4)
    refine g_aload X5.here hx (Jvm.hb hby at_54) (pc' := 56) rfl rfl rfl ?_
    refine g_iconst X5.here hx (Jvm.hb hby at_56) (pc' := 57) rfl (z := (2 : Int32)) rfl ?_
    refine g_iload X5.here hx (Jvm.hb hby at_57) (pc' := 59) rfl rfl ?_
    refine g_iconst X5.here hx (Jvm.hb hby at_59) (pc' := 60) rfl (z := (2 : Int32)) rfl ?_
    refine g_iadd X5.here hx (Jvm.hb hby at_60) (pc' := 61) rfl ?_
    refine g_iconst X5.here hx (Jvm.hb hby at_61) (pc' := 62) rfl (z := (3 : Int32)) rfl ?_
    refine g_irem X5 hx (Jvm.hb hby at_62) (pc' := 63) rfl (by decide) ?_
    rw [hq2]
    refine g_iastore X5 hx hZ e5 V5 ⟨by decide, by decide⟩ (Jvm.hb hby at_63) (pc' := 64) rfl ?_
    intro T7 hh7 X7 e7 W7 V7
    have N7 := Fr.snoc X7 N5 g_ad1
    have Z8 : n0 ≤ hh7.size := (by rw [W7.size]; exact Z6)
    refine g_iconst X7.here hx (Jvm.hb hby at_64) (pc' := 65) rfl (z := (3 : Int32)) rfl ?_
    refine g_newarr X7 hx hZ (ty := .boolean) rfl rfl w_2 e7 (Jvm.hb hby at_65) (pc' := 67) rfl (n := 3) (by decide) 3 (by decide) (by decide) (cells' := 2) (slots' := 6) rfl rfl (by decide) (by decide) ?_
    intro T9 hh9 ad9 gb9 X9 e9 E9 V9
    have g_ad9 : n0 ≤ ad9 := by rw [gb9]; exact Z8
    have lt_ad1_ad9 : @LT.lt Nat _ ad1 ad9 := by rw [gb9]; exact V7.lt
    have ne_ad1_ad9 : ad1 ≠ ad9 := Nat.ne_of_lt lt_ad1_ad9
    have Z10 : n0 ≤ hh9.size := Nat.le_trans Z8 E9.1
    refine g_astore X9.here hx (Jvm.hb hby at_67) (pc' := 69) rfl rfl (L' := #[.val (.int x0), .val (.int x1), .val (.int x2), .val (.int x3), .val (.int x4), .val (.int (1 : Int32)), .val (.int (0 : Int32)), .val (.int tt), .val (.int q0), .val (.ref ad1), .val (.ref ad9), .unset, .unset, .unset]) rfl ?_
    refine g_aload X9.here hx (Jvm.hb hby at_69) (pc' := 71) rfl rfl rfl ?_
    refine g_iconst X9.here hx (Jvm.hb hby at_71) (pc' := 72) rfl (z := (0 : Int32)) rfl ?_
    refine g_iconst X9.here hx (Jvm.hb hby at_72) (pc' := 73) rfl (z := (1 : Int32)) rfl ?_
    refine g_zastore X9 hx hZ e9 V9 ⟨by decide, by decide⟩ (x' := (1 : Int32)) rfl (Jvm.hb hby at_73) (pc' := 74) rfl ?_
    intro T11 hh11 X11 e11 W11 V11
    have N11 := Fr.snoc X11 N7 g_ad9
    have Z12 : n0 ≤ hh11.size := (by rw [W11.size]; exact Z10)
    refine g_aload X11.here hx (Jvm.hb hby at_74) (pc' := 76) rfl rfl rfl ?_
    refine g_iconst X11.here hx (Jvm.hb hby at_76) (pc' := 77) rfl (z := (1 : Int32)) rfl ?_
    refine g_iload X11.here hx (Jvm.hb hby at_77) (pc' := 79) rfl rfl ?_
    refine g_iconst X11.here hx (Jvm.hb hby at_79) (pc' := 80) rfl (z := (1 : Int32)) rfl ?_
    refine g_icY X11.here hx (Jvm.hb hby at_80) (by decide) (pc' := 87) (by decide) (flt (by decide)).2.2.2 ?_
    refine g_iconst X11.here hx (Jvm.hb hby at_87) (pc' := 88) rfl (z := (0 : Int32)) rfl ?_
    refine g_zastore X11 hx hZ e11 V11 ⟨by decide, by decide⟩ (x' := (0 : Int32)) rfl (Jvm.hb hby at_88) (pc' := 89) rfl ?_
    intro T13 hh13 X13 e13 W13 V13
    have N13 := Fr.snoc X13 N11 g_ad9
    have Z14 : n0 ≤ hh13.size := (by rw [W13.size]; exact Z12)
    refine g_aload X13.here hx (Jvm.hb hby at_89) (pc' := 91) rfl rfl rfl ?_
    refine g_iconst X13.here hx (Jvm.hb hby at_91) (pc' := 92) rfl (z := (2 : Int32)) rfl ?_
    refine g_iload X13.here hx (Jvm.hb hby at_92) (pc' := 94) rfl rfl ?_
    refine g_iconst X13.here hx (Jvm.hb hby at_94) (pc' := 95) rfl (z := (2 : Int32)) rfl ?_
    refine g_icY X13.here hx (Jvm.hb hby at_95) (by decide) (pc' := 102) (by decide) (flt (by decide)).2.2.2 ?_
    refine g_iconst X13.here hx (Jvm.hb hby at_102) (pc' := 103) rfl (z := (0 : Int32)) rfl ?_
    refine g_zastore X13 hx hZ e13 V13 ⟨by decide, by decide⟩ (x' := (0 : Int32)) rfl (Jvm.hb hby at_103) (pc' := 104) rfl ?_
    intro T15 hh15 X15 e15 W15 V15
    have N15 := Fr.snoc X15 N13 g_ad9
    have Z16 : n0 ≤ hh15.size := (by rw [W15.size]; exact Z14)
    have F17 := ((((V7.ext E9).other W11 ne_ad1_ad9).other W13 ne_ad1_ad9).other W15 ne_ad1_ad9)
    refine g_new X15 hx hZ hown w_3 w_4 w_5 e15 (Jvm.hb hby at_104) (pc' := 107) rfl (cells' := 3) (slots' := 12) rfl rfl (by decide) (by decide) ?_
    intro T18 hh18 ad18 gb18 X18 e18 E18 A18 D18
    have g_ad18 : n0 ≤ ad18 := by rw [gb18]; exact Z16
    have lt_ad1_ad18 : @LT.lt Nat _ ad1 ad18 := by rw [gb18]; exact F17.lt
    have ne_ad1_ad18 : ad1 ≠ ad18 := Nat.ne_of_lt lt_ad1_ad18
    have lt_ad9_ad18 : @LT.lt Nat _ ad9 ad18 := by rw [gb18]; exact V15.lt
    have ne_ad9_ad18 : ad9 ≠ ad18 := Nat.ne_of_lt lt_ad9_ad18
    have Z19 : n0 ≤ hh18.size := Nat.le_trans Z16 E18.1
    have F18_list : Fld Z hh18 ad18 "com/example/tierstone/tierstone/PageLists" "list" "[B" .null := D18 (Or.inr w_14) (ty := (.array .byte)) (by decide)
    have F18_older : Fld Z hh18 ad18 "com/example/tierstone/tierstone/PageLists" "older" "[I" .null := D18 (Or.inr w_20) (ty := (.array .int)) (by decide)
    have F18_newer : Fld Z hh18 ad18 "com/example/tierstone/tierstone/PageLists" "newer" "[I" .null := D18 (Or.inr w_22) (ty := (.array .int)) (by decide)
    have F18_oldest : Fld Z hh18 ad18 "com/example/tierstone/tierstone/PageLists" "oldest" "[I" .null := D18 (Or.inr w_24) (ty := (.array .int)) (by decide)
    have F18_newest : Fld Z hh18 ad18 "com/example/tierstone/tierstone/PageLists" "newest" "[I" .null := D18 (Or.inr w_26) (ty := (.array .int)) (by decide)
    have F18_length : Fld Z hh18 ad18 "com/example/tierstone/tierstone/PageLists" "length" "[I" .null := D18 (Or.inr w_31) (ty := (.array .int)) (by decide)
    refine g_dup X18.here hx (Jvm.hb hby at_107) (pc' := 108) rfl rfl ?_
    refine g_iconst X18.here hx (Jvm.hb hby at_108) (pc' := 109) rfl (z := (2 : Int32)) rfl ?_
    refine g_iconst X18.here hx (Jvm.hb hby at_109) (pc' := 110) rfl (z := (4 : Int32)) rfl ?_
    have F20 := (F17.ext E18)
    have F21 := (V15.ext E18)
    refine g_callI X18 hx hZ rfl hown w_6 w_7 w_5 w_8 (by decide) (rm1 l Z a0 hw [] ad18 (2 : Int32) (4 : Int32) hh18 n0 Z19 g_ad18 A18 F18_list F18_older F18_newer F18_oldest F18_newest F18_length (by decide) (by decide)) 1 (by decide) (by decide) e18 (by rw [hml]; rfl) [(.int (2 : Int32)), (.int (4 : Int32))] [(.ref ad18)] (lenOf pd_2 rfl) rfl rfl (Nat.le_of_eq rfl) (Jvm.hb hby at_110) (pc' := 113) rfl (cells' := 9) (slots' := 30) rfl rfl (by decide) (by decide) ?_
    intro v22 T22 L22 X22 hQ22
    obtain ⟨rfl, Nq22, K22, r0, r1, r2, r3, r4, r5, hord, PL22⟩ := hQ22
    have N22 := Fr.app N15 Nq22
    have Z23 : n0 ≤ T22.heap.size := Nat.le_trans Z19 K22.1
    obtain ⟨o1, o2, o3, o4, o5, o6⟩ := id hord
    show own_Gl p e below s (own_Q0 n0) room_1.cells room_1.slots (T22.setTop (mkF m 113 #[.val (.int x0), .val (.int x1), .val (.int x2), .val (.int x3), .val (.int x4), .val (.int (1 : Int32)), .val (.int (0 : Int32)), .val (.int tt), .val (.int q0), .val (.ref ad1), .val (.ref ad9), .unset, .unset, .unset] [(.ref ad18)]))
    refine g_astore X22.here hx (Jvm.hb hby at_113) (pc' := 115) rfl rfl (L' := #[.val (.int x0), .val (.int x1), .val (.int x2), .val (.int x3), .val (.int x4), .val (.int (1 : Int32)), .val (.int (0 : Int32)), .val (.int tt), .val (.int q0), .val (.ref ad1), .val (.ref ad9), .val (.ref ad18), .unset, .unset]) rfl ?_
    refine g_aload X22.here hx (Jvm.hb hby at_115) (pc' := 117) rfl rfl rfl ?_
    refine g_aload X22.here hx (Jvm.hb hby at_117) (pc' := 119) rfl rfl rfl ?_
    refine g_iconst X22.here hx (Jvm.hb hby at_119) (pc' := 120) rfl (z := (0 : Int32)) rfl ?_
    have F24 := (F20.keep K22 (ninS ne_ad1_ad18 nin0))
    refine g_iaload X22 hx hZ rfl F24 ⟨by decide, by decide⟩ (v := q0) rfl (Jvm.hb hby at_120) (pc' := 121) rfl ?_
    refine g_iload X22.here hx (Jvm.hb hby at_121) (pc' := 123) rfl rfl ?_
    refine g_callV X22 hx hZ hown w_32 w_33 (own_nf hZ w_35) w_35 w_34 w_5 w_36 (by decide) (rm5 l Z a0 hw [] ad18 r0 r1 r2 r3 r4 r5 q0 tt own_st0 T22.heap n0 Z23 g_ad18 hord PL22 ⟨h0.1, by omega⟩ rt (own_l0 q0 q1 q2 tt h0 h1 h2 h01 h02 h12 ht)) 0 (by decide) (by decide) rfl PL22.1.1 (by rw [hml]; rfl) [(.int q0), (.int tt)] [] (lenOf pd_2 rfl) rfl rfl (Nat.le_of_eq rfl) (Jvm.hb hby at_123) (pc' := 126) rfl (cells' := 9) (slots' := 30) rfl rfl (by decide) (by decide) ?_
    intro v25 T25 L25 X25 hQ25
    obtain ⟨rfl, Nq25, K25, PL25⟩ := hQ25
    have N25 := Fr.app N22 Nq25
    have Z26 : n0 ≤ T25.heap.size := Nat.le_trans Z23 K25.1
    show own_Gl p e below s (own_Q0 n0) room_1.cells room_1.slots (T25.setTop (mkF m 126 #[.val (.int x0), .val (.int x1), .val (.int x2), .val (.int x3), .val (.int x4), .val (.int (1 : Int32)), .val (.int (0 : Int32)), .val (.int tt), .val (.int q0), .val (.ref ad1), .val (.ref ad9), .val (.ref ad18), .unset, .unset] []))
    refine g_iload X25.here hx (Jvm.hb hby at_126) (pc' := 128) rfl rfl ?_
    refine g_iconst X25.here hx (Jvm.hb hby at_128) (pc' := 129) rfl (z := (1 : Int32)) rfl ?_
    refine g_icY X25.here hx (Jvm.hb hby at_129) (by decide) (pc' := 143) (by decide) (flt (by decide)).2.2.2 ?_
    refine g_iload X25.here hx (Jvm.hb hby at_143) (pc' := 145) rfl rfl ?_
    refine g_iconst X25.here hx (Jvm.hb hby at_145) (pc' := 146) rfl (z := (2 : Int32)) rfl ?_
    refine g_icY X25.here hx (Jvm.hb hby at_146) (by decide) (pc' := 160) (by decide) (flt (by decide)).2.2.2 ?_
    refine g_aload X25.here hx (Jvm.hb hby at_160) (pc' := 162) rfl rfl rfl ?_
    refine g_aload X25.here hx (Jvm.hb hby at_162) (pc' := 164) rfl rfl rfl ?_
    refine g_iload X25.here hx (Jvm.hb hby at_164) (pc' := 166) rfl rfl ?_
    have F27 := (F24.keep K25 (ninS (Nat.ne_of_lt (by omega)) (ninS (Nat.ne_of_lt (by omega)) (ninS (Nat.ne_of_lt (by omega)) (ninS (Nat.ne_of_lt (by omega)) (ninS (Nat.ne_of_lt (by omega)) (ninS (Nat.ne_of_lt (by omega)) nin0)))))))
    refine g_iaload X25 hx hZ rfl F27 ⟨by decide, by decide⟩ (v := q0) rfl (Jvm.hb hby at_166) (pc' := 167) rfl ?_
    refine g_callV X25 hx hZ hown w_37 w_38 (own_nf hZ w_40) w_40 w_39 w_5 w_41 (by decide) (rm6 l Z a0 hw [] ad18 r0 r1 r2 r3 r4 r5 q0 (own_ap own_st0 q0 tt) T25.heap n0 Z26 g_ad18 hord PL25 ⟨h0.1, by omega⟩ (own_l1 q0 q1 q2 tt h0 h1 h2 h01 h02 h12 ht) (own_l2 q0 q1 q2 tt h0 h1 h2 h01 h02 h12 ht) (own_l3 q0 q1 q2 tt h0 h1 h2 h01 h02 h12 ht)) 0 (by decide) (by decide) rfl PL25.1.1 (by rw [hml]; rfl) [(.int q0)] [] (lenOf pd_3 rfl) rfl rfl (Nat.le_of_eq rfl) (Jvm.hb hby at_167) (pc' := 170) rfl (cells' := 9) (slots' := 30) rfl rfl (by decide) (by decide) ?_
    intro v28 T28 L28 X28 hQ28
    obtain ⟨rfl, Nq28, K28, PL28⟩ := hQ28
    have N28 := Fr.app N25 Nq28
    have Z29 : n0 ≤ T28.heap.size := Nat.le_trans Z26 K28.1
    show own_Gl p e below s (own_Q0 n0) room_1.cells room_1.slots (T28.setTop (mkF m 170 #[.val (.int x0), .val (.int x1), .val (.int x2), .val (.int x3), .val (.int x4), .val (.int (1 : Int32)), .val (.int (0 : Int32)), .val (.int tt), .val (.int q0), .val (.ref ad1), .val (.ref ad9), .val (.ref ad18), .unset, .unset] []))
    refine g_aload X28.here hx (Jvm.hb hby at_170) (pc' := 172) rfl rfl rfl ?_
    refine g_iload X28.here hx (Jvm.hb hby at_172) (pc' := 174) rfl rfl ?_
    refine g_iconst X28.here hx (Jvm.hb hby at_174) (pc' := 175) rfl (z := (0 : Int32)) rfl ?_
    have F30 := (((F21.keep K22 (ninS ne_ad9_ad18 nin0)).keep K25 (ninS (Nat.ne_of_lt (by omega)) (ninS (Nat.ne_of_lt (by omega)) (ninS (Nat.ne_of_lt (by omega)) (ninS (Nat.ne_of_lt (by omega)) (ninS (Nat.ne_of_lt (by omega)) (ninS (Nat.ne_of_lt (by omega)) nin0))))))).keep K28 (ninS (Nat.ne_of_lt (by omega)) (ninS (Nat.ne_of_lt (by omega)) (ninS (Nat.ne_of_lt (by omega)) (ninS (Nat.ne_of_lt (by omega)) (ninS (Nat.ne_of_lt (by omega)) (ninS (Nat.ne_of_lt (by omega)) nin0)))))))
    refine g_zastore X28 hx hZ rfl F30 ⟨by decide, by decide⟩ (x' := (0 : Int32)) rfl (Jvm.hb hby at_175) (pc' := 176) rfl ?_
    intro T31 hh31 X31 e31 W31 V31
    have N31 := Fr.snoc X31 N28 g_ad9
    have Z32 : n0 ≤ hh31.size := (by rw [W31.size]; exact Z29)
    refine g_iloadN X31.here hx (Jvm.hb hby at_176) (pc' := 177) rfl rfl ?_
    refine g_iconst X31.here hx (Jvm.hb hby at_177) (pc' := 178) rfl (z := (1 : Int32)) rfl ?_
    refine g_iand X31.here hx (Jvm.hb hby at_178) (pc' := 179) rfl ?_
    by_cases hc179 : (x3 &&& (1 : Int32)) = (0 : Int32)
    · refine g_ifY X31.here hx (Jvm.hb hby at_179) (by decide) (pc' := 222) (by decide) ((if0 _ _).trans (teq hc179).1) ?_
      refine g_aload X31.here hx (Jvm.hb hby at_222) (pc' := 224) rfl rfl rfl ?_
      refine g_iconst X31.here hx (Jvm.hb hby at_224) (pc' := 225) rfl (z := (3 : Int32)) rfl ?_
      refine g_iload X31.here hx (Jvm.hb hby at_225) (pc' := 227) rfl rfl ?_
      have PLx33 := (own_PL.other PL28 W31 hord (by omega))
      refine g_callV X31 hx hZ hown w_32 w_33 (own_nf hZ w_35) w_35 w_34 w_5 w_36 (by decide) (rm5 l Z a0 hw [] ad18 r0 r1 r2 r3 r4 r5 (3 : Int32) tt (own_rm (own_ap own_st0 q0 tt) q0) hh31 n0 Z32 g_ad18 hord PLx33 ⟨by decide, by decide⟩ rt (own_l4 q0 q1 q2 tt h0 h1 h2 h01 h02 h12 ht)) 0 (by decide) (by decide) e31 PLx33.1.1 (by rw [hml]; rfl) [(.int (3 : Int32)), (.int tt)] [] (lenOf pd_2 rfl) rfl rfl (Nat.le_of_eq rfl) (Jvm.hb hby at_227) (pc' := 230) rfl (cells' := 9) (slots' := 30) rfl rfl (by decide) (by decide) ?_
      intro v34 T34 L34 X34 hQ34
      obtain ⟨rfl, Nq34, K34, PL34⟩ := hQ34
      have N34 := Fr.app N31 Nq34
      have Z35 : n0 ≤ T34.heap.size := Nat.le_trans Z32 K34.1
      show own_Gl p e below s (own_Q0 n0) room_1.cells room_1.slots (T34.setTop (mkF m 230 #[.val (.int x0), .val (.int x1), .val (.int x2), .val (.int x3), .val (.int x4), .val (.int (1 : Int32)), .val (.int (0 : Int32)), .val (.int tt), .val (.int q0), .val (.ref ad1), .val (.ref ad9), .val (.ref ad18), .unset, .unset] []))
      refine g_iconst X34.here hx (Jvm.hb hby at_230) (pc' := 231) rfl (z := (3 : Int32)) rfl ?_
      have F36 := (((F27.keep K28 (ninS (Nat.ne_of_lt (by omega)) (ninS (Nat.ne_of_lt (by omega)) (ninS (Nat.ne_of_lt (by omega)) (ninS (Nat.ne_of_lt (by omega)) (ninS (Nat.ne_of_lt (by omega)) (ninS (Nat.ne_of_lt (by omega)) nin0))))))).other W31 ne_ad1_ad9).keep K34 (ninS (Nat.ne_of_lt (by omega)) (ninS (Nat.ne_of_lt (by omega)) (ninS (Nat.ne_of_lt (by omega)) (ninS (Nat.ne_of_lt (by omega)) (ninS (Nat.ne_of_lt (by omega)) (ninS (Nat.ne_of_lt (by omega)) nin0)))))))
      have F37 := (V31.keep K34 (ninS (Nat.ne_of_lt (by omega)) (ninS (Nat.ne_of_lt (by omega)) (ninS (Nat.ne_of_lt (by omega)) (ninS (Nat.ne_of_lt (by omega)) (ninS (Nat.ne_of_lt (by omega)) (ninS (Nat.ne_of_lt (by omega)) nin0)))))))
      refine g_newarr X34 hx hZ (ty := .int) rfl rfl w_1 rfl (Jvm.hb hby at_231) (pc' := 233) rfl (n := 3) (by decide) 3 (by decide) (by decide) (cells' := 10) (slots' := 33) rfl rfl (by decide) (by decide) ?_
      intro T38 hh38 ad38 gb38 X38 e38 E38 V38
      have g_ad38 : n0 ≤ ad38 := by rw [gb38]; exact Z35
      have lt_ad1_ad38 : @LT.lt Nat _ ad1 ad38 := by rw [gb38]; exact F36.lt
      have ne_ad1_ad38 : ad1 ≠ ad38 := Nat.ne_of_lt lt_ad1_ad38
      have lt_ad9_ad38 : @LT.lt Nat _ ad9 ad38 := by rw [gb38]; exact F37.lt
      have ne_ad9_ad38 : ad9 ≠ ad38 := Nat.ne_of_lt lt_ad9_ad38
      have lt_ad18_ad38 : @LT.lt Nat _ ad18 ad38 := by rw [gb38]; exact PL34.1.1.lt
      have ne_ad18_ad38 : ad18 ≠ ad38 := Nat.ne_of_lt lt_ad18_ad38
      have Z39 : n0 ≤ hh38.size := Nat.le_trans Z35 E38.1
      have lt5 : @LT.lt Nat _ r5 ad38 := by rw [gb38]; exact own_PL.lt5 PL34
      refine g_astore X38.here hx (Jvm.hb hby at_233) (pc' := 235) rfl rfl (L' := #[.val (.int x0), .val (.int x1), .val (.int x2), .val (.int x3), .val (.int x4), .val (.int (1 : Int32)), .val (.int (0 : Int32)), .val (.int tt), .val (.int q0), .val (.ref ad1), .val (.ref ad9), .val (.ref ad18), .val (.ref ad38), .unset]) rfl ?_
      refine g_aload X38.here hx (Jvm.hb hby at_235) (pc' := 237) rfl rfl rfl ?_
      refine g_iconst X38.here hx (Jvm.hb hby at_237) (pc' := 238) rfl (z := (0 : Int32)) rfl ?_
      refine g_iconst X38.here hx (Jvm.hb hby at_238) (pc' := 239) rfl (z := (-1 : Int32)) rfl ?_
      refine g_iastore X38 hx hZ e38 V38 ⟨by decide, by decide⟩ (Jvm.hb hby at_239) (pc' := 240) rfl ?_
      intro T40 hh40 X40 e40 W40 V40
      have N40 := Fr.snoc X40 N34 g_ad38
      have Z41 : n0 ≤ hh40.size := (by rw [W40.size]; exact Z39)
      refine g_aload X40.here hx (Jvm.hb hby at_240) (pc' := 242) rfl rfl rfl ?_
      refine g_iconst X40.here hx (Jvm.hb hby at_242) (pc' := 243) rfl (z := (1 : Int32)) rfl ?_
      refine g_iconst X40.here hx (Jvm.hb hby at_243) (pc' := 244) rfl (z := (-1 : Int32)) rfl ?_
      refine g_iastore X40 hx hZ e40 V40 ⟨by decide, by decide⟩ (Jvm.hb hby at_244) (pc' := 245) rfl ?_
      intro T42 hh42 X42 e42 W42 V42
      have N42 := Fr.snoc X42 N40 g_ad38
      have Z43 : n0 ≤ hh42.size := (by rw [W42.size]; exact Z41)
      refine g_aload X42.here hx (Jvm.hb hby at_245) (pc' := 247) rfl rfl rfl ?_
      refine g_iconst X42.here hx (Jvm.hb hby at_247) (pc' := 248) rfl (z := (2 : Int32)) rfl ?_
      refine g_iconst X42.here hx (Jvm.hb hby at_248) (pc' := 249) rfl (z := (-1 : Int32)) rfl ?_
      refine g_iastore X42 hx hZ e42 V42 ⟨by decide, by decide⟩ (Jvm.hb hby at_249) (pc' := 250) rfl ?_
      intro T44 hh44 X44 e44 W44 V44
      have N44 := Fr.snoc X44 N42 g_ad38
      have Z45 : n0 ≤ hh44.size := (by rw [W44.size]; exact Z43)
      refine g_iconst X44.here hx (Jvm.hb hby at_250) (pc' := 251) rfl (z := (0 : Int32)) rfl ?_
      refine g_istore X44.here hx (Jvm.hb hby at_251) (pc' := 253) rfl (L' := #[.val (.int x0), .val (.int x1), .val (.int x2), .val (.int x3), .val (.int x4), .val (.int (1 : Int32)), .val (.int (0 : Int32)), .val (.int tt), .val (.int q0), .val (.ref ad1), .val (.ref ad9), .val (.ref ad18), .val (.ref ad38), .val (.int (0 : Int32))]) rfl ?_
      refine g_aload X44.here hx (Jvm.hb hby at_253) (pc' := 255) rfl rfl rfl ?_
      refine g_iconst X44.here hx (Jvm.hb hby at_255) (pc' := 256) rfl (z := (0 : Int32)) rfl ?_
      have F46 := ((((F37.ext E38).other W40 ne_ad9_ad38).other W42 ne_ad9_ad38).other W44 ne_ad9_ad38)
      refine g_zaload X44 hx hZ e44 F46 ⟨by decide, by decide⟩ (v := (0 : Int32)) rfl (Jvm.hb hby at_256) (pc' := 257) rfl ?_
      refine g_ifY X44.here hx (Jvm.hb hby at_257) (by decide) (pc' := 272) (by decide) ((if0 _ _).trans (teq (by decide)).1) ?_
      refine g_aload X44.here hx (Jvm.hb hby at_272) (pc' := 274) rfl rfl rfl ?_
      refine g_iconst X44.here hx (Jvm.hb hby at_274) (pc' := 275) rfl (z := (1 : Int32)) rfl ?_
      refine g_zaload X44 hx hZ e44 F46 ⟨by decide, by decide⟩ (v := (0 : Int32)) rfl (Jvm.hb hby at_275) (pc' := 276) rfl ?_
      refine g_ifY X44.here hx (Jvm.hb hby at_276) (by decide) (pc' := 291) (by decide) ((if0 _ _).trans (teq (by decide)).1) ?_
      refine g_aload X44.here hx (Jvm.hb hby at_291) (pc' := 293) rfl rfl rfl ?_
      refine g_iconst X44.here hx (Jvm.hb hby at_293) (pc' := 294) rfl (z := (2 : Int32)) rfl ?_
      refine g_zaload X44 hx hZ e44 F46 ⟨by decide, by decide⟩ (v := (0 : Int32)) rfl (Jvm.hb hby at_294) (pc' := 295) rfl ?_
      refine g_ifY X44.here hx (Jvm.hb hby at_295) (by decide) (pc' := 310) (by decide) ((if0 _ _).trans (teq (by decide)).1) ?_
      refine g_aload X44.here hx (Jvm.hb hby at_310) (pc' := 312) rfl rfl rfl ?_
      refine g_iload X44.here hx (Jvm.hb hby at_312) (pc' := 314) rfl rfl ?_
      refine g_iconst X44.here hx (Jvm.hb hby at_314) (pc' := 315) rfl (z := (3 : Int32)) rfl ?_
      refine g_iastore X44 hx hZ e44 V44 ⟨by decide, by decide⟩ (Jvm.hb hby at_315) (pc' := 316) rfl ?_
      intro T47 hh47 X47 e47 W47 V47
      have N47 := Fr.snoc X47 N44 g_ad38
      have Z48 : n0 ≤ hh47.size := (by rw [W47.size]; exact Z45)
      refine g_aload X47.here hx (Jvm.hb hby at_316) (pc' := 318) rfl rfl rfl ?_
      refine g_aload X47.here hx (Jvm.hb hby at_318) (pc' := 320) rfl rfl rfl ?_
      refine g_iload X47.here hx (Jvm.hb hby at_320) (pc' := 322) rfl rfl ?_
      have F49 := (((((F36.ext E38).other W40 ne_ad1_ad38).other W42 ne_ad1_ad38).other W44 ne_ad1_ad38).other W47 ne_ad1_ad38)
      refine g_iaload X47 hx hZ e47 F49 ⟨by decide, by decide⟩ (v := q0) rfl (Jvm.hb hby at_322) (pc' := 323) rfl ?_
      have PLx50 := (own_PL.other (own_PL.other (own_PL.other (own_PL.other (own_PL.ext PL34 E38) W40 hord (by omega)) W42 hord (by omega)) W44 hord (by omega)) W47 hord (by omega))
      refine g_callV X47 hx hZ hown w_42 w_43 (own_nf hZ w_45) w_45 w_44 w_5 w_46 (by decide) (rm7 l Z a0 hw [] ad18 r0 r1 r2 r3 r4 r5 q0 (own_ap (own_rm (own_ap own_st0 q0 tt) q0) (3 : Int32) tt) hh47 PLx50 ⟨h0.1, by omega⟩) 0 (by decide) (by decide) e47 PLx50.1.1 (by rw [hml]; rfl) [(.int q0)] [] (lenOf pd_4 rfl) rfl rfl (Nat.le_of_eq rfl) (Jvm.hb hby at_323) (pc' := 326) rfl (cells' := 10) (slots' := 33) rfl rfl (by decide) (by decide) ?_
      intro v51 T51 L51 X51 hQ51
      obtain ⟨rfl, rfl, e51⟩ := hQ51
      rw [List.append_nil] at X51
      show own_Gl p e below s (own_Q0 n0) room_1.cells room_1.slots (T51.setTop (mkF m 326 #[.val (.int x0), .val (.int x1), .val (.int x2), .val (.int x3), .val (.int x4), .val (.int (1 : Int32)), .val (.int (0 : Int32)), .val (.int tt), .val (.int q0), .val (.ref ad1), .val (.ref ad9), .val (.ref ad18), .val (.ref ad38), .val (.int (0 : Int32))] [(.int ((own_ap (own_rm (own_ap own_st0 q0 tt) q0) (3 : Int32) tt) 0 q0.toNatClampNeg))]))
      refine g_iconst X51.here hx (Jvm.hb hby at_326) (pc' := 327) rfl (z := (-1 : Int32)) rfl ?_
      refine g_icY X51.here hx (Jvm.hb hby at_327) (by decide) (pc' := 332) (by decide) (teq (own_l5 q0 q1 q2 tt h0 h1 h2 h01 h02 h12 ht)).1 ?_
      refine g_aload X51.here hx (Jvm.hb hby at_332) (pc' := 334) rfl rfl rfl ?_
      refine g_iload X51.here hx (Jvm.hb hby at_334) (pc' := 336) rfl rfl ?_
      refine g_callV X51 hx hZ hown w_47 w_48 (own_nf hZ w_50) w_50 w_49 w_5 w_51 (by decide) (rm8 l Z a0 hw [] ad18 r0 r1 r2 r3 r4 r5 tt (own_ap (own_rm (own_ap own_st0 q0 tt) q0) (3 : Int32) tt) hh47 PLx50 rt) 0 (by decide) (by decide) e51 PLx50.1.1 (by rw [hml]; rfl) [(.int tt)] [] (lenOf pd_4 rfl) rfl rfl (Nat.le_of_eq rfl) (Jvm.hb hby at_336) (pc' := 339) rfl (cells' := 10) (slots' := 33) rfl rfl (by decide) (by decide) ?_
      intro v52 T52 L52 X52 hQ52
      obtain ⟨rfl, rfl, e52⟩ := hQ52
      rw [List.append_nil] at X52
      show own_Gl p e below s (own_Q0 n0) room_1.cells room_1.slots (T52.setTop (mkF m 339 #[.val (.int x0), .val (.int x1), .val (.int x2), .val (.int x3), .val (.int x4), .val (.int (1 : Int32)), .val (.int (0 : Int32)), .val (.int tt), .val (.int q0), .val (.ref ad1), .val (.ref ad9), .val (.ref ad18), .val (.ref ad38), .val (.int (0 : Int32))] [(.int ((own_ap (own_rm (own_ap own_st0 q0 tt) q0) (3 : Int32) tt) 5 tt.toNatClampNeg))]))
      refine g_iload X52.here hx (Jvm.hb hby at_339) (pc' := 341) rfl rfl ?_
      refine g_iconst X52.here hx (Jvm.hb hby at_341) (pc' := 342) rfl (z := (1 : Int32)) rfl ?_
      refine g_iadd X52.here hx (Jvm.hb hby at_342) (pc' := 343) rfl ?_
      refine g_icY X52.here hx (Jvm.hb hby at_343) (by decide) (pc' := 348) (by decide) (teq ((own_l6 q0 q1 q2 tt h0 h1 h2 h01 h02 h12 ht))).1 ?_
      refine g_aload X52.here hx (Jvm.hb hby at_348) (pc' := 350) rfl rfl rfl ?_
      refine g_iload X52.here hx (Jvm.hb hby at_350) (pc' := 352) rfl rfl ?_
      refine g_callV X52 hx hZ hown w_52 w_53 (own_nf hZ w_55) w_55 w_54 w_5 w_56 (by decide) (rm9 l Z a0 hw [] ad18 r0 r1 r2 r3 r4 r5 tt (own_ap (own_rm (own_ap own_st0 q0 tt) q0) (3 : Int32) tt) hh47 PLx50 rt) 0 (by decide) (by decide) e52 PLx50.1.1 (by rw [hml]; rfl) [(.int tt)] [] (lenOf pd_4 rfl) rfl rfl (Nat.le_of_eq rfl) (Jvm.hb hby at_352) (pc' := 355) rfl (cells' := 10) (slots' := 33) rfl rfl (by decide) (by decide) ?_
      intro v53 T53 L53 X53 hQ53
      obtain ⟨rfl, rfl, e53⟩ := hQ53
      rw [List.append_nil] at X53
      show own_Gl p e below s (own_Q0 n0) room_1.cells room_1.slots (T53.setTop (mkF m 355 #[.val (.int x0), .val (.int x1), .val (.int x2), .val (.int x3), .val (.int x4), .val (.int (1 : Int32)), .val (.int (0 : Int32)), .val (.int tt), .val (.int q0), .val (.ref ad1), .val (.ref ad9), .val (.ref ad18), .val (.ref ad38), .val (.int (0 : Int32))] [(.int ((own_ap (own_rm (own_ap own_st0 q0 tt) q0) (3 : Int32) tt) 3 tt.toNatClampNeg))]))
      refine g_aload X53.here hx (Jvm.hb hby at_355) (pc' := 357) rfl rfl rfl ?_
      refine g_iconst X53.here hx (Jvm.hb hby at_357) (pc' := 358) rfl (z := (0 : Int32)) rfl ?_
      refine g_iaload X53 hx hZ e53 V47 ⟨by decide, by decide⟩ (v := (3 : Int32)) rfl (Jvm.hb hby at_358) (pc' := 359) rfl ?_
      refine g_icY X53.here hx (Jvm.hb hby at_359) (by decide) (pc' := 364) (by decide) (teq (own_l7 q0 q1 q2 tt h0 h1 h2 h01 h02 h12 ht)).1 ?_
      refine g_aload X53.here hx (Jvm.hb hby at_364) (pc' := 366) rfl rfl rfl ?_
      refine g_iconst X53.here hx (Jvm.hb hby at_366) (pc' := 367) rfl (z := (0 : Int32)) rfl ?_
      refine g_iaload X53 hx hZ e53 V47 ⟨by decide, by decide⟩ (v := (3 : Int32)) rfl (Jvm.hb hby at_367) (pc' := 368) rfl ?_
      refine g_iconst X53.here hx (Jvm.hb hby at_368) (pc' := 369) rfl (z := (3 : Int32)) rfl ?_
      refine g_icY X53.here hx (Jvm.hb hby at_369) (by decide) (pc' := 390) (by decide) (teq (by decide)).1 ?_
      refine g_aload X53.here hx (Jvm.hb hby at_390) (pc' := 392) rfl rfl rfl ?_
      refine g_iconst X53.here hx (Jvm.hb hby at_392) (pc' := 393) rfl (z := (0 : Int32)) rfl ?_
      refine g_iaload X53 hx hZ e53 V47 ⟨by decide, by decide⟩ (v := (3 : Int32)) rfl (Jvm.hb hby at_393) (pc' := 394) rfl ?_
      refine g_iconst X53.here hx (Jvm.hb hby at_394) (pc' := 395) rfl (z := (3 : Int32)) rfl ?_
      refine g_icY X53.here hx (Jvm.hb hby at_395) (by decide) (pc' := 424) (by decide) (teq (by decide)).1 ?_
      refine g_iconst X53.here hx (Jvm.hb hby at_424) (pc' := 425) rfl (z := (1 : Int32)) rfl ?_
      exact g_retN X53 hx hlk (t := .boolean) hret (by simp) (z' := (1 : Int32)) rfl (Jvm.hb hby at_425) (by decide) (by decide) ⟨rfl, N47⟩
    · refine g_ifN X31.here hx (Jvm.hb hby at_179) (pc' := 182) rfl ((if0 _ _).trans (feq hc179).1) ?_
      refine g_iload X31.here hx (Jvm.hb hby at_182) (pc' := 184) rfl rfl ?_
      refine g_iconst X31.here hx (Jvm.hb hby at_184) (pc' := 185) rfl (z := (1 : Int32)) rfl ?_
      refine g_icY X31.here hx (Jvm.hb hby at_185) (by decide) (pc' := 222) (by decide) (flt (by decide)).2.2.2 ?_
      refine g_aload X31.here hx (Jvm.hb hby at_222) (pc' := 224) rfl rfl rfl ?_
      refine g_iconst X31.here hx (Jvm.hb hby at_224) (pc' := 225) rfl (z := (3 : Int32)) rfl ?_
      refine g_iload X31.here hx (Jvm.hb hby at_225) (pc' := 227) rfl rfl ?_
      have PLx54 := (own_PL.other PL28 W31 hord (by omega))
      refine g_callV X31 hx hZ hown w_32 w_33 (own_nf hZ w_35) w_35 w_34 w_5 w_36 (by decide) (rm5 l Z a0 hw [] ad18 r0 r1 r2 r3 r4 r5 (3 : Int32) tt (own_rm (own_ap own_st0 q0 tt) q0) hh31 n0 Z32 g_ad18 hord PLx54 ⟨by decide, by decide⟩ rt (own_l4 q0 q1 q2 tt h0 h1 h2 h01 h02 h12 ht)) 0 (by decide) (by decide) e31 PLx54.1.1 (by rw [hml]; rfl) [(.int (3 : Int32)), (.int tt)] [] (lenOf pd_2 rfl) rfl rfl (Nat.le_of_eq rfl) (Jvm.hb hby at_227) (pc' := 230) rfl (cells' := 9) (slots' := 30) rfl rfl (by decide) (by decide) ?_
      intro v55 T55 L55 X55 hQ55
      obtain ⟨rfl, Nq55, K55, PL55⟩ := hQ55
      have N55 := Fr.app N31 Nq55
      have Z56 : n0 ≤ T55.heap.size := Nat.le_trans Z32 K55.1
      show own_Gl p e below s (own_Q0 n0) room_1.cells room_1.slots (T55.setTop (mkF m 230 #[.val (.int x0), .val (.int x1), .val (.int x2), .val (.int x3), .val (.int x4), .val (.int (1 : Int32)), .val (.int (0 : Int32)), .val (.int tt), .val (.int q0), .val (.ref ad1), .val (.ref ad9), .val (.ref ad18), .unset, .unset] []))
      refine g_iconst X55.here hx (Jvm.hb hby at_230) (pc' := 231) rfl (z := (3 : Int32)) rfl ?_
      have F57 := (((F27.keep K28 (ninS (Nat.ne_of_lt (by omega)) (ninS (Nat.ne_of_lt (by omega)) (ninS (Nat.ne_of_lt (by omega)) (ninS (Nat.ne_of_lt (by omega)) (ninS (Nat.ne_of_lt (by omega)) (ninS (Nat.ne_of_lt (by omega)) nin0))))))).other W31 ne_ad1_ad9).keep K55 (ninS (Nat.ne_of_lt (by omega)) (ninS (Nat.ne_of_lt (by omega)) (ninS (Nat.ne_of_lt (by omega)) (ninS (Nat.ne_of_lt (by omega)) (ninS (Nat.ne_of_lt (by omega)) (ninS (Nat.ne_of_lt (by omega)) nin0)))))))
      have F58 := (V31.keep K55 (ninS (Nat.ne_of_lt (by omega)) (ninS (Nat.ne_of_lt (by omega)) (ninS (Nat.ne_of_lt (by omega)) (ninS (Nat.ne_of_lt (by omega)) (ninS (Nat.ne_of_lt (by omega)) (ninS (Nat.ne_of_lt (by omega)) nin0)))))))
      refine g_newarr X55 hx hZ (ty := .int) rfl rfl w_1 rfl (Jvm.hb hby at_231) (pc' := 233) rfl (n := 3) (by decide) 3 (by decide) (by decide) (cells' := 10) (slots' := 33) rfl rfl (by decide) (by decide) ?_
      intro T59 hh59 ad59 gb59 X59 e59 E59 V59
      have g_ad59 : n0 ≤ ad59 := by rw [gb59]; exact Z56
      have lt_ad1_ad59 : @LT.lt Nat _ ad1 ad59 := by rw [gb59]; exact F57.lt
      have ne_ad1_ad59 : ad1 ≠ ad59 := Nat.ne_of_lt lt_ad1_ad59
      have lt_ad9_ad59 : @LT.lt Nat _ ad9 ad59 := by rw [gb59]; exact F58.lt
      have ne_ad9_ad59 : ad9 ≠ ad59 := Nat.ne_of_lt lt_ad9_ad59
      have lt_ad18_ad59 : @LT.lt Nat _ ad18 ad59 := by rw [gb59]; exact PL55.1.1.lt
      have ne_ad18_ad59 : ad18 ≠ ad59 := Nat.ne_of_lt lt_ad18_ad59
      have Z60 : n0 ≤ hh59.size := Nat.le_trans Z56 E59.1
      have lt5 : @LT.lt Nat _ r5 ad59 := by rw [gb59]; exact own_PL.lt5 PL55
      refine g_astore X59.here hx (Jvm.hb hby at_233) (pc' := 235) rfl rfl (L' := #[.val (.int x0), .val (.int x1), .val (.int x2), .val (.int x3), .val (.int x4), .val (.int (1 : Int32)), .val (.int (0 : Int32)), .val (.int tt), .val (.int q0), .val (.ref ad1), .val (.ref ad9), .val (.ref ad18), .val (.ref ad59), .unset]) rfl ?_
      refine g_aload X59.here hx (Jvm.hb hby at_235) (pc' := 237) rfl rfl rfl ?_
      refine g_iconst X59.here hx (Jvm.hb hby at_237) (pc' := 238) rfl (z := (0 : Int32)) rfl ?_
      refine g_iconst X59.here hx (Jvm.hb hby at_238) (pc' := 239) rfl (z := (-1 : Int32)) rfl ?_
      refine g_iastore X59 hx hZ e59 V59 ⟨by decide, by decide⟩ (Jvm.hb hby at_239) (pc' := 240) rfl ?_
      intro T61 hh61 X61 e61 W61 V61
      have N61 := Fr.snoc X61 N55 g_ad59
      have Z62 : n0 ≤ hh61.size := (by rw [W61.size]; exact Z60)
      refine g_aload X61.here hx (Jvm.hb hby at_240) (pc' := 242) rfl rfl rfl ?_
      refine g_iconst X61.here hx (Jvm.hb hby at_242) (pc' := 243) rfl (z := (1 : Int32)) rfl ?_
      refine g_iconst X61.here hx (Jvm.hb hby at_243) (pc' := 244) rfl (z := (-1 : Int32)) rfl ?_
      refine g_iastore X61 hx hZ e61 V61 ⟨by decide, by decide⟩ (Jvm.hb hby at_244) (pc' := 245) rfl ?_
      intro T63 hh63 X63 e63 W63 V63
      have N63 := Fr.snoc X63 N61 g_ad59
      have Z64 : n0 ≤ hh63.size := (by rw [W63.size]; exact Z62)
      refine g_aload X63.here hx (Jvm.hb hby at_245) (pc' := 247) rfl rfl rfl ?_
      refine g_iconst X63.here hx (Jvm.hb hby at_247) (pc' := 248) rfl (z := (2 : Int32)) rfl ?_
      refine g_iconst X63.here hx (Jvm.hb hby at_248) (pc' := 249) rfl (z := (-1 : Int32)) rfl ?_
      refine g_iastore X63 hx hZ e63 V63 ⟨by decide, by decide⟩ (Jvm.hb hby at_249) (pc' := 250) rfl ?_
      intro T65 hh65 X65 e65 W65 V65
      have N65 := Fr.snoc X65 N63 g_ad59
      have Z66 : n0 ≤ hh65.size := (by rw [W65.size]; exact Z64)
      refine g_iconst X65.here hx (Jvm.hb hby at_250) (pc' := 251) rfl (z := (0 : Int32)) rfl ?_
      refine g_istore X65.here hx (Jvm.hb hby at_251) (pc' := 253) rfl (L' := #[.val (.int x0), .val (.int x1), .val (.int x2), .val (.int x3), .val (.int x4), .val (.int (1 : Int32)), .val (.int (0 : Int32)), .val (.int tt), .val (.int q0), .val (.ref ad1), .val (.ref ad9), .val (.ref ad18), .val (.ref ad59), .val (.int (0 : Int32))]) rfl ?_
      refine g_aload X65.here hx (Jvm.hb hby at_253) (pc' := 255) rfl rfl rfl ?_
      refine g_iconst X65.here hx (Jvm.hb hby at_255) (pc' := 256) rfl (z := (0 : Int32)) rfl ?_
      have F67 := ((((F58.ext E59).other W61 ne_ad9_ad59).other W63 ne_ad9_ad59).other W65 ne_ad9_ad59)
      refine g_zaload X65 hx hZ e65 F67 ⟨by decide, by decide⟩ (v := (0 : Int32)) rfl (Jvm.hb hby at_256) (pc' := 257) rfl ?_
      refine g_ifY X65.here hx (Jvm.hb hby at_257) (by decide) (pc' := 272) (by decide) ((if0 _ _).trans (teq (by decide)).1) ?_
      refine g_aload X65.here hx (Jvm.hb hby at_272) (pc' := 274) rfl rfl rfl ?_
      refine g_iconst X65.here hx (Jvm.hb hby at_274) (pc' := 275) rfl (z := (1 : Int32)) rfl ?_
      refine g_zaload X65 hx hZ e65 F67 ⟨by decide, by decide⟩ (v := (0 : Int32)) rfl (Jvm.hb hby at_275) (pc' := 276) rfl ?_
      refine g_ifY X65.here hx (Jvm.hb hby at_276) (by decide) (pc' := 291) (by decide) ((if0 _ _).trans (teq (by decide)).1) ?_
      refine g_aload X65.here hx (Jvm.hb hby at_291) (pc' := 293) rfl rfl rfl ?_
      refine g_iconst X65.here hx (Jvm.hb hby at_293) (pc' := 294) rfl (z := (2 : Int32)) rfl ?_
      refine g_zaload X65 hx hZ e65 F67 ⟨by decide, by decide⟩ (v := (0 : Int32)) rfl (Jvm.hb hby at_294) (pc' := 295) rfl ?_
      refine g_ifY X65.here hx (Jvm.hb hby at_295) (by decide) (pc' := 310) (by decide) ((if0 _ _).trans (teq (by decide)).1) ?_
      refine g_aload X65.here hx (Jvm.hb hby at_310) (pc' := 312) rfl rfl rfl ?_
      refine g_iload X65.here hx (Jvm.hb hby at_312) (pc' := 314) rfl rfl ?_
      refine g_iconst X65.here hx (Jvm.hb hby at_314) (pc' := 315) rfl (z := (3 : Int32)) rfl ?_
      refine g_iastore X65 hx hZ e65 V65 ⟨by decide, by decide⟩ (Jvm.hb hby at_315) (pc' := 316) rfl ?_
      intro T68 hh68 X68 e68 W68 V68
      have N68 := Fr.snoc X68 N65 g_ad59
      have Z69 : n0 ≤ hh68.size := (by rw [W68.size]; exact Z66)
      refine g_aload X68.here hx (Jvm.hb hby at_316) (pc' := 318) rfl rfl rfl ?_
      refine g_aload X68.here hx (Jvm.hb hby at_318) (pc' := 320) rfl rfl rfl ?_
      refine g_iload X68.here hx (Jvm.hb hby at_320) (pc' := 322) rfl rfl ?_
      have F70 := (((((F57.ext E59).other W61 ne_ad1_ad59).other W63 ne_ad1_ad59).other W65 ne_ad1_ad59).other W68 ne_ad1_ad59)
      refine g_iaload X68 hx hZ e68 F70 ⟨by decide, by decide⟩ (v := q0) rfl (Jvm.hb hby at_322) (pc' := 323) rfl ?_
      have PLx71 := (own_PL.other (own_PL.other (own_PL.other (own_PL.other (own_PL.ext PL55 E59) W61 hord (by omega)) W63 hord (by omega)) W65 hord (by omega)) W68 hord (by omega))
      refine g_callV X68 hx hZ hown w_42 w_43 (own_nf hZ w_45) w_45 w_44 w_5 w_46 (by decide) (rm7 l Z a0 hw [] ad18 r0 r1 r2 r3 r4 r5 q0 (own_ap (own_rm (own_ap own_st0 q0 tt) q0) (3 : Int32) tt) hh68 PLx71 ⟨h0.1, by omega⟩) 0 (by decide) (by decide) e68 PLx71.1.1 (by rw [hml]; rfl) [(.int q0)] [] (lenOf pd_4 rfl) rfl rfl (Nat.le_of_eq rfl) (Jvm.hb hby at_323) (pc' := 326) rfl (cells' := 10) (slots' := 33) rfl rfl (by decide) (by decide) ?_
      intro v72 T72 L72 X72 hQ72
      obtain ⟨rfl, rfl, e72⟩ := hQ72
      rw [List.append_nil] at X72
      show own_Gl p e below s (own_Q0 n0) room_1.cells room_1.slots (T72.setTop (mkF m 326 #[.val (.int x0), .val (.int x1), .val (.int x2), .val (.int x3), .val (.int x4), .val (.int (1 : Int32)), .val (.int (0 : Int32)), .val (.int tt), .val (.int q0), .val (.ref ad1), .val (.ref ad9), .val (.ref ad18), .val (.ref ad59), .val (.int (0 : Int32))] [(.int ((own_ap (own_rm (own_ap own_st0 q0 tt) q0) (3 : Int32) tt) 0 q0.toNatClampNeg))]))
      refine g_iconst X72.here hx (Jvm.hb hby at_326) (pc' := 327) rfl (z := (-1 : Int32)) rfl ?_
      refine g_icY X72.here hx (Jvm.hb hby at_327) (by decide) (pc' := 332) (by decide) (teq (own_l5 q0 q1 q2 tt h0 h1 h2 h01 h02 h12 ht)).1 ?_
      refine g_aload X72.here hx (Jvm.hb hby at_332) (pc' := 334) rfl rfl rfl ?_
      refine g_iload X72.here hx (Jvm.hb hby at_334) (pc' := 336) rfl rfl ?_
      refine g_callV X72 hx hZ hown w_47 w_48 (own_nf hZ w_50) w_50 w_49 w_5 w_51 (by decide) (rm8 l Z a0 hw [] ad18 r0 r1 r2 r3 r4 r5 tt (own_ap (own_rm (own_ap own_st0 q0 tt) q0) (3 : Int32) tt) hh68 PLx71 rt) 0 (by decide) (by decide) e72 PLx71.1.1 (by rw [hml]; rfl) [(.int tt)] [] (lenOf pd_4 rfl) rfl rfl (Nat.le_of_eq rfl) (Jvm.hb hby at_336) (pc' := 339) rfl (cells' := 10) (slots' := 33) rfl rfl (by decide) (by decide) ?_
      intro v73 T73 L73 X73 hQ73
      obtain ⟨rfl, rfl, e73⟩ := hQ73
      rw [List.append_nil] at X73
      show own_Gl p e below s (own_Q0 n0) room_1.cells room_1.slots (T73.setTop (mkF m 339 #[.val (.int x0), .val (.int x1), .val (.int x2), .val (.int x3), .val (.int x4), .val (.int (1 : Int32)), .val (.int (0 : Int32)), .val (.int tt), .val (.int q0), .val (.ref ad1), .val (.ref ad9), .val (.ref ad18), .val (.ref ad59), .val (.int (0 : Int32))] [(.int ((own_ap (own_rm (own_ap own_st0 q0 tt) q0) (3 : Int32) tt) 5 tt.toNatClampNeg))]))
      refine g_iload X73.here hx (Jvm.hb hby at_339) (pc' := 341) rfl rfl ?_
      refine g_iconst X73.here hx (Jvm.hb hby at_341) (pc' := 342) rfl (z := (1 : Int32)) rfl ?_
      refine g_iadd X73.here hx (Jvm.hb hby at_342) (pc' := 343) rfl ?_
      refine g_icY X73.here hx (Jvm.hb hby at_343) (by decide) (pc' := 348) (by decide) (teq ((own_l6 q0 q1 q2 tt h0 h1 h2 h01 h02 h12 ht))).1 ?_
      refine g_aload X73.here hx (Jvm.hb hby at_348) (pc' := 350) rfl rfl rfl ?_
      refine g_iload X73.here hx (Jvm.hb hby at_350) (pc' := 352) rfl rfl ?_
      refine g_callV X73 hx hZ hown w_52 w_53 (own_nf hZ w_55) w_55 w_54 w_5 w_56 (by decide) (rm9 l Z a0 hw [] ad18 r0 r1 r2 r3 r4 r5 tt (own_ap (own_rm (own_ap own_st0 q0 tt) q0) (3 : Int32) tt) hh68 PLx71 rt) 0 (by decide) (by decide) e73 PLx71.1.1 (by rw [hml]; rfl) [(.int tt)] [] (lenOf pd_4 rfl) rfl rfl (Nat.le_of_eq rfl) (Jvm.hb hby at_352) (pc' := 355) rfl (cells' := 10) (slots' := 33) rfl rfl (by decide) (by decide) ?_
      intro v74 T74 L74 X74 hQ74
      obtain ⟨rfl, rfl, e74⟩ := hQ74
      rw [List.append_nil] at X74
      show own_Gl p e below s (own_Q0 n0) room_1.cells room_1.slots (T74.setTop (mkF m 355 #[.val (.int x0), .val (.int x1), .val (.int x2), .val (.int x3), .val (.int x4), .val (.int (1 : Int32)), .val (.int (0 : Int32)), .val (.int tt), .val (.int q0), .val (.ref ad1), .val (.ref ad9), .val (.ref ad18), .val (.ref ad59), .val (.int (0 : Int32))] [(.int ((own_ap (own_rm (own_ap own_st0 q0 tt) q0) (3 : Int32) tt) 3 tt.toNatClampNeg))]))
      refine g_aload X74.here hx (Jvm.hb hby at_355) (pc' := 357) rfl rfl rfl ?_
      refine g_iconst X74.here hx (Jvm.hb hby at_357) (pc' := 358) rfl (z := (0 : Int32)) rfl ?_
      refine g_iaload X74 hx hZ e74 V68 ⟨by decide, by decide⟩ (v := (3 : Int32)) rfl (Jvm.hb hby at_358) (pc' := 359) rfl ?_
      refine g_icY X74.here hx (Jvm.hb hby at_359) (by decide) (pc' := 364) (by decide) (teq (own_l7 q0 q1 q2 tt h0 h1 h2 h01 h02 h12 ht)).1 ?_
      refine g_aload X74.here hx (Jvm.hb hby at_364) (pc' := 366) rfl rfl rfl ?_
      refine g_iconst X74.here hx (Jvm.hb hby at_366) (pc' := 367) rfl (z := (0 : Int32)) rfl ?_
      refine g_iaload X74 hx hZ e74 V68 ⟨by decide, by decide⟩ (v := (3 : Int32)) rfl (Jvm.hb hby at_367) (pc' := 368) rfl ?_
      refine g_iconst X74.here hx (Jvm.hb hby at_368) (pc' := 369) rfl (z := (3 : Int32)) rfl ?_
      refine g_icY X74.here hx (Jvm.hb hby at_369) (by decide) (pc' := 390) (by decide) (teq (by decide)).1 ?_
      refine g_aload X74.here hx (Jvm.hb hby at_390) (pc' := 392) rfl rfl rfl ?_
      refine g_iconst X74.here hx (Jvm.hb hby at_392) (pc' := 393) rfl (z := (0 : Int32)) rfl ?_
      refine g_iaload X74 hx hZ e74 V68 ⟨by decide, by decide⟩ (v := (3 : Int32)) rfl (Jvm.hb hby at_393) (pc' := 394) rfl ?_
      refine g_iconst X74.here hx (Jvm.hb hby at_394) (pc' := 395) rfl (z := (3 : Int32)) rfl ?_
      refine g_icY X74.here hx (Jvm.hb hby at_395) (by decide) (pc' := 424) (by decide) (teq (by decide)).1 ?_
      refine g_iconst X74.here hx (Jvm.hb hby at_424) (pc' := 425) rfl (z := (1 : Int32)) rfl ?_
      exact g_retN X74 hx hlk (t := .boolean) hret (by simp) (z' := (1 : Int32)) rfl (Jvm.hb hby at_425) (by decide) (by decide) ⟨rfl, N68⟩
  · refine g_iloadN X0.here hx (Jvm.hb hby at_10) (pc' := 11) rfl rfl ?_
    refine g_ldc X0 hx hZ hown w_0 (Jvm.hb hby at_11) (pc' := 13) rfl ?_
    refine g_iand X0.here hx (Jvm.hb hby at_13) (pc' := 14) rfl ?_
    refine g_iload X0.here hx (Jvm.hb hby at_14) (pc' := 16) rfl rfl ?_
    refine g_irem X0 hx (Jvm.hb hby at_16) (pc' := 17) rfl (by decide) ?_
    refine g_istore X0.here hx (Jvm.hb hby at_17) (pc' := 19) rfl (L' := #[.val (.int x0), .val (.int x1), .val (.int x2), .val (.int x3), .val (.int x4), .val (.int (2 : Int32)), .val (.int ((x1 &&& (2147483647 : Int32)) % (2 : Int32))), .unset, .unset, .unset, .unset, .unset, .unset, .unset]) rfl ?_
    generalize hkk : ((x1 &&& (2147483647 : Int32)) % (2 : Int32)) = kk
    have hk : kk = (0 : Int32) ∨ kk = (1 : Int32) := by
      have e := c_mask x1 2147483647 31 (by decide) (by decide)
      have e2 := c_irem (x1 &&& 2147483647) 2 2 (by decide)
      simp only [Nat.reducePow] at e
      rw [hkk] at e2
      simp only [← Int32.toInt_inj, Int32.reduceToInt]
      omega
    clear hkk
    rcases hk with rfl | rfl
    · refine g_iloadN X0.here hx (Jvm.hb hby at_19) (pc' := 20) rfl rfl ?_
      refine g_iconst X0.here hx (Jvm.hb hby at_20) (pc' := 21) rfl (z := (1 : Int32)) rfl ?_
      refine g_iand X0.here hx (Jvm.hb hby at_21) (pc' := 22) rfl ?_
      refine g_istore X0.here hx (Jvm.hb hby at_22) (pc' := 24) rfl (L' := #[.val (.int x0), .val (.int x1), .val (.int x2), .val (.int x3), .val (.int x4), .val (.int (2 : Int32)), .val (.int (0 : Int32)), .val (.int (x2 &&& (1 : Int32))), .unset, .unset, .unset, .unset, .unset, .unset]) rfl ?_
      generalize htt : (x2 &&& (1 : Int32)) = tt
      have ht := and_one x2
      rw [htt] at ht
      have rt := own_rg tt ht
      refine g_iload X0.here hx (Jvm.hb hby at_24) (pc' := 26) rfl rfl ?_
      refine g_ldc X0 hx hZ hown w_0 (Jvm.hb hby at_26) (pc' := 28) rfl ?_
      refine g_iand X0.here hx (Jvm.hb hby at_28) (pc' := 29) rfl ?_
      refine g_iconst X0.here hx (Jvm.hb hby at_29) (pc' := 30) rfl (z := (3 : Int32)) rfl ?_
      refine g_irem X0 hx (Jvm.hb hby at_30) (pc' := 31) rfl (by decide) ?_
      refine g_istore X0.here hx (Jvm.hb hby at_31) (pc' := 33) rfl (L' := #[.val (.int x0), .val (.int x1), .val (.int x2), .val (.int x3), .val (.int x4), .val (.int (2 : Int32)), .val (.int (0 : Int32)), .val (.int tt), .val (.int ((x4 &&& (2147483647 : Int32)) % (3 : Int32))), .unset, .unset, .unset, .unset, .unset]) rfl ?_
      generalize hq0 : ((x4 &&& (2147483647 : Int32)) % (3 : Int32)) = q0
      obtain ⟨q1, hq1⟩ : ∃ z, ((q0 + (1 : Int32)) % (3 : Int32)) = z := ⟨_, rfl⟩
      obtain ⟨q2, hq2⟩ : ∃ z, ((q0 + (2 : Int32)) % (3 : Int32)) = z := ⟨_, rfl⟩
      obtain ⟨h0, h1, h2, h01, h02, h12⟩ := own_pg x4 q0 q0 q1 q2 hq0 hq1 hq2
      refine g_iconst X0.here hx (Jvm.hb hby at_33) (pc' := 34) rfl (z := (3 : Int32)) rfl ?_
      refine g_newarr X0 hx hZ (ty := .int) rfl rfl w_1 e0 (Jvm.hb hby at_34) (pc' := 36) rfl (n := 3) (by decide) 3 (by decide) (by decide) (cells' := 1) (slots' := 3) rfl rfl (by decide) (by decide) ?_
      intro T75 hh75 ad75 gb75 X75 e75 E75 V75
      have g_ad75 : n0 ≤ ad75 := by rw [gb75]; exact Z0
      have Z76 : n0 ≤ hh75.size := Nat.le_trans Z0 E75.1
      refine g_astore X75.here hx (Jvm.hb hby at_36) (pc' := 38) rfl rfl (L' := #[.val (.int x0), .val (.int x1), .val (.int x2), .val (.int x3), .val (.int x4), .val (.int (2 : Int32)), .val (.int (0 : Int32)), .val (.int tt), .val (.int q0), .val (.ref ad75), .unset, .unset, .unset, .unset]) rfl ?_
      refine g_aload X75.here hx (Jvm.hb hby at_38) (pc' := 40) rfl rfl rfl ?_
      refine g_iconst X75.here hx (Jvm.hb hby at_40) (pc' := 41) rfl (z := (0 : Int32)) rfl ?_
      refine g_iload X75.here hx (Jvm.hb hby at_41) (pc' := 43) rfl rfl ?_
      refine g_iastore X75 hx hZ e75 V75 ⟨by decide, by decide⟩ (Jvm.hb hby at_43) (pc' := 44) rfl ?_
      intro T77 hh77 X77 e77 W77 V77
      have N77 := Fr.snoc X77 N0 g_ad75
      have Z78 : n0 ≤ hh77.size := (by rw [W77.size]; exact Z76)
      refine g_aload X77.here hx (Jvm.hb hby at_44) (pc' := 46) rfl rfl rfl ?_
      refine g_iconst X77.here hx (Jvm.hb hby at_46) (pc' := 47) rfl (z := (1 : Int32)) rfl ?_
      refine g_iload X77.here hx (Jvm.hb hby at_47) (pc' := 49) rfl rfl ?_
      refine g_iconst X77.here hx (Jvm.hb hby at_49) (pc' := 50) rfl (z := (1 : Int32)) rfl ?_
      refine g_iadd X77.here hx (Jvm.hb hby at_50) (pc' := 51) rfl ?_
      refine g_iconst X77.here hx (Jvm.hb hby at_51) (pc' := 52) rfl (z := (3 : Int32)) rfl ?_
      refine g_irem X77 hx (Jvm.hb hby at_52) (pc' := 53) rfl (by decide) ?_
      rw [hq1]
      refine g_iastore X77 hx hZ e77 V77 ⟨by decide, by decide⟩ (Jvm.hb hby at_53) (pc' := 54) rfl ?_
      intro T79 hh79 X79 e79 W79 V79
      have N79 := Fr.snoc X79 N77 g_ad75
      have Z80 : n0 ≤ hh79.size := (by rw [W79.size]; exact Z78)
      refine g_aload X79.here hx (Jvm.hb hby at_54) (pc' := 56) rfl rfl rfl ?_
      refine g_iconst X79.here hx (Jvm.hb hby at_56) (pc' := 57) rfl (z := (2 : Int32)) rfl ?_
      refine g_iload X79.here hx (Jvm.hb hby at_57) (pc' := 59) rfl rfl ?_
      refine g_iconst X79.here hx (Jvm.hb hby at_59) (pc' := 60) rfl (z := (2 : Int32)) rfl ?_
      refine g_iadd X79.here hx (Jvm.hb hby at_60) (pc' := 61) rfl ?_
      refine g_iconst X79.here hx (Jvm.hb hby at_61) (pc' := 62) rfl (z := (3 : Int32)) rfl ?_
      refine g_irem X79 hx (Jvm.hb hby at_62) (pc' := 63) rfl (by decide) ?_
      rw [hq2]
      refine g_iastore X79 hx hZ e79 V79 ⟨by decide, by decide⟩ (Jvm.hb hby at_63) (pc' := 64) rfl ?_
      intro T81 hh81 X81 e81 W81 V81
      have N81 := Fr.snoc X81 N79 g_ad75
      have Z82 : n0 ≤ hh81.size := (by rw [W81.size]; exact Z80)
      refine g_iconst X81.here hx (Jvm.hb hby at_64) (pc' := 65) rfl (z := (3 : Int32)) rfl ?_
      refine g_newarr X81 hx hZ (ty := .boolean) rfl rfl w_2 e81 (Jvm.hb hby at_65) (pc' := 67) rfl (n := 3) (by decide) 3 (by decide) (by decide) (cells' := 2) (slots' := 6) rfl rfl (by decide) (by decide) ?_
      intro T83 hh83 ad83 gb83 X83 e83 E83 V83
      have g_ad83 : n0 ≤ ad83 := by rw [gb83]; exact Z82
      have lt_ad75_ad83 : @LT.lt Nat _ ad75 ad83 := by rw [gb83]; exact V81.lt
      have ne_ad75_ad83 : ad75 ≠ ad83 := Nat.ne_of_lt lt_ad75_ad83
      have Z84 : n0 ≤ hh83.size := Nat.le_trans Z82 E83.1
      refine g_astore X83.here hx (Jvm.hb hby at_67) (pc' := 69) rfl rfl (L' := #[.val (.int x0), .val (.int x1), .val (.int x2), .val (.int x3), .val (.int x4), .val (.int (2 : Int32)), .val (.int (0 : Int32)), .val (.int tt), .val (.int q0), .val (.ref ad75), .val (.ref ad83), .unset, .unset, .unset]) rfl ?_
      refine g_aload X83.here hx (Jvm.hb hby at_69) (pc' := 71) rfl rfl rfl ?_
      refine g_iconst X83.here hx (Jvm.hb hby at_71) (pc' := 72) rfl (z := (0 : Int32)) rfl ?_
      refine g_iconst X83.here hx (Jvm.hb hby at_72) (pc' := 73) rfl (z := (1 : Int32)) rfl ?_
      refine g_zastore X83 hx hZ e83 V83 ⟨by decide, by decide⟩ (x' := (1 : Int32)) rfl (Jvm.hb hby at_73) (pc' := 74) rfl ?_
      intro T85 hh85 X85 e85 W85 V85
      have N85 := Fr.snoc X85 N81 g_ad83
      have Z86 : n0 ≤ hh85.size := (by rw [W85.size]; exact Z84)
      refine g_aload X85.here hx (Jvm.hb hby at_74) (pc' := 76) rfl rfl rfl ?_
      refine g_iconst X85.here hx (Jvm.hb hby at_76) (pc' := 77) rfl (z := (1 : Int32)) rfl ?_
      refine g_iload X85.here hx (Jvm.hb hby at_77) (pc' := 79) rfl rfl ?_
      refine g_iconst X85.here hx (Jvm.hb hby at_79) (pc' := 80) rfl (z := (1 : Int32)) rfl ?_
      refine g_icN X85.here hx (Jvm.hb hby at_80) (pc' := 83) rfl (tlt (by decide)).2.2.2 ?_
      refine g_iconst X85.here hx (Jvm.hb hby at_83) (pc' := 84) rfl (z := (1 : Int32)) rfl ?_
      refine g_goto X85.here hx (Jvm.hb hby at_84) (by decide) (pc' := 88) (by decide) ?_
      refine g_zastore X85 hx hZ e85 V85 ⟨by decide, by decide⟩ (x' := (1 : Int32)) rfl (Jvm.hb hby at_88) (pc' := 89) rfl ?_
      intro T87 hh87 X87 e87 W87 V87
      have N87 := Fr.snoc X87 N85 g_ad83
      have Z88 : n0 ≤ hh87.size := (by rw [W87.size]; exact Z86)
      refine g_aload X87.here hx (Jvm.hb hby at_89) (pc' := 91) rfl rfl rfl ?_
      refine g_iconst X87.here hx (Jvm.hb hby at_91) (pc' := 92) rfl (z := (2 : Int32)) rfl ?_
      refine g_iload X87.here hx (Jvm.hb hby at_92) (pc' := 94) rfl rfl ?_
      refine g_iconst X87.here hx (Jvm.hb hby at_94) (pc' := 95) rfl (z := (2 : Int32)) rfl ?_
      refine g_icY X87.here hx (Jvm.hb hby at_95) (by decide) (pc' := 102) (by decide) (flt (by decide)).2.2.2 ?_
      refine g_iconst X87.here hx (Jvm.hb hby at_102) (pc' := 103) rfl (z := (0 : Int32)) rfl ?_
      refine g_zastore X87 hx hZ e87 V87 ⟨by decide, by decide⟩ (x' := (0 : Int32)) rfl (Jvm.hb hby at_103) (pc' := 104) rfl ?_
      intro T89 hh89 X89 e89 W89 V89
      have N89 := Fr.snoc X89 N87 g_ad83
      have Z90 : n0 ≤ hh89.size := (by rw [W89.size]; exact Z88)
      have F91 := ((((V81.ext E83).other W85 ne_ad75_ad83).other W87 ne_ad75_ad83).other W89 ne_ad75_ad83)
      refine g_new X89 hx hZ hown w_3 w_4 w_5 e89 (Jvm.hb hby at_104) (pc' := 107) rfl (cells' := 3) (slots' := 12) rfl rfl (by decide) (by decide) ?_
      intro T92 hh92 ad92 gb92 X92 e92 E92 A92 D92
      have g_ad92 : n0 ≤ ad92 := by rw [gb92]; exact Z90
      have lt_ad75_ad92 : @LT.lt Nat _ ad75 ad92 := by rw [gb92]; exact F91.lt
      have ne_ad75_ad92 : ad75 ≠ ad92 := Nat.ne_of_lt lt_ad75_ad92
      have lt_ad83_ad92 : @LT.lt Nat _ ad83 ad92 := by rw [gb92]; exact V89.lt
      have ne_ad83_ad92 : ad83 ≠ ad92 := Nat.ne_of_lt lt_ad83_ad92
      have Z93 : n0 ≤ hh92.size := Nat.le_trans Z90 E92.1
      have F92_list : Fld Z hh92 ad92 "com/example/tierstone/tierstone/PageLists" "list" "[B" .null := D92 (Or.inr w_14) (ty := (.array .byte)) (by decide)
      have F92_older : Fld Z hh92 ad92 "com/example/tierstone/tierstone/PageLists" "older" "[I" .null := D92 (Or.inr w_20) (ty := (.array .int)) (by decide)
      have F92_newer : Fld Z hh92 ad92 "com/example/tierstone/tierstone/PageLists" "newer" "[I" .null := D92 (Or.inr w_22) (ty := (.array .int)) (by decide)
      have F92_oldest : Fld Z hh92 ad92 "com/example/tierstone/tierstone/PageLists" "oldest" "[I" .null := D92 (Or.inr w_24) (ty := (.array .int)) (by decide)
      have F92_newest : Fld Z hh92 ad92 "com/example/tierstone/tierstone/PageLists" "newest" "[I" .null := D92 (Or.inr w_26) (ty := (.array .int)) (by decide)
      have F92_length : Fld Z hh92 ad92 "com/example/tierstone/tierstone/PageLists" "length" "[I" .null := D92 (Or.inr w_31) (ty := (.array .int)) (by decide)
      refine g_dup X92.here hx (Jvm.hb hby at_107) (pc' := 108) rfl rfl ?_
      refine g_iconst X92.here hx (Jvm.hb hby at_108) (pc' := 109) rfl (z := (2 : Int32)) rfl ?_
      refine g_iconst X92.here hx (Jvm.hb hby at_109) (pc' := 110) rfl (z := (4 : Int32)) rfl ?_
      have F94 := (F91.ext E92)
      have F95 := (V89.ext E92)
      refine g_callI X92 hx hZ rfl hown w_6 w_7 w_5 w_8 (by decide) (rm1 l Z a0 hw [] ad92 (2 : Int32) (4 : Int32) hh92 n0 Z93 g_ad92 A92 F92_list F92_older F92_newer F92_oldest F92_newest F92_length (by decide) (by decide)) 1 (by decide) (by decide) e92 (by rw [hml]; rfl) [(.int (2 : Int32)), (.int (4 : Int32))] [(.ref ad92)] (lenOf pd_2 rfl) rfl rfl (Nat.le_of_eq rfl) (Jvm.hb hby at_110) (pc' := 113) rfl (cells' := 9) (slots' := 30) rfl rfl (by decide) (by decide) ?_
      intro v96 T96 L96 X96 hQ96
      obtain ⟨rfl, Nq96, K96, r0, r1, r2, r3, r4, r5, hord, PL96⟩ := hQ96
      have N96 := Fr.app N89 Nq96
      have Z97 : n0 ≤ T96.heap.size := Nat.le_trans Z93 K96.1
      obtain ⟨o1, o2, o3, o4, o5, o6⟩ := id hord
      show own_Gl p e below s (own_Q0 n0) room_1.cells room_1.slots (T96.setTop (mkF m 113 #[.val (.int x0), .val (.int x1), .val (.int x2), .val (.int x3), .val (.int x4), .val (.int (2 : Int32)), .val (.int (0 : Int32)), .val (.int tt), .val (.int q0), .val (.ref ad75), .val (.ref ad83), .unset, .unset, .unset] [(.ref ad92)]))
      refine g_astore X96.here hx (Jvm.hb hby at_113) (pc' := 115) rfl rfl (L' := #[.val (.int x0), .val (.int x1), .val (.int x2), .val (.int x3), .val (.int x4), .val (.int (2 : Int32)), .val (.int (0 : Int32)), .val (.int tt), .val (.int q0), .val (.ref ad75), .val (.ref ad83), .val (.ref ad92), .unset, .unset]) rfl ?_
      refine g_aload X96.here hx (Jvm.hb hby at_115) (pc' := 117) rfl rfl rfl ?_
      refine g_aload X96.here hx (Jvm.hb hby at_117) (pc' := 119) rfl rfl rfl ?_
      refine g_iconst X96.here hx (Jvm.hb hby at_119) (pc' := 120) rfl (z := (0 : Int32)) rfl ?_
      have F98 := (F94.keep K96 (ninS ne_ad75_ad92 nin0))
      refine g_iaload X96 hx hZ rfl F98 ⟨by decide, by decide⟩ (v := q0) rfl (Jvm.hb hby at_120) (pc' := 121) rfl ?_
      refine g_iload X96.here hx (Jvm.hb hby at_121) (pc' := 123) rfl rfl ?_
      refine g_callV X96 hx hZ hown w_32 w_33 (own_nf hZ w_35) w_35 w_34 w_5 w_36 (by decide) (rm5 l Z a0 hw [] ad92 r0 r1 r2 r3 r4 r5 q0 tt own_st0 T96.heap n0 Z97 g_ad92 hord PL96 ⟨h0.1, by omega⟩ rt (own_l0 q0 q1 q2 tt h0 h1 h2 h01 h02 h12 ht)) 0 (by decide) (by decide) rfl PL96.1.1 (by rw [hml]; rfl) [(.int q0), (.int tt)] [] (lenOf pd_2 rfl) rfl rfl (Nat.le_of_eq rfl) (Jvm.hb hby at_123) (pc' := 126) rfl (cells' := 9) (slots' := 30) rfl rfl (by decide) (by decide) ?_
      intro v99 T99 L99 X99 hQ99
      obtain ⟨rfl, Nq99, K99, PL99⟩ := hQ99
      have N99 := Fr.app N96 Nq99
      have Z100 : n0 ≤ T99.heap.size := Nat.le_trans Z97 K99.1
      show own_Gl p e below s (own_Q0 n0) room_1.cells room_1.slots (T99.setTop (mkF m 126 #[.val (.int x0), .val (.int x1), .val (.int x2), .val (.int x3), .val (.int x4), .val (.int (2 : Int32)), .val (.int (0 : Int32)), .val (.int tt), .val (.int q0), .val (.ref ad75), .val (.ref ad83), .val (.ref ad92), .unset, .unset] []))
      refine g_iload X99.here hx (Jvm.hb hby at_126) (pc' := 128) rfl rfl ?_
      refine g_iconst X99.here hx (Jvm.hb hby at_128) (pc' := 129) rfl (z := (1 : Int32)) rfl ?_
      refine g_icN X99.here hx (Jvm.hb hby at_129) (pc' := 132) rfl (tlt (by decide)).2.2.2 ?_
      refine g_aload X99.here hx (Jvm.hb hby at_132) (pc' := 134) rfl rfl rfl ?_
      refine g_aload X99.here hx (Jvm.hb hby at_134) (pc' := 136) rfl rfl rfl ?_
      refine g_iconst X99.here hx (Jvm.hb hby at_136) (pc' := 137) rfl (z := (1 : Int32)) rfl ?_
      have F101 := (F98.keep K99 (ninS (Nat.ne_of_lt (by omega)) (ninS (Nat.ne_of_lt (by omega)) (ninS (Nat.ne_of_lt (by omega)) (ninS (Nat.ne_of_lt (by omega)) (ninS (Nat.ne_of_lt (by omega)) (ninS (Nat.ne_of_lt (by omega)) nin0)))))))
      refine g_iaload X99 hx hZ rfl F101 ⟨by decide, by decide⟩ (v := q1) rfl (Jvm.hb hby at_137) (pc' := 138) rfl ?_
      refine g_iload X99.here hx (Jvm.hb hby at_138) (pc' := 140) rfl rfl ?_
      refine g_callV X99 hx hZ hown w_32 w_33 (own_nf hZ w_35) w_35 w_34 w_5 w_36 (by decide) (rm5 l Z a0 hw [] ad92 r0 r1 r2 r3 r4 r5 q1 tt (own_ap own_st0 q0 tt) T99.heap n0 Z100 g_ad92 hord PL99 ⟨h1.1, by omega⟩ rt (own_l8 q0 q1 q2 tt h0 h1 h2 h01 h02 h12 ht)) 0 (by decide) (by decide) rfl PL99.1.1 (by rw [hml]; rfl) [(.int q1), (.int tt)] [] (lenOf pd_2 rfl) rfl rfl (Nat.le_of_eq rfl) (Jvm.hb hby at_140) (pc' := 143) rfl (cells' := 9) (slots' := 30) rfl rfl (by decide) (by decide) ?_
      intro v102 T102 L102 X102 hQ102
      obtain ⟨rfl, Nq102, K102, PL102⟩ := hQ102
      have N102 := Fr.app N99 Nq102
      have Z103 : n0 ≤ T102.heap.size := Nat.le_trans Z100 K102.1
      show own_Gl p e below s (own_Q0 n0) room_1.cells room_1.slots (T102.setTop (mkF m 143 #[.val (.int x0), .val (.int x1), .val (.int x2), .val (.int x3), .val (.int x4), .val (.int (2 : Int32)), .val (.int (0 : Int32)), .val (.int tt), .val (.int q0), .val (.ref ad75), .val (.ref ad83), .val (.ref ad92), .unset, .unset] []))
      refine g_iload X102.here hx (Jvm.hb hby at_143) (pc' := 145) rfl rfl ?_
      refine g_iconst X102.here hx (Jvm.hb hby at_145) (pc' := 146) rfl (z := (2 : Int32)) rfl ?_
      refine g_icY X102.here hx (Jvm.hb hby at_146) (by decide) (pc' := 160) (by decide) (flt (by decide)).2.2.2 ?_
      refine g_aload X102.here hx (Jvm.hb hby at_160) (pc' := 162) rfl rfl rfl ?_
      refine g_aload X102.here hx (Jvm.hb hby at_162) (pc' := 164) rfl rfl rfl ?_
      refine g_iload X102.here hx (Jvm.hb hby at_164) (pc' := 166) rfl rfl ?_
      have F104 := (F101.keep K102 (ninS (Nat.ne_of_lt (by omega)) (ninS (Nat.ne_of_lt (by omega)) (ninS (Nat.ne_of_lt (by omega)) (ninS (Nat.ne_of_lt (by omega)) (ninS (Nat.ne_of_lt (by omega)) (ninS (Nat.ne_of_lt (by omega)) nin0)))))))
      refine g_iaload X102 hx hZ rfl F104 ⟨by decide, by decide⟩ (v := q0) rfl (Jvm.hb hby at_166) (pc' := 167) rfl ?_
      refine g_callV X102 hx hZ hown w_37 w_38 (own_nf hZ w_40) w_40 w_39 w_5 w_41 (by decide) (rm6 l Z a0 hw [] ad92 r0 r1 r2 r3 r4 r5 q0 (own_ap (own_ap own_st0 q0 tt) q1 tt) T102.heap n0 Z103 g_ad92 hord PL102 ⟨h0.1, by omega⟩ (own_l9 q0 q1 q2 tt h0 h1 h2 h01 h02 h12 ht) (own_l10 q0 q1 q2 tt h0 h1 h2 h01 h02 h12 ht) (own_l11 q0 q1 q2 tt h0 h1 h2 h01 h02 h12 ht)) 0 (by decide) (by decide) rfl PL102.1.1 (by rw [hml]; rfl) [(.int q0)] [] (lenOf pd_3 rfl) rfl rfl (Nat.le_of_eq rfl) (Jvm.hb hby at_167) (pc' := 170) rfl (cells' := 9) (slots' := 30) rfl rfl (by decide) (by decide) ?_
      intro v105 T105 L105 X105 hQ105
      obtain ⟨rfl, Nq105, K105, PL105⟩ := hQ105
      have N105 := Fr.app N102 Nq105
      have Z106 : n0 ≤ T105.heap.size := Nat.le_trans Z103 K105.1
      show own_Gl p e below s (own_Q0 n0) room_1.cells room_1.slots (T105.setTop (mkF m 170 #[.val (.int x0), .val (.int x1), .val (.int x2), .val (.int x3), .val (.int x4), .val (.int (2 : Int32)), .val (.int (0 : Int32)), .val (.int tt), .val (.int q0), .val (.ref ad75), .val (.ref ad83), .val (.ref ad92), .unset, .unset] []))
      refine g_aload X105.here hx (Jvm.hb hby at_170) (pc' := 172) rfl rfl rfl ?_
      refine g_iload X105.here hx (Jvm.hb hby at_172) (pc' := 174) rfl rfl ?_
      refine g_iconst X105.here hx (Jvm.hb hby at_174) (pc' := 175) rfl (z := (0 : Int32)) rfl ?_
      have F107 := ((((F95.keep K96 (ninS ne_ad83_ad92 nin0)).keep K99 (ninS (Nat.ne_of_lt (by omega)) (ninS (Nat.ne_of_lt (by omega)) (ninS (Nat.ne_of_lt (by omega)) (ninS (Nat.ne_of_lt (by omega)) (ninS (Nat.ne_of_lt (by omega)) (ninS (Nat.ne_of_lt (by omega)) nin0))))))).keep K102 (ninS (Nat.ne_of_lt (by omega)) (ninS (Nat.ne_of_lt (by omega)) (ninS (Nat.ne_of_lt (by omega)) (ninS (Nat.ne_of_lt (by omega)) (ninS (Nat.ne_of_lt (by omega)) (ninS (Nat.ne_of_lt (by omega)) nin0))))))).keep K105 (ninS (Nat.ne_of_lt (by omega)) (ninS (Nat.ne_of_lt (by omega)) (ninS (Nat.ne_of_lt (by omega)) (ninS (Nat.ne_of_lt (by omega)) (ninS (Nat.ne_of_lt (by omega)) (ninS (Nat.ne_of_lt (by omega)) nin0)))))))
      refine g_zastore X105 hx hZ rfl F107 ⟨by decide, by decide⟩ (x' := (0 : Int32)) rfl (Jvm.hb hby at_175) (pc' := 176) rfl ?_
      intro T108 hh108 X108 e108 W108 V108
      have N108 := Fr.snoc X108 N105 g_ad83
      have Z109 : n0 ≤ hh108.size := (by rw [W108.size]; exact Z106)
      refine g_iloadN X108.here hx (Jvm.hb hby at_176) (pc' := 177) rfl rfl ?_
      refine g_iconst X108.here hx (Jvm.hb hby at_177) (pc' := 178) rfl (z := (1 : Int32)) rfl ?_
      refine g_iand X108.here hx (Jvm.hb hby at_178) (pc' := 179) rfl ?_
      by_cases hc179 : (x3 &&& (1 : Int32)) = (0 : Int32)
      · refine g_ifY X108.here hx (Jvm.hb hby at_179) (by decide) (pc' := 222) (by decide) ((if0 _ _).trans (teq hc179).1) ?_
        refine g_aload X108.here hx (Jvm.hb hby at_222) (pc' := 224) rfl rfl rfl ?_
        refine g_iconst X108.here hx (Jvm.hb hby at_224) (pc' := 225) rfl (z := (3 : Int32)) rfl ?_
        refine g_iload X108.here hx (Jvm.hb hby at_225) (pc' := 227) rfl rfl ?_
        have PLx110 := (own_PL.other PL105 W108 hord (by omega))
        refine g_callV X108 hx hZ hown w_32 w_33 (own_nf hZ w_35) w_35 w_34 w_5 w_36 (by decide) (rm5 l Z a0 hw [] ad92 r0 r1 r2 r3 r4 r5 (3 : Int32) tt (own_rm (own_ap (own_ap own_st0 q0 tt) q1 tt) q0) hh108 n0 Z109 g_ad92 hord PLx110 ⟨by decide, by decide⟩ rt (own_l12 q0 q1 q2 tt h0 h1 h2 h01 h02 h12 ht)) 0 (by decide) (by decide) e108 PLx110.1.1 (by rw [hml]; rfl) [(.int (3 : Int32)), (.int tt)] [] (lenOf pd_2 rfl) rfl rfl (Nat.le_of_eq rfl) (Jvm.hb hby at_227) (pc' := 230) rfl (cells' := 9) (slots' := 30) rfl rfl (by decide) (by decide) ?_
        intro v111 T111 L111 X111 hQ111
        obtain ⟨rfl, Nq111, K111, PL111⟩ := hQ111
        have N111 := Fr.app N108 Nq111
        have Z112 : n0 ≤ T111.heap.size := Nat.le_trans Z109 K111.1
        show own_Gl p e below s (own_Q0 n0) room_1.cells room_1.slots (T111.setTop (mkF m 230 #[.val (.int x0), .val (.int x1), .val (.int x2), .val (.int x3), .val (.int x4), .val (.int (2 : Int32)), .val (.int (0 : Int32)), .val (.int tt), .val (.int q0), .val (.ref ad75), .val (.ref ad83), .val (.ref ad92), .unset, .unset] []))
        refine g_iconst X111.here hx (Jvm.hb hby at_230) (pc' := 231) rfl (z := (3 : Int32)) rfl ?_
        have F113 := (((F104.keep K105 (ninS (Nat.ne_of_lt (by omega)) (ninS (Nat.ne_of_lt (by omega)) (ninS (Nat.ne_of_lt (by omega)) (ninS (Nat.ne_of_lt (by omega)) (ninS (Nat.ne_of_lt (by omega)) (ninS (Nat.ne_of_lt (by omega)) nin0))))))).other W108 ne_ad75_ad83).keep K111 (ninS (Nat.ne_of_lt (by omega)) (ninS (Nat.ne_of_lt (by omega)) (ninS (Nat.ne_of_lt (by omega)) (ninS (Nat.ne_of_lt (by omega)) (ninS (Nat.ne_of_lt (by omega)) (ninS (Nat.ne_of_lt (by omega)) nin0)))))))
        have F114 := (V108.keep K111 (ninS (Nat.ne_of_lt (by omega)) (ninS (Nat.ne_of_lt (by omega)) (ninS (Nat.ne_of_lt (by omega)) (ninS (Nat.ne_of_lt (by omega)) (ninS (Nat.ne_of_lt (by omega)) (ninS (Nat.ne_of_lt (by omega)) nin0)))))))
        refine g_newarr X111 hx hZ (ty := .int) rfl rfl w_1 rfl (Jvm.hb hby at_231) (pc' := 233) rfl (n := 3) (by decide) 3 (by decide) (by decide) (cells' := 10) (slots' := 33) rfl rfl (by decide) (by decide) ?_
        intro T115 hh115 ad115 gb115 X115 e115 E115 V115
        have g_ad115 : n0 ≤ ad115 := by rw [gb115]; exact Z112
        have lt_ad75_ad115 : @LT.lt Nat _ ad75 ad115 := by rw [gb115]; exact F113.lt
        have ne_ad75_ad115 : ad75 ≠ ad115 := Nat.ne_of_lt lt_ad75_ad115
        have lt_ad83_ad115 : @LT.lt Nat _ ad83 ad115 := by rw [gb115]; exact F114.lt
        have ne_ad83_ad115 : ad83 ≠ ad115 := Nat.ne_of_lt lt_ad83_ad115
        have lt_ad92_ad115 : @LT.lt Nat _ ad92 ad115 := by rw [gb115]; exact PL111.1.1.lt
        have ne_ad92_ad115 : ad92 ≠ ad115 := Nat.ne_of_lt lt_ad92_ad115
        have Z116 : n0 ≤ hh115.size := Nat.le_trans Z112 E115.1
        have lt5 : @LT.lt Nat _ r5 ad115 := by rw [gb115]; exact own_PL.lt5 PL111
        refine g_astore X115.here hx (Jvm.hb hby at_233) (pc' := 235) rfl rfl (L' := #[.val (.int x0), .val (.int x1), .val (.int x2), .val (.int x3), .val (.int x4), .val (.int (2 : Int32)), .val (.int (0 : Int32)), .val (.int tt), .val (.int q0), .val (.ref ad75), .val (.ref ad83), .val (.ref ad92), .val (.ref ad115), .unset]) rfl ?_
        refine g_aload X115.here hx (Jvm.hb hby at_235) (pc' := 237) rfl rfl rfl ?_
        refine g_iconst X115.here hx (Jvm.hb hby at_237) (pc' := 238) rfl (z := (0 : Int32)) rfl ?_
        refine g_iconst X115.here hx (Jvm.hb hby at_238) (pc' := 239) rfl (z := (-1 : Int32)) rfl ?_
        refine g_iastore X115 hx hZ e115 V115 ⟨by decide, by decide⟩ (Jvm.hb hby at_239) (pc' := 240) rfl ?_
        intro T117 hh117 X117 e117 W117 V117
        have N117 := Fr.snoc X117 N111 g_ad115
        have Z118 : n0 ≤ hh117.size := (by rw [W117.size]; exact Z116)
        refine g_aload X117.here hx (Jvm.hb hby at_240) (pc' := 242) rfl rfl rfl ?_
        refine g_iconst X117.here hx (Jvm.hb hby at_242) (pc' := 243) rfl (z := (1 : Int32)) rfl ?_
        refine g_iconst X117.here hx (Jvm.hb hby at_243) (pc' := 244) rfl (z := (-1 : Int32)) rfl ?_
        refine g_iastore X117 hx hZ e117 V117 ⟨by decide, by decide⟩ (Jvm.hb hby at_244) (pc' := 245) rfl ?_
        intro T119 hh119 X119 e119 W119 V119
        have N119 := Fr.snoc X119 N117 g_ad115
        have Z120 : n0 ≤ hh119.size := (by rw [W119.size]; exact Z118)
        refine g_aload X119.here hx (Jvm.hb hby at_245) (pc' := 247) rfl rfl rfl ?_
        refine g_iconst X119.here hx (Jvm.hb hby at_247) (pc' := 248) rfl (z := (2 : Int32)) rfl ?_
        refine g_iconst X119.here hx (Jvm.hb hby at_248) (pc' := 249) rfl (z := (-1 : Int32)) rfl ?_
        refine g_iastore X119 hx hZ e119 V119 ⟨by decide, by decide⟩ (Jvm.hb hby at_249) (pc' := 250) rfl ?_
        intro T121 hh121 X121 e121 W121 V121
        have N121 := Fr.snoc X121 N119 g_ad115
        have Z122 : n0 ≤ hh121.size := (by rw [W121.size]; exact Z120)
        refine g_iconst X121.here hx (Jvm.hb hby at_250) (pc' := 251) rfl (z := (0 : Int32)) rfl ?_
        refine g_istore X121.here hx (Jvm.hb hby at_251) (pc' := 253) rfl (L' := #[.val (.int x0), .val (.int x1), .val (.int x2), .val (.int x3), .val (.int x4), .val (.int (2 : Int32)), .val (.int (0 : Int32)), .val (.int tt), .val (.int q0), .val (.ref ad75), .val (.ref ad83), .val (.ref ad92), .val (.ref ad115), .val (.int (0 : Int32))]) rfl ?_
        refine g_aload X121.here hx (Jvm.hb hby at_253) (pc' := 255) rfl rfl rfl ?_
        refine g_iconst X121.here hx (Jvm.hb hby at_255) (pc' := 256) rfl (z := (0 : Int32)) rfl ?_
        have F123 := ((((F114.ext E115).other W117 ne_ad83_ad115).other W119 ne_ad83_ad115).other W121 ne_ad83_ad115)
        refine g_zaload X121 hx hZ e121 F123 ⟨by decide, by decide⟩ (v := (0 : Int32)) rfl (Jvm.hb hby at_256) (pc' := 257) rfl ?_
        refine g_ifY X121.here hx (Jvm.hb hby at_257) (by decide) (pc' := 272) (by decide) ((if0 _ _).trans (teq (by decide)).1) ?_
        refine g_aload X121.here hx (Jvm.hb hby at_272) (pc' := 274) rfl rfl rfl ?_
        refine g_iconst X121.here hx (Jvm.hb hby at_274) (pc' := 275) rfl (z := (1 : Int32)) rfl ?_
        refine g_zaload X121 hx hZ e121 F123 ⟨by decide, by decide⟩ (v := (1 : Int32)) rfl (Jvm.hb hby at_275) (pc' := 276) rfl ?_
        refine g_ifN X121.here hx (Jvm.hb hby at_276) (pc' := 279) rfl ((if0 _ _).trans (feq (by decide)).1) ?_
        refine g_aload X121.here hx (Jvm.hb hby at_279) (pc' := 281) rfl rfl rfl ?_
        refine g_iload X121.here hx (Jvm.hb hby at_281) (pc' := 283) rfl rfl ?_
        refine g_aload X121.here hx (Jvm.hb hby at_283) (pc' := 285) rfl rfl rfl ?_
        refine g_iconst X121.here hx (Jvm.hb hby at_285) (pc' := 286) rfl (z := (1 : Int32)) rfl ?_
        have F124 := ((((F113.ext E115).other W117 ne_ad75_ad115).other W119 ne_ad75_ad115).other W121 ne_ad75_ad115)
        refine g_iaload X121 hx hZ e121 F124 ⟨by decide, by decide⟩ (v := q1) rfl (Jvm.hb hby at_286) (pc' := 287) rfl ?_
        refine g_iastore X121 hx hZ e121 V121 ⟨by decide, by decide⟩ (Jvm.hb hby at_287) (pc' := 288) rfl ?_
        intro T125 hh125 X125 e125 W125 V125
        have N125 := Fr.snoc X125 N121 g_ad115
        have Z126 : n0 ≤ hh125.size := (by rw [W125.size]; exact Z122)
        refine g_iinc X125.here hx (Jvm.hb hby at_288) (pc' := 291) rfl (z := (1 : Int32)) rfl rfl (L' := #[.val (.int x0), .val (.int x1), .val (.int x2), .val (.int x3), .val (.int x4), .val (.int (2 : Int32)), .val (.int (0 : Int32)), .val (.int tt), .val (.int q0), .val (.ref ad75), .val (.ref ad83), .val (.ref ad92), .val (.ref ad115), .val (.int (1 : Int32))]) rfl ?_
        refine g_aload X125.here hx (Jvm.hb hby at_291) (pc' := 293) rfl rfl rfl ?_
        refine g_iconst X125.here hx (Jvm.hb hby at_293) (pc' := 294) rfl (z := (2 : Int32)) rfl ?_
        have F127 := (F123.other W125 ne_ad83_ad115)
        refine g_zaload X125 hx hZ e125 F127 ⟨by decide, by decide⟩ (v := (0 : Int32)) rfl (Jvm.hb hby at_294) (pc' := 295) rfl ?_
        refine g_ifY X125.here hx (Jvm.hb hby at_295) (by decide) (pc' := 310) (by decide) ((if0 _ _).trans (teq (by decide)).1) ?_
        refine g_aload X125.here hx (Jvm.hb hby at_310) (pc' := 312) rfl rfl rfl ?_
        refine g_iload X125.here hx (Jvm.hb hby at_312) (pc' := 314) rfl rfl ?_
        refine g_iconst X125.here hx (Jvm.hb hby at_314) (pc' := 315) rfl (z := (3 : Int32)) rfl ?_
        refine g_iastore X125 hx hZ e125 V125 ⟨by decide, by decide⟩ (Jvm.hb hby at_315) (pc' := 316) rfl ?_
        intro T128 hh128 X128 e128 W128 V128
        have N128 := Fr.snoc X128 N125 g_ad115
        have Z129 : n0 ≤ hh128.size := (by rw [W128.size]; exact Z126)
        refine g_aload X128.here hx (Jvm.hb hby at_316) (pc' := 318) rfl rfl rfl ?_
        refine g_aload X128.here hx (Jvm.hb hby at_318) (pc' := 320) rfl rfl rfl ?_
        refine g_iload X128.here hx (Jvm.hb hby at_320) (pc' := 322) rfl rfl ?_
        have F130 := ((F124.other W125 ne_ad75_ad115).other W128 ne_ad75_ad115)
        refine g_iaload X128 hx hZ e128 F130 ⟨by decide, by decide⟩ (v := q0) rfl (Jvm.hb hby at_322) (pc' := 323) rfl ?_
        have PLx131 := (own_PL.other (own_PL.other (own_PL.other (own_PL.other (own_PL.other (own_PL.ext PL111 E115) W117 hord (by omega)) W119 hord (by omega)) W121 hord (by omega)) W125 hord (by omega)) W128 hord (by omega))
        refine g_callV X128 hx hZ hown w_42 w_43 (own_nf hZ w_45) w_45 w_44 w_5 w_46 (by decide) (rm7 l Z a0 hw [] ad92 r0 r1 r2 r3 r4 r5 q0 (own_ap (own_rm (own_ap (own_ap own_st0 q0 tt) q1 tt) q0) (3 : Int32) tt) hh128 PLx131 ⟨h0.1, by omega⟩) 0 (by decide) (by decide) e128 PLx131.1.1 (by rw [hml]; rfl) [(.int q0)] [] (lenOf pd_4 rfl) rfl rfl (Nat.le_of_eq rfl) (Jvm.hb hby at_323) (pc' := 326) rfl (cells' := 10) (slots' := 33) rfl rfl (by decide) (by decide) ?_
        intro v132 T132 L132 X132 hQ132
        obtain ⟨rfl, rfl, e132⟩ := hQ132
        rw [List.append_nil] at X132
        show own_Gl p e below s (own_Q0 n0) room_1.cells room_1.slots (T132.setTop (mkF m 326 #[.val (.int x0), .val (.int x1), .val (.int x2), .val (.int x3), .val (.int x4), .val (.int (2 : Int32)), .val (.int (0 : Int32)), .val (.int tt), .val (.int q0), .val (.ref ad75), .val (.ref ad83), .val (.ref ad92), .val (.ref ad115), .val (.int (1 : Int32))] [(.int ((own_ap (own_rm (own_ap (own_ap own_st0 q0 tt) q1 tt) q0) (3 : Int32) tt) 0 q0.toNatClampNeg))]))
        refine g_iconst X132.here hx (Jvm.hb hby at_326) (pc' := 327) rfl (z := (-1 : Int32)) rfl ?_
        refine g_icY X132.here hx (Jvm.hb hby at_327) (by decide) (pc' := 332) (by decide) (teq (own_l13 q0 q1 q2 tt h0 h1 h2 h01 h02 h12 ht)).1 ?_
        refine g_aload X132.here hx (Jvm.hb hby at_332) (pc' := 334) rfl rfl rfl ?_
        refine g_iload X132.here hx (Jvm.hb hby at_334) (pc' := 336) rfl rfl ?_
        refine g_callV X132 hx hZ hown w_47 w_48 (own_nf hZ w_50) w_50 w_49 w_5 w_51 (by decide) (rm8 l Z a0 hw [] ad92 r0 r1 r2 r3 r4 r5 tt (own_ap (own_rm (own_ap (own_ap own_st0 q0 tt) q1 tt) q0) (3 : Int32) tt) hh128 PLx131 rt) 0 (by decide) (by decide) e132 PLx131.1.1 (by rw [hml]; rfl) [(.int tt)] [] (lenOf pd_4 rfl) rfl rfl (Nat.le_of_eq rfl) (Jvm.hb hby at_336) (pc' := 339) rfl (cells' := 10) (slots' := 33) rfl rfl (by decide) (by decide) ?_
        intro v133 T133 L133 X133 hQ133
        obtain ⟨rfl, rfl, e133⟩ := hQ133
        rw [List.append_nil] at X133
        show own_Gl p e below s (own_Q0 n0) room_1.cells room_1.slots (T133.setTop (mkF m 339 #[.val (.int x0), .val (.int x1), .val (.int x2), .val (.int x3), .val (.int x4), .val (.int (2 : Int32)), .val (.int (0 : Int32)), .val (.int tt), .val (.int q0), .val (.ref ad75), .val (.ref ad83), .val (.ref ad92), .val (.ref ad115), .val (.int (1 : Int32))] [(.int ((own_ap (own_rm (own_ap (own_ap own_st0 q0 tt) q1 tt) q0) (3 : Int32) tt) 5 tt.toNatClampNeg))]))
        refine g_iload X133.here hx (Jvm.hb hby at_339) (pc' := 341) rfl rfl ?_
        refine g_iconst X133.here hx (Jvm.hb hby at_341) (pc' := 342) rfl (z := (1 : Int32)) rfl ?_
        refine g_iadd X133.here hx (Jvm.hb hby at_342) (pc' := 343) rfl ?_
        refine g_icY X133.here hx (Jvm.hb hby at_343) (by decide) (pc' := 348) (by decide) (teq ((own_l14 q0 q1 q2 tt h0 h1 h2 h01 h02 h12 ht))).1 ?_
        refine g_aload X133.here hx (Jvm.hb hby at_348) (pc' := 350) rfl rfl rfl ?_
        refine g_iload X133.here hx (Jvm.hb hby at_350) (pc' := 352) rfl rfl ?_
        refine g_callV X133 hx hZ hown w_52 w_53 (own_nf hZ w_55) w_55 w_54 w_5 w_56 (by decide) (rm9 l Z a0 hw [] ad92 r0 r1 r2 r3 r4 r5 tt (own_ap (own_rm (own_ap (own_ap own_st0 q0 tt) q1 tt) q0) (3 : Int32) tt) hh128 PLx131 rt) 0 (by decide) (by decide) e133 PLx131.1.1 (by rw [hml]; rfl) [(.int tt)] [] (lenOf pd_4 rfl) rfl rfl (Nat.le_of_eq rfl) (Jvm.hb hby at_352) (pc' := 355) rfl (cells' := 10) (slots' := 33) rfl rfl (by decide) (by decide) ?_
        intro v134 T134 L134 X134 hQ134
        obtain ⟨rfl, rfl, e134⟩ := hQ134
        rw [List.append_nil] at X134
        show own_Gl p e below s (own_Q0 n0) room_1.cells room_1.slots (T134.setTop (mkF m 355 #[.val (.int x0), .val (.int x1), .val (.int x2), .val (.int x3), .val (.int x4), .val (.int (2 : Int32)), .val (.int (0 : Int32)), .val (.int tt), .val (.int q0), .val (.ref ad75), .val (.ref ad83), .val (.ref ad92), .val (.ref ad115), .val (.int (1 : Int32))] [(.int ((own_ap (own_rm (own_ap (own_ap own_st0 q0 tt) q1 tt) q0) (3 : Int32) tt) 3 tt.toNatClampNeg))]))
        refine g_aload X134.here hx (Jvm.hb hby at_355) (pc' := 357) rfl rfl rfl ?_
        refine g_iconst X134.here hx (Jvm.hb hby at_357) (pc' := 358) rfl (z := (0 : Int32)) rfl ?_
        refine g_iaload X134 hx hZ e134 V128 ⟨by decide, by decide⟩ (v := q1) rfl (Jvm.hb hby at_358) (pc' := 359) rfl ?_
        refine g_icY X134.here hx (Jvm.hb hby at_359) (by decide) (pc' := 364) (by decide) (teq (own_l15 q0 q1 q2 tt h0 h1 h2 h01 h02 h12 ht)).1 ?_
        refine g_aload X134.here hx (Jvm.hb hby at_364) (pc' := 366) rfl rfl rfl ?_
        refine g_iconst X134.here hx (Jvm.hb hby at_366) (pc' := 367) rfl (z := (0 : Int32)) rfl ?_
        refine g_iaload X134 hx hZ e134 V128 ⟨by decide, by decide⟩ (v := q1) rfl (Jvm.hb hby at_367) (pc' := 368) rfl ?_
        refine g_iconst X134.here hx (Jvm.hb hby at_368) (pc' := 369) rfl (z := (3 : Int32)) rfl ?_
        refine g_icN X134.here hx (Jvm.hb hby at_369) (pc' := 372) rfl (feq (fun q => by have := congrArg Int32.toInt q; simp only [Int32.reduceToInt] at this; omega)).1 ?_
        refine g_aload X134.here hx (Jvm.hb hby at_372) (pc' := 374) rfl rfl rfl ?_
        refine g_aload X134.here hx (Jvm.hb hby at_374) (pc' := 376) rfl rfl rfl ?_
        refine g_iconst X134.here hx (Jvm.hb hby at_376) (pc' := 377) rfl (z := (0 : Int32)) rfl ?_
        refine g_iaload X134 hx hZ e134 V128 ⟨by decide, by decide⟩ (v := q1) rfl (Jvm.hb hby at_377) (pc' := 378) rfl ?_
        refine g_callV X134 hx hZ hown w_57 w_58 (own_nf hZ w_60) w_60 w_59 w_5 w_61 (by decide) (rm10 l Z a0 hw [] ad92 r0 r1 r2 r3 r4 r5 q1 (own_ap (own_rm (own_ap (own_ap own_st0 q0 tt) q1 tt) q0) (3 : Int32) tt) hh128 PLx131 ⟨h1.1, by omega⟩) 0 (by decide) (by decide) e134 PLx131.1.1 (by rw [hml]; rfl) [(.int q1)] [] (lenOf pd_4 rfl) rfl rfl (Nat.le_of_eq rfl) (Jvm.hb hby at_378) (pc' := 381) rfl (cells' := 10) (slots' := 33) rfl rfl (by decide) (by decide) ?_
        intro v135 T135 L135 X135 hQ135
        obtain ⟨rfl, rfl, e135⟩ := hQ135
        rw [List.append_nil] at X135
        show own_Gl p e below s (own_Q0 n0) room_1.cells room_1.slots (T135.setTop (mkF m 381 #[.val (.int x0), .val (.int x1), .val (.int x2), .val (.int x3), .val (.int x4), .val (.int (2 : Int32)), .val (.int (0 : Int32)), .val (.int tt), .val (.int q0), .val (.ref ad75), .val (.ref ad83), .val (.ref ad92), .val (.ref ad115), .val (.int (1 : Int32))] [(.int ((own_ap (own_rm (own_ap (own_ap own_st0 q0 tt) q1 tt) q0) (3 : Int32) tt) 2 q1.toNatClampNeg))]))
        refine g_aload X135.here hx (Jvm.hb hby at_381) (pc' := 383) rfl rfl rfl ?_
        refine g_iconst X135.here hx (Jvm.hb hby at_383) (pc' := 384) rfl (z := (1 : Int32)) rfl ?_
        refine g_iaload X135 hx hZ e135 V128 ⟨by decide, by decide⟩ (v := (3 : Int32)) rfl (Jvm.hb hby at_384) (pc' := 385) rfl ?_
        refine g_icY X135.here hx (Jvm.hb hby at_385) (by decide) (pc' := 390) (by decide) (teq (own_l16 q0 q1 q2 tt h0 h1 h2 h01 h02 h12 ht)).1 ?_
        refine g_aload X135.here hx (Jvm.hb hby at_390) (pc' := 392) rfl rfl rfl ?_
        refine g_iconst X135.here hx (Jvm.hb hby at_392) (pc' := 393) rfl (z := (0 : Int32)) rfl ?_
        refine g_iaload X135 hx hZ e135 V128 ⟨by decide, by decide⟩ (v := q1) rfl (Jvm.hb hby at_393) (pc' := 394) rfl ?_
        refine g_iconst X135.here hx (Jvm.hb hby at_394) (pc' := 395) rfl (z := (3 : Int32)) rfl ?_
        refine g_icN X135.here hx (Jvm.hb hby at_395) (pc' := 398) rfl (feq (fun q => by have := congrArg Int32.toInt q; simp only [Int32.reduceToInt] at this; omega)).1 ?_
        refine g_aload X135.here hx (Jvm.hb hby at_398) (pc' := 400) rfl rfl rfl ?_
        refine g_iconst X135.here hx (Jvm.hb hby at_400) (pc' := 401) rfl (z := (1 : Int32)) rfl ?_
        refine g_iaload X135 hx hZ e135 V128 ⟨by decide, by decide⟩ (v := (3 : Int32)) rfl (Jvm.hb hby at_401) (pc' := 402) rfl ?_
        refine g_iconst X135.here hx (Jvm.hb hby at_402) (pc' := 403) rfl (z := (3 : Int32)) rfl ?_
        refine g_icY X135.here hx (Jvm.hb hby at_403) (by decide) (pc' := 424) (by decide) (teq (by decide)).1 ?_
        refine g_iconst X135.here hx (Jvm.hb hby at_424) (pc' := 425) rfl (z := (1 : Int32)) rfl ?_
        exact g_retN X135 hx hlk (t := .boolean) hret (by simp) (z' := (1 : Int32)) rfl (Jvm.hb hby at_425) (by decide) (by decide) ⟨rfl, N128⟩
      · refine g_ifN X108.here hx (Jvm.hb hby at_179) (pc' := 182) rfl ((if0 _ _).trans (feq hc179).1) ?_
        refine g_iload X108.here hx (Jvm.hb hby at_182) (pc' := 184) rfl rfl ?_
        refine g_iconst X108.here hx (Jvm.hb hby at_184) (pc' := 185) rfl (z := (1 : Int32)) rfl ?_
        refine g_icN X108.here hx (Jvm.hb hby at_185) (pc' := 188) rfl (tlt (by decide)).2.2.2 ?_
        refine g_iload X108.here hx (Jvm.hb hby at_188) (pc' := 190) rfl rfl ?_
        refine g_iconst X108.here hx (Jvm.hb hby at_190) (pc' := 191) rfl (z := (1 : Int32)) rfl ?_
        refine g_iadd X108.here hx (Jvm.hb hby at_191) (pc' := 192) rfl ?_
        refine g_iloadN X108.here hx (Jvm.hb hby at_192) (pc' := 193) rfl rfl ?_
        refine g_iconst X108.here hx (Jvm.hb hby at_193) (pc' := 194) rfl (z := (1 : Int32)) rfl ?_
        refine g_iushr X108.here hx (Jvm.hb hby at_194) (pc' := 195) rfl ?_
        refine g_iload X108.here hx (Jvm.hb hby at_195) (pc' := 197) rfl rfl ?_
        refine g_iconst X108.here hx (Jvm.hb hby at_197) (pc' := 198) rfl (z := (1 : Int32)) rfl ?_
        refine g_isub X108.here hx (Jvm.hb hby at_198) (pc' := 199) rfl ?_
        rw [show ((2 : Int32) - (1 : Int32)) = (1 : Int32) from rfl]
        refine g_irem X108 hx (Jvm.hb hby at_199) (pc' := 200) rfl (by decide) ?_
        generalize htj : (((x3.toUInt32 >>> ((1 : Int32) &&& 31).toUInt32).toInt32) % (1 : Int32)) = tj
        have hj : tj = (0 : Int32) := by
          have e1 := c_iushr x3 1 1 (by decide) (by decide)
          have e2 := c_irem ((x3.toUInt32 >>> ((1 : Int32) &&& 31).toUInt32).toInt32) 1 1 (by decide)
          have r := rng32 x3
          simp only [Nat.reducePow] at e1
          rw [htj] at e2
          simp only [← Int32.toInt_inj, Int32.reduceToInt]
          omega
        clear htj
        subst hj
        refine g_iadd X108.here hx (Jvm.hb hby at_200) (pc' := 201) rfl ?_
        refine g_iload X108.here hx (Jvm.hb hby at_201) (pc' := 203) rfl rfl ?_
        refine g_irem X108 hx (Jvm.hb hby at_203) (pc' := 204) rfl (by decide) ?_
        refine g_istore X108.here hx (Jvm.hb hby at_204) (pc' := 206) rfl (L' := #[.val (.int x0), .val (.int x1), .val (.int x2), .val (.int x3), .val (.int x4), .val (.int (2 : Int32)), .val (.int (0 : Int32)), .val (.int tt), .val (.int q0), .val (.ref ad75), .val (.ref ad83), .val (.ref ad92), .val (.int ((((0 : Int32) + (1 : Int32)) + (0 : Int32)) % (2 : Int32))), .unset]) rfl ?_
        rw [show ((((0 : Int32) + (1 : Int32)) + (0 : Int32)) % (2 : Int32)) = (1 : Int32) from rfl]
        refine g_aload X108.here hx (Jvm.hb hby at_206) (pc' := 208) rfl rfl rfl ?_
        refine g_aload X108.here hx (Jvm.hb hby at_208) (pc' := 210) rfl rfl rfl ?_
        refine g_iload X108.here hx (Jvm.hb hby at_210) (pc' := 212) rfl rfl ?_
        have F136 := ((F104.keep K105 (ninS (Nat.ne_of_lt (by omega)) (ninS (Nat.ne_of_lt (by omega)) (ninS (Nat.ne_of_lt (by omega)) (ninS (Nat.ne_of_lt (by omega)) (ninS (Nat.ne_of_lt (by omega)) (ninS (Nat.ne_of_lt (by omega)) nin0))))))).other W108 ne_ad75_ad83)
        refine g_iaload X108 hx hZ e108 F136 ⟨by decide, by decide⟩ (v := q1) rfl (Jvm.hb hby at_212) (pc' := 213) rfl ?_
        have PLx137 := (own_PL.other PL105 W108 hord (by omega))
        refine g_callV X108 hx hZ hown w_37 w_38 (own_nf hZ w_40) w_40 w_39 w_5 w_41 (by decide) (rm6 l Z a0 hw [] ad92 r0 r1 r2 r3 r4 r5 q1 (own_rm (own_ap (own_ap own_st0 q0 tt) q1 tt) q0) hh108 n0 Z109 g_ad92 hord PLx137 ⟨h1.1, by omega⟩ (own_l17 q0 q1 q2 tt h0 h1 h2 h01 h02 h12 ht) (own_l18 q0 q1 q2 tt h0 h1 h2 h01 h02 h12 ht) (own_l19 q0 q1 q2 tt h0 h1 h2 h01 h02 h12 ht)) 0 (by decide) (by decide) e108 PLx137.1.1 (by rw [hml]; rfl) [(.int q1)] [] (lenOf pd_3 rfl) rfl rfl (Nat.le_of_eq rfl) (Jvm.hb hby at_213) (pc' := 216) rfl (cells' := 9) (slots' := 30) rfl rfl (by decide) (by decide) ?_
        intro v138 T138 L138 X138 hQ138
        obtain ⟨rfl, Nq138, K138, PL138⟩ := hQ138
        have N138 := Fr.app N108 Nq138
        have Z139 : n0 ≤ T138.heap.size := Nat.le_trans Z109 K138.1
        show own_Gl p e below s (own_Q0 n0) room_1.cells room_1.slots (T138.setTop (mkF m 216 #[.val (.int x0), .val (.int x1), .val (.int x2), .val (.int x3), .val (.int x4), .val (.int (2 : Int32)), .val (.int (0 : Int32)), .val (.int tt), .val (.int q0), .val (.ref ad75), .val (.ref ad83), .val (.ref ad92), .val (.int (1 : Int32)), .unset] []))
        refine g_aload X138.here hx (Jvm.hb hby at_216) (pc' := 218) rfl rfl rfl ?_
        refine g_iload X138.here hx (Jvm.hb hby at_218) (pc' := 220) rfl rfl ?_
        refine g_iconst X138.here hx (Jvm.hb hby at_220) (pc' := 221) rfl (z := (0 : Int32)) rfl ?_
        have F140 := (V108.keep K138 (ninS (Nat.ne_of_lt (by omega)) (ninS (Nat.ne_of_lt (by omega)) (ninS (Nat.ne_of_lt (by omega)) (ninS (Nat.ne_of_lt (by omega)) (ninS (Nat.ne_of_lt (by omega)) (ninS (Nat.ne_of_lt (by omega)) nin0)))))))
        refine g_zastore X138 hx hZ rfl F140 ⟨by decide, by decide⟩ (x' := (0 : Int32)) rfl (Jvm.hb hby at_221) (pc' := 222) rfl ?_
        intro T141 hh141 X141 e141 W141 V141
        have N141 := Fr.snoc X141 N138 g_ad83
        have Z142 : n0 ≤ hh141.size := (by rw [W141.size]; exact Z139)
        refine g_aload X141.here hx (Jvm.hb hby at_222) (pc' := 224) rfl rfl rfl ?_
        refine g_iconst X141.here hx (Jvm.hb hby at_224) (pc' := 225) rfl (z := (3 : Int32)) rfl ?_
        refine g_iload X141.here hx (Jvm.hb hby at_225) (pc' := 227) rfl rfl ?_
        have PLx143 := (own_PL.other PL138 W141 hord (by omega))
        refine g_callV X141 hx hZ hown w_32 w_33 (own_nf hZ w_35) w_35 w_34 w_5 w_36 (by decide) (rm5 l Z a0 hw [] ad92 r0 r1 r2 r3 r4 r5 (3 : Int32) tt (own_rm (own_rm (own_ap (own_ap own_st0 q0 tt) q1 tt) q0) q1) hh141 n0 Z142 g_ad92 hord PLx143 ⟨by decide, by decide⟩ rt (own_l20 q0 q1 q2 tt h0 h1 h2 h01 h02 h12 ht)) 0 (by decide) (by decide) e141 PLx143.1.1 (by rw [hml]; rfl) [(.int (3 : Int32)), (.int tt)] [] (lenOf pd_2 rfl) rfl rfl (Nat.le_of_eq rfl) (Jvm.hb hby at_227) (pc' := 230) rfl (cells' := 9) (slots' := 30) rfl rfl (by decide) (by decide) ?_
        intro v144 T144 L144 X144 hQ144
        obtain ⟨rfl, Nq144, K144, PL144⟩ := hQ144
        have N144 := Fr.app N141 Nq144
        have Z145 : n0 ≤ T144.heap.size := Nat.le_trans Z142 K144.1
        show own_Gl p e below s (own_Q0 n0) room_1.cells room_1.slots (T144.setTop (mkF m 230 #[.val (.int x0), .val (.int x1), .val (.int x2), .val (.int x3), .val (.int x4), .val (.int (2 : Int32)), .val (.int (0 : Int32)), .val (.int tt), .val (.int q0), .val (.ref ad75), .val (.ref ad83), .val (.ref ad92), .val (.int (1 : Int32)), .unset] []))
        refine g_iconst X144.here hx (Jvm.hb hby at_230) (pc' := 231) rfl (z := (3 : Int32)) rfl ?_
        have F146 := (((F136.keep K138 (ninS (Nat.ne_of_lt (by omega)) (ninS (Nat.ne_of_lt (by omega)) (ninS (Nat.ne_of_lt (by omega)) (ninS (Nat.ne_of_lt (by omega)) (ninS (Nat.ne_of_lt (by omega)) (ninS (Nat.ne_of_lt (by omega)) nin0))))))).other W141 ne_ad75_ad83).keep K144 (ninS (Nat.ne_of_lt (by omega)) (ninS (Nat.ne_of_lt (by omega)) (ninS (Nat.ne_of_lt (by omega)) (ninS (Nat.ne_of_lt (by omega)) (ninS (Nat.ne_of_lt (by omega)) (ninS (Nat.ne_of_lt (by omega)) nin0)))))))
        have F147 := (V141.keep K144 (ninS (Nat.ne_of_lt (by omega)) (ninS (Nat.ne_of_lt (by omega)) (ninS (Nat.ne_of_lt (by omega)) (ninS (Nat.ne_of_lt (by omega)) (ninS (Nat.ne_of_lt (by omega)) (ninS (Nat.ne_of_lt (by omega)) nin0)))))))
        refine g_newarr X144 hx hZ (ty := .int) rfl rfl w_1 rfl (Jvm.hb hby at_231) (pc' := 233) rfl (n := 3) (by decide) 3 (by decide) (by decide) (cells' := 10) (slots' := 33) rfl rfl (by decide) (by decide) ?_
        intro T148 hh148 ad148 gb148 X148 e148 E148 V148
        have g_ad148 : n0 ≤ ad148 := by rw [gb148]; exact Z145
        have lt_ad75_ad148 : @LT.lt Nat _ ad75 ad148 := by rw [gb148]; exact F146.lt
        have ne_ad75_ad148 : ad75 ≠ ad148 := Nat.ne_of_lt lt_ad75_ad148
        have lt_ad83_ad148 : @LT.lt Nat _ ad83 ad148 := by rw [gb148]; exact F147.lt
        have ne_ad83_ad148 : ad83 ≠ ad148 := Nat.ne_of_lt lt_ad83_ad148
        have lt_ad92_ad148 : @LT.lt Nat _ ad92 ad148 := by rw [gb148]; exact PL144.1.1.lt
        have ne_ad92_ad148 : ad92 ≠ ad148 := Nat.ne_of_lt lt_ad92_ad148
        have Z149 : n0 ≤ hh148.size := Nat.le_trans Z145 E148.1
        have lt5 : @LT.lt Nat _ r5 ad148 := by rw [gb148]; exact own_PL.lt5 PL144
        refine g_astore X148.here hx (Jvm.hb hby at_233) (pc' := 235) rfl rfl (L' := #[.val (.int x0), .val (.int x1), .val (.int x2), .val (.int x3), .val (.int x4), .val (.int (2 : Int32)), .val (.int (0 : Int32)), .val (.int tt), .val (.int q0), .val (.ref ad75), .val (.ref ad83), .val (.ref ad92), .val (.ref ad148), .unset]) rfl ?_
        refine g_aload X148.here hx (Jvm.hb hby at_235) (pc' := 237) rfl rfl rfl ?_
        refine g_iconst X148.here hx (Jvm.hb hby at_237) (pc' := 238) rfl (z := (0 : Int32)) rfl ?_
        refine g_iconst X148.here hx (Jvm.hb hby at_238) (pc' := 239) rfl (z := (-1 : Int32)) rfl ?_
        refine g_iastore X148 hx hZ e148 V148 ⟨by decide, by decide⟩ (Jvm.hb hby at_239) (pc' := 240) rfl ?_
        intro T150 hh150 X150 e150 W150 V150
        have N150 := Fr.snoc X150 N144 g_ad148
        have Z151 : n0 ≤ hh150.size := (by rw [W150.size]; exact Z149)
        refine g_aload X150.here hx (Jvm.hb hby at_240) (pc' := 242) rfl rfl rfl ?_
        refine g_iconst X150.here hx (Jvm.hb hby at_242) (pc' := 243) rfl (z := (1 : Int32)) rfl ?_
        refine g_iconst X150.here hx (Jvm.hb hby at_243) (pc' := 244) rfl (z := (-1 : Int32)) rfl ?_
        refine g_iastore X150 hx hZ e150 V150 ⟨by decide, by decide⟩ (Jvm.hb hby at_244) (pc' := 245) rfl ?_
        intro T152 hh152 X152 e152 W152 V152
        have N152 := Fr.snoc X152 N150 g_ad148
        have Z153 : n0 ≤ hh152.size := (by rw [W152.size]; exact Z151)
        refine g_aload X152.here hx (Jvm.hb hby at_245) (pc' := 247) rfl rfl rfl ?_
        refine g_iconst X152.here hx (Jvm.hb hby at_247) (pc' := 248) rfl (z := (2 : Int32)) rfl ?_
        refine g_iconst X152.here hx (Jvm.hb hby at_248) (pc' := 249) rfl (z := (-1 : Int32)) rfl ?_
        refine g_iastore X152 hx hZ e152 V152 ⟨by decide, by decide⟩ (Jvm.hb hby at_249) (pc' := 250) rfl ?_
        intro T154 hh154 X154 e154 W154 V154
        have N154 := Fr.snoc X154 N152 g_ad148
        have Z155 : n0 ≤ hh154.size := (by rw [W154.size]; exact Z153)
        refine g_iconst X154.here hx (Jvm.hb hby at_250) (pc' := 251) rfl (z := (0 : Int32)) rfl ?_
        refine g_istore X154.here hx (Jvm.hb hby at_251) (pc' := 253) rfl (L' := #[.val (.int x0), .val (.int x1), .val (.int x2), .val (.int x3), .val (.int x4), .val (.int (2 : Int32)), .val (.int (0 : Int32)), .val (.int tt), .val (.int q0), .val (.ref ad75), .val (.ref ad83), .val (.ref ad92), .val (.ref ad148), .val (.int (0 : Int32))]) rfl ?_
        refine g_aload X154.here hx (Jvm.hb hby at_253) (pc' := 255) rfl rfl rfl ?_
        refine g_iconst X154.here hx (Jvm.hb hby at_255) (pc' := 256) rfl (z := (0 : Int32)) rfl ?_
        have F156 := ((((F147.ext E148).other W150 ne_ad83_ad148).other W152 ne_ad83_ad148).other W154 ne_ad83_ad148)
        refine g_zaload X154 hx hZ e154 F156 ⟨by decide, by decide⟩ (v := (0 : Int32)) rfl (Jvm.hb hby at_256) (pc' := 257) rfl ?_
        refine g_ifY X154.here hx (Jvm.hb hby at_257) (by decide) (pc' := 272) (by decide) ((if0 _ _).trans (teq (by decide)).1) ?_
        refine g_aload X154.here hx (Jvm.hb hby at_272) (pc' := 274) rfl rfl rfl ?_
        refine g_iconst X154.here hx (Jvm.hb hby at_274) (pc' := 275) rfl (z := (1 : Int32)) rfl ?_
        refine g_zaload X154 hx hZ e154 F156 ⟨by decide, by decide⟩ (v := (0 : Int32)) rfl (Jvm.hb hby at_275) (pc' := 276) rfl ?_
        refine g_ifY X154.here hx (Jvm.hb hby at_276) (by decide) (pc' := 291) (by decide) ((if0 _ _).trans (teq (by decide)).1) ?_
        refine g_aload X154.here hx (Jvm.hb hby at_291) (pc' := 293) rfl rfl rfl ?_
        refine g_iconst X154.here hx (Jvm.hb hby at_293) (pc' := 294) rfl (z := (2 : Int32)) rfl ?_
        refine g_zaload X154 hx hZ e154 F156 ⟨by decide, by decide⟩ (v := (0 : Int32)) rfl (Jvm.hb hby at_294) (pc' := 295) rfl ?_
        refine g_ifY X154.here hx (Jvm.hb hby at_295) (by decide) (pc' := 310) (by decide) ((if0 _ _).trans (teq (by decide)).1) ?_
        refine g_aload X154.here hx (Jvm.hb hby at_310) (pc' := 312) rfl rfl rfl ?_
        refine g_iload X154.here hx (Jvm.hb hby at_312) (pc' := 314) rfl rfl ?_
        refine g_iconst X154.here hx (Jvm.hb hby at_314) (pc' := 315) rfl (z := (3 : Int32)) rfl ?_
        refine g_iastore X154 hx hZ e154 V154 ⟨by decide, by decide⟩ (Jvm.hb hby at_315) (pc' := 316) rfl ?_
        intro T157 hh157 X157 e157 W157 V157
        have N157 := Fr.snoc X157 N154 g_ad148
        have Z158 : n0 ≤ hh157.size := (by rw [W157.size]; exact Z155)
        refine g_aload X157.here hx (Jvm.hb hby at_316) (pc' := 318) rfl rfl rfl ?_
        refine g_aload X157.here hx (Jvm.hb hby at_318) (pc' := 320) rfl rfl rfl ?_
        refine g_iload X157.here hx (Jvm.hb hby at_320) (pc' := 322) rfl rfl ?_
        have F159 := (((((F146.ext E148).other W150 ne_ad75_ad148).other W152 ne_ad75_ad148).other W154 ne_ad75_ad148).other W157 ne_ad75_ad148)
        refine g_iaload X157 hx hZ e157 F159 ⟨by decide, by decide⟩ (v := q0) rfl (Jvm.hb hby at_322) (pc' := 323) rfl ?_
        have PLx160 := (own_PL.other (own_PL.other (own_PL.other (own_PL.other (own_PL.ext PL144 E148) W150 hord (by omega)) W152 hord (by omega)) W154 hord (by omega)) W157 hord (by omega))
        refine g_callV X157 hx hZ hown w_42 w_43 (own_nf hZ w_45) w_45 w_44 w_5 w_46 (by decide) (rm7 l Z a0 hw [] ad92 r0 r1 r2 r3 r4 r5 q0 (own_ap (own_rm (own_rm (own_ap (own_ap own_st0 q0 tt) q1 tt) q0) q1) (3 : Int32) tt) hh157 PLx160 ⟨h0.1, by omega⟩) 0 (by decide) (by decide) e157 PLx160.1.1 (by rw [hml]; rfl) [(.int q0)] [] (lenOf pd_4 rfl) rfl rfl (Nat.le_of_eq rfl) (Jvm.hb hby at_323) (pc' := 326) rfl (cells' := 10) (slots' := 33) rfl rfl (by decide) (by decide) ?_
        intro v161 T161 L161 X161 hQ161
        obtain ⟨rfl, rfl, e161⟩ := hQ161
        rw [List.append_nil] at X161
        show own_Gl p e below s (own_Q0 n0) room_1.cells room_1.slots (T161.setTop (mkF m 326 #[.val (.int x0), .val (.int x1), .val (.int x2), .val (.int x3), .val (.int x4), .val (.int (2 : Int32)), .val (.int (0 : Int32)), .val (.int tt), .val (.int q0), .val (.ref ad75), .val (.ref ad83), .val (.ref ad92), .val (.ref ad148), .val (.int (0 : Int32))] [(.int ((own_ap (own_rm (own_rm (own_ap (own_ap own_st0 q0 tt) q1 tt) q0) q1) (3 : Int32) tt) 0 q0.toNatClampNeg))]))
        refine g_iconst X161.here hx (Jvm.hb hby at_326) (pc' := 327) rfl (z := (-1 : Int32)) rfl ?_
        refine g_icY X161.here hx (Jvm.hb hby at_327) (by decide) (pc' := 332) (by decide) (teq (own_l21 q0 q1 q2 tt h0 h1 h2 h01 h02 h12 ht)).1 ?_
        refine g_aload X161.here hx (Jvm.hb hby at_332) (pc' := 334) rfl rfl rfl ?_
        refine g_iload X161.here hx (Jvm.hb hby at_334) (pc' := 336) rfl rfl ?_
        refine g_callV X161 hx hZ hown w_47 w_48 (own_nf hZ w_50) w_50 w_49 w_5 w_51 (by decide) (rm8 l Z a0 hw [] ad92 r0 r1 r2 r3 r4 r5 tt (own_ap (own_rm (own_rm (own_ap (own_ap own_st0 q0 tt) q1 tt) q0) q1) (3 : Int32) tt) hh157 PLx160 rt) 0 (by decide) (by decide) e161 PLx160.1.1 (by rw [hml]; rfl) [(.int tt)] [] (lenOf pd_4 rfl) rfl rfl (Nat.le_of_eq rfl) (Jvm.hb hby at_336) (pc' := 339) rfl (cells' := 10) (slots' := 33) rfl rfl (by decide) (by decide) ?_
        intro v162 T162 L162 X162 hQ162
        obtain ⟨rfl, rfl, e162⟩ := hQ162
        rw [List.append_nil] at X162
        show own_Gl p e below s (own_Q0 n0) room_1.cells room_1.slots (T162.setTop (mkF m 339 #[.val (.int x0), .val (.int x1), .val (.int x2), .val (.int x3), .val (.int x4), .val (.int (2 : Int32)), .val (.int (0 : Int32)), .val (.int tt), .val (.int q0), .val (.ref ad75), .val (.ref ad83), .val (.ref ad92), .val (.ref ad148), .val (.int (0 : Int32))] [(.int ((own_ap (own_rm (own_rm (own_ap (own_ap own_st0 q0 tt) q1 tt) q0) q1) (3 : Int32) tt) 5 tt.toNatClampNeg))]))
        refine g_iload X162.here hx (Jvm.hb hby at_339) (pc' := 341) rfl rfl ?_
        refine g_iconst X162.here hx (Jvm.hb hby at_341) (pc' := 342) rfl (z := (1 : Int32)) rfl ?_
        refine g_iadd X162.here hx (Jvm.hb hby at_342) (pc' := 343) rfl ?_
        refine g_icY X162.here hx (Jvm.hb hby at_343) (by decide) (pc' := 348) (by decide) (teq ((own_l22 q0 q1 q2 tt h0 h1 h2 h01 h02 h12 ht))).1 ?_
        refine g_aload X162.here hx (Jvm.hb hby at_348) (pc' := 350) rfl rfl rfl ?_
        refine g_iload X162.here hx (Jvm.hb hby at_350) (pc' := 352) rfl rfl ?_
        refine g_callV X162 hx hZ hown w_52 w_53 (own_nf hZ w_55) w_55 w_54 w_5 w_56 (by decide) (rm9 l Z a0 hw [] ad92 r0 r1 r2 r3 r4 r5 tt (own_ap (own_rm (own_rm (own_ap (own_ap own_st0 q0 tt) q1 tt) q0) q1) (3 : Int32) tt) hh157 PLx160 rt) 0 (by decide) (by decide) e162 PLx160.1.1 (by rw [hml]; rfl) [(.int tt)] [] (lenOf pd_4 rfl) rfl rfl (Nat.le_of_eq rfl) (Jvm.hb hby at_352) (pc' := 355) rfl (cells' := 10) (slots' := 33) rfl rfl (by decide) (by decide) ?_
        intro v163 T163 L163 X163 hQ163
        obtain ⟨rfl, rfl, e163⟩ := hQ163
        rw [List.append_nil] at X163
        show own_Gl p e below s (own_Q0 n0) room_1.cells room_1.slots (T163.setTop (mkF m 355 #[.val (.int x0), .val (.int x1), .val (.int x2), .val (.int x3), .val (.int x4), .val (.int (2 : Int32)), .val (.int (0 : Int32)), .val (.int tt), .val (.int q0), .val (.ref ad75), .val (.ref ad83), .val (.ref ad92), .val (.ref ad148), .val (.int (0 : Int32))] [(.int ((own_ap (own_rm (own_rm (own_ap (own_ap own_st0 q0 tt) q1 tt) q0) q1) (3 : Int32) tt) 3 tt.toNatClampNeg))]))
        refine g_aload X163.here hx (Jvm.hb hby at_355) (pc' := 357) rfl rfl rfl ?_
        refine g_iconst X163.here hx (Jvm.hb hby at_357) (pc' := 358) rfl (z := (0 : Int32)) rfl ?_
        refine g_iaload X163 hx hZ e163 V157 ⟨by decide, by decide⟩ (v := (3 : Int32)) rfl (Jvm.hb hby at_358) (pc' := 359) rfl ?_
        refine g_icY X163.here hx (Jvm.hb hby at_359) (by decide) (pc' := 364) (by decide) (teq (own_l23 q0 q1 q2 tt h0 h1 h2 h01 h02 h12 ht)).1 ?_
        refine g_aload X163.here hx (Jvm.hb hby at_364) (pc' := 366) rfl rfl rfl ?_
        refine g_iconst X163.here hx (Jvm.hb hby at_366) (pc' := 367) rfl (z := (0 : Int32)) rfl ?_
        refine g_iaload X163 hx hZ e163 V157 ⟨by decide, by decide⟩ (v := (3 : Int32)) rfl (Jvm.hb hby at_367) (pc' := 368) rfl ?_
        refine g_iconst X163.here hx (Jvm.hb hby at_368) (pc' := 369) rfl (z := (3 : Int32)) rfl ?_
        refine g_icY X163.here hx (Jvm.hb hby at_369) (by decide) (pc' := 390) (by decide) (teq (by decide)).1 ?_
        refine g_aload X163.here hx (Jvm.hb hby at_390) (pc' := 392) rfl rfl rfl ?_
        refine g_iconst X163.here hx (Jvm.hb hby at_392) (pc' := 393) rfl (z := (0 : Int32)) rfl ?_
        refine g_iaload X163 hx hZ e163 V157 ⟨by decide, by decide⟩ (v := (3 : Int32)) rfl (Jvm.hb hby at_393) (pc' := 394) rfl ?_
        refine g_iconst X163.here hx (Jvm.hb hby at_394) (pc' := 395) rfl (z := (3 : Int32)) rfl ?_
        refine g_icY X163.here hx (Jvm.hb hby at_395) (by decide) (pc' := 424) (by decide) (teq (by decide)).1 ?_
        refine g_iconst X163.here hx (Jvm.hb hby at_424) (pc' := 425) rfl (z := (1 : Int32)) rfl ?_
        exact g_retN X163 hx hlk (t := .boolean) hret (by simp) (z' := (1 : Int32)) rfl (Jvm.hb hby at_425) (by decide) (by decide) ⟨rfl, N157⟩
    · refine g_iloadN X0.here hx (Jvm.hb hby at_19) (pc' := 20) rfl rfl ?_
      refine g_iconst X0.here hx (Jvm.hb hby at_20) (pc' := 21) rfl (z := (1 : Int32)) rfl ?_
      refine g_iand X0.here hx (Jvm.hb hby at_21) (pc' := 22) rfl ?_
      refine g_istore X0.here hx (Jvm.hb hby at_22) (pc' := 24) rfl (L' := #[.val (.int x0), .val (.int x1), .val (.int x2), .val (.int x3), .val (.int x4), .val (.int (2 : Int32)), .val (.int (1 : Int32)), .val (.int (x2 &&& (1 : Int32))), .unset, .unset, .unset, .unset, .unset, .unset]) rfl ?_
      generalize htt : (x2 &&& (1 : Int32)) = tt
      have ht := and_one x2
      rw [htt] at ht
      have rt := own_rg tt ht
      refine g_iload X0.here hx (Jvm.hb hby at_24) (pc' := 26) rfl rfl ?_
      refine g_ldc X0 hx hZ hown w_0 (Jvm.hb hby at_26) (pc' := 28) rfl ?_
      refine g_iand X0.here hx (Jvm.hb hby at_28) (pc' := 29) rfl ?_
      refine g_iconst X0.here hx (Jvm.hb hby at_29) (pc' := 30) rfl (z := (3 : Int32)) rfl ?_
      refine g_irem X0 hx (Jvm.hb hby at_30) (pc' := 31) rfl (by decide) ?_
      refine g_istore X0.here hx (Jvm.hb hby at_31) (pc' := 33) rfl (L' := #[.val (.int x0), .val (.int x1), .val (.int x2), .val (.int x3), .val (.int x4), .val (.int (2 : Int32)), .val (.int (1 : Int32)), .val (.int tt), .val (.int ((x4 &&& (2147483647 : Int32)) % (3 : Int32))), .unset, .unset, .unset, .unset, .unset]) rfl ?_
      generalize hq0 : ((x4 &&& (2147483647 : Int32)) % (3 : Int32)) = q0
      obtain ⟨q1, hq1⟩ : ∃ z, ((q0 + (1 : Int32)) % (3 : Int32)) = z := ⟨_, rfl⟩
      obtain ⟨q2, hq2⟩ : ∃ z, ((q0 + (2 : Int32)) % (3 : Int32)) = z := ⟨_, rfl⟩
      obtain ⟨h0, h1, h2, h01, h02, h12⟩ := own_pg x4 q0 q0 q1 q2 hq0 hq1 hq2
      refine g_iconst X0.here hx (Jvm.hb hby at_33) (pc' := 34) rfl (z := (3 : Int32)) rfl ?_
      refine g_newarr X0 hx hZ (ty := .int) rfl rfl w_1 e0 (Jvm.hb hby at_34) (pc' := 36) rfl (n := 3) (by decide) 3 (by decide) (by decide) (cells' := 1) (slots' := 3) rfl rfl (by decide) (by decide) ?_
      intro T164 hh164 ad164 gb164 X164 e164 E164 V164
      have g_ad164 : n0 ≤ ad164 := by rw [gb164]; exact Z0
      have Z165 : n0 ≤ hh164.size := Nat.le_trans Z0 E164.1
      refine g_astore X164.here hx (Jvm.hb hby at_36) (pc' := 38) rfl rfl (L' := #[.val (.int x0), .val (.int x1), .val (.int x2), .val (.int x3), .val (.int x4), .val (.int (2 : Int32)), .val (.int (1 : Int32)), .val (.int tt), .val (.int q0), .val (.ref ad164), .unset, .unset, .unset, .unset]) rfl ?_
      refine g_aload X164.here hx (Jvm.hb hby at_38) (pc' := 40) rfl rfl rfl ?_
      refine g_iconst X164.here hx (Jvm.hb hby at_40) (pc' := 41) rfl (z := (0 : Int32)) rfl ?_
      refine g_iload X164.here hx (Jvm.hb hby at_41) (pc' := 43) rfl rfl ?_
      refine g_iastore X164 hx hZ e164 V164 ⟨by decide, by decide⟩ (Jvm.hb hby at_43) (pc' := 44) rfl ?_
      intro T166 hh166 X166 e166 W166 V166
      have N166 := Fr.snoc X166 N0 g_ad164
      have Z167 : n0 ≤ hh166.size := (by rw [W166.size]; exact Z165)
      refine g_aload X166.here hx (Jvm.hb hby at_44) (pc' := 46) rfl rfl rfl ?_
      refine g_iconst X166.here hx (Jvm.hb hby at_46) (pc' := 47) rfl (z := (1 : Int32)) rfl ?_
      refine g_iload X166.here hx (Jvm.hb hby at_47) (pc' := 49) rfl rfl ?_
      refine g_iconst X166.here hx (Jvm.hb hby at_49) (pc' := 50) rfl (z := (1 : Int32)) rfl ?_
      refine g_iadd X166.here hx (Jvm.hb hby at_50) (pc' := 51) rfl ?_
      refine g_iconst X166.here hx (Jvm.hb hby at_51) (pc' := 52) rfl (z := (3 : Int32)) rfl ?_
      refine g_irem X166 hx (Jvm.hb hby at_52) (pc' := 53) rfl (by decide) ?_
      rw [hq1]
      refine g_iastore X166 hx hZ e166 V166 ⟨by decide, by decide⟩ (Jvm.hb hby at_53) (pc' := 54) rfl ?_
      intro T168 hh168 X168 e168 W168 V168
      have N168 := Fr.snoc X168 N166 g_ad164
      have Z169 : n0 ≤ hh168.size := (by rw [W168.size]; exact Z167)
      refine g_aload X168.here hx (Jvm.hb hby at_54) (pc' := 56) rfl rfl rfl ?_
      refine g_iconst X168.here hx (Jvm.hb hby at_56) (pc' := 57) rfl (z := (2 : Int32)) rfl ?_
      refine g_iload X168.here hx (Jvm.hb hby at_57) (pc' := 59) rfl rfl ?_
      refine g_iconst X168.here hx (Jvm.hb hby at_59) (pc' := 60) rfl (z := (2 : Int32)) rfl ?_
      refine g_iadd X168.here hx (Jvm.hb hby at_60) (pc' := 61) rfl ?_
      refine g_iconst X168.here hx (Jvm.hb hby at_61) (pc' := 62) rfl (z := (3 : Int32)) rfl ?_
      refine g_irem X168 hx (Jvm.hb hby at_62) (pc' := 63) rfl (by decide) ?_
      rw [hq2]
      refine g_iastore X168 hx hZ e168 V168 ⟨by decide, by decide⟩ (Jvm.hb hby at_63) (pc' := 64) rfl ?_
      intro T170 hh170 X170 e170 W170 V170
      have N170 := Fr.snoc X170 N168 g_ad164
      have Z171 : n0 ≤ hh170.size := (by rw [W170.size]; exact Z169)
      refine g_iconst X170.here hx (Jvm.hb hby at_64) (pc' := 65) rfl (z := (3 : Int32)) rfl ?_
      refine g_newarr X170 hx hZ (ty := .boolean) rfl rfl w_2 e170 (Jvm.hb hby at_65) (pc' := 67) rfl (n := 3) (by decide) 3 (by decide) (by decide) (cells' := 2) (slots' := 6) rfl rfl (by decide) (by decide) ?_
      intro T172 hh172 ad172 gb172 X172 e172 E172 V172
      have g_ad172 : n0 ≤ ad172 := by rw [gb172]; exact Z171
      have lt_ad164_ad172 : @LT.lt Nat _ ad164 ad172 := by rw [gb172]; exact V170.lt
      have ne_ad164_ad172 : ad164 ≠ ad172 := Nat.ne_of_lt lt_ad164_ad172
      have Z173 : n0 ≤ hh172.size := Nat.le_trans Z171 E172.1
      refine g_astore X172.here hx (Jvm.hb hby at_67) (pc' := 69) rfl rfl (L' := #[.val (.int x0), .val (.int x1), .val (.int x2), .val (.int x3), .val (.int x4), .val (.int (2 : Int32)), .val (.int (1 : Int32)), .val (.int tt), .val (.int q0), .val (.ref ad164), .val (.ref ad172), .unset, .unset, .unset]) rfl ?_
      refine g_aload X172.here hx (Jvm.hb hby at_69) (pc' := 71) rfl rfl rfl ?_
      refine g_iconst X172.here hx (Jvm.hb hby at_71) (pc' := 72) rfl (z := (0 : Int32)) rfl ?_
      refine g_iconst X172.here hx (Jvm.hb hby at_72) (pc' := 73) rfl (z := (1 : Int32)) rfl ?_
      refine g_zastore X172 hx hZ e172 V172 ⟨by decide, by decide⟩ (x' := (1 : Int32)) rfl (Jvm.hb hby at_73) (pc' := 74) rfl ?_
      intro T174 hh174 X174 e174 W174 V174
      have N174 := Fr.snoc X174 N170 g_ad172
      have Z175 : n0 ≤ hh174.size := (by rw [W174.size]; exact Z173)
      refine g_aload X174.here hx (Jvm.hb hby at_74) (pc' := 76) rfl rfl rfl ?_
      refine g_iconst X174.here hx (Jvm.hb hby at_76) (pc' := 77) rfl (z := (1 : Int32)) rfl ?_
      refine g_iload X174.here hx (Jvm.hb hby at_77) (pc' := 79) rfl rfl ?_
      refine g_iconst X174.here hx (Jvm.hb hby at_79) (pc' := 80) rfl (z := (1 : Int32)) rfl ?_
      refine g_icN X174.here hx (Jvm.hb hby at_80) (pc' := 83) rfl (tlt (by decide)).2.2.2 ?_
      refine g_iconst X174.here hx (Jvm.hb hby at_83) (pc' := 84) rfl (z := (1 : Int32)) rfl ?_
      refine g_goto X174.here hx (Jvm.hb hby at_84) (by decide) (pc' := 88) (by decide) ?_
      refine g_zastore X174 hx hZ e174 V174 ⟨by decide, by decide⟩ (x' := (1 : Int32)) rfl (Jvm.hb hby at_88) (pc' := 89) rfl ?_
      intro T176 hh176 X176 e176 W176 V176
      have N176 := Fr.snoc X176 N174 g_ad172
      have Z177 : n0 ≤ hh176.size := (by rw [W176.size]; exact Z175)
      refine g_aload X176.here hx (Jvm.hb hby at_89) (pc' := 91) rfl rfl rfl ?_
      refine g_iconst X176.here hx (Jvm.hb hby at_91) (pc' := 92) rfl (z := (2 : Int32)) rfl ?_
      refine g_iload X176.here hx (Jvm.hb hby at_92) (pc' := 94) rfl rfl ?_
      refine g_iconst X176.here hx (Jvm.hb hby at_94) (pc' := 95) rfl (z := (2 : Int32)) rfl ?_
      refine g_icY X176.here hx (Jvm.hb hby at_95) (by decide) (pc' := 102) (by decide) (flt (by decide)).2.2.2 ?_
      refine g_iconst X176.here hx (Jvm.hb hby at_102) (pc' := 103) rfl (z := (0 : Int32)) rfl ?_
      refine g_zastore X176 hx hZ e176 V176 ⟨by decide, by decide⟩ (x' := (0 : Int32)) rfl (Jvm.hb hby at_103) (pc' := 104) rfl ?_
      intro T178 hh178 X178 e178 W178 V178
      have N178 := Fr.snoc X178 N176 g_ad172
      have Z179 : n0 ≤ hh178.size := (by rw [W178.size]; exact Z177)
      have F180 := ((((V170.ext E172).other W174 ne_ad164_ad172).other W176 ne_ad164_ad172).other W178 ne_ad164_ad172)
      refine g_new X178 hx hZ hown w_3 w_4 w_5 e178 (Jvm.hb hby at_104) (pc' := 107) rfl (cells' := 3) (slots' := 12) rfl rfl (by decide) (by decide) ?_
      intro T181 hh181 ad181 gb181 X181 e181 E181 A181 D181
      have g_ad181 : n0 ≤ ad181 := by rw [gb181]; exact Z179
      have lt_ad164_ad181 : @LT.lt Nat _ ad164 ad181 := by rw [gb181]; exact F180.lt
      have ne_ad164_ad181 : ad164 ≠ ad181 := Nat.ne_of_lt lt_ad164_ad181
      have lt_ad172_ad181 : @LT.lt Nat _ ad172 ad181 := by rw [gb181]; exact V178.lt
      have ne_ad172_ad181 : ad172 ≠ ad181 := Nat.ne_of_lt lt_ad172_ad181
      have Z182 : n0 ≤ hh181.size := Nat.le_trans Z179 E181.1
      have F181_list : Fld Z hh181 ad181 "com/example/tierstone/tierstone/PageLists" "list" "[B" .null := D181 (Or.inr w_14) (ty := (.array .byte)) (by decide)
      have F181_older : Fld Z hh181 ad181 "com/example/tierstone/tierstone/PageLists" "older" "[I" .null := D181 (Or.inr w_20) (ty := (.array .int)) (by decide)
      have F181_newer : Fld Z hh181 ad181 "com/example/tierstone/tierstone/PageLists" "newer" "[I" .null := D181 (Or.inr w_22) (ty := (.array .int)) (by decide)
      have F181_oldest : Fld Z hh181 ad181 "com/example/tierstone/tierstone/PageLists" "oldest" "[I" .null := D181 (Or.inr w_24) (ty := (.array .int)) (by decide)
      have F181_newest : Fld Z hh181 ad181 "com/example/tierstone/tierstone/PageLists" "newest" "[I" .null := D181 (Or.inr w_26) (ty := (.array .int)) (by decide)
      have F181_length : Fld Z hh181 ad181 "com/example/tierstone/tierstone/PageLists" "length" "[I" .null := D181 (Or.inr w_31) (ty := (.array .int)) (by decide)
      refine g_dup X181.here hx (Jvm.hb hby at_107) (pc' := 108) rfl rfl ?_
      refine g_iconst X181.here hx (Jvm.hb hby at_108) (pc' := 109) rfl (z := (2 : Int32)) rfl ?_
      refine g_iconst X181.here hx (Jvm.hb hby at_109) (pc' := 110) rfl (z := (4 : Int32)) rfl ?_
      have F183 := (F180.ext E181)
      have F184 := (V178.ext E181)
      refine g_callI X181 hx hZ rfl hown w_6 w_7 w_5 w_8 (by decide) (rm1 l Z a0 hw [] ad181 (2 : Int32) (4 : Int32) hh181 n0 Z182 g_ad181 A181 F181_list F181_older F181_newer F181_oldest F181_newest F181_length (by decide) (by decide)) 1 (by decide) (by decide) e181 (by rw [hml]; rfl) [(.int (2 : Int32)), (.int (4 : Int32))] [(.ref ad181)] (lenOf pd_2 rfl) rfl rfl (Nat.le_of_eq rfl) (Jvm.hb hby at_110) (pc' := 113) rfl (cells' := 9) (slots' := 30) rfl rfl (by decide) (by decide) ?_
      intro v185 T185 L185 X185 hQ185
      obtain ⟨rfl, Nq185, K185, r0, r1, r2, r3, r4, r5, hord, PL185⟩ := hQ185
      have N185 := Fr.app N178 Nq185
      have Z186 : n0 ≤ T185.heap.size := Nat.le_trans Z182 K185.1
      obtain ⟨o1, o2, o3, o4, o5, o6⟩ := id hord
      show own_Gl p e below s (own_Q0 n0) room_1.cells room_1.slots (T185.setTop (mkF m 113 #[.val (.int x0), .val (.int x1), .val (.int x2), .val (.int x3), .val (.int x4), .val (.int (2 : Int32)), .val (.int (1 : Int32)), .val (.int tt), .val (.int q0), .val (.ref ad164), .val (.ref ad172), .unset, .unset, .unset] [(.ref ad181)]))
      refine g_astore X185.here hx (Jvm.hb hby at_113) (pc' := 115) rfl rfl (L' := #[.val (.int x0), .val (.int x1), .val (.int x2), .val (.int x3), .val (.int x4), .val (.int (2 : Int32)), .val (.int (1 : Int32)), .val (.int tt), .val (.int q0), .val (.ref ad164), .val (.ref ad172), .val (.ref ad181), .unset, .unset]) rfl ?_
      refine g_aload X185.here hx (Jvm.hb hby at_115) (pc' := 117) rfl rfl rfl ?_
      refine g_aload X185.here hx (Jvm.hb hby at_117) (pc' := 119) rfl rfl rfl ?_
      refine g_iconst X185.here hx (Jvm.hb hby at_119) (pc' := 120) rfl (z := (0 : Int32)) rfl ?_
      have F187 := (F183.keep K185 (ninS ne_ad164_ad181 nin0))
      refine g_iaload X185 hx hZ rfl F187 ⟨by decide, by decide⟩ (v := q0) rfl (Jvm.hb hby at_120) (pc' := 121) rfl ?_
      refine g_iload X185.here hx (Jvm.hb hby at_121) (pc' := 123) rfl rfl ?_
      refine g_callV X185 hx hZ hown w_32 w_33 (own_nf hZ w_35) w_35 w_34 w_5 w_36 (by decide) (rm5 l Z a0 hw [] ad181 r0 r1 r2 r3 r4 r5 q0 tt own_st0 T185.heap n0 Z186 g_ad181 hord PL185 ⟨h0.1, by omega⟩ rt (own_l0 q0 q1 q2 tt h0 h1 h2 h01 h02 h12 ht)) 0 (by decide) (by decide) rfl PL185.1.1 (by rw [hml]; rfl) [(.int q0), (.int tt)] [] (lenOf pd_2 rfl) rfl rfl (Nat.le_of_eq rfl) (Jvm.hb hby at_123) (pc' := 126) rfl (cells' := 9) (slots' := 30) rfl rfl (by decide) (by decide) ?_
      intro v188 T188 L188 X188 hQ188
      obtain ⟨rfl, Nq188, K188, PL188⟩ := hQ188
      have N188 := Fr.app N185 Nq188
      have Z189 : n0 ≤ T188.heap.size := Nat.le_trans Z186 K188.1
      show own_Gl p e below s (own_Q0 n0) room_1.cells room_1.slots (T188.setTop (mkF m 126 #[.val (.int x0), .val (.int x1), .val (.int x2), .val (.int x3), .val (.int x4), .val (.int (2 : Int32)), .val (.int (1 : Int32)), .val (.int tt), .val (.int q0), .val (.ref ad164), .val (.ref ad172), .val (.ref ad181), .unset, .unset] []))
      refine g_iload X188.here hx (Jvm.hb hby at_126) (pc' := 128) rfl rfl ?_
      refine g_iconst X188.here hx (Jvm.hb hby at_128) (pc' := 129) rfl (z := (1 : Int32)) rfl ?_
      refine g_icN X188.here hx (Jvm.hb hby at_129) (pc' := 132) rfl (tlt (by decide)).2.2.2 ?_
      refine g_aload X188.here hx (Jvm.hb hby at_132) (pc' := 134) rfl rfl rfl ?_
      refine g_aload X188.here hx (Jvm.hb hby at_134) (pc' := 136) rfl rfl rfl ?_
      refine g_iconst X188.here hx (Jvm.hb hby at_136) (pc' := 137) rfl (z := (1 : Int32)) rfl ?_
      have F190 := (F187.keep K188 (ninS (Nat.ne_of_lt (by omega)) (ninS (Nat.ne_of_lt (by omega)) (ninS (Nat.ne_of_lt (by omega)) (ninS (Nat.ne_of_lt (by omega)) (ninS (Nat.ne_of_lt (by omega)) (ninS (Nat.ne_of_lt (by omega)) nin0)))))))
      refine g_iaload X188 hx hZ rfl F190 ⟨by decide, by decide⟩ (v := q1) rfl (Jvm.hb hby at_137) (pc' := 138) rfl ?_
      refine g_iload X188.here hx (Jvm.hb hby at_138) (pc' := 140) rfl rfl ?_
      refine g_callV X188 hx hZ hown w_32 w_33 (own_nf hZ w_35) w_35 w_34 w_5 w_36 (by decide) (rm5 l Z a0 hw [] ad181 r0 r1 r2 r3 r4 r5 q1 tt (own_ap own_st0 q0 tt) T188.heap n0 Z189 g_ad181 hord PL188 ⟨h1.1, by omega⟩ rt (own_l8 q0 q1 q2 tt h0 h1 h2 h01 h02 h12 ht)) 0 (by decide) (by decide) rfl PL188.1.1 (by rw [hml]; rfl) [(.int q1), (.int tt)] [] (lenOf pd_2 rfl) rfl rfl (Nat.le_of_eq rfl) (Jvm.hb hby at_140) (pc' := 143) rfl (cells' := 9) (slots' := 30) rfl rfl (by decide) (by decide) ?_
      intro v191 T191 L191 X191 hQ191
      obtain ⟨rfl, Nq191, K191, PL191⟩ := hQ191
      have N191 := Fr.app N188 Nq191
      have Z192 : n0 ≤ T191.heap.size := Nat.le_trans Z189 K191.1
      show own_Gl p e below s (own_Q0 n0) room_1.cells room_1.slots (T191.setTop (mkF m 143 #[.val (.int x0), .val (.int x1), .val (.int x2), .val (.int x3), .val (.int x4), .val (.int (2 : Int32)), .val (.int (1 : Int32)), .val (.int tt), .val (.int q0), .val (.ref ad164), .val (.ref ad172), .val (.ref ad181), .unset, .unset] []))
      refine g_iload X191.here hx (Jvm.hb hby at_143) (pc' := 145) rfl rfl ?_
      refine g_iconst X191.here hx (Jvm.hb hby at_145) (pc' := 146) rfl (z := (2 : Int32)) rfl ?_
      refine g_icY X191.here hx (Jvm.hb hby at_146) (by decide) (pc' := 160) (by decide) (flt (by decide)).2.2.2 ?_
      refine g_aload X191.here hx (Jvm.hb hby at_160) (pc' := 162) rfl rfl rfl ?_
      refine g_aload X191.here hx (Jvm.hb hby at_162) (pc' := 164) rfl rfl rfl ?_
      refine g_iload X191.here hx (Jvm.hb hby at_164) (pc' := 166) rfl rfl ?_
      have F193 := (F190.keep K191 (ninS (Nat.ne_of_lt (by omega)) (ninS (Nat.ne_of_lt (by omega)) (ninS (Nat.ne_of_lt (by omega)) (ninS (Nat.ne_of_lt (by omega)) (ninS (Nat.ne_of_lt (by omega)) (ninS (Nat.ne_of_lt (by omega)) nin0)))))))
      refine g_iaload X191 hx hZ rfl F193 ⟨by decide, by decide⟩ (v := q1) rfl (Jvm.hb hby at_166) (pc' := 167) rfl ?_
      refine g_callV X191 hx hZ hown w_37 w_38 (own_nf hZ w_40) w_40 w_39 w_5 w_41 (by decide) (rm6 l Z a0 hw [] ad181 r0 r1 r2 r3 r4 r5 q1 (own_ap (own_ap own_st0 q0 tt) q1 tt) T191.heap n0 Z192 g_ad181 hord PL191 ⟨h1.1, by omega⟩ (own_l24 q0 q1 q2 tt h0 h1 h2 h01 h02 h12 ht) (own_l25 q0 q1 q2 tt h0 h1 h2 h01 h02 h12 ht) (own_l26 q0 q1 q2 tt h0 h1 h2 h01 h02 h12 ht)) 0 (by decide) (by decide) rfl PL191.1.1 (by rw [hml]; rfl) [(.int q1)] [] (lenOf pd_3 rfl) rfl rfl (Nat.le_of_eq rfl) (Jvm.hb hby at_167) (pc' := 170) rfl (cells' := 9) (slots' := 30) rfl rfl (by decide) (by decide) ?_
      intro v194 T194 L194 X194 hQ194
      obtain ⟨rfl, Nq194, K194, PL194⟩ := hQ194
      have N194 := Fr.app N191 Nq194
      have Z195 : n0 ≤ T194.heap.size := Nat.le_trans Z192 K194.1
      show own_Gl p e below s (own_Q0 n0) room_1.cells room_1.slots (T194.setTop (mkF m 170 #[.val (.int x0), .val (.int x1), .val (.int x2), .val (.int x3), .val (.int x4), .val (.int (2 : Int32)), .val (.int (1 : Int32)), .val (.int tt), .val (.int q0), .val (.ref ad164), .val (.ref ad172), .val (.ref ad181), .unset, .unset] []))
      refine g_aload X194.here hx (Jvm.hb hby at_170) (pc' := 172) rfl rfl rfl ?_
      refine g_iload X194.here hx (Jvm.hb hby at_172) (pc' := 174) rfl rfl ?_
      refine g_iconst X194.here hx (Jvm.hb hby at_174) (pc' := 175) rfl (z := (0 : Int32)) rfl ?_
      have F196 := ((((F184.keep K185 (ninS ne_ad172_ad181 nin0)).keep K188 (ninS (Nat.ne_of_lt (by omega)) (ninS (Nat.ne_of_lt (by omega)) (ninS (Nat.ne_of_lt (by omega)) (ninS (Nat.ne_of_lt (by omega)) (ninS (Nat.ne_of_lt (by omega)) (ninS (Nat.ne_of_lt (by omega)) nin0))))))).keep K191 (ninS (Nat.ne_of_lt (by omega)) (ninS (Nat.ne_of_lt (by omega)) (ninS (Nat.ne_of_lt (by omega)) (ninS (Nat.ne_of_lt (by omega)) (ninS (Nat.ne_of_lt (by omega)) (ninS (Nat.ne_of_lt (by omega)) nin0))))))).keep K194 (ninS (Nat.ne_of_lt (by omega)) (ninS (Nat.ne_of_lt (by omega)) (ninS (Nat.ne_of_lt (by omega)) (ninS (Nat.ne_of_lt (by omega)) (ninS (Nat.ne_of_lt (by omega)) (ninS (Nat.ne_of_lt (by omega)) nin0)))))))
      refine g_zastore X194 hx hZ rfl F196 ⟨by decide, by decide⟩ (x' := (0 : Int32)) rfl (Jvm.hb hby at_175) (pc' := 176) rfl ?_
      intro T197 hh197 X197 e197 W197 V197
      have N197 := Fr.snoc X197 N194 g_ad172
      have Z198 : n0 ≤ hh197.size := (by rw [W197.size]; exact Z195)
      refine g_iloadN X197.here hx (Jvm.hb hby at_176) (pc' := 177) rfl rfl ?_
      refine g_iconst X197.here hx (Jvm.hb hby at_177) (pc' := 178) rfl (z := (1 : Int32)) rfl ?_
      refine g_iand X197.here hx (Jvm.hb hby at_178) (pc' := 179) rfl ?_
      by_cases hc179 : (x3 &&& (1 : Int32)) = (0 : Int32)
      · refine g_ifY X197.here hx (Jvm.hb hby at_179) (by decide) (pc' := 222) (by decide) ((if0 _ _).trans (teq hc179).1) ?_
        refine g_aload X197.here hx (Jvm.hb hby at_222) (pc' := 224) rfl rfl rfl ?_
        refine g_iconst X197.here hx (Jvm.hb hby at_224) (pc' := 225) rfl (z := (3 : Int32)) rfl ?_
        refine g_iload X197.here hx (Jvm.hb hby at_225) (pc' := 227) rfl rfl ?_
        have PLx199 := (own_PL.other PL194 W197 hord (by omega))
        refine g_callV X197 hx hZ hown w_32 w_33 (own_nf hZ w_35) w_35 w_34 w_5 w_36 (by decide) (rm5 l Z a0 hw [] ad181 r0 r1 r2 r3 r4 r5 (3 : Int32) tt (own_rm (own_ap (own_ap own_st0 q0 tt) q1 tt) q1) hh197 n0 Z198 g_ad181 hord PLx199 ⟨by decide, by decide⟩ rt (own_l27 q0 q1 q2 tt h0 h1 h2 h01 h02 h12 ht)) 0 (by decide) (by decide) e197 PLx199.1.1 (by rw [hml]; rfl) [(.int (3 : Int32)), (.int tt)] [] (lenOf pd_2 rfl) rfl rfl (Nat.le_of_eq rfl) (Jvm.hb hby at_227) (pc' := 230) rfl (cells' := 9) (slots' := 30) rfl rfl (by decide) (by decide) ?_
        intro v200 T200 L200 X200 hQ200
        obtain ⟨rfl, Nq200, K200, PL200⟩ := hQ200
        have N200 := Fr.app N197 Nq200
        have Z201 : n0 ≤ T200.heap.size := Nat.le_trans Z198 K200.1
        show own_Gl p e below s (own_Q0 n0) room_1.cells room_1.slots (T200.setTop (mkF m 230 #[.val (.int x0), .val (.int x1), .val (.int x2), .val (.int x3), .val (.int x4), .val (.int (2 : Int32)), .val (.int (1 : Int32)), .val (.int tt), .val (.int q0), .val (.ref ad164), .val (.ref ad172), .val (.ref ad181), .unset, .unset] []))
        refine g_iconst X200.here hx (Jvm.hb hby at_230) (pc' := 231) rfl (z := (3 : Int32)) rfl ?_
        have F202 := (((F193.keep K194 (ninS (Nat.ne_of_lt (by omega)) (ninS (Nat.ne_of_lt (by omega)) (ninS (Nat.ne_of_lt (by omega)) (ninS (Nat.ne_of_lt (by omega)) (ninS (Nat.ne_of_lt (by omega)) (ninS (Nat.ne_of_lt (by omega)) nin0))))))).other W197 ne_ad164_ad172).keep K200 (ninS (Nat.ne_of_lt (by omega)) (ninS (Nat.ne_of_lt (by omega)) (ninS (Nat.ne_of_lt (by omega)) (ninS (Nat.ne_of_lt (by omega)) (ninS (Nat.ne_of_lt (by omega)) (ninS (Nat.ne_of_lt (by omega)) nin0)))))))
        have F203 := (V197.keep K200 (ninS (Nat.ne_of_lt (by omega)) (ninS (Nat.ne_of_lt (by omega)) (ninS (Nat.ne_of_lt (by omega)) (ninS (Nat.ne_of_lt (by omega)) (ninS (Nat.ne_of_lt (by omega)) (ninS (Nat.ne_of_lt (by omega)) nin0)))))))
        refine g_newarr X200 hx hZ (ty := .int) rfl rfl w_1 rfl (Jvm.hb hby at_231) (pc' := 233) rfl (n := 3) (by decide) 3 (by decide) (by decide) (cells' := 10) (slots' := 33) rfl rfl (by decide) (by decide) ?_
        intro T204 hh204 ad204 gb204 X204 e204 E204 V204
        have g_ad204 : n0 ≤ ad204 := by rw [gb204]; exact Z201
        have lt_ad164_ad204 : @LT.lt Nat _ ad164 ad204 := by rw [gb204]; exact F202.lt
        have ne_ad164_ad204 : ad164 ≠ ad204 := Nat.ne_of_lt lt_ad164_ad204
        have lt_ad172_ad204 : @LT.lt Nat _ ad172 ad204 := by rw [gb204]; exact F203.lt
        have ne_ad172_ad204 : ad172 ≠ ad204 := Nat.ne_of_lt lt_ad172_ad204
        have lt_ad181_ad204 : @LT.lt Nat _ ad181 ad204 := by rw [gb204]; exact PL200.1.1.lt
        have ne_ad181_ad204 : ad181 ≠ ad204 := Nat.ne_of_lt lt_ad181_ad204
        have Z205 : n0 ≤ hh204.size := Nat.le_trans Z201 E204.1
        have lt5 : @LT.lt Nat _ r5 ad204 := by rw [gb204]; exact own_PL.lt5 PL200
        refine g_astore X204.here hx (Jvm.hb hby at_233) (pc' := 235) rfl rfl (L' := #[.val (.int x0), .val (.int x1), .val (.int x2), .val (.int x3), .val (.int x4), .val (.int (2 : Int32)), .val (.int (1 : Int32)), .val (.int tt), .val (.int q0), .val (.ref ad164), .val (.ref ad172), .val (.ref ad181), .val (.ref ad204), .unset]) rfl ?_
        refine g_aload X204.here hx (Jvm.hb hby at_235) (pc' := 237) rfl rfl rfl ?_
        refine g_iconst X204.here hx (Jvm.hb hby at_237) (pc' := 238) rfl (z := (0 : Int32)) rfl ?_
        refine g_iconst X204.here hx (Jvm.hb hby at_238) (pc' := 239) rfl (z := (-1 : Int32)) rfl ?_
        refine g_iastore X204 hx hZ e204 V204 ⟨by decide, by decide⟩ (Jvm.hb hby at_239) (pc' := 240) rfl ?_
        intro T206 hh206 X206 e206 W206 V206
        have N206 := Fr.snoc X206 N200 g_ad204
        have Z207 : n0 ≤ hh206.size := (by rw [W206.size]; exact Z205)
        refine g_aload X206.here hx (Jvm.hb hby at_240) (pc' := 242) rfl rfl rfl ?_
        refine g_iconst X206.here hx (Jvm.hb hby at_242) (pc' := 243) rfl (z := (1 : Int32)) rfl ?_
        refine g_iconst X206.here hx (Jvm.hb hby at_243) (pc' := 244) rfl (z := (-1 : Int32)) rfl ?_
        refine g_iastore X206 hx hZ e206 V206 ⟨by decide, by decide⟩ (Jvm.hb hby at_244) (pc' := 245) rfl ?_
        intro T208 hh208 X208 e208 W208 V208
        have N208 := Fr.snoc X208 N206 g_ad204
        have Z209 : n0 ≤ hh208.size := (by rw [W208.size]; exact Z207)
        refine g_aload X208.here hx (Jvm.hb hby at_245) (pc' := 247) rfl rfl rfl ?_
        refine g_iconst X208.here hx (Jvm.hb hby at_247) (pc' := 248) rfl (z := (2 : Int32)) rfl ?_
        refine g_iconst X208.here hx (Jvm.hb hby at_248) (pc' := 249) rfl (z := (-1 : Int32)) rfl ?_
        refine g_iastore X208 hx hZ e208 V208 ⟨by decide, by decide⟩ (Jvm.hb hby at_249) (pc' := 250) rfl ?_
        intro T210 hh210 X210 e210 W210 V210
        have N210 := Fr.snoc X210 N208 g_ad204
        have Z211 : n0 ≤ hh210.size := (by rw [W210.size]; exact Z209)
        refine g_iconst X210.here hx (Jvm.hb hby at_250) (pc' := 251) rfl (z := (0 : Int32)) rfl ?_
        refine g_istore X210.here hx (Jvm.hb hby at_251) (pc' := 253) rfl (L' := #[.val (.int x0), .val (.int x1), .val (.int x2), .val (.int x3), .val (.int x4), .val (.int (2 : Int32)), .val (.int (1 : Int32)), .val (.int tt), .val (.int q0), .val (.ref ad164), .val (.ref ad172), .val (.ref ad181), .val (.ref ad204), .val (.int (0 : Int32))]) rfl ?_
        refine g_aload X210.here hx (Jvm.hb hby at_253) (pc' := 255) rfl rfl rfl ?_
        refine g_iconst X210.here hx (Jvm.hb hby at_255) (pc' := 256) rfl (z := (0 : Int32)) rfl ?_
        have F212 := ((((F203.ext E204).other W206 ne_ad172_ad204).other W208 ne_ad172_ad204).other W210 ne_ad172_ad204)
        refine g_zaload X210 hx hZ e210 F212 ⟨by decide, by decide⟩ (v := (1 : Int32)) rfl (Jvm.hb hby at_256) (pc' := 257) rfl ?_
        refine g_ifN X210.here hx (Jvm.hb hby at_257) (pc' := 260) rfl ((if0 _ _).trans (feq (by decide)).1) ?_
        refine g_aload X210.here hx (Jvm.hb hby at_260) (pc' := 262) rfl rfl rfl ?_
        refine g_iload X210.here hx (Jvm.hb hby at_262) (pc' := 264) rfl rfl ?_
        refine g_aload X210.here hx (Jvm.hb hby at_264) (pc' := 266) rfl rfl rfl ?_
        refine g_iconst X210.here hx (Jvm.hb hby at_266) (pc' := 267) rfl (z := (0 : Int32)) rfl ?_
        have F213 := ((((F202.ext E204).other W206 ne_ad164_ad204).other W208 ne_ad164_ad204).other W210 ne_ad164_ad204)
        refine g_iaload X210 hx hZ e210 F213 ⟨by decide, by decide⟩ (v := q0) rfl (Jvm.hb hby at_267) (pc' := 268) rfl ?_
        refine g_iastore X210 hx hZ e210 V210 ⟨by decide, by decide⟩ (Jvm.hb hby at_268) (pc' := 269) rfl ?_
        intro T214 hh214 X214 e214 W214 V214
        have N214 := Fr.snoc X214 N210 g_ad204
        have Z215 : n0 ≤ hh214.size := (by rw [W214.size]; exact Z211)
        refine g_iinc X214.here hx (Jvm.hb hby at_269) (pc' := 272) rfl (z := (1 : Int32)) rfl rfl (L' := #[.val (.int x0), .val (.int x1), .val (.int x2), .val (.int x3), .val (.int x4), .val (.int (2 : Int32)), .val (.int (1 : Int32)), .val (.int tt), .val (.int q0), .val (.ref ad164), .val (.ref ad172), .val (.ref ad181), .val (.ref ad204), .val (.int (1 : Int32))]) rfl ?_
        refine g_aload X214.here hx (Jvm.hb hby at_272) (pc' := 274) rfl rfl rfl ?_
        refine g_iconst X214.here hx (Jvm.hb hby at_274) (pc' := 275) rfl (z := (1 : Int32)) rfl ?_
        have F216 := (F212.other W214 ne_ad172_ad204)
        refine g_zaload X214 hx hZ e214 F216 ⟨by decide, by decide⟩ (v := (0 : Int32)) rfl (Jvm.hb hby at_275) (pc' := 276) rfl ?_
        refine g_ifY X214.here hx (Jvm.hb hby at_276) (by decide) (pc' := 291) (by decide) ((if0 _ _).trans (teq (by decide)).1) ?_
        refine g_aload X214.here hx (Jvm.hb hby at_291) (pc' := 293) rfl rfl rfl ?_
        refine g_iconst X214.here hx (Jvm.hb hby at_293) (pc' := 294) rfl (z := (2 : Int32)) rfl ?_
        refine g_zaload X214 hx hZ e214 F216 ⟨by decide, by decide⟩ (v := (0 : Int32)) rfl (Jvm.hb hby at_294) (pc' := 295) rfl ?_
        refine g_ifY X214.here hx (Jvm.hb hby at_295) (by decide) (pc' := 310) (by decide) ((if0 _ _).trans (teq (by decide)).1) ?_
        refine g_aload X214.here hx (Jvm.hb hby at_310) (pc' := 312) rfl rfl rfl ?_
        refine g_iload X214.here hx (Jvm.hb hby at_312) (pc' := 314) rfl rfl ?_
        refine g_iconst X214.here hx (Jvm.hb hby at_314) (pc' := 315) rfl (z := (3 : Int32)) rfl ?_
        refine g_iastore X214 hx hZ e214 V214 ⟨by decide, by decide⟩ (Jvm.hb hby at_315) (pc' := 316) rfl ?_
        intro T217 hh217 X217 e217 W217 V217
        have N217 := Fr.snoc X217 N214 g_ad204
        have Z218 : n0 ≤ hh217.size := (by rw [W217.size]; exact Z215)
        refine g_aload X217.here hx (Jvm.hb hby at_316) (pc' := 318) rfl rfl rfl ?_
        refine g_aload X217.here hx (Jvm.hb hby at_318) (pc' := 320) rfl rfl rfl ?_
        refine g_iload X217.here hx (Jvm.hb hby at_320) (pc' := 322) rfl rfl ?_
        have F219 := ((F213.other W214 ne_ad164_ad204).other W217 ne_ad164_ad204)
        refine g_iaload X217 hx hZ e217 F219 ⟨by decide, by decide⟩ (v := q1) rfl (Jvm.hb hby at_322) (pc' := 323) rfl ?_
        have PLx220 := (own_PL.other (own_PL.other (own_PL.other (own_PL.other (own_PL.other (own_PL.ext PL200 E204) W206 hord (by omega)) W208 hord (by omega)) W210 hord (by omega)) W214 hord (by omega)) W217 hord (by omega))
        refine g_callV X217 hx hZ hown w_42 w_43 (own_nf hZ w_45) w_45 w_44 w_5 w_46 (by decide) (rm7 l Z a0 hw [] ad181 r0 r1 r2 r3 r4 r5 q1 (own_ap (own_rm (own_ap (own_ap own_st0 q0 tt) q1 tt) q1) (3 : Int32) tt) hh217 PLx220 ⟨h1.1, by omega⟩) 0 (by decide) (by decide) e217 PLx220.1.1 (by rw [hml]; rfl) [(.int q1)] [] (lenOf pd_4 rfl) rfl rfl (Nat.le_of_eq rfl) (Jvm.hb hby at_323) (pc' := 326) rfl (cells' := 10) (slots' := 33) rfl rfl (by decide) (by decide) ?_
        intro v221 T221 L221 X221 hQ221
        obtain ⟨rfl, rfl, e221⟩ := hQ221
        rw [List.append_nil] at X221
        show own_Gl p e below s (own_Q0 n0) room_1.cells room_1.slots (T221.setTop (mkF m 326 #[.val (.int x0), .val (.int x1), .val (.int x2), .val (.int x3), .val (.int x4), .val (.int (2 : Int32)), .val (.int (1 : Int32)), .val (.int tt), .val (.int q0), .val (.ref ad164), .val (.ref ad172), .val (.ref ad181), .val (.ref ad204), .val (.int (1 : Int32))] [(.int ((own_ap (own_rm (own_ap (own_ap own_st0 q0 tt) q1 tt) q1) (3 : Int32) tt) 0 q1.toNatClampNeg))]))
        refine g_iconst X221.here hx (Jvm.hb hby at_326) (pc' := 327) rfl (z := (-1 : Int32)) rfl ?_
        refine g_icY X221.here hx (Jvm.hb hby at_327) (by decide) (pc' := 332) (by decide) (teq (own_l28 q0 q1 q2 tt h0 h1 h2 h01 h02 h12 ht)).1 ?_
        refine g_aload X221.here hx (Jvm.hb hby at_332) (pc' := 334) rfl rfl rfl ?_
        refine g_iload X221.here hx (Jvm.hb hby at_334) (pc' := 336) rfl rfl ?_
        refine g_callV X221 hx hZ hown w_47 w_48 (own_nf hZ w_50) w_50 w_49 w_5 w_51 (by decide) (rm8 l Z a0 hw [] ad181 r0 r1 r2 r3 r4 r5 tt (own_ap (own_rm (own_ap (own_ap own_st0 q0 tt) q1 tt) q1) (3 : Int32) tt) hh217 PLx220 rt) 0 (by decide) (by decide) e221 PLx220.1.1 (by rw [hml]; rfl) [(.int tt)] [] (lenOf pd_4 rfl) rfl rfl (Nat.le_of_eq rfl) (Jvm.hb hby at_336) (pc' := 339) rfl (cells' := 10) (slots' := 33) rfl rfl (by decide) (by decide) ?_
        intro v222 T222 L222 X222 hQ222
        obtain ⟨rfl, rfl, e222⟩ := hQ222
        rw [List.append_nil] at X222
        show own_Gl p e below s (own_Q0 n0) room_1.cells room_1.slots (T222.setTop (mkF m 339 #[.val (.int x0), .val (.int x1), .val (.int x2), .val (.int x3), .val (.int x4), .val (.int (2 : Int32)), .val (.int (1 : Int32)), .val (.int tt), .val (.int q0), .val (.ref ad164), .val (.ref ad172), .val (.ref ad181), .val (.ref ad204), .val (.int (1 : Int32))] [(.int ((own_ap (own_rm (own_ap (own_ap own_st0 q0 tt) q1 tt) q1) (3 : Int32) tt) 5 tt.toNatClampNeg))]))
        refine g_iload X222.here hx (Jvm.hb hby at_339) (pc' := 341) rfl rfl ?_
        refine g_iconst X222.here hx (Jvm.hb hby at_341) (pc' := 342) rfl (z := (1 : Int32)) rfl ?_
        refine g_iadd X222.here hx (Jvm.hb hby at_342) (pc' := 343) rfl ?_
        refine g_icY X222.here hx (Jvm.hb hby at_343) (by decide) (pc' := 348) (by decide) (teq ((own_l29 q0 q1 q2 tt h0 h1 h2 h01 h02 h12 ht))).1 ?_
        refine g_aload X222.here hx (Jvm.hb hby at_348) (pc' := 350) rfl rfl rfl ?_
        refine g_iload X222.here hx (Jvm.hb hby at_350) (pc' := 352) rfl rfl ?_
        refine g_callV X222 hx hZ hown w_52 w_53 (own_nf hZ w_55) w_55 w_54 w_5 w_56 (by decide) (rm9 l Z a0 hw [] ad181 r0 r1 r2 r3 r4 r5 tt (own_ap (own_rm (own_ap (own_ap own_st0 q0 tt) q1 tt) q1) (3 : Int32) tt) hh217 PLx220 rt) 0 (by decide) (by decide) e222 PLx220.1.1 (by rw [hml]; rfl) [(.int tt)] [] (lenOf pd_4 rfl) rfl rfl (Nat.le_of_eq rfl) (Jvm.hb hby at_352) (pc' := 355) rfl (cells' := 10) (slots' := 33) rfl rfl (by decide) (by decide) ?_
        intro v223 T223 L223 X223 hQ223
        obtain ⟨rfl, rfl, e223⟩ := hQ223
        rw [List.append_nil] at X223
        show own_Gl p e below s (own_Q0 n0) room_1.cells room_1.slots (T223.setTop (mkF m 355 #[.val (.int x0), .val (.int x1), .val (.int x2), .val (.int x3), .val (.int x4), .val (.int (2 : Int32)), .val (.int (1 : Int32)), .val (.int tt), .val (.int q0), .val (.ref ad164), .val (.ref ad172), .val (.ref ad181), .val (.ref ad204), .val (.int (1 : Int32))] [(.int ((own_ap (own_rm (own_ap (own_ap own_st0 q0 tt) q1 tt) q1) (3 : Int32) tt) 3 tt.toNatClampNeg))]))
        refine g_aload X223.here hx (Jvm.hb hby at_355) (pc' := 357) rfl rfl rfl ?_
        refine g_iconst X223.here hx (Jvm.hb hby at_357) (pc' := 358) rfl (z := (0 : Int32)) rfl ?_
        refine g_iaload X223 hx hZ e223 V217 ⟨by decide, by decide⟩ (v := q0) rfl (Jvm.hb hby at_358) (pc' := 359) rfl ?_
        refine g_icY X223.here hx (Jvm.hb hby at_359) (by decide) (pc' := 364) (by decide) (teq (own_l30 q0 q1 q2 tt h0 h1 h2 h01 h02 h12 ht)).1 ?_
        refine g_aload X223.here hx (Jvm.hb hby at_364) (pc' := 366) rfl rfl rfl ?_
        refine g_iconst X223.here hx (Jvm.hb hby at_366) (pc' := 367) rfl (z := (0 : Int32)) rfl ?_
        refine g_iaload X223 hx hZ e223 V217 ⟨by decide, by decide⟩ (v := q0) rfl (Jvm.hb hby at_367) (pc' := 368) rfl ?_
        refine g_iconst X223.here hx (Jvm.hb hby at_368) (pc' := 369) rfl (z := (3 : Int32)) rfl ?_
        refine g_icN X223.here hx (Jvm.hb hby at_369) (pc' := 372) rfl (feq (fun q => by have := congrArg Int32.toInt q; simp only [Int32.reduceToInt] at this; omega)).1 ?_
        refine g_aload X223.here hx (Jvm.hb hby at_372) (pc' := 374) rfl rfl rfl ?_
        refine g_aload X223.here hx (Jvm.hb hby at_374) (pc' := 376) rfl rfl rfl ?_
        refine g_iconst X223.here hx (Jvm.hb hby at_376) (pc' := 377) rfl (z := (0 : Int32)) rfl ?_
        refine g_iaload X223 hx hZ e223 V217 ⟨by decide, by decide⟩ (v := q0) rfl (Jvm.hb hby at_377) (pc' := 378) rfl ?_
        refine g_callV X223 hx hZ hown w_57 w_58 (own_nf hZ w_60) w_60 w_59 w_5 w_61 (by decide) (rm10 l Z a0 hw [] ad181 r0 r1 r2 r3 r4 r5 q0 (own_ap (own_rm (own_ap (own_ap own_st0 q0 tt) q1 tt) q1) (3 : Int32) tt) hh217 PLx220 ⟨h0.1, by omega⟩) 0 (by decide) (by decide) e223 PLx220.1.1 (by rw [hml]; rfl) [(.int q0)] [] (lenOf pd_4 rfl) rfl rfl (Nat.le_of_eq rfl) (Jvm.hb hby at_378) (pc' := 381) rfl (cells' := 10) (slots' := 33) rfl rfl (by decide) (by decide) ?_
        intro v224 T224 L224 X224 hQ224
        obtain ⟨rfl, rfl, e224⟩ := hQ224
        rw [List.append_nil] at X224
        show own_Gl p e below s (own_Q0 n0) room_1.cells room_1.slots (T224.setTop (mkF m 381 #[.val (.int x0), .val (.int x1), .val (.int x2), .val (.int x3), .val (.int x4), .val (.int (2 : Int32)), .val (.int (1 : Int32)), .val (.int tt), .val (.int q0), .val (.ref ad164), .val (.ref ad172), .val (.ref ad181), .val (.ref ad204), .val (.int (1 : Int32))] [(.int ((own_ap (own_rm (own_ap (own_ap own_st0 q0 tt) q1 tt) q1) (3 : Int32) tt) 2 q0.toNatClampNeg))]))
        refine g_aload X224.here hx (Jvm.hb hby at_381) (pc' := 383) rfl rfl rfl ?_
        refine g_iconst X224.here hx (Jvm.hb hby at_383) (pc' := 384) rfl (z := (1 : Int32)) rfl ?_
        refine g_iaload X224 hx hZ e224 V217 ⟨by decide, by decide⟩ (v := (3 : Int32)) rfl (Jvm.hb hby at_384) (pc' := 385) rfl ?_
        refine g_icY X224.here hx (Jvm.hb hby at_385) (by decide) (pc' := 390) (by decide) (teq (own_l31 q0 q1 q2 tt h0 h1 h2 h01 h02 h12 ht)).1 ?_
        refine g_aload X224.here hx (Jvm.hb hby at_390) (pc' := 392) rfl rfl rfl ?_
        refine g_iconst X224.here hx (Jvm.hb hby at_392) (pc' := 393) rfl (z := (0 : Int32)) rfl ?_
        refine g_iaload X224 hx hZ e224 V217 ⟨by decide, by decide⟩ (v := q0) rfl (Jvm.hb hby at_393) (pc' := 394) rfl ?_
        refine g_iconst X224.here hx (Jvm.hb hby at_394) (pc' := 395) rfl (z := (3 : Int32)) rfl ?_
        refine g_icN X224.here hx (Jvm.hb hby at_395) (pc' := 398) rfl (feq (fun q => by have := congrArg Int32.toInt q; simp only [Int32.reduceToInt] at this; omega)).1 ?_
        refine g_aload X224.here hx (Jvm.hb hby at_398) (pc' := 400) rfl rfl rfl ?_
        refine g_iconst X224.here hx (Jvm.hb hby at_400) (pc' := 401) rfl (z := (1 : Int32)) rfl ?_
        refine g_iaload X224 hx hZ e224 V217 ⟨by decide, by decide⟩ (v := (3 : Int32)) rfl (Jvm.hb hby at_401) (pc' := 402) rfl ?_
        refine g_iconst X224.here hx (Jvm.hb hby at_402) (pc' := 403) rfl (z := (3 : Int32)) rfl ?_
        refine g_icY X224.here hx (Jvm.hb hby at_403) (by decide) (pc' := 424) (by decide) (teq (by decide)).1 ?_
        refine g_iconst X224.here hx (Jvm.hb hby at_424) (pc' := 425) rfl (z := (1 : Int32)) rfl ?_
        exact g_retN X224 hx hlk (t := .boolean) hret (by simp) (z' := (1 : Int32)) rfl (Jvm.hb hby at_425) (by decide) (by decide) ⟨rfl, N217⟩
      · refine g_ifN X197.here hx (Jvm.hb hby at_179) (pc' := 182) rfl ((if0 _ _).trans (feq hc179).1) ?_
        refine g_iload X197.here hx (Jvm.hb hby at_182) (pc' := 184) rfl rfl ?_
        refine g_iconst X197.here hx (Jvm.hb hby at_184) (pc' := 185) rfl (z := (1 : Int32)) rfl ?_
        refine g_icN X197.here hx (Jvm.hb hby at_185) (pc' := 188) rfl (tlt (by decide)).2.2.2 ?_
        refine g_iload X197.here hx (Jvm.hb hby at_188) (pc' := 190) rfl rfl ?_
        refine g_iconst X197.here hx (Jvm.hb hby at_190) (pc' := 191) rfl (z := (1 : Int32)) rfl ?_
        refine g_iadd X197.here hx (Jvm.hb hby at_191) (pc' := 192) rfl ?_
        refine g_iloadN X197.here hx (Jvm.hb hby at_192) (pc' := 193) rfl rfl ?_
        refine g_iconst X197.here hx (Jvm.hb hby at_193) (pc' := 194) rfl (z := (1 : Int32)) rfl ?_
        refine g_iushr X197.here hx (Jvm.hb hby at_194) (pc' := 195) rfl ?_
        refine g_iload X197.here hx (Jvm.hb hby at_195) (pc' := 197) rfl rfl ?_
        refine g_iconst X197.here hx (Jvm.hb hby at_197) (pc' := 198) rfl (z := (1 : Int32)) rfl ?_
        refine g_isub X197.here hx (Jvm.hb hby at_198) (pc' := 199) rfl ?_
        rw [show ((2 : Int32) - (1 : Int32)) = (1 : Int32) from rfl]
        refine g_irem X197 hx (Jvm.hb hby at_199) (pc' := 200) rfl (by decide) ?_
        generalize htj : (((x3.toUInt32 >>> ((1 : Int32) &&& 31).toUInt32).toInt32) % (1 : Int32)) = tj
        have hj : tj = (0 : Int32) := by
          have e1 := c_iushr x3 1 1 (by decide) (by decide)
          have e2 := c_irem ((x3.toUInt32 >>> ((1 : Int32) &&& 31).toUInt32).toInt32) 1 1 (by decide)
          have r := rng32 x3
          simp only [Nat.reducePow] at e1
          rw [htj] at e2
          simp only [← Int32.toInt_inj, Int32.reduceToInt]
          omega
        clear htj
        subst hj
        refine g_iadd X197.here hx (Jvm.hb hby at_200) (pc' := 201) rfl ?_
        refine g_iload X197.here hx (Jvm.hb hby at_201) (pc' := 203) rfl rfl ?_
        refine g_irem X197 hx (Jvm.hb hby at_203) (pc' := 204) rfl (by decide) ?_
        refine g_istore X197.here hx (Jvm.hb hby at_204) (pc' := 206) rfl (L' := #[.val (.int x0), .val (.int x1), .val (.int x2), .val (.int x3), .val (.int x4), .val (.int (2 : Int32)), .val (.int (1 : Int32)), .val (.int tt), .val (.int q0), .val (.ref ad164), .val (.ref ad172), .val (.ref ad181), .val (.int ((((1 : Int32) + (1 : Int32)) + (0 : Int32)) % (2 : Int32))), .unset]) rfl ?_
        rw [show ((((1 : Int32) + (1 : Int32)) + (0 : Int32)) % (2 : Int32)) = (0 : Int32) from rfl]
        refine g_aload X197.here hx (Jvm.hb hby at_206) (pc' := 208) rfl rfl rfl ?_
        refine g_aload X197.here hx (Jvm.hb hby at_208) (pc' := 210) rfl rfl rfl ?_
        refine g_iload X197.here hx (Jvm.hb hby at_210) (pc' := 212) rfl rfl ?_
        have F225 := ((F193.keep K194 (ninS (Nat.ne_of_lt (by omega)) (ninS (Nat.ne_of_lt (by omega)) (ninS (Nat.ne_of_lt (by omega)) (ninS (Nat.ne_of_lt (by omega)) (ninS (Nat.ne_of_lt (by omega)) (ninS (Nat.ne_of_lt (by omega)) nin0))))))).other W197 ne_ad164_ad172)
        refine g_iaload X197 hx hZ e197 F225 ⟨by decide, by decide⟩ (v := q0) rfl (Jvm.hb hby at_212) (pc' := 213) rfl ?_
        have PLx226 := (own_PL.other PL194 W197 hord (by omega))
        refine g_callV X197 hx hZ hown w_37 w_38 (own_nf hZ w_40) w_40 w_39 w_5 w_41 (by decide) (rm6 l Z a0 hw [] ad181 r0 r1 r2 r3 r4 r5 q0 (own_rm (own_ap (own_ap own_st0 q0 tt) q1 tt) q1) hh197 n0 Z198 g_ad181 hord PLx226 ⟨h0.1, by omega⟩ (own_l32 q0 q1 q2 tt h0 h1 h2 h01 h02 h12 ht) (own_l33 q0 q1 q2 tt h0 h1 h2 h01 h02 h12 ht) (own_l34 q0 q1 q2 tt h0 h1 h2 h01 h02 h12 ht)) 0 (by decide) (by decide) e197 PLx226.1.1 (by rw [hml]; rfl) [(.int q0)] [] (lenOf pd_3 rfl) rfl rfl (Nat.le_of_eq rfl) (Jvm.hb hby at_213) (pc' := 216) rfl (cells' := 9) (slots' := 30) rfl rfl (by decide) (by decide) ?_
        intro v227 T227 L227 X227 hQ227
        obtain ⟨rfl, Nq227, K227, PL227⟩ := hQ227
        have N227 := Fr.app N197 Nq227
        have Z228 : n0 ≤ T227.heap.size := Nat.le_trans Z198 K227.1
        show own_Gl p e below s (own_Q0 n0) room_1.cells room_1.slots (T227.setTop (mkF m 216 #[.val (.int x0), .val (.int x1), .val (.int x2), .val (.int x3), .val (.int x4), .val (.int (2 : Int32)), .val (.int (1 : Int32)), .val (.int tt), .val (.int q0), .val (.ref ad164), .val (.ref ad172), .val (.ref ad181), .val (.int (0 : Int32)), .unset] []))
        refine g_aload X227.here hx (Jvm.hb hby at_216) (pc' := 218) rfl rfl rfl ?_
        refine g_iload X227.here hx (Jvm.hb hby at_218) (pc' := 220) rfl rfl ?_
        refine g_iconst X227.here hx (Jvm.hb hby at_220) (pc' := 221) rfl (z := (0 : Int32)) rfl ?_
        have F229 := (V197.keep K227 (ninS (Nat.ne_of_lt (by omega)) (ninS (Nat.ne_of_lt (by omega)) (ninS (Nat.ne_of_lt (by omega)) (ninS (Nat.ne_of_lt (by omega)) (ninS (Nat.ne_of_lt (by omega)) (ninS (Nat.ne_of_lt (by omega)) nin0)))))))
        refine g_zastore X227 hx hZ rfl F229 ⟨by decide, by decide⟩ (x' := (0 : Int32)) rfl (Jvm.hb hby at_221) (pc' := 222) rfl ?_
        intro T230 hh230 X230 e230 W230 V230
        have N230 := Fr.snoc X230 N227 g_ad172
        have Z231 : n0 ≤ hh230.size := (by rw [W230.size]; exact Z228)
        refine g_aload X230.here hx (Jvm.hb hby at_222) (pc' := 224) rfl rfl rfl ?_
        refine g_iconst X230.here hx (Jvm.hb hby at_224) (pc' := 225) rfl (z := (3 : Int32)) rfl ?_
        refine g_iload X230.here hx (Jvm.hb hby at_225) (pc' := 227) rfl rfl ?_
        have PLx232 := (own_PL.other PL227 W230 hord (by omega))
        refine g_callV X230 hx hZ hown w_32 w_33 (own_nf hZ w_35) w_35 w_34 w_5 w_36 (by decide) (rm5 l Z a0 hw [] ad181 r0 r1 r2 r3 r4 r5 (3 : Int32) tt (own_rm (own_rm (own_ap (own_ap own_st0 q0 tt) q1 tt) q1) q0) hh230 n0 Z231 g_ad181 hord PLx232 ⟨by decide, by decide⟩ rt (own_l35 q0 q1 q2 tt h0 h1 h2 h01 h02 h12 ht)) 0 (by decide) (by decide) e230 PLx232.1.1 (by rw [hml]; rfl) [(.int (3 : Int32)), (.int tt)] [] (lenOf pd_2 rfl) rfl rfl (Nat.le_of_eq rfl) (Jvm.hb hby at_227) (pc' := 230) rfl (cells' := 9) (slots' := 30) rfl rfl (by decide) (by decide) ?_
        intro v233 T233 L233 X233 hQ233
        obtain ⟨rfl, Nq233, K233, PL233⟩ := hQ233
        have N233 := Fr.app N230 Nq233
        have Z234 : n0 ≤ T233.heap.size := Nat.le_trans Z231 K233.1
        show own_Gl p e below s (own_Q0 n0) room_1.cells room_1.slots (T233.setTop (mkF m 230 #[.val (.int x0), .val (.int x1), .val (.int x2), .val (.int x3), .val (.int x4), .val (.int (2 : Int32)), .val (.int (1 : Int32)), .val (.int tt), .val (.int q0), .val (.ref ad164), .val (.ref ad172), .val (.ref ad181), .val (.int (0 : Int32)), .unset] []))
        refine g_iconst X233.here hx (Jvm.hb hby at_230) (pc' := 231) rfl (z := (3 : Int32)) rfl ?_
        have F235 := (((F225.keep K227 (ninS (Nat.ne_of_lt (by omega)) (ninS (Nat.ne_of_lt (by omega)) (ninS (Nat.ne_of_lt (by omega)) (ninS (Nat.ne_of_lt (by omega)) (ninS (Nat.ne_of_lt (by omega)) (ninS (Nat.ne_of_lt (by omega)) nin0))))))).other W230 ne_ad164_ad172).keep K233 (ninS (Nat.ne_of_lt (by omega)) (ninS (Nat.ne_of_lt (by omega)) (ninS (Nat.ne_of_lt (by omega)) (ninS (Nat.ne_of_lt (by omega)) (ninS (Nat.ne_of_lt (by omega)) (ninS (Nat.ne_of_lt (by omega)) nin0)))))))
        have F236 := (V230.keep K233 (ninS (Nat.ne_of_lt (by omega)) (ninS (Nat.ne_of_lt (by omega)) (ninS (Nat.ne_of_lt (by omega)) (ninS (Nat.ne_of_lt (by omega)) (ninS (Nat.ne_of_lt (by omega)) (ninS (Nat.ne_of_lt (by omega)) nin0)))))))
        refine g_newarr X233 hx hZ (ty := .int) rfl rfl w_1 rfl (Jvm.hb hby at_231) (pc' := 233) rfl (n := 3) (by decide) 3 (by decide) (by decide) (cells' := 10) (slots' := 33) rfl rfl (by decide) (by decide) ?_
        intro T237 hh237 ad237 gb237 X237 e237 E237 V237
        have g_ad237 : n0 ≤ ad237 := by rw [gb237]; exact Z234
        have lt_ad164_ad237 : @LT.lt Nat _ ad164 ad237 := by rw [gb237]; exact F235.lt
        have ne_ad164_ad237 : ad164 ≠ ad237 := Nat.ne_of_lt lt_ad164_ad237
        have lt_ad172_ad237 : @LT.lt Nat _ ad172 ad237 := by rw [gb237]; exact F236.lt
        have ne_ad172_ad237 : ad172 ≠ ad237 := Nat.ne_of_lt lt_ad172_ad237
        have lt_ad181_ad237 : @LT.lt Nat _ ad181 ad237 := by rw [gb237]; exact PL233.1.1.lt
        have ne_ad181_ad237 : ad181 ≠ ad237 := Nat.ne_of_lt lt_ad181_ad237
        have Z238 : n0 ≤ hh237.size := Nat.le_trans Z234 E237.1
        have lt5 : @LT.lt Nat _ r5 ad237 := by rw [gb237]; exact own_PL.lt5 PL233
        refine g_astore X237.here hx (Jvm.hb hby at_233) (pc' := 235) rfl rfl (L' := #[.val (.int x0), .val (.int x1), .val (.int x2), .val (.int x3), .val (.int x4), .val (.int (2 : Int32)), .val (.int (1 : Int32)), .val (.int tt), .val (.int q0), .val (.ref ad164), .val (.ref ad172), .val (.ref ad181), .val (.ref ad237), .unset]) rfl ?_
        refine g_aload X237.here hx (Jvm.hb hby at_235) (pc' := 237) rfl rfl rfl ?_
        refine g_iconst X237.here hx (Jvm.hb hby at_237) (pc' := 238) rfl (z := (0 : Int32)) rfl ?_
        refine g_iconst X237.here hx (Jvm.hb hby at_238) (pc' := 239) rfl (z := (-1 : Int32)) rfl ?_
        refine g_iastore X237 hx hZ e237 V237 ⟨by decide, by decide⟩ (Jvm.hb hby at_239) (pc' := 240) rfl ?_
        intro T239 hh239 X239 e239 W239 V239
        have N239 := Fr.snoc X239 N233 g_ad237
        have Z240 : n0 ≤ hh239.size := (by rw [W239.size]; exact Z238)
        refine g_aload X239.here hx (Jvm.hb hby at_240) (pc' := 242) rfl rfl rfl ?_
        refine g_iconst X239.here hx (Jvm.hb hby at_242) (pc' := 243) rfl (z := (1 : Int32)) rfl ?_
        refine g_iconst X239.here hx (Jvm.hb hby at_243) (pc' := 244) rfl (z := (-1 : Int32)) rfl ?_
        refine g_iastore X239 hx hZ e239 V239 ⟨by decide, by decide⟩ (Jvm.hb hby at_244) (pc' := 245) rfl ?_
        intro T241 hh241 X241 e241 W241 V241
        have N241 := Fr.snoc X241 N239 g_ad237
        have Z242 : n0 ≤ hh241.size := (by rw [W241.size]; exact Z240)
        refine g_aload X241.here hx (Jvm.hb hby at_245) (pc' := 247) rfl rfl rfl ?_
        refine g_iconst X241.here hx (Jvm.hb hby at_247) (pc' := 248) rfl (z := (2 : Int32)) rfl ?_
        refine g_iconst X241.here hx (Jvm.hb hby at_248) (pc' := 249) rfl (z := (-1 : Int32)) rfl ?_
        refine g_iastore X241 hx hZ e241 V241 ⟨by decide, by decide⟩ (Jvm.hb hby at_249) (pc' := 250) rfl ?_
        intro T243 hh243 X243 e243 W243 V243
        have N243 := Fr.snoc X243 N241 g_ad237
        have Z244 : n0 ≤ hh243.size := (by rw [W243.size]; exact Z242)
        refine g_iconst X243.here hx (Jvm.hb hby at_250) (pc' := 251) rfl (z := (0 : Int32)) rfl ?_
        refine g_istore X243.here hx (Jvm.hb hby at_251) (pc' := 253) rfl (L' := #[.val (.int x0), .val (.int x1), .val (.int x2), .val (.int x3), .val (.int x4), .val (.int (2 : Int32)), .val (.int (1 : Int32)), .val (.int tt), .val (.int q0), .val (.ref ad164), .val (.ref ad172), .val (.ref ad181), .val (.ref ad237), .val (.int (0 : Int32))]) rfl ?_
        refine g_aload X243.here hx (Jvm.hb hby at_253) (pc' := 255) rfl rfl rfl ?_
        refine g_iconst X243.here hx (Jvm.hb hby at_255) (pc' := 256) rfl (z := (0 : Int32)) rfl ?_
        have F245 := ((((F236.ext E237).other W239 ne_ad172_ad237).other W241 ne_ad172_ad237).other W243 ne_ad172_ad237)
        refine g_zaload X243 hx hZ e243 F245 ⟨by decide, by decide⟩ (v := (0 : Int32)) rfl (Jvm.hb hby at_256) (pc' := 257) rfl ?_
        refine g_ifY X243.here hx (Jvm.hb hby at_257) (by decide) (pc' := 272) (by decide) ((if0 _ _).trans (teq (by decide)).1) ?_
        refine g_aload X243.here hx (Jvm.hb hby at_272) (pc' := 274) rfl rfl rfl ?_
        refine g_iconst X243.here hx (Jvm.hb hby at_274) (pc' := 275) rfl (z := (1 : Int32)) rfl ?_
        refine g_zaload X243 hx hZ e243 F245 ⟨by decide, by decide⟩ (v := (0 : Int32)) rfl (Jvm.hb hby at_275) (pc' := 276) rfl ?_
        refine g_ifY X243.here hx (Jvm.hb hby at_276) (by decide) (pc' := 291) (by decide) ((if0 _ _).trans (teq (by decide)).1) ?_
        refine g_aload X243.here hx (Jvm.hb hby at_291) (pc' := 293) rfl rfl rfl ?_
        refine g_iconst X243.here hx (Jvm.hb hby at_293) (pc' := 294) rfl (z := (2 : Int32)) rfl ?_
        refine g_zaload X243 hx hZ e243 F245 ⟨by decide, by decide⟩ (v := (0 : Int32)) rfl (Jvm.hb hby at_294) (pc' := 295) rfl ?_
        refine g_ifY X243.here hx (Jvm.hb hby at_295) (by decide) (pc' := 310) (by decide) ((if0 _ _).trans (teq (by decide)).1) ?_
        refine g_aload X243.here hx (Jvm.hb hby at_310) (pc' := 312) rfl rfl rfl ?_
        refine g_iload X243.here hx (Jvm.hb hby at_312) (pc' := 314) rfl rfl ?_
        refine g_iconst X243.here hx (Jvm.hb hby at_314) (pc' := 315) rfl (z := (3 : Int32)) rfl ?_
        refine g_iastore X243 hx hZ e243 V243 ⟨by decide, by decide⟩ (Jvm.hb hby at_315) (pc' := 316) rfl ?_
        intro T246 hh246 X246 e246 W246 V246
        have N246 := Fr.snoc X246 N243 g_ad237
        have Z247 : n0 ≤ hh246.size := (by rw [W246.size]; exact Z244)
        refine g_aload X246.here hx (Jvm.hb hby at_316) (pc' := 318) rfl rfl rfl ?_
        refine g_aload X246.here hx (Jvm.hb hby at_318) (pc' := 320) rfl rfl rfl ?_
        refine g_iload X246.here hx (Jvm.hb hby at_320) (pc' := 322) rfl rfl ?_
        have F248 := (((((F235.ext E237).other W239 ne_ad164_ad237).other W241 ne_ad164_ad237).other W243 ne_ad164_ad237).other W246 ne_ad164_ad237)
        refine g_iaload X246 hx hZ e246 F248 ⟨by decide, by decide⟩ (v := q1) rfl (Jvm.hb hby at_322) (pc' := 323) rfl ?_
        have PLx249 := (own_PL.other (own_PL.other (own_PL.other (own_PL.other (own_PL.ext PL233 E237) W239 hord (by omega)) W241 hord (by omega)) W243 hord (by omega)) W246 hord (by omega))
        refine g_callV X246 hx hZ hown w_42 w_43 (own_nf hZ w_45) w_45 w_44 w_5 w_46 (by decide) (rm7 l Z a0 hw [] ad181 r0 r1 r2 r3 r4 r5 q1 (own_ap (own_rm (own_rm (own_ap (own_ap own_st0 q0 tt) q1 tt) q1) q0) (3 : Int32) tt) hh246 PLx249 ⟨h1.1, by omega⟩) 0 (by decide) (by decide) e246 PLx249.1.1 (by rw [hml]; rfl) [(.int q1)] [] (lenOf pd_4 rfl) rfl rfl (Nat.le_of_eq rfl) (Jvm.hb hby at_323) (pc' := 326) rfl (cells' := 10) (slots' := 33) rfl rfl (by decide) (by decide) ?_
        intro v250 T250 L250 X250 hQ250
        obtain ⟨rfl, rfl, e250⟩ := hQ250
        rw [List.append_nil] at X250
        show own_Gl p e below s (own_Q0 n0) room_1.cells room_1.slots (T250.setTop (mkF m 326 #[.val (.int x0), .val (.int x1), .val (.int x2), .val (.int x3), .val (.int x4), .val (.int (2 : Int32)), .val (.int (1 : Int32)), .val (.int tt), .val (.int q0), .val (.ref ad164), .val (.ref ad172), .val (.ref ad181), .val (.ref ad237), .val (.int (0 : Int32))] [(.int ((own_ap (own_rm (own_rm (own_ap (own_ap own_st0 q0 tt) q1 tt) q1) q0) (3 : Int32) tt) 0 q1.toNatClampNeg))]))
        refine g_iconst X250.here hx (Jvm.hb hby at_326) (pc' := 327) rfl (z := (-1 : Int32)) rfl ?_
        refine g_icY X250.here hx (Jvm.hb hby at_327) (by decide) (pc' := 332) (by decide) (teq (own_l36 q0 q1 q2 tt h0 h1 h2 h01 h02 h12 ht)).1 ?_
        refine g_aload X250.here hx (Jvm.hb hby at_332) (pc' := 334) rfl rfl rfl ?_
        refine g_iload X250.here hx (Jvm.hb hby at_334) (pc' := 336) rfl rfl ?_
        refine g_callV X250 hx hZ hown w_47 w_48 (own_nf hZ w_50) w_50 w_49 w_5 w_51 (by decide) (rm8 l Z a0 hw [] ad181 r0 r1 r2 r3 r4 r5 tt (own_ap (own_rm (own_rm (own_ap (own_ap own_st0 q0 tt) q1 tt) q1) q0) (3 : Int32) tt) hh246 PLx249 rt) 0 (by decide) (by decide) e250 PLx249.1.1 (by rw [hml]; rfl) [(.int tt)] [] (lenOf pd_4 rfl) rfl rfl (Nat.le_of_eq rfl) (Jvm.hb hby at_336) (pc' := 339) rfl (cells' := 10) (slots' := 33) rfl rfl (by decide) (by decide) ?_
        intro v251 T251 L251 X251 hQ251
        obtain ⟨rfl, rfl, e251⟩ := hQ251
        rw [List.append_nil] at X251
        show own_Gl p e below s (own_Q0 n0) room_1.cells room_1.slots (T251.setTop (mkF m 339 #[.val (.int x0), .val (.int x1), .val (.int x2), .val (.int x3), .val (.int x4), .val (.int (2 : Int32)), .val (.int (1 : Int32)), .val (.int tt), .val (.int q0), .val (.ref ad164), .val (.ref ad172), .val (.ref ad181), .val (.ref ad237), .val (.int (0 : Int32))] [(.int ((own_ap (own_rm (own_rm (own_ap (own_ap own_st0 q0 tt) q1 tt) q1) q0) (3 : Int32) tt) 5 tt.toNatClampNeg))]))
        refine g_iload X251.here hx (Jvm.hb hby at_339) (pc' := 341) rfl rfl ?_
        refine g_iconst X251.here hx (Jvm.hb hby at_341) (pc' := 342) rfl (z := (1 : Int32)) rfl ?_
        refine g_iadd X251.here hx (Jvm.hb hby at_342) (pc' := 343) rfl ?_
        refine g_icY X251.here hx (Jvm.hb hby at_343) (by decide) (pc' := 348) (by decide) (teq ((own_l37 q0 q1 q2 tt h0 h1 h2 h01 h02 h12 ht))).1 ?_
        refine g_aload X251.here hx (Jvm.hb hby at_348) (pc' := 350) rfl rfl rfl ?_
        refine g_iload X251.here hx (Jvm.hb hby at_350) (pc' := 352) rfl rfl ?_
        refine g_callV X251 hx hZ hown w_52 w_53 (own_nf hZ w_55) w_55 w_54 w_5 w_56 (by decide) (rm9 l Z a0 hw [] ad181 r0 r1 r2 r3 r4 r5 tt (own_ap (own_rm (own_rm (own_ap (own_ap own_st0 q0 tt) q1 tt) q1) q0) (3 : Int32) tt) hh246 PLx249 rt) 0 (by decide) (by decide) e251 PLx249.1.1 (by rw [hml]; rfl) [(.int tt)] [] (lenOf pd_4 rfl) rfl rfl (Nat.le_of_eq rfl) (Jvm.hb hby at_352) (pc' := 355) rfl (cells' := 10) (slots' := 33) rfl rfl (by decide) (by decide) ?_
        intro v252 T252 L252 X252 hQ252
        obtain ⟨rfl, rfl, e252⟩ := hQ252
        rw [List.append_nil] at X252
        show own_Gl p e below s (own_Q0 n0) room_1.cells room_1.slots (T252.setTop (mkF m 355 #[.val (.int x0), .val (.int x1), .val (.int x2), .val (.int x3), .val (.int x4), .val (.int (2 : Int32)), .val (.int (1 : Int32)), .val (.int tt), .val (.int q0), .val (.ref ad164), .val (.ref ad172), .val (.ref ad181), .val (.ref ad237), .val (.int (0 : Int32))] [(.int ((own_ap (own_rm (own_rm (own_ap (own_ap own_st0 q0 tt) q1 tt) q1) q0) (3 : Int32) tt) 3 tt.toNatClampNeg))]))
        refine g_aload X252.here hx (Jvm.hb hby at_355) (pc' := 357) rfl rfl rfl ?_
        refine g_iconst X252.here hx (Jvm.hb hby at_357) (pc' := 358) rfl (z := (0 : Int32)) rfl ?_
        refine g_iaload X252 hx hZ e252 V246 ⟨by decide, by decide⟩ (v := (3 : Int32)) rfl (Jvm.hb hby at_358) (pc' := 359) rfl ?_
        refine g_icY X252.here hx (Jvm.hb hby at_359) (by decide) (pc' := 364) (by decide) (teq (own_l38 q0 q1 q2 tt h0 h1 h2 h01 h02 h12 ht)).1 ?_
        refine g_aload X252.here hx (Jvm.hb hby at_364) (pc' := 366) rfl rfl rfl ?_
        refine g_iconst X252.here hx (Jvm.hb hby at_366) (pc' := 367) rfl (z := (0 : Int32)) rfl ?_
        refine g_iaload X252 hx hZ e252 V246 ⟨by decide, by decide⟩ (v := (3 : Int32)) rfl (Jvm.hb hby at_367) (pc' := 368) rfl ?_
        refine g_iconst X252.here hx (Jvm.hb hby at_368) (pc' := 369) rfl (z := (3 : Int32)) rfl ?_
        refine g_icY X252.here hx (Jvm.hb hby at_369) (by decide) (pc' := 390) (by decide) (teq (by decide)).1 ?_
        refine g_aload X252.here hx (Jvm.hb hby at_390) (pc' := 392) rfl rfl rfl ?_
        refine g_iconst X252.here hx (Jvm.hb hby at_392) (pc' := 393) rfl (z := (0 : Int32)) rfl ?_
        refine g_iaload X252 hx hZ e252 V246 ⟨by decide, by decide⟩ (v := (3 : Int32)) rfl (Jvm.hb hby at_393) (pc' := 394) rfl ?_
        refine g_iconst X252.here hx (Jvm.hb hby at_394) (pc' := 395) rfl (z := (3 : Int32)) rfl ?_
        refine g_icY X252.here hx (Jvm.hb hby at_395) (by decide) (pc' := 424) (by decide) (teq (by decide)).1 ?_
        refine g_iconst X252.here hx (Jvm.hb hby at_424) (pc' := 425) rfl (z := (1 : Int32)) rfl ?_
        exact g_retN X252 hx hlk (t := .boolean) hret (by simp) (z' := (1 : Int32)) rfl (Jvm.hb hby at_425) (by decide) (by decide) ⟨rfl, N246⟩
  · refine g_iloadN X0.here hx (Jvm.hb hby at_10) (pc' := 11) rfl rfl ?_
    refine g_ldc X0 hx hZ hown w_0 (Jvm.hb hby at_11) (pc' := 13) rfl ?_
    refine g_iand X0.here hx (Jvm.hb hby at_13) (pc' := 14) rfl ?_
    refine g_iload X0.here hx (Jvm.hb hby at_14) (pc' := 16) rfl rfl ?_
    refine g_irem X0 hx (Jvm.hb hby at_16) (pc' := 17) rfl (by decide) ?_
    refine g_istore X0.here hx (Jvm.hb hby at_17) (pc' := 19) rfl (L' := #[.val (.int x0), .val (.int x1), .val (.int x2), .val (.int x3), .val (.int x4), .val (.int (3 : Int32)), .val (.int ((x1 &&& (2147483647 : Int32)) % (3 : Int32))), .unset, .unset, .unset, .unset, .unset, .unset, .unset]) rfl ?_
    generalize hkk : ((x1 &&& (2147483647 : Int32)) % (3 : Int32)) = kk
    have hk : kk = (0 : Int32) ∨ kk = (1 : Int32) ∨ kk = (2 : Int32) := by
      have e := c_mask x1 2147483647 31 (by decide) (by decide)
      have e2 := c_irem (x1 &&& 2147483647) 3 3 (by decide)
      simp only [Nat.reducePow] at e
      rw [hkk] at e2
      simp only [← Int32.toInt_inj, Int32.reduceToInt]
      omega
    clear hkk
    rcases hk with rfl | rfl | rfl
    · refine g_iloadN X0.here hx (Jvm.hb hby at_19) (pc' := 20) rfl rfl ?_
      refine g_iconst X0.here hx (Jvm.hb hby at_20) (pc' := 21) rfl (z := (1 : Int32)) rfl ?_
      refine g_iand X0.here hx (Jvm.hb hby at_21) (pc' := 22) rfl ?_
      refine g_istore X0.here hx (Jvm.hb hby at_22) (pc' := 24) rfl (L' := #[.val (.int x0), .val (.int x1), .val (.int x2), .val (.int x3), .val (.int x4), .val (.int (3 : Int32)), .val (.int (0 : Int32)), .val (.int (x2 &&& (1 : Int32))), .unset, .unset, .unset, .unset, .unset, .unset]) rfl ?_
      generalize htt : (x2 &&& (1 : Int32)) = tt
      have ht := and_one x2
      rw [htt] at ht
      have rt := own_rg tt ht
      refine g_iload X0.here hx (Jvm.hb hby at_24) (pc' := 26) rfl rfl ?_
      refine g_ldc X0 hx hZ hown w_0 (Jvm.hb hby at_26) (pc' := 28) rfl ?_
      refine g_iand X0.here hx (Jvm.hb hby at_28) (pc' := 29) rfl ?_
      refine g_iconst X0.here hx (Jvm.hb hby at_29) (pc' := 30) rfl (z := (3 : Int32)) rfl ?_
      refine g_irem X0 hx (Jvm.hb hby at_30) (pc' := 31) rfl (by decide) ?_
      refine g_istore X0.here hx (Jvm.hb hby at_31) (pc' := 33) rfl (L' := #[.val (.int x0), .val (.int x1), .val (.int x2), .val (.int x3), .val (.int x4), .val (.int (3 : Int32)), .val (.int (0 : Int32)), .val (.int tt), .val (.int ((x4 &&& (2147483647 : Int32)) % (3 : Int32))), .unset, .unset, .unset, .unset, .unset]) rfl ?_
      generalize hq0 : ((x4 &&& (2147483647 : Int32)) % (3 : Int32)) = q0
      obtain ⟨q1, hq1⟩ : ∃ z, ((q0 + (1 : Int32)) % (3 : Int32)) = z := ⟨_, rfl⟩
      obtain ⟨q2, hq2⟩ : ∃ z, ((q0 + (2 : Int32)) % (3 : Int32)) = z := ⟨_, rfl⟩
      obtain ⟨h0, h1, h2, h01, h02, h12⟩ := own_pg x4 q0 q0 q1 q2 hq0 hq1 hq2
      refine g_iconst X0.here hx (Jvm.hb hby at_33) (pc' := 34) rfl (z := (3 : Int32)) rfl ?_
      refine g_newarr X0 hx hZ (ty := .int) rfl rfl w_1 e0 (Jvm.hb hby at_34) (pc' := 36) rfl (n := 3) (by decide) 3 (by decide) (by decide) (cells' := 1) (slots' := 3) rfl rfl (by decide) (by decide) ?_
      intro T253 hh253 ad253 gb253 X253 e253 E253 V253
      have g_ad253 : n0 ≤ ad253 := by rw [gb253]; exact Z0
      have Z254 : n0 ≤ hh253.size := Nat.le_trans Z0 E253.1
      refine g_astore X253.here hx (Jvm.hb hby at_36) (pc' := 38) rfl rfl (L' := #[.val (.int x0), .val (.int x1), .val (.int x2), .val (.int x3), .val (.int x4), .val (.int (3 : Int32)), .val (.int (0 : Int32)), .val (.int tt), .val (.int q0), .val (.ref ad253), .unset, .unset, .unset, .unset]) rfl ?_
      refine g_aload X253.here hx (Jvm.hb hby at_38) (pc' := 40) rfl rfl rfl ?_
      refine g_iconst X253.here hx (Jvm.hb hby at_40) (pc' := 41) rfl (z := (0 : Int32)) rfl ?_
      refine g_iload X253.here hx (Jvm.hb hby at_41) (pc' := 43) rfl rfl ?_
      refine g_iastore X253 hx hZ e253 V253 ⟨by decide, by decide⟩ (Jvm.hb hby at_43) (pc' := 44) rfl ?_
      intro T255 hh255 X255 e255 W255 V255
      have N255 := Fr.snoc X255 N0 g_ad253
      have Z256 : n0 ≤ hh255.size := (by rw [W255.size]; exact Z254)
      refine g_aload X255.here hx (Jvm.hb hby at_44) (pc' := 46) rfl rfl rfl ?_
      refine g_iconst X255.here hx (Jvm.hb hby at_46) (pc' := 47) rfl (z := (1 : Int32)) rfl ?_
      refine g_iload X255.here hx (Jvm.hb hby at_47) (pc' := 49) rfl rfl ?_
      refine g_iconst X255.here hx (Jvm.hb hby at_49) (pc' := 50) rfl (z := (1 : Int32)) rfl ?_
      refine g_iadd X255.here hx (Jvm.hb hby at_50) (pc' := 51) rfl ?_
      refine g_iconst X255.here hx (Jvm.hb hby at_51) (pc' := 52) rfl (z := (3 : Int32)) rfl ?_
      refine g_irem X255 hx (Jvm.hb hby at_52) (pc' := 53) rfl (by decide) ?_
      rw [hq1]
      refine g_iastore X255 hx hZ e255 V255 ⟨by decide, by decide⟩ (Jvm.hb hby at_53) (pc' := 54) rfl ?_
      intro T257 hh257 X257 e257 W257 V257
      have N257 := Fr.snoc X257 N255 g_ad253
      have Z258 : n0 ≤ hh257.size := (by rw [W257.size]; exact Z256)
      refine g_aload X257.here hx (Jvm.hb hby at_54) (pc' := 56) rfl rfl rfl ?_
      refine g_iconst X257.here hx (Jvm.hb hby at_56) (pc' := 57) rfl (z := (2 : Int32)) rfl ?_
      refine g_iload X257.here hx (Jvm.hb hby at_57) (pc' := 59) rfl rfl ?_
      refine g_iconst X257.here hx (Jvm.hb hby at_59) (pc' := 60) rfl (z := (2 : Int32)) rfl ?_
      refine g_iadd X257.here hx (Jvm.hb hby at_60) (pc' := 61) rfl ?_
      refine g_iconst X257.here hx (Jvm.hb hby at_61) (pc' := 62) rfl (z := (3 : Int32)) rfl ?_
      refine g_irem X257 hx (Jvm.hb hby at_62) (pc' := 63) rfl (by decide) ?_
      rw [hq2]
      refine g_iastore X257 hx hZ e257 V257 ⟨by decide, by decide⟩ (Jvm.hb hby at_63) (pc' := 64) rfl ?_
      intro T259 hh259 X259 e259 W259 V259
      have N259 := Fr.snoc X259 N257 g_ad253
      have Z260 : n0 ≤ hh259.size := (by rw [W259.size]; exact Z258)
      refine g_iconst X259.here hx (Jvm.hb hby at_64) (pc' := 65) rfl (z := (3 : Int32)) rfl ?_
      refine g_newarr X259 hx hZ (ty := .boolean) rfl rfl w_2 e259 (Jvm.hb hby at_65) (pc' := 67) rfl (n := 3) (by decide) 3 (by decide) (by decide) (cells' := 2) (slots' := 6) rfl rfl (by decide) (by decide) ?_
      intro T261 hh261 ad261 gb261 X261 e261 E261 V261
      have g_ad261 : n0 ≤ ad261 := by rw [gb261]; exact Z260
      have lt_ad253_ad261 : @LT.lt Nat _ ad253 ad261 := by rw [gb261]; exact V259.lt
      have ne_ad253_ad261 : ad253 ≠ ad261 := Nat.ne_of_lt lt_ad253_ad261
      have Z262 : n0 ≤ hh261.size := Nat.le_trans Z260 E261.1
      refine g_astore X261.here hx (Jvm.hb hby at_67) (pc' := 69) rfl rfl (L' := #[.val (.int x0), .val (.int x1), .val (.int x2), .val (.int x3), .val (.int x4), .val (.int (3 : Int32)), .val (.int (0 : Int32)), .val (.int tt), .val (.int q0), .val (.ref ad253), .val (.ref ad261), .unset, .unset, .unset]) rfl ?_
      refine g_aload X261.here hx (Jvm.hb hby at_69) (pc' := 71) rfl rfl rfl ?_
      refine g_iconst X261.here hx (Jvm.hb hby at_71) (pc' := 72) rfl (z := (0 : Int32)) rfl ?_
      refine g_iconst X261.here hx (Jvm.hb hby at_72) (pc' := 73) rfl (z := (1 : Int32)) rfl ?_
      refine g_zastore X261 hx hZ e261 V261 ⟨by decide, by decide⟩ (x' := (1 : Int32)) rfl (Jvm.hb hby at_73) (pc' := 74) rfl ?_
      intro T263 hh263 X263 e263 W263 V263
      have N263 := Fr.snoc X263 N259 g_ad261
      have Z264 : n0 ≤ hh263.size := (by rw [W263.size]; exact Z262)
      refine g_aload X263.here hx (Jvm.hb hby at_74) (pc' := 76) rfl rfl rfl ?_
      refine g_iconst X263.here hx (Jvm.hb hby at_76) (pc' := 77) rfl (z := (1 : Int32)) rfl ?_
      refine g_iload X263.here hx (Jvm.hb hby at_77) (pc' := 79) rfl rfl ?_
      refine g_iconst X263.here hx (Jvm.hb hby at_79) (pc' := 80) rfl (z := (1 : Int32)) rfl ?_
      refine g_icN X263.here hx (Jvm.hb hby at_80) (pc' := 83) rfl (tlt (by decide)).2.2.2 ?_
      refine g_iconst X263.here hx (Jvm.hb hby at_83) (pc' := 84) rfl (z := (1 : Int32)) rfl ?_
      refine g_goto X263.here hx (Jvm.hb hby at_84) (by decide) (pc' := 88) (by decide) ?_
      refine g_zastore X263 hx hZ e263 V263 ⟨by decide, by decide⟩ (x' := (1 : Int32)) rfl (Jvm.hb hby at_88) (pc' := 89) rfl ?_
      intro T265 hh265 X265 e265 W265 V265
      have N265 := Fr.snoc X265 N263 g_ad261
      have Z266 : n0 ≤ hh265.size := (by rw [W265.size]; exact Z264)
      refine g_aload X265.here hx (Jvm.hb hby at_89) (pc' := 91) rfl rfl rfl ?_
      refine g_iconst X265.here hx (Jvm.hb hby at_91) (pc' := 92) rfl (z := (2 : Int32)) rfl ?_
      refine g_iload X265.here hx (Jvm.hb hby at_92) (pc' := 94) rfl rfl ?_
      refine g_iconst X265.here hx (Jvm.hb hby at_94) (pc' := 95) rfl (z := (2 : Int32)) rfl ?_
      refine g_icN X265.here hx (Jvm.hb hby at_95) (pc' := 98) rfl (tlt (by decide)).2.2.2 ?_
      refine g_iconst X265.here hx (Jvm.hb hby at_98) (pc' := 99) rfl (z := (1 : Int32)) rfl ?_
      refine g_goto X265.here hx (Jvm.hb hby at_99) (by decide) (pc' := 103) (by decide) ?_
      refine g_zastore X265 hx hZ e265 V265 ⟨by decide, by decide⟩ (x' := (1 : Int32)) rfl (Jvm.hb hby at_103) (pc' := 104) rfl ?_
      intro T267 hh267 X267 e267 W267 V267
      have N267 := Fr.snoc X267 N265 g_ad261
      have Z268 : n0 ≤ hh267.size := (by rw [W267.size]; exact Z266)
      have F269 := ((((V259.ext E261).other W263 ne_ad253_ad261).other W265 ne_ad253_ad261).other W267 ne_ad253_ad261)
      refine g_new X267 hx hZ hown w_3 w_4 w_5 e267 (Jvm.hb hby at_104) (pc' := 107) rfl (cells' := 3) (slots' := 12) rfl rfl (by decide) (by decide) ?_
      intro T270 hh270 ad270 gb270 X270 e270 E270 A270 D270
      have g_ad270 : n0 ≤ ad270 := by rw [gb270]; exact Z268
      have lt_ad253_ad270 : @LT.lt Nat _ ad253 ad270 := by rw [gb270]; exact F269.lt
      have ne_ad253_ad270 : ad253 ≠ ad270 := Nat.ne_of_lt lt_ad253_ad270
      have lt_ad261_ad270 : @LT.lt Nat _ ad261 ad270 := by rw [gb270]; exact V267.lt
      have ne_ad261_ad270 : ad261 ≠ ad270 := Nat.ne_of_lt lt_ad261_ad270
      have Z271 : n0 ≤ hh270.size := Nat.le_trans Z268 E270.1
      have F270_list : Fld Z hh270 ad270 "com/example/tierstone/tierstone/PageLists" "list" "[B" .null := D270 (Or.inr w_14) (ty := (.array .byte)) (by decide)
      have F270_older : Fld Z hh270 ad270 "com/example/tierstone/tierstone/PageLists" "older" "[I" .null := D270 (Or.inr w_20) (ty := (.array .int)) (by decide)
      have F270_newer : Fld Z hh270 ad270 "com/example/tierstone/tierstone/PageLists" "newer" "[I" .null := D270 (Or.inr w_22) (ty := (.array .int)) (by decide)
      have F270_oldest : Fld Z hh270 ad270 "com/example/tierstone/tierstone/PageLists" "oldest" "[I" .null := D270 (Or.inr w_24) (ty := (.array .int)) (by decide)
      have F270_newest : Fld Z hh270 ad270 "com/example/tierstone/tierstone/PageLists" "newest" "[I" .null := D270 (Or.inr w_26) (ty := (.array .int)) (by decide)
      have F270_length : Fld Z hh270 ad270 "com/example/tierstone/tierstone/PageLists" "length" "[I" .null := D270 (Or.inr w_31) (ty := (.array .int)) (by decide)
      refine g_dup X270.here hx (Jvm.hb hby at_107) (pc' := 108) rfl rfl ?_
      refine g_iconst X270.here hx (Jvm.hb hby at_108) (pc' := 109) rfl (z := (2 : Int32)) rfl ?_
      refine g_iconst X270.here hx (Jvm.hb hby at_109) (pc' := 110) rfl (z := (4 : Int32)) rfl ?_
      have F272 := (F269.ext E270)
      have F273 := (V267.ext E270)
      refine g_callI X270 hx hZ rfl hown w_6 w_7 w_5 w_8 (by decide) (rm1 l Z a0 hw [] ad270 (2 : Int32) (4 : Int32) hh270 n0 Z271 g_ad270 A270 F270_list F270_older F270_newer F270_oldest F270_newest F270_length (by decide) (by decide)) 1 (by decide) (by decide) e270 (by rw [hml]; rfl) [(.int (2 : Int32)), (.int (4 : Int32))] [(.ref ad270)] (lenOf pd_2 rfl) rfl rfl (Nat.le_of_eq rfl) (Jvm.hb hby at_110) (pc' := 113) rfl (cells' := 9) (slots' := 30) rfl rfl (by decide) (by decide) ?_
      intro v274 T274 L274 X274 hQ274
      obtain ⟨rfl, Nq274, K274, r0, r1, r2, r3, r4, r5, hord, PL274⟩ := hQ274
      have N274 := Fr.app N267 Nq274
      have Z275 : n0 ≤ T274.heap.size := Nat.le_trans Z271 K274.1
      obtain ⟨o1, o2, o3, o4, o5, o6⟩ := id hord
      show own_Gl p e below s (own_Q0 n0) room_1.cells room_1.slots (T274.setTop (mkF m 113 #[.val (.int x0), .val (.int x1), .val (.int x2), .val (.int x3), .val (.int x4), .val (.int (3 : Int32)), .val (.int (0 : Int32)), .val (.int tt), .val (.int q0), .val (.ref ad253), .val (.ref ad261), .unset, .unset, .unset] [(.ref ad270)]))
      refine g_astore X274.here hx (Jvm.hb hby at_113) (pc' := 115) rfl rfl (L' := #[.val (.int x0), .val (.int x1), .val (.int x2), .val (.int x3), .val (.int x4), .val (.int (3 : Int32)), .val (.int (0 : Int32)), .val (.int tt), .val (.int q0), .val (.ref ad253), .val (.ref ad261), .val (.ref ad270), .unset, .unset]) rfl ?_
      refine g_aload X274.here hx (Jvm.hb hby at_115) (pc' := 117) rfl rfl rfl ?_
      refine g_aload X274.here hx (Jvm.hb hby at_117) (pc' := 119) rfl rfl rfl ?_
      refine g_iconst X274.here hx (Jvm.hb hby at_119) (pc' := 120) rfl (z := (0 : Int32)) rfl ?_
      have F276 := (F272.keep K274 (ninS ne_ad253_ad270 nin0))
      refine g_iaload X274 hx hZ rfl F276 ⟨by decide, by decide⟩ (v := q0) rfl (Jvm.hb hby at_120) (pc' := 121) rfl ?_
      refine g_iload X274.here hx (Jvm.hb hby at_121) (pc' := 123) rfl rfl ?_
      refine g_callV X274 hx hZ hown w_32 w_33 (own_nf hZ w_35) w_35 w_34 w_5 w_36 (by decide) (rm5 l Z a0 hw [] ad270 r0 r1 r2 r3 r4 r5 q0 tt own_st0 T274.heap n0 Z275 g_ad270 hord PL274 ⟨h0.1, by omega⟩ rt (own_l0 q0 q1 q2 tt h0 h1 h2 h01 h02 h12 ht)) 0 (by decide) (by decide) rfl PL274.1.1 (by rw [hml]; rfl) [(.int q0), (.int tt)] [] (lenOf pd_2 rfl) rfl rfl (Nat.le_of_eq rfl) (Jvm.hb hby at_123) (pc' := 126) rfl (cells' := 9) (slots' := 30) rfl rfl (by decide) (by decide) ?_
      intro v277 T277 L277 X277 hQ277
      obtain ⟨rfl, Nq277, K277, PL277⟩ := hQ277
      have N277 := Fr.app N274 Nq277
      have Z278 : n0 ≤ T277.heap.size := Nat.le_trans Z275 K277.1
      show own_Gl p e below s (own_Q0 n0) room_1.cells room_1.slots (T277.setTop (mkF m 126 #[.val (.int x0), .val (.int x1), .val (.int x2), .val (.int x3), .val (.int x4), .val (.int (3 : Int32)), .val (.int (0 : Int32)), .val (.int tt), .val (.int q0), .val (.ref ad253), .val (.ref ad261), .val (.ref ad270), .unset, .unset] []))
      refine g_iload X277.here hx (Jvm.hb hby at_126) (pc' := 128) rfl rfl ?_
      refine g_iconst X277.here hx (Jvm.hb hby at_128) (pc' := 129) rfl (z := (1 : Int32)) rfl ?_
      refine g_icN X277.here hx (Jvm.hb hby at_129) (pc' := 132) rfl (tlt (by decide)).2.2.2 ?_
      refine g_aload X277.here hx (Jvm.hb hby at_132) (pc' := 134) rfl rfl rfl ?_
      refine g_aload X277.here hx (Jvm.hb hby at_134) (pc' := 136) rfl rfl rfl ?_
      refine g_iconst X277.here hx (Jvm.hb hby at_136) (pc' := 137) rfl (z := (1 : Int32)) rfl ?_
      have F279 := (F276.keep K277 (ninS (Nat.ne_of_lt (by omega)) (ninS (Nat.ne_of_lt (by omega)) (ninS (Nat.ne_of_lt (by omega)) (ninS (Nat.ne_of_lt (by omega)) (ninS (Nat.ne_of_lt (by omega)) (ninS (Nat.ne_of_lt (by omega)) nin0)))))))
      refine g_iaload X277 hx hZ rfl F279 ⟨by decide, by decide⟩ (v := q1) rfl (Jvm.hb hby at_137) (pc' := 138) rfl ?_
      refine g_iload X277.here hx (Jvm.hb hby at_138) (pc' := 140) rfl rfl ?_
      refine g_callV X277 hx hZ hown w_32 w_33 (own_nf hZ w_35) w_35 w_34 w_5 w_36 (by decide) (rm5 l Z a0 hw [] ad270 r0 r1 r2 r3 r4 r5 q1 tt (own_ap own_st0 q0 tt) T277.heap n0 Z278 g_ad270 hord PL277 ⟨h1.1, by omega⟩ rt (own_l8 q0 q1 q2 tt h0 h1 h2 h01 h02 h12 ht)) 0 (by decide) (by decide) rfl PL277.1.1 (by rw [hml]; rfl) [(.int q1), (.int tt)] [] (lenOf pd_2 rfl) rfl rfl (Nat.le_of_eq rfl) (Jvm.hb hby at_140) (pc' := 143) rfl (cells' := 9) (slots' := 30) rfl rfl (by decide) (by decide) ?_
      intro v280 T280 L280 X280 hQ280
      obtain ⟨rfl, Nq280, K280, PL280⟩ := hQ280
      have N280 := Fr.app N277 Nq280
      have Z281 : n0 ≤ T280.heap.size := Nat.le_trans Z278 K280.1
      show own_Gl p e below s (own_Q0 n0) room_1.cells room_1.slots (T280.setTop (mkF m 143 #[.val (.int x0), .val (.int x1), .val (.int x2), .val (.int x3), .val (.int x4), .val (.int (3 : Int32)), .val (.int (0 : Int32)), .val (.int tt), .val (.int q0), .val (.ref ad253), .val (.ref ad261), .val (.ref ad270), .unset, .unset] []))
      refine g_iload X280.here hx (Jvm.hb hby at_143) (pc' := 145) rfl rfl ?_
      refine g_iconst X280.here hx (Jvm.hb hby at_145) (pc' := 146) rfl (z := (2 : Int32)) rfl ?_
      refine g_icN X280.here hx (Jvm.hb hby at_146) (pc' := 149) rfl (tlt (by decide)).2.2.2 ?_
      refine g_aload X280.here hx (Jvm.hb hby at_149) (pc' := 151) rfl rfl rfl ?_
      refine g_aload X280.here hx (Jvm.hb hby at_151) (pc' := 153) rfl rfl rfl ?_
      refine g_iconst X280.here hx (Jvm.hb hby at_153) (pc' := 154) rfl (z := (2 : Int32)) rfl ?_
      have F282 := (F279.keep K280 (ninS (Nat.ne_of_lt (by omega)) (ninS (Nat.ne_of_lt (by omega)) (ninS (Nat.ne_of_lt (by omega)) (ninS (Nat.ne_of_lt (by omega)) (ninS (Nat.ne_of_lt (by omega)) (ninS (Nat.ne_of_lt (by omega)) nin0)))))))
      refine g_iaload X280 hx hZ rfl F282 ⟨by decide, by decide⟩ (v := q2) rfl (Jvm.hb hby at_154) (pc' := 155) rfl ?_
      refine g_iload X280.here hx (Jvm.hb hby at_155) (pc' := 157) rfl rfl ?_
      refine g_callV X280 hx hZ hown w_32 w_33 (own_nf hZ w_35) w_35 w_34 w_5 w_36 (by decide) (rm5 l Z a0 hw [] ad270 r0 r1 r2 r3 r4 r5 q2 tt (own_ap (own_ap own_st0 q0 tt) q1 tt) T280.heap n0 Z281 g_ad270 hord PL280 ⟨h2.1, by omega⟩ rt (own_l39 q0 q1 q2 tt h0 h1 h2 h01 h02 h12 ht)) 0 (by decide) (by decide) rfl PL280.1.1 (by rw [hml]; rfl) [(.int q2), (.int tt)] [] (lenOf pd_2 rfl) rfl rfl (Nat.le_of_eq rfl) (Jvm.hb hby at_157) (pc' := 160) rfl (cells' := 9) (slots' := 30) rfl rfl (by decide) (by decide) ?_
      intro v283 T283 L283 X283 hQ283
      obtain ⟨rfl, Nq283, K283, PL283⟩ := hQ283
      have N283 := Fr.app N280 Nq283
      have Z284 : n0 ≤ T283.heap.size := Nat.le_trans Z281 K283.1
      show own_Gl p e below s (own_Q0 n0) room_1.cells room_1.slots (T283.setTop (mkF m 160 #[.val (.int x0), .val (.int x1), .val (.int x2), .val (.int x3), .val (.int x4), .val (.int (3 : Int32)), .val (.int (0 : Int32)), .val (.int tt), .val (.int q0), .val (.ref ad253), .val (.ref ad261), .val (.ref ad270), .unset, .unset] []))
      refine g_aload X283.here hx (Jvm.hb hby at_160) (pc' := 162) rfl rfl rfl ?_
      refine g_aload X283.here hx (Jvm.hb hby at_162) (pc' := 164) rfl rfl rfl ?_
      refine g_iload X283.here hx (Jvm.hb hby at_164) (pc' := 166) rfl rfl ?_
      have F285 := (F282.keep K283 (ninS (Nat.ne_of_lt (by omega)) (ninS (Nat.ne_of_lt (by omega)) (ninS (Nat.ne_of_lt (by omega)) (ninS (Nat.ne_of_lt (by omega)) (ninS (Nat.ne_of_lt (by omega)) (ninS (Nat.ne_of_lt (by omega)) nin0)))))))
      refine g_iaload X283 hx hZ rfl F285 ⟨by decide, by decide⟩ (v := q0) rfl (Jvm.hb hby at_166) (pc' := 167) rfl ?_
      refine g_callV X283 hx hZ hown w_37 w_38 (own_nf hZ w_40) w_40 w_39 w_5 w_41 (by decide) (rm6 l Z a0 hw [] ad270 r0 r1 r2 r3 r4 r5 q0 (own_ap (own_ap (own_ap own_st0 q0 tt) q1 tt) q2 tt) T283.heap n0 Z284 g_ad270 hord PL283 ⟨h0.1, by omega⟩ (own_l40 q0 q1 q2 tt h0 h1 h2 h01 h02 h12 ht) (own_l41 q0 q1 q2 tt h0 h1 h2 h01 h02 h12 ht) (own_l42 q0 q1 q2 tt h0 h1 h2 h01 h02 h12 ht)) 0 (by decide) (by decide) rfl PL283.1.1 (by rw [hml]; rfl) [(.int q0)] [] (lenOf pd_3 rfl) rfl rfl (Nat.le_of_eq rfl) (Jvm.hb hby at_167) (pc' := 170) rfl (cells' := 9) (slots' := 30) rfl rfl (by decide) (by decide) ?_
      intro v286 T286 L286 X286 hQ286
      obtain ⟨rfl, Nq286, K286, PL286⟩ := hQ286
      have N286 := Fr.app N283 Nq286
      have Z287 : n0 ≤ T286.heap.size := Nat.le_trans Z284 K286.1
      show own_Gl p e below s (own_Q0 n0) room_1.cells room_1.slots (T286.setTop (mkF m 170 #[.val (.int x0), .val (.int x1), .val (.int x2), .val (.int x3), .val (.int x4), .val (.int (3 : Int32)), .val (.int (0 : Int32)), .val (.int tt), .val (.int q0), .val (.ref ad253), .val (.ref ad261), .val (.ref ad270), .unset, .unset] []))
      refine g_aload X286.here hx (Jvm.hb hby at_170) (pc' := 172) rfl rfl rfl ?_
      refine g_iload X286.here hx (Jvm.hb hby at_172) (pc' := 174) rfl rfl ?_
      refine g_iconst X286.here hx (Jvm.hb hby at_174) (pc' := 175) rfl (z := (0 : Int32)) rfl ?_
      have F288 := (((((F273.keep K274 (ninS ne_ad261_ad270 nin0)).keep K277 (ninS (Nat.ne_of_lt (by omega)) (ninS (Nat.ne_of_lt (by omega)) (ninS (Nat.ne_of_lt (by omega)) (ninS (Nat.ne_of_lt (by omega)) (ninS (Nat.ne_of_lt (by omega)) (ninS (Nat.ne_of_lt (by omega)) nin0))))))).keep K280 (ninS (Nat.ne_of_lt (by omega)) (ninS (Nat.ne_of_lt (by omega)) (ninS (Nat.ne_of_lt (by omega)) (ninS (Nat.ne_of_lt (by omega)) (ninS (Nat.ne_of_lt (by omega)) (ninS (Nat.ne_of_lt (by omega)) nin0))))))).keep K283 (ninS (Nat.ne_of_lt (by omega)) (ninS (Nat.ne_of_lt (by omega)) (ninS (Nat.ne_of_lt (by omega)) (ninS (Nat.ne_of_lt (by omega)) (ninS (Nat.ne_of_lt (by omega)) (ninS (Nat.ne_of_lt (by omega)) nin0))))))).keep K286 (ninS (Nat.ne_of_lt (by omega)) (ninS (Nat.ne_of_lt (by omega)) (ninS (Nat.ne_of_lt (by omega)) (ninS (Nat.ne_of_lt (by omega)) (ninS (Nat.ne_of_lt (by omega)) (ninS (Nat.ne_of_lt (by omega)) nin0)))))))
      refine g_zastore X286 hx hZ rfl F288 ⟨by decide, by decide⟩ (x' := (0 : Int32)) rfl (Jvm.hb hby at_175) (pc' := 176) rfl ?_
      intro T289 hh289 X289 e289 W289 V289
      have N289 := Fr.snoc X289 N286 g_ad261
      have Z290 : n0 ≤ hh289.size := (by rw [W289.size]; exact Z287)
      refine g_iloadN X289.here hx (Jvm.hb hby at_176) (pc' := 177) rfl rfl ?_
      refine g_iconst X289.here hx (Jvm.hb hby at_177) (pc' := 178) rfl (z := (1 : Int32)) rfl ?_
      refine g_iand X289.here hx (Jvm.hb hby at_178) (pc' := 179) rfl ?_
      by_cases hc179 : (x3 &&& (1 : Int32)) = (0 : Int32)
      · refine g_ifY X289.here hx (Jvm.hb hby at_179) (by decide) (pc' := 222) (by decide) ((if0 _ _).trans (teq hc179).1) ?_
        refine g_aload X289.here hx (Jvm.hb hby at_222) (pc' := 224) rfl rfl rfl ?_
        refine g_iconst X289.here hx (Jvm.hb hby at_224) (pc' := 225) rfl (z := (3 : Int32)) rfl ?_
        refine g_iload X289.here hx (Jvm.hb hby at_225) (pc' := 227) rfl rfl ?_
        have PLx291 := (own_PL.other PL286 W289 hord (by omega))
        refine g_callV X289 hx hZ hown w_32 w_33 (own_nf hZ w_35) w_35 w_34 w_5 w_36 (by decide) (rm5 l Z a0 hw [] ad270 r0 r1 r2 r3 r4 r5 (3 : Int32) tt (own_rm (own_ap (own_ap (own_ap own_st0 q0 tt) q1 tt) q2 tt) q0) hh289 n0 Z290 g_ad270 hord PLx291 ⟨by decide, by decide⟩ rt (own_l43 q0 q1 q2 tt h0 h1 h2 h01 h02 h12 ht)) 0 (by decide) (by decide) e289 PLx291.1.1 (by rw [hml]; rfl) [(.int (3 : Int32)), (.int tt)] [] (lenOf pd_2 rfl) rfl rfl (Nat.le_of_eq rfl) (Jvm.hb hby at_227) (pc' := 230) rfl (cells' := 9) (slots' := 30) rfl rfl (by decide) (by decide) ?_
        intro v292 T292 L292 X292 hQ292
        obtain ⟨rfl, Nq292, K292, PL292⟩ := hQ292
        have N292 := Fr.app N289 Nq292
        have Z293 : n0 ≤ T292.heap.size := Nat.le_trans Z290 K292.1
        show own_Gl p e below s (own_Q0 n0) room_1.cells room_1.slots (T292.setTop (mkF m 230 #[.val (.int x0), .val (.int x1), .val (.int x2), .val (.int x3), .val (.int x4), .val (.int (3 : Int32)), .val (.int (0 : Int32)), .val (.int tt), .val (.int q0), .val (.ref ad253), .val (.ref ad261), .val (.ref ad270), .unset, .unset] []))
        refine g_iconst X292.here hx (Jvm.hb hby at_230) (pc' := 231) rfl (z := (3 : Int32)) rfl ?_
        have F294 := (((F285.keep K286 (ninS (Nat.ne_of_lt (by omega)) (ninS (Nat.ne_of_lt (by omega)) (ninS (Nat.ne_of_lt (by omega)) (ninS (Nat.ne_of_lt (by omega)) (ninS (Nat.ne_of_lt (by omega)) (ninS (Nat.ne_of_lt (by omega)) nin0))))))).other W289 ne_ad253_ad261).keep K292 (ninS (Nat.ne_of_lt (by omega)) (ninS (Nat.ne_of_lt (by omega)) (ninS (Nat.ne_of_lt (by omega)) (ninS (Nat.ne_of_lt (by omega)) (ninS (Nat.ne_of_lt (by omega)) (ninS (Nat.ne_of_lt (by omega)) nin0)))))))
        have F295 := (V289.keep K292 (ninS (Nat.ne_of_lt (by omega)) (ninS (Nat.ne_of_lt (by omega)) (ninS (Nat.ne_of_lt (by omega)) (ninS (Nat.ne_of_lt (by omega)) (ninS (Nat.ne_of_lt (by omega)) (ninS (Nat.ne_of_lt (by omega)) nin0)))))))
        refine g_newarr X292 hx hZ (ty := .int) rfl rfl w_1 rfl (Jvm.hb hby at_231) (pc' := 233) rfl (n := 3) (by decide) 3 (by decide) (by decide) (cells' := 10) (slots' := 33) rfl rfl (by decide) (by decide) ?_
        intro T296 hh296 ad296 gb296 X296 e296 E296 V296
        have g_ad296 : n0 ≤ ad296 := by rw [gb296]; exact Z293
        have lt_ad253_ad296 : @LT.lt Nat _ ad253 ad296 := by rw [gb296]; exact F294.lt
        have ne_ad253_ad296 : ad253 ≠ ad296 := Nat.ne_of_lt lt_ad253_ad296
        have lt_ad261_ad296 : @LT.lt Nat _ ad261 ad296 := by rw [gb296]; exact F295.lt
        have ne_ad261_ad296 : ad261 ≠ ad296 := Nat.ne_of_lt lt_ad261_ad296
        have lt_ad270_ad296 : @LT.lt Nat _ ad270 ad296 := by rw [gb296]; exact PL292.1.1.lt
        have ne_ad270_ad296 : ad270 ≠ ad296 := Nat.ne_of_lt lt_ad270_ad296
        have Z297 : n0 ≤ hh296.size := Nat.le_trans Z293 E296.1
        have lt5 : @LT.lt Nat _ r5 ad296 := by rw [gb296]; exact own_PL.lt5 PL292
        refine g_astore X296.here hx (Jvm.hb hby at_233) (pc' := 235) rfl rfl (L' := #[.val (.int x0), .val (.int x1), .val (.int x2), .val (.int x3), .val (.int x4), .val (.int (3 : Int32)), .val (.int (0 : Int32)), .val (.int tt), .val (.int q0), .val (.ref ad253), .val (.ref ad261), .val (.ref ad270), .val (.ref ad296), .unset]) rfl ?_
        refine g_aload X296.here hx (Jvm.hb hby at_235) (pc' := 237) rfl rfl rfl ?_
        refine g_iconst X296.here hx (Jvm.hb hby at_237) (pc' := 238) rfl (z := (0 : Int32)) rfl ?_
        refine g_iconst X296.here hx (Jvm.hb hby at_238) (pc' := 239) rfl (z := (-1 : Int32)) rfl ?_
        refine g_iastore X296 hx hZ e296 V296 ⟨by decide, by decide⟩ (Jvm.hb hby at_239) (pc' := 240) rfl ?_
        intro T298 hh298 X298 e298 W298 V298
        have N298 := Fr.snoc X298 N292 g_ad296
        have Z299 : n0 ≤ hh298.size := (by rw [W298.size]; exact Z297)
        refine g_aload X298.here hx (Jvm.hb hby at_240) (pc' := 242) rfl rfl rfl ?_
        refine g_iconst X298.here hx (Jvm.hb hby at_242) (pc' := 243) rfl (z := (1 : Int32)) rfl ?_
        refine g_iconst X298.here hx (Jvm.hb hby at_243) (pc' := 244) rfl (z := (-1 : Int32)) rfl ?_
        refine g_iastore X298 hx hZ e298 V298 ⟨by decide, by decide⟩ (Jvm.hb hby at_244) (pc' := 245) rfl ?_
        intro T300 hh300 X300 e300 W300 V300
        have N300 := Fr.snoc X300 N298 g_ad296
        have Z301 : n0 ≤ hh300.size := (by rw [W300.size]; exact Z299)
        refine g_aload X300.here hx (Jvm.hb hby at_245) (pc' := 247) rfl rfl rfl ?_
        refine g_iconst X300.here hx (Jvm.hb hby at_247) (pc' := 248) rfl (z := (2 : Int32)) rfl ?_
        refine g_iconst X300.here hx (Jvm.hb hby at_248) (pc' := 249) rfl (z := (-1 : Int32)) rfl ?_
        refine g_iastore X300 hx hZ e300 V300 ⟨by decide, by decide⟩ (Jvm.hb hby at_249) (pc' := 250) rfl ?_
        intro T302 hh302 X302 e302 W302 V302
        have N302 := Fr.snoc X302 N300 g_ad296
        have Z303 : n0 ≤ hh302.size := (by rw [W302.size]; exact Z301)
        refine g_iconst X302.here hx (Jvm.hb hby at_250) (pc' := 251) rfl (z := (0 : Int32)) rfl ?_
        refine g_istore X302.here hx (Jvm.hb hby at_251) (pc' := 253) rfl (L' := #[.val (.int x0), .val (.int x1), .val (.int x2), .val (.int x3), .val (.int x4), .val (.int (3 : Int32)), .val (.int (0 : Int32)), .val (.int tt), .val (.int q0), .val (.ref ad253), .val (.ref ad261), .val (.ref ad270), .val (.ref ad296), .val (.int (0 : Int32))]) rfl ?_
        refine g_aload X302.here hx (Jvm.hb hby at_253) (pc' := 255) rfl rfl rfl ?_
        refine g_iconst X302.here hx (Jvm.hb hby at_255) (pc' := 256) rfl (z := (0 : Int32)) rfl ?_
        have F304 := ((((F295.ext E296).other W298 ne_ad261_ad296).other W300 ne_ad261_ad296).other W302 ne_ad261_ad296)
        refine g_zaload X302 hx hZ e302 F304 ⟨by decide, by decide⟩ (v := (0 : Int32)) rfl (Jvm.hb hby at_256) (pc' := 257) rfl ?_
        refine g_ifY X302.here hx (Jvm.hb hby at_257) (by decide) (pc' := 272) (by decide) ((if0 _ _).trans (teq (by decide)).1) ?_
        refine g_aload X302.here hx (Jvm.hb hby at_272) (pc' := 274) rfl rfl rfl ?_
        refine g_iconst X302.here hx (Jvm.hb hby at_274) (pc' := 275) rfl (z := (1 : Int32)) rfl ?_
        refine g_zaload X302 hx hZ e302 F304 ⟨by decide, by decide⟩ (v := (1 : Int32)) rfl (Jvm.hb hby at_275) (pc' := 276) rfl ?_
        refine g_ifN X302.here hx (Jvm.hb hby at_276) (pc' := 279) rfl ((if0 _ _).trans (feq (by decide)).1) ?_
        refine g_aload X302.here hx (Jvm.hb hby at_279) (pc' := 281) rfl rfl rfl ?_
        refine g_iload X302.here hx (Jvm.hb hby at_281) (pc' := 283) rfl rfl ?_
        refine g_aload X302.here hx (Jvm.hb hby at_283) (pc' := 285) rfl rfl rfl ?_
        refine g_iconst X302.here hx (Jvm.hb hby at_285) (pc' := 286) rfl (z := (1 : Int32)) rfl ?_
        have F305 := ((((F294.ext E296).other W298 ne_ad253_ad296).other W300 ne_ad253_ad296).other W302 ne_ad253_ad296)
        refine g_iaload X302 hx hZ e302 F305 ⟨by decide, by decide⟩ (v := q1) rfl (Jvm.hb hby at_286) (pc' := 287) rfl ?_
        refine g_iastore X302 hx hZ e302 V302 ⟨by decide, by decide⟩ (Jvm.hb hby at_287) (pc' := 288) rfl ?_
        intro T306 hh306 X306 e306 W306 V306
        have N306 := Fr.snoc X306 N302 g_ad296
        have Z307 : n0 ≤ hh306.size := (by rw [W306.size]; exact Z303)
        refine g_iinc X306.here hx (Jvm.hb hby at_288) (pc' := 291) rfl (z := (1 : Int32)) rfl rfl (L' := #[.val (.int x0), .val (.int x1), .val (.int x2), .val (.int x3), .val (.int x4), .val (.int (3 : Int32)), .val (.int (0 : Int32)), .val (.int tt), .val (.int q0), .val (.ref ad253), .val (.ref ad261), .val (.ref ad270), .val (.ref ad296), .val (.int (1 : Int32))]) rfl ?_
        refine g_aload X306.here hx (Jvm.hb hby at_291) (pc' := 293) rfl rfl rfl ?_
        refine g_iconst X306.here hx (Jvm.hb hby at_293) (pc' := 294) rfl (z := (2 : Int32)) rfl ?_
        have F308 := (F304.other W306 ne_ad261_ad296)
        refine g_zaload X306 hx hZ e306 F308 ⟨by decide, by decide⟩ (v := (1 : Int32)) rfl (Jvm.hb hby at_294) (pc' := 295) rfl ?_
        refine g_ifN X306.here hx (Jvm.hb hby at_295) (pc' := 298) rfl ((if0 _ _).trans (feq (by decide)).1) ?_
        refine g_aload X306.here hx (Jvm.hb hby at_298) (pc' := 300) rfl rfl rfl ?_
        refine g_iload X306.here hx (Jvm.hb hby at_300) (pc' := 302) rfl rfl ?_
        refine g_aload X306.here hx (Jvm.hb hby at_302) (pc' := 304) rfl rfl rfl ?_
        refine g_iconst X306.here hx (Jvm.hb hby at_304) (pc' := 305) rfl (z := (2 : Int32)) rfl ?_
        have F309 := (F305.other W306 ne_ad253_ad296)
        refine g_iaload X306 hx hZ e306 F309 ⟨by decide, by decide⟩ (v := q2) rfl (Jvm.hb hby at_305) (pc' := 306) rfl ?_
        refine g_iastore X306 hx hZ e306 V306 ⟨by decide, by decide⟩ (Jvm.hb hby at_306) (pc' := 307) rfl ?_
        intro T310 hh310 X310 e310 W310 V310
        have N310 := Fr.snoc X310 N306 g_ad296
        have Z311 : n0 ≤ hh310.size := (by rw [W310.size]; exact Z307)
        refine g_iinc X310.here hx (Jvm.hb hby at_307) (pc' := 310) rfl (z := (1 : Int32)) rfl rfl (L' := #[.val (.int x0), .val (.int x1), .val (.int x2), .val (.int x3), .val (.int x4), .val (.int (3 : Int32)), .val (.int (0 : Int32)), .val (.int tt), .val (.int q0), .val (.ref ad253), .val (.ref ad261), .val (.ref ad270), .val (.ref ad296), .val (.int (2 : Int32))]) rfl ?_
        refine g_aload X310.here hx (Jvm.hb hby at_310) (pc' := 312) rfl rfl rfl ?_
        refine g_iload X310.here hx (Jvm.hb hby at_312) (pc' := 314) rfl rfl ?_
        refine g_iconst X310.here hx (Jvm.hb hby at_314) (pc' := 315) rfl (z := (3 : Int32)) rfl ?_
        refine g_iastore X310 hx hZ e310 V310 ⟨by decide, by decide⟩ (Jvm.hb hby at_315) (pc' := 316) rfl ?_
        intro T312 hh312 X312 e312 W312 V312
        have N312 := Fr.snoc X312 N310 g_ad296
        have Z313 : n0 ≤ hh312.size := (by rw [W312.size]; exact Z311)
        refine g_aload X312.here hx (Jvm.hb hby at_316) (pc' := 318) rfl rfl rfl ?_
        refine g_aload X312.here hx (Jvm.hb hby at_318) (pc' := 320) rfl rfl rfl ?_
        refine g_iload X312.here hx (Jvm.hb hby at_320) (pc' := 322) rfl rfl ?_
        have F314 := ((F309.other W310 ne_ad253_ad296).other W312 ne_ad253_ad296)
        refine g_iaload X312 hx hZ e312 F314 ⟨by decide, by decide⟩ (v := q0) rfl (Jvm.hb hby at_322) (pc' := 323) rfl ?_
        have PLx315 := (own_PL.other (own_PL.other (own_PL.other (own_PL.other (own_PL.other (own_PL.other (own_PL.ext PL292 E296) W298 hord (by omega)) W300 hord (by omega)) W302 hord (by omega)) W306 hord (by omega)) W310 hord (by omega)) W312 hord (by omega))
        refine g_callV X312 hx hZ hown w_42 w_43 (own_nf hZ w_45) w_45 w_44 w_5 w_46 (by decide) (rm7 l Z a0 hw [] ad270 r0 r1 r2 r3 r4 r5 q0 (own_ap (own_rm (own_ap (own_ap (own_ap own_st0 q0 tt) q1 tt) q2 tt) q0) (3 : Int32) tt) hh312 PLx315 ⟨h0.1, by omega⟩) 0 (by decide) (by decide) e312 PLx315.1.1 (by rw [hml]; rfl) [(.int q0)] [] (lenOf pd_4 rfl) rfl rfl (Nat.le_of_eq rfl) (Jvm.hb hby at_323) (pc' := 326) rfl (cells' := 10) (slots' := 33) rfl rfl (by decide) (by decide) ?_
        intro v316 T316 L316 X316 hQ316
        obtain ⟨rfl, rfl, e316⟩ := hQ316
        rw [List.append_nil] at X316
        show own_Gl p e below s (own_Q0 n0) room_1.cells room_1.slots (T316.setTop (mkF m 326 #[.val (.int x0), .val (.int x1), .val (.int x2), .val (.int x3), .val (.int x4), .val (.int (3 : Int32)), .val (.int (0 : Int32)), .val (.int tt), .val (.int q0), .val (.ref ad253), .val (.ref ad261), .val (.ref ad270), .val (.ref ad296), .val (.int (2 : Int32))] [(.int ((own_ap (own_rm (own_ap (own_ap (own_ap own_st0 q0 tt) q1 tt) q2 tt) q0) (3 : Int32) tt) 0 q0.toNatClampNeg))]))
        refine g_iconst X316.here hx (Jvm.hb hby at_326) (pc' := 327) rfl (z := (-1 : Int32)) rfl ?_
        refine g_icY X316.here hx (Jvm.hb hby at_327) (by decide) (pc' := 332) (by decide) (teq (own_l44 q0 q1 q2 tt h0 h1 h2 h01 h02 h12 ht)).1 ?_
        refine g_aload X316.here hx (Jvm.hb hby at_332) (pc' := 334) rfl rfl rfl ?_
        refine g_iload X316.here hx (Jvm.hb hby at_334) (pc' := 336) rfl rfl ?_
        refine g_callV X316 hx hZ hown w_47 w_48 (own_nf hZ w_50) w_50 w_49 w_5 w_51 (by decide) (rm8 l Z a0 hw [] ad270 r0 r1 r2 r3 r4 r5 tt (own_ap (own_rm (own_ap (own_ap (own_ap own_st0 q0 tt) q1 tt) q2 tt) q0) (3 : Int32) tt) hh312 PLx315 rt) 0 (by decide) (by decide) e316 PLx315.1.1 (by rw [hml]; rfl) [(.int tt)] [] (lenOf pd_4 rfl) rfl rfl (Nat.le_of_eq rfl) (Jvm.hb hby at_336) (pc' := 339) rfl (cells' := 10) (slots' := 33) rfl rfl (by decide) (by decide) ?_
        intro v317 T317 L317 X317 hQ317
        obtain ⟨rfl, rfl, e317⟩ := hQ317
        rw [List.append_nil] at X317
        show own_Gl p e below s (own_Q0 n0) room_1.cells room_1.slots (T317.setTop (mkF m 339 #[.val (.int x0), .val (.int x1), .val (.int x2), .val (.int x3), .val (.int x4), .val (.int (3 : Int32)), .val (.int (0 : Int32)), .val (.int tt), .val (.int q0), .val (.ref ad253), .val (.ref ad261), .val (.ref ad270), .val (.ref ad296), .val (.int (2 : Int32))] [(.int ((own_ap (own_rm (own_ap (own_ap (own_ap own_st0 q0 tt) q1 tt) q2 tt) q0) (3 : Int32) tt) 5 tt.toNatClampNeg))]))
        refine g_iload X317.here hx (Jvm.hb hby at_339) (pc' := 341) rfl rfl ?_
        refine g_iconst X317.here hx (Jvm.hb hby at_341) (pc' := 342) rfl (z := (1 : Int32)) rfl ?_
        refine g_iadd X317.here hx (Jvm.hb hby at_342) (pc' := 343) rfl ?_
        refine g_icY X317.here hx (Jvm.hb hby at_343) (by decide) (pc' := 348) (by decide) (teq ((own_l45 q0 q1 q2 tt h0 h1 h2 h01 h02 h12 ht))).1 ?_
        refine g_aload X317.here hx (Jvm.hb hby at_348) (pc' := 350) rfl rfl rfl ?_
        refine g_iload X317.here hx (Jvm.hb hby at_350) (pc' := 352) rfl rfl ?_
        refine g_callV X317 hx hZ hown w_52 w_53 (own_nf hZ w_55) w_55 w_54 w_5 w_56 (by decide) (rm9 l Z a0 hw [] ad270 r0 r1 r2 r3 r4 r5 tt (own_ap (own_rm (own_ap (own_ap (own_ap own_st0 q0 tt) q1 tt) q2 tt) q0) (3 : Int32) tt) hh312 PLx315 rt) 0 (by decide) (by decide) e317 PLx315.1.1 (by rw [hml]; rfl) [(.int tt)] [] (lenOf pd_4 rfl) rfl rfl (Nat.le_of_eq rfl) (Jvm.hb hby at_352) (pc' := 355) rfl (cells' := 10) (slots' := 33) rfl rfl (by decide) (by decide) ?_
        intro v318 T318 L318 X318 hQ318
        obtain ⟨rfl, rfl, e318⟩ := hQ318
        rw [List.append_nil] at X318
        show own_Gl p e below s (own_Q0 n0) room_1.cells room_1.slots (T318.setTop (mkF m 355 #[.val (.int x0), .val (.int x1), .val (.int x2), .val (.int x3), .val (.int x4), .val (.int (3 : Int32)), .val (.int (0 : Int32)), .val (.int tt), .val (.int q0), .val (.ref ad253), .val (.ref ad261), .val (.ref ad270), .val (.ref ad296), .val (.int (2 : Int32))] [(.int ((own_ap (own_rm (own_ap (own_ap (own_ap own_st0 q0 tt) q1 tt) q2 tt) q0) (3 : Int32) tt) 3 tt.toNatClampNeg))]))
        refine g_aload X318.here hx (Jvm.hb hby at_355) (pc' := 357) rfl rfl rfl ?_
        refine g_iconst X318.here hx (Jvm.hb hby at_357) (pc' := 358) rfl (z := (0 : Int32)) rfl ?_
        refine g_iaload X318 hx hZ e318 V312 ⟨by decide, by decide⟩ (v := q1) rfl (Jvm.hb hby at_358) (pc' := 359) rfl ?_
        refine g_icY X318.here hx (Jvm.hb hby at_359) (by decide) (pc' := 364) (by decide) (teq (own_l46 q0 q1 q2 tt h0 h1 h2 h01 h02 h12 ht)).1 ?_
        refine g_aload X318.here hx (Jvm.hb hby at_364) (pc' := 366) rfl rfl rfl ?_
        refine g_iconst X318.here hx (Jvm.hb hby at_366) (pc' := 367) rfl (z := (0 : Int32)) rfl ?_
        refine g_iaload X318 hx hZ e318 V312 ⟨by decide, by decide⟩ (v := q1) rfl (Jvm.hb hby at_367) (pc' := 368) rfl ?_
        refine g_iconst X318.here hx (Jvm.hb hby at_368) (pc' := 369) rfl (z := (3 : Int32)) rfl ?_
        refine g_icN X318.here hx (Jvm.hb hby at_369) (pc' := 372) rfl (feq (fun q => by have := congrArg Int32.toInt q; simp only [Int32.reduceToInt] at this; omega)).1 ?_
        refine g_aload X318.here hx (Jvm.hb hby at_372) (pc' := 374) rfl rfl rfl ?_
        refine g_aload X318.here hx (Jvm.hb hby at_374) (pc' := 376) rfl rfl rfl ?_
        refine g_iconst X318.here hx (Jvm.hb hby at_376) (pc' := 377) rfl (z := (0 : Int32)) rfl ?_
        refine g_iaload X318 hx hZ e318 V312 ⟨by decide, by decide⟩ (v := q1) rfl (Jvm.hb hby at_377) (pc' := 378) rfl ?_
        refine g_callV X318 hx hZ hown w_57 w_58 (own_nf hZ w_60) w_60 w_59 w_5 w_61 (by decide) (rm10 l Z a0 hw [] ad270 r0 r1 r2 r3 r4 r5 q1 (own_ap (own_rm (own_ap (own_ap (own_ap own_st0 q0 tt) q1 tt) q2 tt) q0) (3 : Int32) tt) hh312 PLx315 ⟨h1.1, by omega⟩) 0 (by decide) (by decide) e318 PLx315.1.1 (by rw [hml]; rfl) [(.int q1)] [] (lenOf pd_4 rfl) rfl rfl (Nat.le_of_eq rfl) (Jvm.hb hby at_378) (pc' := 381) rfl (cells' := 10) (slots' := 33) rfl rfl (by decide) (by decide) ?_
        intro v319 T319 L319 X319 hQ319
        obtain ⟨rfl, rfl, e319⟩ := hQ319
        rw [List.append_nil] at X319
        show own_Gl p e below s (own_Q0 n0) room_1.cells room_1.slots (T319.setTop (mkF m 381 #[.val (.int x0), .val (.int x1), .val (.int x2), .val (.int x3), .val (.int x4), .val (.int (3 : Int32)), .val (.int (0 : Int32)), .val (.int tt), .val (.int q0), .val (.ref ad253), .val (.ref ad261), .val (.ref ad270), .val (.ref ad296), .val (.int (2 : Int32))] [(.int ((own_ap (own_rm (own_ap (own_ap (own_ap own_st0 q0 tt) q1 tt) q2 tt) q0) (3 : Int32) tt) 2 q1.toNatClampNeg))]))
        refine g_aload X319.here hx (Jvm.hb hby at_381) (pc' := 383) rfl rfl rfl ?_
        refine g_iconst X319.here hx (Jvm.hb hby at_383) (pc' := 384) rfl (z := (1 : Int32)) rfl ?_
        refine g_iaload X319 hx hZ e319 V312 ⟨by decide, by decide⟩ (v := q2) rfl (Jvm.hb hby at_384) (pc' := 385) rfl ?_
        refine g_icY X319.here hx (Jvm.hb hby at_385) (by decide) (pc' := 390) (by decide) (teq (own_l47 q0 q1 q2 tt h0 h1 h2 h01 h02 h12 ht)).1 ?_
        refine g_aload X319.here hx (Jvm.hb hby at_390) (pc' := 392) rfl rfl rfl ?_
        refine g_iconst X319.here hx (Jvm.hb hby at_392) (pc' := 393) rfl (z := (0 : Int32)) rfl ?_
        refine g_iaload X319 hx hZ e319 V312 ⟨by decide, by decide⟩ (v := q1) rfl (Jvm.hb hby at_393) (pc' := 394) rfl ?_
        refine g_iconst X319.here hx (Jvm.hb hby at_394) (pc' := 395) rfl (z := (3 : Int32)) rfl ?_
        refine g_icN X319.here hx (Jvm.hb hby at_395) (pc' := 398) rfl (feq (fun q => by have := congrArg Int32.toInt q; simp only [Int32.reduceToInt] at this; omega)).1 ?_
        refine g_aload X319.here hx (Jvm.hb hby at_398) (pc' := 400) rfl rfl rfl ?_
        refine g_iconst X319.here hx (Jvm.hb hby at_400) (pc' := 401) rfl (z := (1 : Int32)) rfl ?_
        refine g_iaload X319 hx hZ e319 V312 ⟨by decide, by decide⟩ (v := q2) rfl (Jvm.hb hby at_401) (pc' := 402) rfl ?_
        refine g_iconst X319.here hx (Jvm.hb hby at_402) (pc' := 403) rfl (z := (3 : Int32)) rfl ?_
        refine g_icN X319.here hx (Jvm.hb hby at_403) (pc' := 406) rfl (feq (fun q => by have := congrArg Int32.toInt q; simp only [Int32.reduceToInt] at this; omega)).1 ?_
        refine g_aload X319.here hx (Jvm.hb hby at_406) (pc' := 408) rfl rfl rfl ?_
        refine g_aload X319.here hx (Jvm.hb hby at_408) (pc' := 410) rfl rfl rfl ?_
        refine g_iconst X319.here hx (Jvm.hb hby at_410) (pc' := 411) rfl (z := (1 : Int32)) rfl ?_
        refine g_iaload X319 hx hZ e319 V312 ⟨by decide, by decide⟩ (v := q2) rfl (Jvm.hb hby at_411) (pc' := 412) rfl ?_
        refine g_callV X319 hx hZ hown w_57 w_58 (own_nf hZ w_60) w_60 w_59 w_5 w_61 (by decide) (rm10 l Z a0 hw [] ad270 r0 r1 r2 r3 r4 r5 q2 (own_ap (own_rm (own_ap (own_ap (own_ap own_st0 q0 tt) q1 tt) q2 tt) q0) (3 : Int32) tt) hh312 PLx315 ⟨h2.1, by omega⟩) 0 (by decide) (by decide) e319 PLx315.1.1 (by rw [hml]; rfl) [(.int q2)] [] (lenOf pd_4 rfl) rfl rfl (Nat.le_of_eq rfl) (Jvm.hb hby at_412) (pc' := 415) rfl (cells' := 10) (slots' := 33) rfl rfl (by decide) (by decide) ?_
        intro v320 T320 L320 X320 hQ320
        obtain ⟨rfl, rfl, e320⟩ := hQ320
        rw [List.append_nil] at X320
        show own_Gl p e below s (own_Q0 n0) room_1.cells room_1.slots (T320.setTop (mkF m 415 #[.val (.int x0), .val (.int x1), .val (.int x2), .val (.int x3), .val (.int x4), .val (.int (3 : Int32)), .val (.int (0 : Int32)), .val (.int tt), .val (.int q0), .val (.ref ad253), .val (.ref ad261), .val (.ref ad270), .val (.ref ad296), .val (.int (2 : Int32))] [(.int ((own_ap (own_rm (own_ap (own_ap (own_ap own_st0 q0 tt) q1 tt) q2 tt) q0) (3 : Int32) tt) 2 q2.toNatClampNeg))]))
        refine g_aload X320.here hx (Jvm.hb hby at_415) (pc' := 417) rfl rfl rfl ?_
        refine g_iconst X320.here hx (Jvm.hb hby at_417) (pc' := 418) rfl (z := (2 : Int32)) rfl ?_
        refine g_iaload X320 hx hZ e320 V312 ⟨by decide, by decide⟩ (v := (3 : Int32)) rfl (Jvm.hb hby at_418) (pc' := 419) rfl ?_
        refine g_icY X320.here hx (Jvm.hb hby at_419) (by decide) (pc' := 424) (by decide) (teq (own_l48 q0 q1 q2 tt h0 h1 h2 h01 h02 h12 ht)).1 ?_
        refine g_iconst X320.here hx (Jvm.hb hby at_424) (pc' := 425) rfl (z := (1 : Int32)) rfl ?_
        exact g_retN X320 hx hlk (t := .boolean) hret (by simp) (z' := (1 : Int32)) rfl (Jvm.hb hby at_425) (by decide) (by decide) ⟨rfl, N312⟩
      · refine g_ifN X289.here hx (Jvm.hb hby at_179) (pc' := 182) rfl ((if0 _ _).trans (feq hc179).1) ?_
        refine g_iload X289.here hx (Jvm.hb hby at_182) (pc' := 184) rfl rfl ?_
        refine g_iconst X289.here hx (Jvm.hb hby at_184) (pc' := 185) rfl (z := (1 : Int32)) rfl ?_
        refine g_icN X289.here hx (Jvm.hb hby at_185) (pc' := 188) rfl (tlt (by decide)).2.2.2 ?_
        refine g_iload X289.here hx (Jvm.hb hby at_188) (pc' := 190) rfl rfl ?_
        refine g_iconst X289.here hx (Jvm.hb hby at_190) (pc' := 191) rfl (z := (1 : Int32)) rfl ?_
        refine g_iadd X289.here hx (Jvm.hb hby at_191) (pc' := 192) rfl ?_
        refine g_iloadN X289.here hx (Jvm.hb hby at_192) (pc' := 193) rfl rfl ?_
        refine g_iconst X289.here hx (Jvm.hb hby at_193) (pc' := 194) rfl (z := (1 : Int32)) rfl ?_
        refine g_iushr X289.here hx (Jvm.hb hby at_194) (pc' := 195) rfl ?_
        refine g_iload X289.here hx (Jvm.hb hby at_195) (pc' := 197) rfl rfl ?_
        refine g_iconst X289.here hx (Jvm.hb hby at_197) (pc' := 198) rfl (z := (1 : Int32)) rfl ?_
        refine g_isub X289.here hx (Jvm.hb hby at_198) (pc' := 199) rfl ?_
        rw [show ((3 : Int32) - (1 : Int32)) = (2 : Int32) from rfl]
        refine g_irem X289 hx (Jvm.hb hby at_199) (pc' := 200) rfl (by decide) ?_
        generalize htj : (((x3.toUInt32 >>> ((1 : Int32) &&& 31).toUInt32).toInt32) % (2 : Int32)) = tj
        have hj : tj = (0 : Int32) ∨ tj = (1 : Int32) := by
          have e1 := c_iushr x3 1 1 (by decide) (by decide)
          have e2 := c_irem ((x3.toUInt32 >>> ((1 : Int32) &&& 31).toUInt32).toInt32) 2 2 (by decide)
          have r := rng32 x3
          simp only [Nat.reducePow] at e1
          rw [htj] at e2
          simp only [← Int32.toInt_inj, Int32.reduceToInt]
          omega
        clear htj
        rcases hj with rfl | rfl
        · refine g_iadd X289.here hx (Jvm.hb hby at_200) (pc' := 201) rfl ?_
          refine g_iload X289.here hx (Jvm.hb hby at_201) (pc' := 203) rfl rfl ?_
          refine g_irem X289 hx (Jvm.hb hby at_203) (pc' := 204) rfl (by decide) ?_
          refine g_istore X289.here hx (Jvm.hb hby at_204) (pc' := 206) rfl (L' := #[.val (.int x0), .val (.int x1), .val (.int x2), .val (.int x3), .val (.int x4), .val (.int (3 : Int32)), .val (.int (0 : Int32)), .val (.int tt), .val (.int q0), .val (.ref ad253), .val (.ref ad261), .val (.ref ad270), .val (.int ((((0 : Int32) + (1 : Int32)) + (0 : Int32)) % (3 : Int32))), .unset]) rfl ?_
          rw [show ((((0 : Int32) + (1 : Int32)) + (0 : Int32)) % (3 : Int32)) = (1 : Int32) from rfl]
          refine g_aload X289.here hx (Jvm.hb hby at_206) (pc' := 208) rfl rfl rfl ?_
          refine g_aload X289.here hx (Jvm.hb hby at_208) (pc' := 210) rfl rfl rfl ?_
          refine g_iload X289.here hx (Jvm.hb hby at_210) (pc' := 212) rfl rfl ?_
          have F321 := ((F285.keep K286 (ninS (Nat.ne_of_lt (by omega)) (ninS (Nat.ne_of_lt (by omega)) (ninS (Nat.ne_of_lt (by omega)) (ninS (Nat.ne_of_lt (by omega)) (ninS (Nat.ne_of_lt (by omega)) (ninS (Nat.ne_of_lt (by omega)) nin0))))))).other W289 ne_ad253_ad261)
          refine g_iaload X289 hx hZ e289 F321 ⟨by decide, by decide⟩ (v := q1) rfl (Jvm.hb hby at_212) (pc' := 213) rfl ?_
          have PLx322 := (own_PL.other PL286 W289 hord (by omega))
          refine g_callV X289 hx hZ hown w_37 w_38 (own_nf hZ w_40) w_40 w_39 w_5 w_41 (by decide) (rm6 l Z a0 hw [] ad270 r0 r1 r2 r3 r4 r5 q1 (own_rm (own_ap (own_ap (own_ap own_st0 q0 tt) q1 tt) q2 tt) q0) hh289 n0 Z290 g_ad270 hord PLx322 ⟨h1.1, by omega⟩ (own_l49 q0 q1 q2 tt h0 h1 h2 h01 h02 h12 ht) (own_l50 q0 q1 q2 tt h0 h1 h2 h01 h02 h12 ht) (own_l51 q0 q1 q2 tt h0 h1 h2 h01 h02 h12 ht)) 0 (by decide) (by decide) e289 PLx322.1.1 (by rw [hml]; rfl) [(.int q1)] [] (lenOf pd_3 rfl) rfl rfl (Nat.le_of_eq rfl) (Jvm.hb hby at_213) (pc' := 216) rfl (cells' := 9) (slots' := 30) rfl rfl (by decide) (by decide) ?_
          intro v323 T323 L323 X323 hQ323
          obtain ⟨rfl, Nq323, K323, PL323⟩ := hQ323
          have N323 := Fr.app N289 Nq323
          have Z324 : n0 ≤ T323.heap.size := Nat.le_trans Z290 K323.1
          show own_Gl p e below s (own_Q0 n0) room_1.cells room_1.slots (T323.setTop (mkF m 216 #[.val (.int x0), .val (.int x1), .val (.int x2), .val (.int x3), .val (.int x4), .val (.int (3 : Int32)), .val (.int (0 : Int32)), .val (.int tt), .val (.int q0), .val (.ref ad253), .val (.ref ad261), .val (.ref ad270), .val (.int (1 : Int32)), .unset] []))
          refine g_aload X323.here hx (Jvm.hb hby at_216) (pc' := 218) rfl rfl rfl ?_
          refine g_iload X323.here hx (Jvm.hb hby at_218) (pc' := 220) rfl rfl ?_
          refine g_iconst X323.here hx (Jvm.hb hby at_220) (pc' := 221) rfl (z := (0 : Int32)) rfl ?_
          have F325 := (V289.keep K323 (ninS (Nat.ne_of_lt (by omega)) (ninS (Nat.ne_of_lt (by omega)) (ninS (Nat.ne_of_lt (by omega)) (ninS (Nat.ne_of_lt (by omega)) (ninS (Nat.ne_of_lt (by omega)) (ninS (Nat.ne_of_lt (by omega)) nin0)))))))
          refine g_zastore X323 hx hZ rfl F325 ⟨by decide, by decide⟩ (x' := (0 : Int32)) rfl (Jvm.hb hby at_221) (pc' := 222) rfl ?_
          intro T326 hh326 X326 e326 W326 V326
          have N326 := Fr.snoc X326 N323 g_ad261
          have Z327 : n0 ≤ hh326.size := (by rw [W326.size]; exact Z324)
          refine g_aload X326.here hx (Jvm.hb hby at_222) (pc' := 224) rfl rfl rfl ?_
          refine g_iconst X326.here hx (Jvm.hb hby at_224) (pc' := 225) rfl (z := (3 : Int32)) rfl ?_
          refine g_iload X326.here hx (Jvm.hb hby at_225) (pc' := 227) rfl rfl ?_
          have PLx328 := (own_PL.other PL323 W326 hord (by omega))
          refine g_callV X326 hx hZ hown w_32 w_33 (own_nf hZ w_35) w_35 w_34 w_5 w_36 (by decide) (rm5 l Z a0 hw [] ad270 r0 r1 r2 r3 r4 r5 (3 : Int32) tt (own_rm (own_rm (own_ap (own_ap (own_ap own_st0 q0 tt) q1 tt) q2 tt) q0) q1) hh326 n0 Z327 g_ad270 hord PLx328 ⟨by decide, by decide⟩ rt (own_l52 q0 q1 q2 tt h0 h1 h2 h01 h02 h12 ht)) 0 (by decide) (by decide) e326 PLx328.1.1 (by rw [hml]; rfl) [(.int (3 : Int32)), (.int tt)] [] (lenOf pd_2 rfl) rfl rfl (Nat.le_of_eq rfl) (Jvm.hb hby at_227) (pc' := 230) rfl (cells' := 9) (slots' := 30) rfl rfl (by decide) (by decide) ?_
          intro v329 T329 L329 X329 hQ329
          obtain ⟨rfl, Nq329, K329, PL329⟩ := hQ329
          have N329 := Fr.app N326 Nq329
          have Z330 : n0 ≤ T329.heap.size := Nat.le_trans Z327 K329.1
          show own_Gl p e below s (own_Q0 n0) room_1.cells room_1.slots (T329.setTop (mkF m 230 #[.val (.int x0), .val (.int x1), .val (.int x2), .val (.int x3), .val (.int x4), .val (.int (3 : Int32)), .val (.int (0 : Int32)), .val (.int tt), .val (.int q0), .val (.ref ad253), .val (.ref ad261), .val (.ref ad270), .val (.int (1 : Int32)), .unset] []))
          refine g_iconst X329.here hx (Jvm.hb hby at_230) (pc' := 231) rfl (z := (3 : Int32)) rfl ?_
          have F331 := (((F321.keep K323 (ninS (Nat.ne_of_lt (by omega)) (ninS (Nat.ne_of_lt (by omega)) (ninS (Nat.ne_of_lt (by omega)) (ninS (Nat.ne_of_lt (by omega)) (ninS (Nat.ne_of_lt (by omega)) (ninS (Nat.ne_of_lt (by omega)) nin0))))))).other W326 ne_ad253_ad261).keep K329 (ninS (Nat.ne_of_lt (by omega)) (ninS (Nat.ne_of_lt (by omega)) (ninS (Nat.ne_of_lt (by omega)) (ninS (Nat.ne_of_lt (by omega)) (ninS (Nat.ne_of_lt (by omega)) (ninS (Nat.ne_of_lt (by omega)) nin0)))))))
          have F332 := (V326.keep K329 (ninS (Nat.ne_of_lt (by omega)) (ninS (Nat.ne_of_lt (by omega)) (ninS (Nat.ne_of_lt (by omega)) (ninS (Nat.ne_of_lt (by omega)) (ninS (Nat.ne_of_lt (by omega)) (ninS (Nat.ne_of_lt (by omega)) nin0)))))))
          refine g_newarr X329 hx hZ (ty := .int) rfl rfl w_1 rfl (Jvm.hb hby at_231) (pc' := 233) rfl (n := 3) (by decide) 3 (by decide) (by decide) (cells' := 10) (slots' := 33) rfl rfl (by decide) (by decide) ?_
          intro T333 hh333 ad333 gb333 X333 e333 E333 V333
          have g_ad333 : n0 ≤ ad333 := by rw [gb333]; exact Z330
          have lt_ad253_ad333 : @LT.lt Nat _ ad253 ad333 := by rw [gb333]; exact F331.lt
          have ne_ad253_ad333 : ad253 ≠ ad333 := Nat.ne_of_lt lt_ad253_ad333
          have lt_ad261_ad333 : @LT.lt Nat _ ad261 ad333 := by rw [gb333]; exact F332.lt
          have ne_ad261_ad333 : ad261 ≠ ad333 := Nat.ne_of_lt lt_ad261_ad333
          have lt_ad270_ad333 : @LT.lt Nat _ ad270 ad333 := by rw [gb333]; exact PL329.1.1.lt
          have ne_ad270_ad333 : ad270 ≠ ad333 := Nat.ne_of_lt lt_ad270_ad333
          have Z334 : n0 ≤ hh333.size := Nat.le_trans Z330 E333.1
          have lt5 : @LT.lt Nat _ r5 ad333 := by rw [gb333]; exact own_PL.lt5 PL329
          refine g_astore X333.here hx (Jvm.hb hby at_233) (pc' := 235) rfl rfl (L' := #[.val (.int x0), .val (.int x1), .val (.int x2), .val (.int x3), .val (.int x4), .val (.int (3 : Int32)), .val (.int (0 : Int32)), .val (.int tt), .val (.int q0), .val (.ref ad253), .val (.ref ad261), .val (.ref ad270), .val (.ref ad333), .unset]) rfl ?_
          refine g_aload X333.here hx (Jvm.hb hby at_235) (pc' := 237) rfl rfl rfl ?_
          refine g_iconst X333.here hx (Jvm.hb hby at_237) (pc' := 238) rfl (z := (0 : Int32)) rfl ?_
          refine g_iconst X333.here hx (Jvm.hb hby at_238) (pc' := 239) rfl (z := (-1 : Int32)) rfl ?_
          refine g_iastore X333 hx hZ e333 V333 ⟨by decide, by decide⟩ (Jvm.hb hby at_239) (pc' := 240) rfl ?_
          intro T335 hh335 X335 e335 W335 V335
          have N335 := Fr.snoc X335 N329 g_ad333
          have Z336 : n0 ≤ hh335.size := (by rw [W335.size]; exact Z334)
          refine g_aload X335.here hx (Jvm.hb hby at_240) (pc' := 242) rfl rfl rfl ?_
          refine g_iconst X335.here hx (Jvm.hb hby at_242) (pc' := 243) rfl (z := (1 : Int32)) rfl ?_
          refine g_iconst X335.here hx (Jvm.hb hby at_243) (pc' := 244) rfl (z := (-1 : Int32)) rfl ?_
          refine g_iastore X335 hx hZ e335 V335 ⟨by decide, by decide⟩ (Jvm.hb hby at_244) (pc' := 245) rfl ?_
          intro T337 hh337 X337 e337 W337 V337
          have N337 := Fr.snoc X337 N335 g_ad333
          have Z338 : n0 ≤ hh337.size := (by rw [W337.size]; exact Z336)
          refine g_aload X337.here hx (Jvm.hb hby at_245) (pc' := 247) rfl rfl rfl ?_
          refine g_iconst X337.here hx (Jvm.hb hby at_247) (pc' := 248) rfl (z := (2 : Int32)) rfl ?_
          refine g_iconst X337.here hx (Jvm.hb hby at_248) (pc' := 249) rfl (z := (-1 : Int32)) rfl ?_
          refine g_iastore X337 hx hZ e337 V337 ⟨by decide, by decide⟩ (Jvm.hb hby at_249) (pc' := 250) rfl ?_
          intro T339 hh339 X339 e339 W339 V339
          have N339 := Fr.snoc X339 N337 g_ad333
          have Z340 : n0 ≤ hh339.size := (by rw [W339.size]; exact Z338)
          refine g_iconst X339.here hx (Jvm.hb hby at_250) (pc' := 251) rfl (z := (0 : Int32)) rfl ?_
          refine g_istore X339.here hx (Jvm.hb hby at_251) (pc' := 253) rfl (L' := #[.val (.int x0), .val (.int x1), .val (.int x2), .val (.int x3), .val (.int x4), .val (.int (3 : Int32)), .val (.int (0 : Int32)), .val (.int tt), .val (.int q0), .val (.ref ad253), .val (.ref ad261), .val (.ref ad270), .val (.ref ad333), .val (.int (0 : Int32))]) rfl ?_
          refine g_aload X339.here hx (Jvm.hb hby at_253) (pc' := 255) rfl rfl rfl ?_
          refine g_iconst X339.here hx (Jvm.hb hby at_255) (pc' := 256) rfl (z := (0 : Int32)) rfl ?_
          have F341 := ((((F332.ext E333).other W335 ne_ad261_ad333).other W337 ne_ad261_ad333).other W339 ne_ad261_ad333)
          refine g_zaload X339 hx hZ e339 F341 ⟨by decide, by decide⟩ (v := (0 : Int32)) rfl (Jvm.hb hby at_256) (pc' := 257) rfl ?_
          refine g_ifY X339.here hx (Jvm.hb hby at_257) (by decide) (pc' := 272) (by decide) ((if0 _ _).trans (teq (by decide)).1) ?_
          refine g_aload X339.here hx (Jvm.hb hby at_272) (pc' := 274) rfl rfl rfl ?_
          refine g_iconst X339.here hx (Jvm.hb hby at_274) (pc' := 275) rfl (z := (1 : Int32)) rfl ?_
          refine g_zaload X339 hx hZ e339 F341 ⟨by decide, by decide⟩ (v := (0 : Int32)) rfl (Jvm.hb hby at_275) (pc' := 276) rfl ?_
          refine g_ifY X339.here hx (Jvm.hb hby at_276) (by decide) (pc' := 291) (by decide) ((if0 _ _).trans (teq (by decide)).1) ?_
          refine g_aload X339.here hx (Jvm.hb hby at_291) (pc' := 293) rfl rfl rfl ?_
          refine g_iconst X339.here hx (Jvm.hb hby at_293) (pc' := 294) rfl (z := (2 : Int32)) rfl ?_
          refine g_zaload X339 hx hZ e339 F341 ⟨by decide, by decide⟩ (v := (1 : Int32)) rfl (Jvm.hb hby at_294) (pc' := 295) rfl ?_
          refine g_ifN X339.here hx (Jvm.hb hby at_295) (pc' := 298) rfl ((if0 _ _).trans (feq (by decide)).1) ?_
          refine g_aload X339.here hx (Jvm.hb hby at_298) (pc' := 300) rfl rfl rfl ?_
          refine g_iload X339.here hx (Jvm.hb hby at_300) (pc' := 302) rfl rfl ?_
          refine g_aload X339.here hx (Jvm.hb hby at_302) (pc' := 304) rfl rfl rfl ?_
          refine g_iconst X339.here hx (Jvm.hb hby at_304) (pc' := 305) rfl (z := (2 : Int32)) rfl ?_
          have F342 := ((((F331.ext E333).other W335 ne_ad253_ad333).other W337 ne_ad253_ad333).other W339 ne_ad253_ad333)
          refine g_iaload X339 hx hZ e339 F342 ⟨by decide, by decide⟩ (v := q2) rfl (Jvm.hb hby at_305) (pc' := 306) rfl ?_
          refine g_iastore X339 hx hZ e339 V339 ⟨by decide, by decide⟩ (Jvm.hb hby at_306) (pc' := 307) rfl ?_
          intro T343 hh343 X343 e343 W343 V343
          have N343 := Fr.snoc X343 N339 g_ad333
          have Z344 : n0 ≤ hh343.size := (by rw [W343.size]; exact Z340)
          refine g_iinc X343.here hx (Jvm.hb hby at_307) (pc' := 310) rfl (z := (1 : Int32)) rfl rfl (L' := #[.val (.int x0), .val (.int x1), .val (.int x2), .val (.int x3), .val (.int x4), .val (.int (3 : Int32)), .val (.int (0 : Int32)), .val (.int tt), .val (.int q0), .val (.ref ad253), .val (.ref ad261), .val (.ref ad270), .val (.ref ad333), .val (.int (1 : Int32))]) rfl ?_
          refine g_aload X343.here hx (Jvm.hb hby at_310) (pc' := 312) rfl rfl rfl ?_
          refine g_iload X343.here hx (Jvm.hb hby at_312) (pc' := 314) rfl rfl ?_
          refine g_iconst X343.here hx (Jvm.hb hby at_314) (pc' := 315) rfl (z := (3 : Int32)) rfl ?_
          refine g_iastore X343 hx hZ e343 V343 ⟨by decide, by decide⟩ (Jvm.hb hby at_315) (pc' := 316) rfl ?_
          intro T345 hh345 X345 e345 W345 V345
          have N345 := Fr.snoc X345 N343 g_ad333
          have Z346 : n0 ≤ hh345.size := (by rw [W345.size]; exact Z344)
          refine g_aload X345.here hx (Jvm.hb hby at_316) (pc' := 318) rfl rfl rfl ?_
          refine g_aload X345.here hx (Jvm.hb hby at_318) (pc' := 320) rfl rfl rfl ?_
          refine g_iload X345.here hx (Jvm.hb hby at_320) (pc' := 322) rfl rfl ?_
          have F347 := ((F342.other W343 ne_ad253_ad333).other W345 ne_ad253_ad333)
          refine g_iaload X345 hx hZ e345 F347 ⟨by decide, by decide⟩ (v := q0) rfl (Jvm.hb hby at_322) (pc' := 323) rfl ?_
          have PLx348 := (own_PL.other (own_PL.other (own_PL.other (own_PL.other (own_PL.other (own_PL.ext PL329 E333) W335 hord (by omega)) W337 hord (by omega)) W339 hord (by omega)) W343 hord (by omega)) W345 hord (by omega))
          refine g_callV X345 hx hZ hown w_42 w_43 (own_nf hZ w_45) w_45 w_44 w_5 w_46 (by decide) (rm7 l Z a0 hw [] ad270 r0 r1 r2 r3 r4 r5 q0 (own_ap (own_rm (own_rm (own_ap (own_ap (own_ap own_st0 q0 tt) q1 tt) q2 tt) q0) q1) (3 : Int32) tt) hh345 PLx348 ⟨h0.1, by omega⟩) 0 (by decide) (by decide) e345 PLx348.1.1 (by rw [hml]; rfl) [(.int q0)] [] (lenOf pd_4 rfl) rfl rfl (Nat.le_of_eq rfl) (Jvm.hb hby at_323) (pc' := 326) rfl (cells' := 10) (slots' := 33) rfl rfl (by decide) (by decide) ?_
          intro v349 T349 L349 X349 hQ349
          obtain ⟨rfl, rfl, e349⟩ := hQ349
          rw [List.append_nil] at X349
          show own_Gl p e below s (own_Q0 n0) room_1.cells room_1.slots (T349.setTop (mkF m 326 #[.val (.int x0), .val (.int x1), .val (.int x2), .val (.int x3), .val (.int x4), .val (.int (3 : Int32)), .val (.int (0 : Int32)), .val (.int tt), .val (.int q0), .val (.ref ad253), .val (.ref ad261), .val (.ref ad270), .val (.ref ad333), .val (.int (1 : Int32))] [(.int ((own_ap (own_rm (own_rm (own_ap (own_ap (own_ap own_st0 q0 tt) q1 tt) q2 tt) q0) q1) (3 : Int32) tt) 0 q0.toNatClampNeg))]))
          refine g_iconst X349.here hx (Jvm.hb hby at_326) (pc' := 327) rfl (z := (-1 : Int32)) rfl ?_
          refine g_icY X349.here hx (Jvm.hb hby at_327) (by decide) (pc' := 332) (by decide) (teq (own_l53 q0 q1 q2 tt h0 h1 h2 h01 h02 h12 ht)).1 ?_
          refine g_aload X349.here hx (Jvm.hb hby at_332) (pc' := 334) rfl rfl rfl ?_
          refine g_iload X349.here hx (Jvm.hb hby at_334) (pc' := 336) rfl rfl ?_
          refine g_callV X349 hx hZ hown w_47 w_48 (own_nf hZ w_50) w_50 w_49 w_5 w_51 (by decide) (rm8 l Z a0 hw [] ad270 r0 r1 r2 r3 r4 r5 tt (own_ap (own_rm (own_rm (own_ap (own_ap (own_ap own_st0 q0 tt) q1 tt) q2 tt) q0) q1) (3 : Int32) tt) hh345 PLx348 rt) 0 (by decide) (by decide) e349 PLx348.1.1 (by rw [hml]; rfl) [(.int tt)] [] (lenOf pd_4 rfl) rfl rfl (Nat.le_of_eq rfl) (Jvm.hb hby at_336) (pc' := 339) rfl (cells' := 10) (slots' := 33) rfl rfl (by decide) (by decide) ?_
          intro v350 T350 L350 X350 hQ350
          obtain ⟨rfl, rfl, e350⟩ := hQ350
          rw [List.append_nil] at X350
          show own_Gl p e below s (own_Q0 n0) room_1.cells room_1.slots (T350.setTop (mkF m 339 #[.val (.int x0), .val (.int x1), .val (.int x2), .val (.int x3), .val (.int x4), .val (.int (3 : Int32)), .val (.int (0 : Int32)), .val (.int tt), .val (.int q0), .val (.ref ad253), .val (.ref ad261), .val (.ref ad270), .val (.ref ad333), .val (.int (1 : Int32))] [(.int ((own_ap (own_rm (own_rm (own_ap (own_ap (own_ap own_st0 q0 tt) q1 tt) q2 tt) q0) q1) (3 : Int32) tt) 5 tt.toNatClampNeg))]))
          refine g_iload X350.here hx (Jvm.hb hby at_339) (pc' := 341) rfl rfl ?_
          refine g_iconst X350.here hx (Jvm.hb hby at_341) (pc' := 342) rfl (z := (1 : Int32)) rfl ?_
          refine g_iadd X350.here hx (Jvm.hb hby at_342) (pc' := 343) rfl ?_
          refine g_icY X350.here hx (Jvm.hb hby at_343) (by decide) (pc' := 348) (by decide) (teq ((own_l54 q0 q1 q2 tt h0 h1 h2 h01 h02 h12 ht))).1 ?_
          refine g_aload X350.here hx (Jvm.hb hby at_348) (pc' := 350) rfl rfl rfl ?_
          refine g_iload X350.here hx (Jvm.hb hby at_350) (pc' := 352) rfl rfl ?_
          refine g_callV X350 hx hZ hown w_52 w_53 (own_nf hZ w_55) w_55 w_54 w_5 w_56 (by decide) (rm9 l Z a0 hw [] ad270 r0 r1 r2 r3 r4 r5 tt (own_ap (own_rm (own_rm (own_ap (own_ap (own_ap own_st0 q0 tt) q1 tt) q2 tt) q0) q1) (3 : Int32) tt) hh345 PLx348 rt) 0 (by decide) (by decide) e350 PLx348.1.1 (by rw [hml]; rfl) [(.int tt)] [] (lenOf pd_4 rfl) rfl rfl (Nat.le_of_eq rfl) (Jvm.hb hby at_352) (pc' := 355) rfl (cells' := 10) (slots' := 33) rfl rfl (by decide) (by decide) ?_
          intro v351 T351 L351 X351 hQ351
          obtain ⟨rfl, rfl, e351⟩ := hQ351
          rw [List.append_nil] at X351
          show own_Gl p e below s (own_Q0 n0) room_1.cells room_1.slots (T351.setTop (mkF m 355 #[.val (.int x0), .val (.int x1), .val (.int x2), .val (.int x3), .val (.int x4), .val (.int (3 : Int32)), .val (.int (0 : Int32)), .val (.int tt), .val (.int q0), .val (.ref ad253), .val (.ref ad261), .val (.ref ad270), .val (.ref ad333), .val (.int (1 : Int32))] [(.int ((own_ap (own_rm (own_rm (own_ap (own_ap (own_ap own_st0 q0 tt) q1 tt) q2 tt) q0) q1) (3 : Int32) tt) 3 tt.toNatClampNeg))]))
          refine g_aload X351.here hx (Jvm.hb hby at_355) (pc' := 357) rfl rfl rfl ?_
          refine g_iconst X351.here hx (Jvm.hb hby at_357) (pc' := 358) rfl (z := (0 : Int32)) rfl ?_
          refine g_iaload X351 hx hZ e351 V345 ⟨by decide, by decide⟩ (v := q2) rfl (Jvm.hb hby at_358) (pc' := 359) rfl ?_
          refine g_icY X351.here hx (Jvm.hb hby at_359) (by decide) (pc' := 364) (by decide) (teq (own_l55 q0 q1 q2 tt h0 h1 h2 h01 h02 h12 ht)).1 ?_
          refine g_aload X351.here hx (Jvm.hb hby at_364) (pc' := 366) rfl rfl rfl ?_
          refine g_iconst X351.here hx (Jvm.hb hby at_366) (pc' := 367) rfl (z := (0 : Int32)) rfl ?_
          refine g_iaload X351 hx hZ e351 V345 ⟨by decide, by decide⟩ (v := q2) rfl (Jvm.hb hby at_367) (pc' := 368) rfl ?_
          refine g_iconst X351.here hx (Jvm.hb hby at_368) (pc' := 369) rfl (z := (3 : Int32)) rfl ?_
          refine g_icN X351.here hx (Jvm.hb hby at_369) (pc' := 372) rfl (feq (fun q => by have := congrArg Int32.toInt q; simp only [Int32.reduceToInt] at this; omega)).1 ?_
          refine g_aload X351.here hx (Jvm.hb hby at_372) (pc' := 374) rfl rfl rfl ?_
          refine g_aload X351.here hx (Jvm.hb hby at_374) (pc' := 376) rfl rfl rfl ?_
          refine g_iconst X351.here hx (Jvm.hb hby at_376) (pc' := 377) rfl (z := (0 : Int32)) rfl ?_
          refine g_iaload X351 hx hZ e351 V345 ⟨by decide, by decide⟩ (v := q2) rfl (Jvm.hb hby at_377) (pc' := 378) rfl ?_
          refine g_callV X351 hx hZ hown w_57 w_58 (own_nf hZ w_60) w_60 w_59 w_5 w_61 (by decide) (rm10 l Z a0 hw [] ad270 r0 r1 r2 r3 r4 r5 q2 (own_ap (own_rm (own_rm (own_ap (own_ap (own_ap own_st0 q0 tt) q1 tt) q2 tt) q0) q1) (3 : Int32) tt) hh345 PLx348 ⟨h2.1, by omega⟩) 0 (by decide) (by decide) e351 PLx348.1.1 (by rw [hml]; rfl) [(.int q2)] [] (lenOf pd_4 rfl) rfl rfl (Nat.le_of_eq rfl) (Jvm.hb hby at_378) (pc' := 381) rfl (cells' := 10) (slots' := 33) rfl rfl (by decide) (by decide) ?_
          intro v352 T352 L352 X352 hQ352
          obtain ⟨rfl, rfl, e352⟩ := hQ352
          rw [List.append_nil] at X352
          show own_Gl p e below s (own_Q0 n0) room_1.cells room_1.slots (T352.setTop (mkF m 381 #[.val (.int x0), .val (.int x1), .val (.int x2), .val (.int x3), .val (.int x4), .val (.int (3 : Int32)), .val (.int (0 : Int32)), .val (.int tt), .val (.int q0), .val (.ref ad253), .val (.ref ad261), .val (.ref ad270), .val (.ref ad333), .val (.int (1 : Int32))] [(.int ((own_ap (own_rm (own_rm (own_ap (own_ap (own_ap own_st0 q0 tt) q1 tt) q2 tt) q0) q1) (3 : Int32) tt) 2 q2.toNatClampNeg))]))
          refine g_aload X352.here hx (Jvm.hb hby at_381) (pc' := 383) rfl rfl rfl ?_
          refine g_iconst X352.here hx (Jvm.hb hby at_383) (pc' := 384) rfl (z := (1 : Int32)) rfl ?_
          refine g_iaload X352 hx hZ e352 V345 ⟨by decide, by decide⟩ (v := (3 : Int32)) rfl (Jvm.hb hby at_384) (pc' := 385) rfl ?_
          refine g_icY X352.here hx (Jvm.hb hby at_385) (by decide) (pc' := 390) (by decide) (teq (own_l56 q0 q1 q2 tt h0 h1 h2 h01 h02 h12 ht)).1 ?_
          refine g_aload X352.here hx (Jvm.hb hby at_390) (pc' := 392) rfl rfl rfl ?_
          refine g_iconst X352.here hx (Jvm.hb hby at_392) (pc' := 393) rfl (z := (0 : Int32)) rfl ?_
          refine g_iaload X352 hx hZ e352 V345 ⟨by decide, by decide⟩ (v := q2) rfl (Jvm.hb hby at_393) (pc' := 394) rfl ?_
          refine g_iconst X352.here hx (Jvm.hb hby at_394) (pc' := 395) rfl (z := (3 : Int32)) rfl ?_
          refine g_icN X352.here hx (Jvm.hb hby at_395) (pc' := 398) rfl (feq (fun q => by have := congrArg Int32.toInt q; simp only [Int32.reduceToInt] at this; omega)).1 ?_
          refine g_aload X352.here hx (Jvm.hb hby at_398) (pc' := 400) rfl rfl rfl ?_
          refine g_iconst X352.here hx (Jvm.hb hby at_400) (pc' := 401) rfl (z := (1 : Int32)) rfl ?_
          refine g_iaload X352 hx hZ e352 V345 ⟨by decide, by decide⟩ (v := (3 : Int32)) rfl (Jvm.hb hby at_401) (pc' := 402) rfl ?_
          refine g_iconst X352.here hx (Jvm.hb hby at_402) (pc' := 403) rfl (z := (3 : Int32)) rfl ?_
          refine g_icY X352.here hx (Jvm.hb hby at_403) (by decide) (pc' := 424) (by decide) (teq (by decide)).1 ?_
          refine g_iconst X352.here hx (Jvm.hb hby at_424) (pc' := 425) rfl (z := (1 : Int32)) rfl ?_
          exact g_retN X352 hx hlk (t := .boolean) hret (by simp) (z' := (1 : Int32)) rfl (Jvm.hb hby at_425) (by decide) (by decide) ⟨rfl, N345⟩
        · refine g_iadd X289.here hx (Jvm.hb hby at_200) (pc' := 201) rfl ?_
          refine g_iload X289.here hx (Jvm.hb hby at_201) (pc' := 203) rfl rfl ?_
          refine g_irem X289 hx (Jvm.hb hby at_203) (pc' := 204) rfl (by decide) ?_
          refine g_istore X289.here hx (Jvm.hb hby at_204) (pc' := 206) rfl (L' := #[.val (.int x0), .val (.int x1), .val (.int x2), .val (.int x3), .val (.int x4), .val (.int (3 : Int32)), .val (.int (0 : Int32)), .val (.int tt), .val (.int q0), .val (.ref ad253), .val (.ref ad261), .val (.ref ad270), .val (.int ((((0 : Int32) + (1 : Int32)) + (1 : Int32)) % (3 : Int32))), .unset]) rfl ?_
          rw [show ((((0 : Int32) + (1 : Int32)) + (1 : Int32)) % (3 : Int32)) = (2 : Int32) from rfl]
          refine g_aload X289.here hx (Jvm.hb hby at_206) (pc' := 208) rfl rfl rfl ?_
          refine g_aload X289.here hx (Jvm.hb hby at_208) (pc' := 210) rfl rfl rfl ?_
          refine g_iload X289.here hx (Jvm.hb hby at_210) (pc' := 212) rfl rfl ?_
          have F353 := ((F285.keep K286 (ninS (Nat.ne_of_lt (by omega)) (ninS (Nat.ne_of_lt (by omega)) (ninS (Nat.ne_of_lt (by omega)) (ninS (Nat.ne_of_lt (by omega)) (ninS (Nat.ne_of_lt (by omega)) (ninS (Nat.ne_of_lt (by omega)) nin0))))))).other W289 ne_ad253_ad261)
          refine g_iaload X289 hx hZ e289 F353 ⟨by decide, by decide⟩ (v := q2) rfl (Jvm.hb hby at_212) (pc' := 213) rfl ?_
          have PLx354 := (own_PL.other PL286 W289 hord (by omega))
          refine g_callV X289 hx hZ hown w_37 w_38 (own_nf hZ w_40) w_40 w_39 w_5 w_41 (by decide) (rm6 l Z a0 hw [] ad270 r0 r1 r2 r3 r4 r5 q2 (own_rm (own_ap (own_ap (own_ap own_st0 q0 tt) q1 tt) q2 tt) q0) hh289 n0 Z290 g_ad270 hord PLx354 ⟨h2.1, by omega⟩ (own_l57 q0 q1 q2 tt h0 h1 h2 h01 h02 h12 ht) (own_l58 q0 q1 q2 tt h0 h1 h2 h01 h02 h12 ht) (own_l59 q0 q1 q2 tt h0 h1 h2 h01 h02 h12 ht)) 0 (by decide) (by decide) e289 PLx354.1.1 (by rw [hml]; rfl) [(.int q2)] [] (lenOf pd_3 rfl) rfl rfl (Nat.le_of_eq rfl) (Jvm.hb hby at_213) (pc' := 216) rfl (cells' := 9) (slots' := 30) rfl rfl (by decide) (by decide) ?_
          intro v355 T355 L355 X355 hQ355
          obtain ⟨rfl, Nq355, K355, PL355⟩ := hQ355
          have N355 := Fr.app N289 Nq355
          have Z356 : n0 ≤ T355.heap.size := Nat.le_trans Z290 K355.1
          show own_Gl p e below s (own_Q0 n0) room_1.cells room_1.slots (T355.setTop (mkF m 216 #[.val (.int x0), .val (.int x1), .val (.int x2), .val (.int x3), .val (.int x4), .val (.int (3 : Int32)), .val (.int (0 : Int32)), .val (.int tt), .val (.int q0), .val (.ref ad253), .val (.ref ad261), .val (.ref ad270), .val (.int (2 : Int32)), .unset] []))
          refine g_aload X355.here hx (Jvm.hb hby at_216) (pc' := 218) rfl rfl rfl ?_
          refine g_iload X355.here hx (Jvm.hb hby at_218) (pc' := 220) rfl rfl ?_
          refine g_iconst X355.here hx (Jvm.hb hby at_220) (pc' := 221) rfl (z := (0 : Int32)) rfl ?_
          have F357 := (V289.keep K355 (ninS (Nat.ne_of_lt (by omega)) (ninS (Nat.ne_of_lt (by omega)) (ninS (Nat.ne_of_lt (by omega)) (ninS (Nat.ne_of_lt (by omega)) (ninS (Nat.ne_of_lt (by omega)) (ninS (Nat.ne_of_lt (by omega)) nin0)))))))
          refine g_zastore X355 hx hZ rfl F357 ⟨by decide, by decide⟩ (x' := (0 : Int32)) rfl (Jvm.hb hby at_221) (pc' := 222) rfl ?_
          intro T358 hh358 X358 e358 W358 V358
          have N358 := Fr.snoc X358 N355 g_ad261
          have Z359 : n0 ≤ hh358.size := (by rw [W358.size]; exact Z356)
          refine g_aload X358.here hx (Jvm.hb hby at_222) (pc' := 224) rfl rfl rfl ?_
          refine g_iconst X358.here hx (Jvm.hb hby at_224) (pc' := 225) rfl (z := (3 : Int32)) rfl ?_
          refine g_iload X358.here hx (Jvm.hb hby at_225) (pc' := 227) rfl rfl ?_
          have PLx360 := (own_PL.other PL355 W358 hord (by omega))
          refine g_callV X358 hx hZ hown w_32 w_33 (own_nf hZ w_35) w_35 w_34 w_5 w_36 (by decide) (rm5 l Z a0 hw [] ad270 r0 r1 r2 r3 r4 r5 (3 : Int32) tt (own_rm (own_rm (own_ap (own_ap (own_ap own_st0 q0 tt) q1 tt) q2 tt) q0) q2) hh358 n0 Z359 g_ad270 hord PLx360 ⟨by decide, by decide⟩ rt (own_l60 q0 q1 q2 tt h0 h1 h2 h01 h02 h12 ht)) 0 (by decide) (by decide) e358 PLx360.1.1 (by rw [hml]; rfl) [(.int (3 : Int32)), (.int tt)] [] (lenOf pd_2 rfl) rfl rfl (Nat.le_of_eq rfl) (Jvm.hb hby at_227) (pc' := 230) rfl (cells' := 9) (slots' := 30) rfl rfl (by decide) (by decide) ?_
          intro v361 T361 L361 X361 hQ361
          obtain ⟨rfl, Nq361, K361, PL361⟩ := hQ361
          have N361 := Fr.app N358 Nq361
          have Z362 : n0 ≤ T361.heap.size := Nat.le_trans Z359 K361.1
          show own_Gl p e below s (own_Q0 n0) room_1.cells room_1.slots (T361.setTop (mkF m 230 #[.val (.int x0), .val (.int x1), .val (.int x2), .val (.int x3), .val (.int x4), .val (.int (3 : Int32)), .val (.int (0 : Int32)), .val (.int tt), .val (.int q0), .val (.ref ad253), .val (.ref ad261), .val (.ref ad270), .val (.int (2 : Int32)), .unset] []))
          refine g_iconst X361.here hx (Jvm.hb hby at_230) (pc' := 231) rfl (z := (3 : Int32)) rfl ?_
          have F363 := (((F353.keep K355 (ninS (Nat.ne_of_lt (by omega)) (ninS (Nat.ne_of_lt (by omega)) (ninS (Nat.ne_of_lt (by omega)) (ninS (Nat.ne_of_lt (by omega)) (ninS (Nat.ne_of_lt (by omega)) (ninS (Nat.ne_of_lt (by omega)) nin0))))))).other W358 ne_ad253_ad261).keep K361 (ninS (Nat.ne_of_lt (by omega)) (ninS (Nat.ne_of_lt (by omega)) (ninS (Nat.ne_of_lt (by omega)) (ninS (Nat.ne_of_lt (by omega)) (ninS (Nat.ne_of_lt (by omega)) (ninS (Nat.ne_of_lt (by omega)) nin0)))))))
          have F364 := (V358.keep K361 (ninS (Nat.ne_of_lt (by omega)) (ninS (Nat.ne_of_lt (by omega)) (ninS (Nat.ne_of_lt (by omega)) (ninS (Nat.ne_of_lt (by omega)) (ninS (Nat.ne_of_lt (by omega)) (ninS (Nat.ne_of_lt (by omega)) nin0)))))))
          refine g_newarr X361 hx hZ (ty := .int) rfl rfl w_1 rfl (Jvm.hb hby at_231) (pc' := 233) rfl (n := 3) (by decide) 3 (by decide) (by decide) (cells' := 10) (slots' := 33) rfl rfl (by decide) (by decide) ?_
          intro T365 hh365 ad365 gb365 X365 e365 E365 V365
          have g_ad365 : n0 ≤ ad365 := by rw [gb365]; exact Z362
          have lt_ad253_ad365 : @LT.lt Nat _ ad253 ad365 := by rw [gb365]; exact F363.lt
          have ne_ad253_ad365 : ad253 ≠ ad365 := Nat.ne_of_lt lt_ad253_ad365
          have lt_ad261_ad365 : @LT.lt Nat _ ad261 ad365 := by rw [gb365]; exact F364.lt
          have ne_ad261_ad365 : ad261 ≠ ad365 := Nat.ne_of_lt lt_ad261_ad365
          have lt_ad270_ad365 : @LT.lt Nat _ ad270 ad365 := by rw [gb365]; exact PL361.1.1.lt
          have ne_ad270_ad365 : ad270 ≠ ad365 := Nat.ne_of_lt lt_ad270_ad365
          have Z366 : n0 ≤ hh365.size := Nat.le_trans Z362 E365.1
          have lt5 : @LT.lt Nat _ r5 ad365 := by rw [gb365]; exact own_PL.lt5 PL361
          refine g_astore X365.here hx (Jvm.hb hby at_233) (pc' := 235) rfl rfl (L' := #[.val (.int x0), .val (.int x1), .val (.int x2), .val (.int x3), .val (.int x4), .val (.int (3 : Int32)), .val (.int (0 : Int32)), .val (.int tt), .val (.int q0), .val (.ref ad253), .val (.ref ad261), .val (.ref ad270), .val (.ref ad365), .unset]) rfl ?_
          refine g_aload X365.here hx (Jvm.hb hby at_235) (pc' := 237) rfl rfl rfl ?_
          refine g_iconst X365.here hx (Jvm.hb hby at_237) (pc' := 238) rfl (z := (0 : Int32)) rfl ?_
          refine g_iconst X365.here hx (Jvm.hb hby at_238) (pc' := 239) rfl (z := (-1 : Int32)) rfl ?_
          refine g_iastore X365 hx hZ e365 V365 ⟨by decide, by decide⟩ (Jvm.hb hby at_239) (pc' := 240) rfl ?_
          intro T367 hh367 X367 e367 W367 V367
          have N367 := Fr.snoc X367 N361 g_ad365
          have Z368 : n0 ≤ hh367.size := (by rw [W367.size]; exact Z366)
          refine g_aload X367.here hx (Jvm.hb hby at_240) (pc' := 242) rfl rfl rfl ?_
          refine g_iconst X367.here hx (Jvm.hb hby at_242) (pc' := 243) rfl (z := (1 : Int32)) rfl ?_
          refine g_iconst X367.here hx (Jvm.hb hby at_243) (pc' := 244) rfl (z := (-1 : Int32)) rfl ?_
          refine g_iastore X367 hx hZ e367 V367 ⟨by decide, by decide⟩ (Jvm.hb hby at_244) (pc' := 245) rfl ?_
          intro T369 hh369 X369 e369 W369 V369
          have N369 := Fr.snoc X369 N367 g_ad365
          have Z370 : n0 ≤ hh369.size := (by rw [W369.size]; exact Z368)
          refine g_aload X369.here hx (Jvm.hb hby at_245) (pc' := 247) rfl rfl rfl ?_
          refine g_iconst X369.here hx (Jvm.hb hby at_247) (pc' := 248) rfl (z := (2 : Int32)) rfl ?_
          refine g_iconst X369.here hx (Jvm.hb hby at_248) (pc' := 249) rfl (z := (-1 : Int32)) rfl ?_
          refine g_iastore X369 hx hZ e369 V369 ⟨by decide, by decide⟩ (Jvm.hb hby at_249) (pc' := 250) rfl ?_
          intro T371 hh371 X371 e371 W371 V371
          have N371 := Fr.snoc X371 N369 g_ad365
          have Z372 : n0 ≤ hh371.size := (by rw [W371.size]; exact Z370)
          refine g_iconst X371.here hx (Jvm.hb hby at_250) (pc' := 251) rfl (z := (0 : Int32)) rfl ?_
          refine g_istore X371.here hx (Jvm.hb hby at_251) (pc' := 253) rfl (L' := #[.val (.int x0), .val (.int x1), .val (.int x2), .val (.int x3), .val (.int x4), .val (.int (3 : Int32)), .val (.int (0 : Int32)), .val (.int tt), .val (.int q0), .val (.ref ad253), .val (.ref ad261), .val (.ref ad270), .val (.ref ad365), .val (.int (0 : Int32))]) rfl ?_
          refine g_aload X371.here hx (Jvm.hb hby at_253) (pc' := 255) rfl rfl rfl ?_
          refine g_iconst X371.here hx (Jvm.hb hby at_255) (pc' := 256) rfl (z := (0 : Int32)) rfl ?_
          have F373 := ((((F364.ext E365).other W367 ne_ad261_ad365).other W369 ne_ad261_ad365).other W371 ne_ad261_ad365)
          refine g_zaload X371 hx hZ e371 F373 ⟨by decide, by decide⟩ (v := (0 : Int32)) rfl (Jvm.hb hby at_256) (pc' := 257) rfl ?_
          refine g_ifY X371.here hx (Jvm.hb hby at_257) (by decide) (pc' := 272) (by decide) ((if0 _ _).trans (teq (by decide)).1) ?_
          refine g_aload X371.here hx (Jvm.hb hby at_272) (pc' := 274) rfl rfl rfl ?_
          refine g_iconst X371.here hx (Jvm.hb hby at_274) (pc' := 275) rfl (z := (1 : Int32)) rfl ?_
          refine g_zaload X371 hx hZ e371 F373 ⟨by decide, by decide⟩ (v := (1 : Int32)) rfl (Jvm.hb hby at_275) (pc' := 276) rfl ?_
          refine g_ifN X371.here hx (Jvm.hb hby at_276) (pc' := 279) rfl ((if0 _ _).trans (feq (by decide)).1) ?_
          refine g_aload X371.here hx (Jvm.hb hby at_279) (pc' := 281) rfl rfl rfl ?_
          refine g_iload X371.here hx (Jvm.hb hby at_281) (pc' := 283) rfl rfl ?_
          refine g_aload X371.here hx (Jvm.hb hby at_283) (pc' := 285) rfl rfl rfl ?_
          refine g_iconst X371.here hx (Jvm.hb hby at_285) (pc' := 286) rfl (z := (1 : Int32)) rfl ?_
          have F374 := ((((F363.ext E365).other W367 ne_ad253_ad365).other W369 ne_ad253_ad365).other W371 ne_ad253_ad365)
          refine g_iaload X371 hx hZ e371 F374 ⟨by decide, by decide⟩ (v := q1) rfl (Jvm.hb hby at_286) (pc' := 287) rfl ?_
          refine g_iastore X371 hx hZ e371 V371 ⟨by decide, by decide⟩ (Jvm.hb hby at_287) (pc' := 288) rfl ?_
          intro T375 hh375 X375 e375 W375 V375
          have N375 := Fr.snoc X375 N371 g_ad365
          have Z376 : n0 ≤ hh375.size := (by rw [W375.size]; exact Z372)
          refine g_iinc X375.here hx (Jvm.hb hby at_288) (pc' := 291) rfl (z := (1 : Int32)) rfl rfl (L' := #[.val (.int x0), .val (.int x1), .val (.int x2), .val (.int x3), .val (.int x4), .val (.int (3 : Int32)), .val (.int (0 : Int32)), .val (.int tt), .val (.int q0), .val (.ref ad253), .val (.ref ad261), .val (.ref ad270), .val (.ref ad365), .val (.int (1 : Int32))]) rfl ?_
          refine g_aload X375.here hx (Jvm.hb hby at_291) (pc' := 293) rfl rfl rfl ?_
          refine g_iconst X375.here hx (Jvm.hb hby at_293) (pc' := 294) rfl (z := (2 : Int32)) rfl ?_
          have F377 := (F373.other W375 ne_ad261_ad365)
          refine g_zaload X375 hx hZ e375 F377 ⟨by decide, by decide⟩ (v := (0 : Int32)) rfl (Jvm.hb hby at_294) (pc' := 295) rfl ?_
          refine g_ifY X375.here hx (Jvm.hb hby at_295) (by decide) (pc' := 310) (by decide) ((if0 _ _).trans (teq (by decide)).1) ?_
          refine g_aload X375.here hx (Jvm.hb hby at_310) (pc' := 312) rfl rfl rfl ?_
          refine g_iload X375.here hx (Jvm.hb hby at_312) (pc' := 314) rfl rfl ?_
          refine g_iconst X375.here hx (Jvm.hb hby at_314) (pc' := 315) rfl (z := (3 : Int32)) rfl ?_
          refine g_iastore X375 hx hZ e375 V375 ⟨by decide, by decide⟩ (Jvm.hb hby at_315) (pc' := 316) rfl ?_
          intro T378 hh378 X378 e378 W378 V378
          have N378 := Fr.snoc X378 N375 g_ad365
          have Z379 : n0 ≤ hh378.size := (by rw [W378.size]; exact Z376)
          refine g_aload X378.here hx (Jvm.hb hby at_316) (pc' := 318) rfl rfl rfl ?_
          refine g_aload X378.here hx (Jvm.hb hby at_318) (pc' := 320) rfl rfl rfl ?_
          refine g_iload X378.here hx (Jvm.hb hby at_320) (pc' := 322) rfl rfl ?_
          have F380 := ((F374.other W375 ne_ad253_ad365).other W378 ne_ad253_ad365)
          refine g_iaload X378 hx hZ e378 F380 ⟨by decide, by decide⟩ (v := q0) rfl (Jvm.hb hby at_322) (pc' := 323) rfl ?_
          have PLx381 := (own_PL.other (own_PL.other (own_PL.other (own_PL.other (own_PL.other (own_PL.ext PL361 E365) W367 hord (by omega)) W369 hord (by omega)) W371 hord (by omega)) W375 hord (by omega)) W378 hord (by omega))
          refine g_callV X378 hx hZ hown w_42 w_43 (own_nf hZ w_45) w_45 w_44 w_5 w_46 (by decide) (rm7 l Z a0 hw [] ad270 r0 r1 r2 r3 r4 r5 q0 (own_ap (own_rm (own_rm (own_ap (own_ap (own_ap own_st0 q0 tt) q1 tt) q2 tt) q0) q2) (3 : Int32) tt) hh378 PLx381 ⟨h0.1, by omega⟩) 0 (by decide) (by decide) e378 PLx381.1.1 (by rw [hml]; rfl) [(.int q0)] [] (lenOf pd_4 rfl) rfl rfl (Nat.le_of_eq rfl) (Jvm.hb hby at_323) (pc' := 326) rfl (cells' := 10) (slots' := 33) rfl rfl (by decide) (by decide) ?_
          intro v382 T382 L382 X382 hQ382
          obtain ⟨rfl, rfl, e382⟩ := hQ382
          rw [List.append_nil] at X382
          show own_Gl p e below s (own_Q0 n0) room_1.cells room_1.slots (T382.setTop (mkF m 326 #[.val (.int x0), .val (.int x1), .val (.int x2), .val (.int x3), .val (.int x4), .val (.int (3 : Int32)), .val (.int (0 : Int32)), .val (.int tt), .val (.int q0), .val (.ref ad253), .val (.ref ad261), .val (.ref ad270), .val (.ref ad365), .val (.int (1 : Int32))] [(.int ((own_ap (own_rm (own_rm (own_ap (own_ap (own_ap own_st0 q0 tt) q1 tt) q2 tt) q0) q2) (3 : Int32) tt) 0 q0.toNatClampNeg))]))
          refine g_iconst X382.here hx (Jvm.hb hby at_326) (pc' := 327) rfl (z := (-1 : Int32)) rfl ?_
          refine g_icY X382.here hx (Jvm.hb hby at_327) (by decide) (pc' := 332) (by decide) (teq (own_l61 q0 q1 q2 tt h0 h1 h2 h01 h02 h12 ht)).1 ?_
          refine g_aload X382.here hx (Jvm.hb hby at_332) (pc' := 334) rfl rfl rfl ?_
          refine g_iload X382.here hx (Jvm.hb hby at_334) (pc' := 336) rfl rfl ?_
          refine g_callV X382 hx hZ hown w_47 w_48 (own_nf hZ w_50) w_50 w_49 w_5 w_51 (by decide) (rm8 l Z a0 hw [] ad270 r0 r1 r2 r3 r4 r5 tt (own_ap (own_rm (own_rm (own_ap (own_ap (own_ap own_st0 q0 tt) q1 tt) q2 tt) q0) q2) (3 : Int32) tt) hh378 PLx381 rt) 0 (by decide) (by decide) e382 PLx381.1.1 (by rw [hml]; rfl) [(.int tt)] [] (lenOf pd_4 rfl) rfl rfl (Nat.le_of_eq rfl) (Jvm.hb hby at_336) (pc' := 339) rfl (cells' := 10) (slots' := 33) rfl rfl (by decide) (by decide) ?_
          intro v383 T383 L383 X383 hQ383
          obtain ⟨rfl, rfl, e383⟩ := hQ383
          rw [List.append_nil] at X383
          show own_Gl p e below s (own_Q0 n0) room_1.cells room_1.slots (T383.setTop (mkF m 339 #[.val (.int x0), .val (.int x1), .val (.int x2), .val (.int x3), .val (.int x4), .val (.int (3 : Int32)), .val (.int (0 : Int32)), .val (.int tt), .val (.int q0), .val (.ref ad253), .val (.ref ad261), .val (.ref ad270), .val (.ref ad365), .val (.int (1 : Int32))] [(.int ((own_ap (own_rm (own_rm (own_ap (own_ap (own_ap own_st0 q0 tt) q1 tt) q2 tt) q0) q2) (3 : Int32) tt) 5 tt.toNatClampNeg))]))
          refine g_iload X383.here hx (Jvm.hb hby at_339) (pc' := 341) rfl rfl ?_
          refine g_iconst X383.here hx (Jvm.hb hby at_341) (pc' := 342) rfl (z := (1 : Int32)) rfl ?_
          refine g_iadd X383.here hx (Jvm.hb hby at_342) (pc' := 343) rfl ?_
          refine g_icY X383.here hx (Jvm.hb hby at_343) (by decide) (pc' := 348) (by decide) (teq ((own_l62 q0 q1 q2 tt h0 h1 h2 h01 h02 h12 ht))).1 ?_
          refine g_aload X383.here hx (Jvm.hb hby at_348) (pc' := 350) rfl rfl rfl ?_
          refine g_iload X383.here hx (Jvm.hb hby at_350) (pc' := 352) rfl rfl ?_
          refine g_callV X383 hx hZ hown w_52 w_53 (own_nf hZ w_55) w_55 w_54 w_5 w_56 (by decide) (rm9 l Z a0 hw [] ad270 r0 r1 r2 r3 r4 r5 tt (own_ap (own_rm (own_rm (own_ap (own_ap (own_ap own_st0 q0 tt) q1 tt) q2 tt) q0) q2) (3 : Int32) tt) hh378 PLx381 rt) 0 (by decide) (by decide) e383 PLx381.1.1 (by rw [hml]; rfl) [(.int tt)] [] (lenOf pd_4 rfl) rfl rfl (Nat.le_of_eq rfl) (Jvm.hb hby at_352) (pc' := 355) rfl (cells' := 10) (slots' := 33) rfl rfl (by decide) (by decide) ?_
          intro v384 T384 L384 X384 hQ384
          obtain ⟨rfl, rfl, e384⟩ := hQ384
          rw [List.append_nil] at X384
          show own_Gl p e below s (own_Q0 n0) room_1.cells room_1.slots (T384.setTop (mkF m 355 #[.val (.int x0), .val (.int x1), .val (.int x2), .val (.int x3), .val (.int x4), .val (.int (3 : Int32)), .val (.int (0 : Int32)), .val (.int tt), .val (.int q0), .val (.ref ad253), .val (.ref ad261), .val (.ref ad270), .val (.ref ad365), .val (.int (1 : Int32))] [(.int ((own_ap (own_rm (own_rm (own_ap (own_ap (own_ap own_st0 q0 tt) q1 tt) q2 tt) q0) q2) (3 : Int32) tt) 3 tt.toNatClampNeg))]))
          refine g_aload X384.here hx (Jvm.hb hby at_355) (pc' := 357) rfl rfl rfl ?_
          refine g_iconst X384.here hx (Jvm.hb hby at_357) (pc' := 358) rfl (z := (0 : Int32)) rfl ?_
          refine g_iaload X384 hx hZ e384 V378 ⟨by decide, by decide⟩ (v := q1) rfl (Jvm.hb hby at_358) (pc' := 359) rfl ?_
          refine g_icY X384.here hx (Jvm.hb hby at_359) (by decide) (pc' := 364) (by decide) (teq (own_l63 q0 q1 q2 tt h0 h1 h2 h01 h02 h12 ht)).1 ?_
          refine g_aload X384.here hx (Jvm.hb hby at_364) (pc' := 366) rfl rfl rfl ?_
          refine g_iconst X384.here hx (Jvm.hb hby at_366) (pc' := 367) rfl (z := (0 : Int32)) rfl ?_
          refine g_iaload X384 hx hZ e384 V378 ⟨by decide, by decide⟩ (v := q1) rfl (Jvm.hb hby at_367) (pc' := 368) rfl ?_
          refine g_iconst X384.here hx (Jvm.hb hby at_368) (pc' := 369) rfl (z := (3 : Int32)) rfl ?_
          refine g_icN X384.here hx (Jvm.hb hby at_369) (pc' := 372) rfl (feq (fun q => by have := congrArg Int32.toInt q; simp only [Int32.reduceToInt] at this; omega)).1 ?_
          refine g_aload X384.here hx (Jvm.hb hby at_372) (pc' := 374) rfl rfl rfl ?_
          refine g_aload X384.here hx (Jvm.hb hby at_374) (pc' := 376) rfl rfl rfl ?_
          refine g_iconst X384.here hx (Jvm.hb hby at_376) (pc' := 377) rfl (z := (0 : Int32)) rfl ?_
          refine g_iaload X384 hx hZ e384 V378 ⟨by decide, by decide⟩ (v := q1) rfl (Jvm.hb hby at_377) (pc' := 378) rfl ?_
          refine g_callV X384 hx hZ hown w_57 w_58 (own_nf hZ w_60) w_60 w_59 w_5 w_61 (by decide) (rm10 l Z a0 hw [] ad270 r0 r1 r2 r3 r4 r5 q1 (own_ap (own_rm (own_rm (own_ap (own_ap (own_ap own_st0 q0 tt) q1 tt) q2 tt) q0) q2) (3 : Int32) tt) hh378 PLx381 ⟨h1.1, by omega⟩) 0 (by decide) (by decide) e384 PLx381.1.1 (by rw [hml]; rfl) [(.int q1)] [] (lenOf pd_4 rfl) rfl rfl (Nat.le_of_eq rfl) (Jvm.hb hby at_378) (pc' := 381) rfl (cells' := 10) (slots' := 33) rfl rfl (by decide) (by decide) ?_
          intro v385 T385 L385 X385 hQ385
          obtain ⟨rfl, rfl, e385⟩ := hQ385
          rw [List.append_nil] at X385
          show own_Gl p e below s (own_Q0 n0) room_1.cells room_1.slots (T385.setTop (mkF m 381 #[.val (.int x0), .val (.int x1), .val (.int x2), .val (.int x3), .val (.int x4), .val (.int (3 : Int32)), .val (.int (0 : Int32)), .val (.int tt), .val (.int q0), .val (.ref ad253), .val (.ref ad261), .val (.ref ad270), .val (.ref ad365), .val (.int (1 : Int32))] [(.int ((own_ap (own_rm (own_rm (own_ap (own_ap (own_ap own_st0 q0 tt) q1 tt) q2 tt) q0) q2) (3 : Int32) tt) 2 q1.toNatClampNeg))]))
          refine g_aload X385.here hx (Jvm.hb hby at_381) (pc' := 383) rfl rfl rfl ?_
          refine g_iconst X385.here hx (Jvm.hb hby at_383) (pc' := 384) rfl (z := (1 : Int32)) rfl ?_
          refine g_iaload X385 hx hZ e385 V378 ⟨by decide, by decide⟩ (v := (3 : Int32)) rfl (Jvm.hb hby at_384) (pc' := 385) rfl ?_
          refine g_icY X385.here hx (Jvm.hb hby at_385) (by decide) (pc' := 390) (by decide) (teq (own_l64 q0 q1 q2 tt h0 h1 h2 h01 h02 h12 ht)).1 ?_
          refine g_aload X385.here hx (Jvm.hb hby at_390) (pc' := 392) rfl rfl rfl ?_
          refine g_iconst X385.here hx (Jvm.hb hby at_392) (pc' := 393) rfl (z := (0 : Int32)) rfl ?_
          refine g_iaload X385 hx hZ e385 V378 ⟨by decide, by decide⟩ (v := q1) rfl (Jvm.hb hby at_393) (pc' := 394) rfl ?_
          refine g_iconst X385.here hx (Jvm.hb hby at_394) (pc' := 395) rfl (z := (3 : Int32)) rfl ?_
          refine g_icN X385.here hx (Jvm.hb hby at_395) (pc' := 398) rfl (feq (fun q => by have := congrArg Int32.toInt q; simp only [Int32.reduceToInt] at this; omega)).1 ?_
          refine g_aload X385.here hx (Jvm.hb hby at_398) (pc' := 400) rfl rfl rfl ?_
          refine g_iconst X385.here hx (Jvm.hb hby at_400) (pc' := 401) rfl (z := (1 : Int32)) rfl ?_
          refine g_iaload X385 hx hZ e385 V378 ⟨by decide, by decide⟩ (v := (3 : Int32)) rfl (Jvm.hb hby at_401) (pc' := 402) rfl ?_
          refine g_iconst X385.here hx (Jvm.hb hby at_402) (pc' := 403) rfl (z := (3 : Int32)) rfl ?_
          refine g_icY X385.here hx (Jvm.hb hby at_403) (by decide) (pc' := 424) (by decide) (teq (by decide)).1 ?_
          refine g_iconst X385.here hx (Jvm.hb hby at_424) (pc' := 425) rfl (z := (1 : Int32)) rfl ?_
          exact g_retN X385 hx hlk (t := .boolean) hret (by simp) (z' := (1 : Int32)) rfl (Jvm.hb hby at_425) (by decide) (by decide) ⟨rfl, N378⟩
    · refine g_iloadN X0.here hx (Jvm.hb hby at_19) (pc' := 20) rfl rfl ?_
      refine g_iconst X0.here hx (Jvm.hb hby at_20) (pc' := 21) rfl (z := (1 : Int32)) rfl ?_
      refine g_iand X0.here hx (Jvm.hb hby at_21) (pc' := 22) rfl ?_
      refine g_istore X0.here hx (Jvm.hb hby at_22) (pc' := 24) rfl (L' := #[.val (.int x0), .val (.int x1), .val (.int x2), .val (.int x3), .val (.int x4), .val (.int (3 : Int32)), .val (.int (1 : Int32)), .val (.int (x2 &&& (1 : Int32))), .unset, .unset, .unset, .unset, .unset, .unset]) rfl ?_
      generalize htt : (x2 &&& (1 : Int32)) = tt
      have ht := and_one x2
      rw [htt] at ht
      have rt := own_rg tt ht
      refine g_iload X0.here hx (Jvm.hb hby at_24) (pc' := 26) rfl rfl ?_
      refine g_ldc X0 hx hZ hown w_0 (Jvm.hb hby at_26) (pc' := 28) rfl ?_
      refine g_iand X0.here hx (Jvm.hb hby at_28) (pc' := 29) rfl ?_
      refine g_iconst X0.here hx (Jvm.hb hby at_29) (pc' := 30) rfl (z := (3 : Int32)) rfl ?_
      refine g_irem X0 hx (Jvm.hb hby at_30) (pc' := 31) rfl (by decide) ?_
      refine g_istore X0.here hx (Jvm.hb hby at_31) (pc' := 33) rfl (L' := #[.val (.int x0), .val (.int x1), .val (.int x2), .val (.int x3), .val (.int x4), .val (.int (3 : Int32)), .val (.int (1 : Int32)), .val (.int tt), .val (.int ((x4 &&& (2147483647 : Int32)) % (3 : Int32))), .unset, .unset, .unset, .unset, .unset]) rfl ?_
      generalize hq0 : ((x4 &&& (2147483647 : Int32)) % (3 : Int32)) = q0
      obtain ⟨q1, hq1⟩ : ∃ z, ((q0 + (1 : Int32)) % (3 : Int32)) = z := ⟨_, rfl⟩
      obtain ⟨q2, hq2⟩ : ∃ z, ((q0 + (2 : Int32)) % (3 : Int32)) = z := ⟨_, rfl⟩
      obtain ⟨h0, h1, h2, h01, h02, h12⟩ := own_pg x4 q0 q0 q1 q2 hq0 hq1 hq2
      refine g_iconst X0.here hx (Jvm.hb hby at_33) (pc' := 34) rfl (z := (3 : Int32)) rfl ?_
      refine g_newarr X0 hx hZ (ty := .int) rfl rfl w_1 e0 (Jvm.hb hby at_34) (pc' := 36) rfl (n := 3) (by decide) 3 (by decide) (by decide) (cells' := 1) (slots' := 3) rfl rfl (by decide) (by decide) ?_
      intro T386 hh386 ad386 gb386 X386 e386 E386 V386
      have g_ad386 : n0 ≤ ad386 := by rw [gb386]; exact Z0
      have Z387 : n0 ≤ hh386.size := Nat.le_trans Z0 E386.1
      refine g_astore X386.here hx (Jvm.hb hby at_36) (pc' := 38) rfl rfl (L' := #[.val (.int x0), .val (.int x1), .val (.int x2), .val (.int x3), .val (.int x4), .val (.int (3 : Int32)), .val (.int (1 : Int32)), .val (.int tt), .val (.int q0), .val (.ref ad386), .unset, .unset, .unset, .unset]) rfl ?_
      refine g_aload X386.here hx (Jvm.hb hby at_38) (pc' := 40) rfl rfl rfl ?_
      refine g_iconst X386.here hx (Jvm.hb hby at_40) (pc' := 41) rfl (z := (0 : Int32)) rfl ?_
      refine g_iload X386.here hx (Jvm.hb hby at_41) (pc' := 43) rfl rfl ?_
      refine g_iastore X386 hx hZ e386 V386 ⟨by decide, by decide⟩ (Jvm.hb hby at_43) (pc' := 44) rfl ?_
      intro T388 hh388 X388 e388 W388 V388
      have N388 := Fr.snoc X388 N0 g_ad386
      have Z389 : n0 ≤ hh388.size := (by rw [W388.size]; exact Z387)
      refine g_aload X388.here hx (Jvm.hb hby at_44) (pc' := 46) rfl rfl rfl ?_
      refine g_iconst X388.here hx (Jvm.hb hby at_46) (pc' := 47) rfl (z := (1 : Int32)) rfl ?_
      refine g_iload X388.here hx (Jvm.hb hby at_47) (pc' := 49) rfl rfl ?_
      refine g_iconst X388.here hx (Jvm.hb hby at_49) (pc' := 50) rfl (z := (1 : Int32)) rfl ?_
      refine g_iadd X388.here hx (Jvm.hb hby at_50) (pc' := 51) rfl ?_
      refine g_iconst X388.here hx (Jvm.hb hby at_51) (pc' := 52) rfl (z := (3 : Int32)) rfl ?_
      refine g_irem X388 hx (Jvm.hb hby at_52) (pc' := 53) rfl (by decide) ?_
      rw [hq1]
      refine g_iastore X388 hx hZ e388 V388 ⟨by decide, by decide⟩ (Jvm.hb hby at_53) (pc' := 54) rfl ?_
      intro T390 hh390 X390 e390 W390 V390
      have N390 := Fr.snoc X390 N388 g_ad386
      have Z391 : n0 ≤ hh390.size := (by rw [W390.size]; exact Z389)
      refine g_aload X390.here hx (Jvm.hb hby at_54) (pc' := 56) rfl rfl rfl ?_
      refine g_iconst X390.here hx (Jvm.hb hby at_56) (pc' := 57) rfl (z := (2 : Int32)) rfl ?_
      refine g_iload X390.here hx (Jvm.hb hby at_57) (pc' := 59) rfl rfl ?_
      refine g_iconst X390.here hx (Jvm.hb hby at_59) (pc' := 60) rfl (z := (2 : Int32)) rfl ?_
      refine g_iadd X390.here hx (Jvm.hb hby at_60) (pc' := 61) rfl ?_
      refine g_iconst X390.here hx (Jvm.hb hby at_61) (pc' := 62) rfl (z := (3 : Int32)) rfl ?_
      refine g_irem X390 hx (Jvm.hb hby at_62) (pc' := 63) rfl (by decide) ?_
      rw [hq2]
      refine g_iastore X390 hx hZ e390 V390 ⟨by decide, by decide⟩ (Jvm.hb hby at_63) (pc' := 64) rfl ?_
      intro T392 hh392 X392 e392 W392 V392
      have N392 := Fr.snoc X392 N390 g_ad386
      have Z393 : n0 ≤ hh392.size := (by rw [W392.size]; exact Z391)
      refine g_iconst X392.here hx (Jvm.hb hby at_64) (pc' := 65) rfl (z := (3 : Int32)) rfl ?_
      refine g_newarr X392 hx hZ (ty := .boolean) rfl rfl w_2 e392 (Jvm.hb hby at_65) (pc' := 67) rfl (n := 3) (by decide) 3 (by decide) (by decide) (cells' := 2) (slots' := 6) rfl rfl (by decide) (by decide) ?_
      intro T394 hh394 ad394 gb394 X394 e394 E394 V394
      have g_ad394 : n0 ≤ ad394 := by rw [gb394]; exact Z393
      have lt_ad386_ad394 : @LT.lt Nat _ ad386 ad394 := by rw [gb394]; exact V392.lt
      have ne_ad386_ad394 : ad386 ≠ ad394 := Nat.ne_of_lt lt_ad386_ad394
      have Z395 : n0 ≤ hh394.size := Nat.le_trans Z393 E394.1
      refine g_astore X394.here hx (Jvm.hb hby at_67) (pc' := 69) rfl rfl (L' := #[.val (.int x0), .val (.int x1), .val (.int x2), .val (.int x3), .val (.int x4), .val (.int (3 : Int32)), .val (.int (1 : Int32)), .val (.int tt), .val (.int q0), .val (.ref ad386), .val (.ref ad394), .unset, .unset, .unset]) rfl ?_
      refine g_aload X394.here hx (Jvm.hb hby at_69) (pc' := 71) rfl rfl rfl ?_
      refine g_iconst X394.here hx (Jvm.hb hby at_71) (pc' := 72) rfl (z := (0 : Int32)) rfl ?_
      refine g_iconst X394.here hx (Jvm.hb hby at_72) (pc' := 73) rfl (z := (1 : Int32)) rfl ?_
      refine g_zastore X394 hx hZ e394 V394 ⟨by decide, by decide⟩ (x' := (1 : Int32)) rfl (Jvm.hb hby at_73) (pc' := 74) rfl ?_
      intro T396 hh396 X396 e396 W396 V396
      have N396 := Fr.snoc X396 N392 g_ad394
      have Z397 : n0 ≤ hh396.size := (by rw [W396.size]; exact Z395)
      refine g_aload X396.here hx (Jvm.hb hby at_74) (pc' := 76) rfl rfl rfl ?_
      refine g_iconst X396.here hx (Jvm.hb hby at_76) (pc' := 77) rfl (z := (1 : Int32)) rfl ?_
      refine g_iload X396.here hx (Jvm.hb hby at_77) (pc' := 79) rfl rfl ?_
      refine g_iconst X396.here hx (Jvm.hb hby at_79) (pc' := 80) rfl (z := (1 : Int32)) rfl ?_
      refine g_icN X396.here hx (Jvm.hb hby at_80) (pc' := 83) rfl (tlt (by decide)).2.2.2 ?_
      refine g_iconst X396.here hx (Jvm.hb hby at_83) (pc' := 84) rfl (z := (1 : Int32)) rfl ?_
      refine g_goto X396.here hx (Jvm.hb hby at_84) (by decide) (pc' := 88) (by decide) ?_
      refine g_zastore X396 hx hZ e396 V396 ⟨by decide, by decide⟩ (x' := (1 : Int32)) rfl (Jvm.hb hby at_88) (pc' := 89) rfl ?_
      intro T398 hh398 X398 e398 W398 V398
      have N398 := Fr.snoc X398 N396 g_ad394
      have Z399 : n0 ≤ hh398.size := (by rw [W398.size]; exact Z397)
      refine g_aload X398.here hx (Jvm.hb hby at_89) (pc' := 91) rfl rfl rfl ?_
      refine g_iconst X398.here hx (Jvm.hb hby at_91) (pc' := 92) rfl (z := (2 : Int32)) rfl ?_
      refine g_iload X398.here hx (Jvm.hb hby at_92) (pc' := 94) rfl rfl ?_
      refine g_iconst X398.here hx (Jvm.hb hby at_94) (pc' := 95) rfl (z := (2 : Int32)) rfl ?_
      refine g_icN X398.here hx (Jvm.hb hby at_95) (pc' := 98) rfl (tlt (by decide)).2.2.2 ?_
      refine g_iconst X398.here hx (Jvm.hb hby at_98) (pc' := 99) rfl (z := (1 : Int32)) rfl ?_
      refine g_goto X398.here hx (Jvm.hb hby at_99) (by decide) (pc' := 103) (by decide) ?_
      refine g_zastore X398 hx hZ e398 V398 ⟨by decide, by decide⟩ (x' := (1 : Int32)) rfl (Jvm.hb hby at_103) (pc' := 104) rfl ?_
      intro T400 hh400 X400 e400 W400 V400
      have N400 := Fr.snoc X400 N398 g_ad394
      have Z401 : n0 ≤ hh400.size := (by rw [W400.size]; exact Z399)
      have F402 := ((((V392.ext E394).other W396 ne_ad386_ad394).other W398 ne_ad386_ad394).other W400 ne_ad386_ad394)
      refine g_new X400 hx hZ hown w_3 w_4 w_5 e400 (Jvm.hb hby at_104) (pc' := 107) rfl (cells' := 3) (slots' := 12) rfl rfl (by decide) (by decide) ?_
      intro T403 hh403 ad403 gb403 X403 e403 E403 A403 D403
      have g_ad403 : n0 ≤ ad403 := by rw [gb403]; exact Z401
      have lt_ad386_ad403 : @LT.lt Nat _ ad386 ad403 := by rw [gb403]; exact F402.lt
      have ne_ad386_ad403 : ad386 ≠ ad403 := Nat.ne_of_lt lt_ad386_ad403
      have lt_ad394_ad403 : @LT.lt Nat _ ad394 ad403 := by rw [gb403]; exact V400.lt
      have ne_ad394_ad403 : ad394 ≠ ad403 := Nat.ne_of_lt lt_ad394_ad403
      have Z404 : n0 ≤ hh403.size := Nat.le_trans Z401 E403.1
      have F403_list : Fld Z hh403 ad403 "com/example/tierstone/tierstone/PageLists" "list" "[B" .null := D403 (Or.inr w_14) (ty := (.array .byte)) (by decide)
      have F403_older : Fld Z hh403 ad403 "com/example/tierstone/tierstone/PageLists" "older" "[I" .null := D403 (Or.inr w_20) (ty := (.array .int)) (by decide)
      have F403_newer : Fld Z hh403 ad403 "com/example/tierstone/tierstone/PageLists" "newer" "[I" .null := D403 (Or.inr w_22) (ty := (.array .int)) (by decide)
      have F403_oldest : Fld Z hh403 ad403 "com/example/tierstone/tierstone/PageLists" "oldest" "[I" .null := D403 (Or.inr w_24) (ty := (.array .int)) (by decide)
      have F403_newest : Fld Z hh403 ad403 "com/example/tierstone/tierstone/PageLists" "newest" "[I" .null := D403 (Or.inr w_26) (ty := (.array .int)) (by decide)
      have F403_length : Fld Z hh403 ad403 "com/example/tierstone/tierstone/PageLists" "length" "[I" .null := D403 (Or.inr w_31) (ty := (.array .int)) (by decide)
      refine g_dup X403.here hx (Jvm.hb hby at_107) (pc' := 108) rfl rfl ?_
      refine g_iconst X403.here hx (Jvm.hb hby at_108) (pc' := 109) rfl (z := (2 : Int32)) rfl ?_
      refine g_iconst X403.here hx (Jvm.hb hby at_109) (pc' := 110) rfl (z := (4 : Int32)) rfl ?_
      have F405 := (F402.ext E403)
      have F406 := (V400.ext E403)
      refine g_callI X403 hx hZ rfl hown w_6 w_7 w_5 w_8 (by decide) (rm1 l Z a0 hw [] ad403 (2 : Int32) (4 : Int32) hh403 n0 Z404 g_ad403 A403 F403_list F403_older F403_newer F403_oldest F403_newest F403_length (by decide) (by decide)) 1 (by decide) (by decide) e403 (by rw [hml]; rfl) [(.int (2 : Int32)), (.int (4 : Int32))] [(.ref ad403)] (lenOf pd_2 rfl) rfl rfl (Nat.le_of_eq rfl) (Jvm.hb hby at_110) (pc' := 113) rfl (cells' := 9) (slots' := 30) rfl rfl (by decide) (by decide) ?_
      intro v407 T407 L407 X407 hQ407
      obtain ⟨rfl, Nq407, K407, r0, r1, r2, r3, r4, r5, hord, PL407⟩ := hQ407
      have N407 := Fr.app N400 Nq407
      have Z408 : n0 ≤ T407.heap.size := Nat.le_trans Z404 K407.1
      obtain ⟨o1, o2, o3, o4, o5, o6⟩ := id hord
      show own_Gl p e below s (own_Q0 n0) room_1.cells room_1.slots (T407.setTop (mkF m 113 #[.val (.int x0), .val (.int x1), .val (.int x2), .val (.int x3), .val (.int x4), .val (.int (3 : Int32)), .val (.int (1 : Int32)), .val (.int tt), .val (.int q0), .val (.ref ad386), .val (.ref ad394), .unset, .unset, .unset] [(.ref ad403)]))
      refine g_astore X407.here hx (Jvm.hb hby at_113) (pc' := 115) rfl rfl (L' := #[.val (.int x0), .val (.int x1), .val (.int x2), .val (.int x3), .val (.int x4), .val (.int (3 : Int32)), .val (.int (1 : Int32)), .val (.int tt), .val (.int q0), .val (.ref ad386), .val (.ref ad394), .val (.ref ad403), .unset, .unset]) rfl ?_
      refine g_aload X407.here hx (Jvm.hb hby at_115) (pc' := 117) rfl rfl rfl ?_
      refine g_aload X407.here hx (Jvm.hb hby at_117) (pc' := 119) rfl rfl rfl ?_
      refine g_iconst X407.here hx (Jvm.hb hby at_119) (pc' := 120) rfl (z := (0 : Int32)) rfl ?_
      have F409 := (F405.keep K407 (ninS ne_ad386_ad403 nin0))
      refine g_iaload X407 hx hZ rfl F409 ⟨by decide, by decide⟩ (v := q0) rfl (Jvm.hb hby at_120) (pc' := 121) rfl ?_
      refine g_iload X407.here hx (Jvm.hb hby at_121) (pc' := 123) rfl rfl ?_
      refine g_callV X407 hx hZ hown w_32 w_33 (own_nf hZ w_35) w_35 w_34 w_5 w_36 (by decide) (rm5 l Z a0 hw [] ad403 r0 r1 r2 r3 r4 r5 q0 tt own_st0 T407.heap n0 Z408 g_ad403 hord PL407 ⟨h0.1, by omega⟩ rt (own_l0 q0 q1 q2 tt h0 h1 h2 h01 h02 h12 ht)) 0 (by decide) (by decide) rfl PL407.1.1 (by rw [hml]; rfl) [(.int q0), (.int tt)] [] (lenOf pd_2 rfl) rfl rfl (Nat.le_of_eq rfl) (Jvm.hb hby at_123) (pc' := 126) rfl (cells' := 9) (slots' := 30) rfl rfl (by decide) (by decide) ?_
      intro v410 T410 L410 X410 hQ410
      obtain ⟨rfl, Nq410, K410, PL410⟩ := hQ410
      have N410 := Fr.app N407 Nq410
      have Z411 : n0 ≤ T410.heap.size := Nat.le_trans Z408 K410.1
      show own_Gl p e below s (own_Q0 n0) room_1.cells room_1.slots (T410.setTop (mkF m 126 #[.val (.int x0), .val (.int x1), .val (.int x2), .val (.int x3), .val (.int x4), .val (.int (3 : Int32)), .val (.int (1 : Int32)), .val (.int tt), .val (.int q0), .val (.ref ad386), .val (.ref ad394), .val (.ref ad403), .unset, .unset] []))
      refine g_iload X410.here hx (Jvm.hb hby at_126) (pc' := 128) rfl rfl ?_
      refine g_iconst X410.here hx (Jvm.hb hby at_128) (pc' := 129) rfl (z := (1 : Int32)) rfl ?_
      refine g_icN X410.here hx (Jvm.hb hby at_129) (pc' := 132) rfl (tlt (by decide)).2.2.2 ?_
      refine g_aload X410.here hx (Jvm.hb hby at_132) (pc' := 134) rfl rfl rfl ?_
      refine g_aload X410.here hx (Jvm.hb hby at_134) (pc' := 136) rfl rfl rfl ?_
      refine g_iconst X410.here hx (Jvm.hb hby at_136) (pc' := 137) rfl (z := (1 : Int32)) rfl ?_
      have F412 := (F409.keep K410 (ninS (Nat.ne_of_lt (by omega)) (ninS (Nat.ne_of_lt (by omega)) (ninS (Nat.ne_of_lt (by omega)) (ninS (Nat.ne_of_lt (by omega)) (ninS (Nat.ne_of_lt (by omega)) (ninS (Nat.ne_of_lt (by omega)) nin0)))))))
      refine g_iaload X410 hx hZ rfl F412 ⟨by decide, by decide⟩ (v := q1) rfl (Jvm.hb hby at_137) (pc' := 138) rfl ?_
      refine g_iload X410.here hx (Jvm.hb hby at_138) (pc' := 140) rfl rfl ?_
      refine g_callV X410 hx hZ hown w_32 w_33 (own_nf hZ w_35) w_35 w_34 w_5 w_36 (by decide) (rm5 l Z a0 hw [] ad403 r0 r1 r2 r3 r4 r5 q1 tt (own_ap own_st0 q0 tt) T410.heap n0 Z411 g_ad403 hord PL410 ⟨h1.1, by omega⟩ rt (own_l8 q0 q1 q2 tt h0 h1 h2 h01 h02 h12 ht)) 0 (by decide) (by decide) rfl PL410.1.1 (by rw [hml]; rfl) [(.int q1), (.int tt)] [] (lenOf pd_2 rfl) rfl rfl (Nat.le_of_eq rfl) (Jvm.hb hby at_140) (pc' := 143) rfl (cells' := 9) (slots' := 30) rfl rfl (by decide) (by decide) ?_
      intro v413 T413 L413 X413 hQ413
      obtain ⟨rfl, Nq413, K413, PL413⟩ := hQ413
      have N413 := Fr.app N410 Nq413
      have Z414 : n0 ≤ T413.heap.size := Nat.le_trans Z411 K413.1
      show own_Gl p e below s (own_Q0 n0) room_1.cells room_1.slots (T413.setTop (mkF m 143 #[.val (.int x0), .val (.int x1), .val (.int x2), .val (.int x3), .val (.int x4), .val (.int (3 : Int32)), .val (.int (1 : Int32)), .val (.int tt), .val (.int q0), .val (.ref ad386), .val (.ref ad394), .val (.ref ad403), .unset, .unset] []))
      refine g_iload X413.here hx (Jvm.hb hby at_143) (pc' := 145) rfl rfl ?_
      refine g_iconst X413.here hx (Jvm.hb hby at_145) (pc' := 146) rfl (z := (2 : Int32)) rfl ?_
      refine g_icN X413.here hx (Jvm.hb hby at_146) (pc' := 149) rfl (tlt (by decide)).2.2.2 ?_
      refine g_aload X413.here hx (Jvm.hb hby at_149) (pc' := 151) rfl rfl rfl ?_
      refine g_aload X413.here hx (Jvm.hb hby at_151) (pc' := 153) rfl rfl rfl ?_
      refine g_iconst X413.here hx (Jvm.hb hby at_153) (pc' := 154) rfl (z := (2 : Int32)) rfl ?_
      have F415 := (F412.keep K413 (ninS (Nat.ne_of_lt (by omega)) (ninS (Nat.ne_of_lt (by omega)) (ninS (Nat.ne_of_lt (by omega)) (ninS (Nat.ne_of_lt (by omega)) (ninS (Nat.ne_of_lt (by omega)) (ninS (Nat.ne_of_lt (by omega)) nin0)))))))
      refine g_iaload X413 hx hZ rfl F415 ⟨by decide, by decide⟩ (v := q2) rfl (Jvm.hb hby at_154) (pc' := 155) rfl ?_
      refine g_iload X413.here hx (Jvm.hb hby at_155) (pc' := 157) rfl rfl ?_
      refine g_callV X413 hx hZ hown w_32 w_33 (own_nf hZ w_35) w_35 w_34 w_5 w_36 (by decide) (rm5 l Z a0 hw [] ad403 r0 r1 r2 r3 r4 r5 q2 tt (own_ap (own_ap own_st0 q0 tt) q1 tt) T413.heap n0 Z414 g_ad403 hord PL413 ⟨h2.1, by omega⟩ rt (own_l39 q0 q1 q2 tt h0 h1 h2 h01 h02 h12 ht)) 0 (by decide) (by decide) rfl PL413.1.1 (by rw [hml]; rfl) [(.int q2), (.int tt)] [] (lenOf pd_2 rfl) rfl rfl (Nat.le_of_eq rfl) (Jvm.hb hby at_157) (pc' := 160) rfl (cells' := 9) (slots' := 30) rfl rfl (by decide) (by decide) ?_
      intro v416 T416 L416 X416 hQ416
      obtain ⟨rfl, Nq416, K416, PL416⟩ := hQ416
      have N416 := Fr.app N413 Nq416
      have Z417 : n0 ≤ T416.heap.size := Nat.le_trans Z414 K416.1
      show own_Gl p e below s (own_Q0 n0) room_1.cells room_1.slots (T416.setTop (mkF m 160 #[.val (.int x0), .val (.int x1), .val (.int x2), .val (.int x3), .val (.int x4), .val (.int (3 : Int32)), .val (.int (1 : Int32)), .val (.int tt), .val (.int q0), .val (.ref ad386), .val (.ref ad394), .val (.ref ad403), .unset, .unset] []))
      refine g_aload X416.here hx (Jvm.hb hby at_160) (pc' := 162) rfl rfl rfl ?_
      refine g_aload X416.here hx (Jvm.hb hby at_162) (pc' := 164) rfl rfl rfl ?_
      refine g_iload X416.here hx (Jvm.hb hby at_164) (pc' := 166) rfl rfl ?_
      have F418 := (F415.keep K416 (ninS (Nat.ne_of_lt (by omega)) (ninS (Nat.ne_of_lt (by omega)) (ninS (Nat.ne_of_lt (by omega)) (ninS (Nat.ne_of_lt (by omega)) (ninS (Nat.ne_of_lt (by omega)) (ninS (Nat.ne_of_lt (by omega)) nin0)))))))
      refine g_iaload X416 hx hZ rfl F418 ⟨by decide, by decide⟩ (v := q1) rfl (Jvm.hb hby at_166) (pc' := 167) rfl ?_
      refine g_callV X416 hx hZ hown w_37 w_38 (own_nf hZ w_40) w_40 w_39 w_5 w_41 (by decide) (rm6 l Z a0 hw [] ad403 r0 r1 r2 r3 r4 r5 q1 (own_ap (own_ap (own_ap own_st0 q0 tt) q1 tt) q2 tt) T416.heap n0 Z417 g_ad403 hord PL416 ⟨h1.1, by omega⟩ (own_l65 q0 q1 q2 tt h0 h1 h2 h01 h02 h12 ht) (own_l66 q0 q1 q2 tt h0 h1 h2 h01 h02 h12 ht) (own_l67 q0 q1 q2 tt h0 h1 h2 h01 h02 h12 ht)) 0 (by decide) (by decide) rfl PL416.1.1 (by rw [hml]; rfl) [(.int q1)] [] (lenOf pd_3 rfl) rfl rfl (Nat.le_of_eq rfl) (Jvm.hb hby at_167) (pc' := 170) rfl (cells' := 9) (slots' := 30) rfl rfl (by decide) (by decide) ?_
      intro v419 T419 L419 X419 hQ419
      obtain ⟨rfl, Nq419, K419, PL419⟩ := hQ419
      have N419 := Fr.app N416 Nq419
      have Z420 : n0 ≤ T419.heap.size := Nat.le_trans Z417 K419.1
      show own_Gl p e below s (own_Q0 n0) room_1.cells room_1.slots (T419.setTop (mkF m 170 #[.val (.int x0), .val (.int x1), .val (.int x2), .val (.int x3), .val (.int x4), .val (.int (3 : Int32)), .val (.int (1 : Int32)), .val (.int tt), .val (.int q0), .val (.ref ad386), .val (.ref ad394), .val (.ref ad403), .unset, .unset] []))
      refine g_aload X419.here hx (Jvm.hb hby at_170) (pc' := 172) rfl rfl rfl ?_
      refine g_iload X419.here hx (Jvm.hb hby at_172) (pc' := 174) rfl rfl ?_
      refine g_iconst X419.here hx (Jvm.hb hby at_174) (pc' := 175) rfl (z := (0 : Int32)) rfl ?_
      have F421 := (((((F406.keep K407 (ninS ne_ad394_ad403 nin0)).keep K410 (ninS (Nat.ne_of_lt (by omega)) (ninS (Nat.ne_of_lt (by omega)) (ninS (Nat.ne_of_lt (by omega)) (ninS (Nat.ne_of_lt (by omega)) (ninS (Nat.ne_of_lt (by omega)) (ninS (Nat.ne_of_lt (by omega)) nin0))))))).keep K413 (ninS (Nat.ne_of_lt (by omega)) (ninS (Nat.ne_of_lt (by omega)) (ninS (Nat.ne_of_lt (by omega)) (ninS (Nat.ne_of_lt (by omega)) (ninS (Nat.ne_of_lt (by omega)) (ninS (Nat.ne_of_lt (by omega)) nin0))))))).keep K416 (ninS (Nat.ne_of_lt (by omega)) (ninS (Nat.ne_of_lt (by omega)) (ninS (Nat.ne_of_lt (by omega)) (ninS (Nat.ne_of_lt (by omega)) (ninS (Nat.ne_of_lt (by omega)) (ninS (Nat.ne_of_lt (by omega)) nin0))))))).keep K419 (ninS (Nat.ne_of_lt (by omega)) (ninS (Nat.ne_of_lt (by omega)) (ninS (Nat.ne_of_lt (by omega)) (ninS (Nat.ne_of_lt (by omega)) (ninS (Nat.ne_of_lt (by omega)) (ninS (Nat.ne_of_lt (by omega)) nin0)))))))
      refine g_zastore X419 hx hZ rfl F421 ⟨by decide, by decide⟩ (x' := (0 : Int32)) rfl (Jvm.hb hby at_175) (pc' := 176) rfl ?_
      intro T422 hh422 X422 e422 W422 V422
      have N422 := Fr.snoc X422 N419 g_ad394
      have Z423 : n0 ≤ hh422.size := (by rw [W422.size]; exact Z420)
      refine g_iloadN X422.here hx (Jvm.hb hby at_176) (pc' := 177) rfl rfl ?_
      refine g_iconst X422.here hx (Jvm.hb hby at_177) (pc' := 178) rfl (z := (1 : Int32)) rfl ?_
      refine g_iand X422.here hx (Jvm.hb hby at_178) (pc' := 179) rfl ?_
      by_cases hc179 : (x3 &&& (1 : Int32)) = (0 : Int32)
      · refine g_ifY X422.here hx (Jvm.hb hby at_179) (by decide) (pc' := 222) (by decide) ((if0 _ _).trans (teq hc179).1) ?_
        refine g_aload X422.here hx (Jvm.hb hby at_222) (pc' := 224) rfl rfl rfl ?_
        refine g_iconst X422.here hx (Jvm.hb hby at_224) (pc' := 225) rfl (z := (3 : Int32)) rfl ?_
        refine g_iload X422.here hx (Jvm.hb hby at_225) (pc' := 227) rfl rfl ?_
        have PLx424 := (own_PL.other PL419 W422 hord (by omega))
        refine g_callV X422 hx hZ hown w_32 w_33 (own_nf hZ w_35) w_35 w_34 w_5 w_36 (by decide) (rm5 l Z a0 hw [] ad403 r0 r1 r2 r3 r4 r5 (3 : Int32) tt (own_rm (own_ap (own_ap (own_ap own_st0 q0 tt) q1 tt) q2 tt) q1) hh422 n0 Z423 g_ad403 hord PLx424 ⟨by decide, by decide⟩ rt (own_l68 q0 q1 q2 tt h0 h1 h2 h01 h02 h12 ht)) 0 (by decide) (by decide) e422 PLx424.1.1 (by rw [hml]; rfl) [(.int (3 : Int32)), (.int tt)] [] (lenOf pd_2 rfl) rfl rfl (Nat.le_of_eq rfl) (Jvm.hb hby at_227) (pc' := 230) rfl (cells' := 9) (slots' := 30) rfl rfl (by decide) (by decide) ?_
        intro v425 T425 L425 X425 hQ425
        obtain ⟨rfl, Nq425, K425, PL425⟩ := hQ425
        have N425 := Fr.app N422 Nq425
        have Z426 : n0 ≤ T425.heap.size := Nat.le_trans Z423 K425.1
        show own_Gl p e below s (own_Q0 n0) room_1.cells room_1.slots (T425.setTop (mkF m 230 #[.val (.int x0), .val (.int x1), .val (.int x2), .val (.int x3), .val (.int x4), .val (.int (3 : Int32)), .val (.int (1 : Int32)), .val (.int tt), .val (.int q0), .val (.ref ad386), .val (.ref ad394), .val (.ref ad403), .unset, .unset] []))
        refine g_iconst X425.here hx (Jvm.hb hby at_230) (pc' := 231) rfl (z := (3 : Int32)) rfl ?_
        have F427 := (((F418.keep K419 (ninS (Nat.ne_of_lt (by omega)) (ninS (Nat.ne_of_lt (by omega)) (ninS (Nat.ne_of_lt (by omega)) (ninS (Nat.ne_of_lt (by omega)) (ninS (Nat.ne_of_lt (by omega)) (ninS (Nat.ne_of_lt (by omega)) nin0))))))).other W422 ne_ad386_ad394).keep K425 (ninS (Nat.ne_of_lt (by omega)) (ninS (Nat.ne_of_lt (by omega)) (ninS (Nat.ne_of_lt (by omega)) (ninS (Nat.ne_of_lt (by omega)) (ninS (Nat.ne_of_lt (by omega)) (ninS (Nat.ne_of_lt (by omega)) nin0)))))))
        have F428 := (V422.keep K425 (ninS (Nat.ne_of_lt (by omega)) (ninS (Nat.ne_of_lt (by omega)) (ninS (Nat.ne_of_lt (by omega)) (ninS (Nat.ne_of_lt (by omega)) (ninS (Nat.ne_of_lt (by omega)) (ninS (Nat.ne_of_lt (by omega)) nin0)))))))
        refine g_newarr X425 hx hZ (ty := .int) rfl rfl w_1 rfl (Jvm.hb hby at_231) (pc' := 233) rfl (n := 3) (by decide) 3 (by decide) (by decide) (cells' := 10) (slots' := 33) rfl rfl (by decide) (by decide) ?_
        intro T429 hh429 ad429 gb429 X429 e429 E429 V429
        have g_ad429 : n0 ≤ ad429 := by rw [gb429]; exact Z426
        have lt_ad386_ad429 : @LT.lt Nat _ ad386 ad429 := by rw [gb429]; exact F427.lt
        have ne_ad386_ad429 : ad386 ≠ ad429 := Nat.ne_of_lt lt_ad386_ad429
        have lt_ad394_ad429 : @LT.lt Nat _ ad394 ad429 := by rw [gb429]; exact F428.lt
        have ne_ad394_ad429 : ad394 ≠ ad429 := Nat.ne_of_lt lt_ad394_ad429
        have lt_ad403_ad429 : @LT.lt Nat _ ad403 ad429 := by rw [gb429]; exact PL425.1.1.lt
        have ne_ad403_ad429 : ad403 ≠ ad429 := Nat.ne_of_lt lt_ad403_ad429
        have Z430 : n0 ≤ hh429.size := Nat.le_trans Z426 E429.1
        have lt5 : @LT.lt Nat _ r5 ad429 := by rw [gb429]; exact own_PL.lt5 PL425
        refine g_astore X429.here hx (Jvm.hb hby at_233) (pc' := 235) rfl rfl (L' := #[.val (.int x0), .val (.int x1), .val (.int x2), .val (.int x3), .val (.int x4), .val (.int (3 : Int32)), .val (.int (1 : Int32)), .val (.int tt), .val (.int q0), .val (.ref ad386), .val (.ref ad394), .val (.ref ad403), .val (.ref ad429), .unset]) rfl ?_
        refine g_aload X429.here hx (Jvm.hb hby at_235) (pc' := 237) rfl rfl rfl ?_
        refine g_iconst X429.here hx (Jvm.hb hby at_237) (pc' := 238) rfl (z := (0 : Int32)) rfl ?_
        refine g_iconst X429.here hx (Jvm.hb hby at_238) (pc' := 239) rfl (z := (-1 : Int32)) rfl ?_
        refine g_iastore X429 hx hZ e429 V429 ⟨by decide, by decide⟩ (Jvm.hb hby at_239) (pc' := 240) rfl ?_
        intro T431 hh431 X431 e431 W431 V431
        have N431 := Fr.snoc X431 N425 g_ad429
        have Z432 : n0 ≤ hh431.size := (by rw [W431.size]; exact Z430)
        refine g_aload X431.here hx (Jvm.hb hby at_240) (pc' := 242) rfl rfl rfl ?_
        refine g_iconst X431.here hx (Jvm.hb hby at_242) (pc' := 243) rfl (z := (1 : Int32)) rfl ?_
        refine g_iconst X431.here hx (Jvm.hb hby at_243) (pc' := 244) rfl (z := (-1 : Int32)) rfl ?_
        refine g_iastore X431 hx hZ e431 V431 ⟨by decide, by decide⟩ (Jvm.hb hby at_244) (pc' := 245) rfl ?_
        intro T433 hh433 X433 e433 W433 V433
        have N433 := Fr.snoc X433 N431 g_ad429
        have Z434 : n0 ≤ hh433.size := (by rw [W433.size]; exact Z432)
        refine g_aload X433.here hx (Jvm.hb hby at_245) (pc' := 247) rfl rfl rfl ?_
        refine g_iconst X433.here hx (Jvm.hb hby at_247) (pc' := 248) rfl (z := (2 : Int32)) rfl ?_
        refine g_iconst X433.here hx (Jvm.hb hby at_248) (pc' := 249) rfl (z := (-1 : Int32)) rfl ?_
        refine g_iastore X433 hx hZ e433 V433 ⟨by decide, by decide⟩ (Jvm.hb hby at_249) (pc' := 250) rfl ?_
        intro T435 hh435 X435 e435 W435 V435
        have N435 := Fr.snoc X435 N433 g_ad429
        have Z436 : n0 ≤ hh435.size := (by rw [W435.size]; exact Z434)
        refine g_iconst X435.here hx (Jvm.hb hby at_250) (pc' := 251) rfl (z := (0 : Int32)) rfl ?_
        refine g_istore X435.here hx (Jvm.hb hby at_251) (pc' := 253) rfl (L' := #[.val (.int x0), .val (.int x1), .val (.int x2), .val (.int x3), .val (.int x4), .val (.int (3 : Int32)), .val (.int (1 : Int32)), .val (.int tt), .val (.int q0), .val (.ref ad386), .val (.ref ad394), .val (.ref ad403), .val (.ref ad429), .val (.int (0 : Int32))]) rfl ?_
        refine g_aload X435.here hx (Jvm.hb hby at_253) (pc' := 255) rfl rfl rfl ?_
        refine g_iconst X435.here hx (Jvm.hb hby at_255) (pc' := 256) rfl (z := (0 : Int32)) rfl ?_
        have F437 := ((((F428.ext E429).other W431 ne_ad394_ad429).other W433 ne_ad394_ad429).other W435 ne_ad394_ad429)
        refine g_zaload X435 hx hZ e435 F437 ⟨by decide, by decide⟩ (v := (1 : Int32)) rfl (Jvm.hb hby at_256) (pc' := 257) rfl ?_
        refine g_ifN X435.here hx (Jvm.hb hby at_257) (pc' := 260) rfl ((if0 _ _).trans (feq (by decide)).1) ?_
        refine g_aload X435.here hx (Jvm.hb hby at_260) (pc' := 262) rfl rfl rfl ?_
        refine g_iload X435.here hx (Jvm.hb hby at_262) (pc' := 264) rfl rfl ?_
        refine g_aload X435.here hx (Jvm.hb hby at_264) (pc' := 266) rfl rfl rfl ?_
        refine g_iconst X435.here hx (Jvm.hb hby at_266) (pc' := 267) rfl (z := (0 : Int32)) rfl ?_
        have F438 := ((((F427.ext E429).other W431 ne_ad386_ad429).other W433 ne_ad386_ad429).other W435 ne_ad386_ad429)
        refine g_iaload X435 hx hZ e435 F438 ⟨by decide, by decide⟩ (v := q0) rfl (Jvm.hb hby at_267) (pc' := 268) rfl ?_
        refine g_iastore X435 hx hZ e435 V435 ⟨by decide, by decide⟩ (Jvm.hb hby at_268) (pc' := 269) rfl ?_
        intro T439 hh439 X439 e439 W439 V439
        have N439 := Fr.snoc X439 N435 g_ad429
        have Z440 : n0 ≤ hh439.size := (by rw [W439.size]; exact Z436)
        refine g_iinc X439.here hx (Jvm.hb hby at_269) (pc' := 272) rfl (z := (1 : Int32)) rfl rfl (L' := #[.val (.int x0), .val (.int x1), .val (.int x2), .val (.int x3), .val (.int x4), .val (.int (3 : Int32)), .val (.int (1 : Int32)), .val (.int tt), .val (.int q0), .val (.ref ad386), .val (.ref ad394), .val (.ref ad403), .val (.ref ad429), .val (.int (1 : Int32))]) rfl ?_
        refine g_aload X439.here hx (Jvm.hb hby at_272) (pc' := 274) rfl rfl rfl ?_
        refine g_iconst X439.here hx (Jvm.hb hby at_274) (pc' := 275) rfl (z := (1 : Int32)) rfl ?_
        have F441 := (F437.other W439 ne_ad394_ad429)
        refine g_zaload X439 hx hZ e439 F441 ⟨by decide, by decide⟩ (v := (0 : Int32)) rfl (Jvm.hb hby at_275) (pc' := 276) rfl ?_
        refine g_ifY X439.here hx (Jvm.hb hby at_276) (by decide) (pc' := 291) (by decide) ((if0 _ _).trans (teq (by decide)).1) ?_
        refine g_aload X439.here hx (Jvm.hb hby at_291) (pc' := 293) rfl rfl rfl ?_
        refine g_iconst X439.here hx (Jvm.hb hby at_293) (pc' := 294) rfl (z := (2 : Int32)) rfl ?_
        refine g_zaload X439 hx hZ e439 F441 ⟨by decide, by decide⟩ (v := (1 : Int32)) rfl (Jvm.hb hby at_294) (pc' := 295) rfl ?_
        refine g_ifN X439.here hx (Jvm.hb hby at_295) (pc' := 298) rfl ((if0 _ _).trans (feq (by decide)).1) ?_
        refine g_aload X439.here hx (Jvm.hb hby at_298) (pc' := 300) rfl rfl rfl ?_
        refine g_iload X439.here hx (Jvm.hb hby at_300) (pc' := 302) rfl rfl ?_
        refine g_aload X439.here hx (Jvm.hb hby at_302) (pc' := 304) rfl rfl rfl ?_
        refine g_iconst X439.here hx (Jvm.hb hby at_304) (pc' := 305) rfl (z := (2 : Int32)) rfl ?_
        have F442 := (F438.other W439 ne_ad386_ad429)
        refine g_iaload X439 hx hZ e439 F442 ⟨by decide, by decide⟩ (v := q2) rfl (Jvm.hb hby at_305) (pc' := 306) rfl ?_
        refine g_iastore X439 hx hZ e439 V439 ⟨by decide, by decide⟩ (Jvm.hb hby at_306) (pc' := 307) rfl ?_
        intro T443 hh443 X443 e443 W443 V443
        have N443 := Fr.snoc X443 N439 g_ad429
        have Z444 : n0 ≤ hh443.size := (by rw [W443.size]; exact Z440)
        refine g_iinc X443.here hx (Jvm.hb hby at_307) (pc' := 310) rfl (z := (1 : Int32)) rfl rfl (L' := #[.val (.int x0), .val (.int x1), .val (.int x2), .val (.int x3), .val (.int x4), .val (.int (3 : Int32)), .val (.int (1 : Int32)), .val (.int tt), .val (.int q0), .val (.ref ad386), .val (.ref ad394), .val (.ref ad403), .val (.ref ad429), .val (.int (2 : Int32))]) rfl ?_
        refine g_aload X443.here hx (Jvm.hb hby at_310) (pc' := 312) rfl rfl rfl ?_
        refine g_iload X443.here hx (Jvm.hb hby at_312) (pc' := 314) rfl rfl ?_
        refine g_iconst X443.here hx (Jvm.hb hby at_314) (pc' := 315) rfl (z := (3 : Int32)) rfl ?_
        refine g_iastore X443 hx hZ e443 V443 ⟨by decide, by decide⟩ (Jvm.hb hby at_315) (pc' := 316) rfl ?_
        intro T445 hh445 X445 e445 W445 V445
        have N445 := Fr.snoc X445 N443 g_ad429
        have Z446 : n0 ≤ hh445.size := (by rw [W445.size]; exact Z444)
        refine g_aload X445.here hx (Jvm.hb hby at_316) (pc' := 318) rfl rfl rfl ?_
        refine g_aload X445.here hx (Jvm.hb hby at_318) (pc' := 320) rfl rfl rfl ?_
        refine g_iload X445.here hx (Jvm.hb hby at_320) (pc' := 322) rfl rfl ?_
        have F447 := ((F442.other W443 ne_ad386_ad429).other W445 ne_ad386_ad429)
        refine g_iaload X445 hx hZ e445 F447 ⟨by decide, by decide⟩ (v := q1) rfl (Jvm.hb hby at_322) (pc' := 323) rfl ?_
        have PLx448 := (own_PL.other (own_PL.other (own_PL.other (own_PL.other (own_PL.other (own_PL.other (own_PL.ext PL425 E429) W431 hord (by omega)) W433 hord (by omega)) W435 hord (by omega)) W439 hord (by omega)) W443 hord (by omega)) W445 hord (by omega))
        refine g_callV X445 hx hZ hown w_42 w_43 (own_nf hZ w_45) w_45 w_44 w_5 w_46 (by decide) (rm7 l Z a0 hw [] ad403 r0 r1 r2 r3 r4 r5 q1 (own_ap (own_rm (own_ap (own_ap (own_ap own_st0 q0 tt) q1 tt) q2 tt) q1) (3 : Int32) tt) hh445 PLx448 ⟨h1.1, by omega⟩) 0 (by decide) (by decide) e445 PLx448.1.1 (by rw [hml]; rfl) [(.int q1)] [] (lenOf pd_4 rfl) rfl rfl (Nat.le_of_eq rfl) (Jvm.hb hby at_323) (pc' := 326) rfl (cells' := 10) (slots' := 33) rfl rfl (by decide) (by decide) ?_
        intro v449 T449 L449 X449 hQ449
        obtain ⟨rfl, rfl, e449⟩ := hQ449
        rw [List.append_nil] at X449
        show own_Gl p e below s (own_Q0 n0) room_1.cells room_1.slots (T449.setTop (mkF m 326 #[.val (.int x0), .val (.int x1), .val (.int x2), .val (.int x3), .val (.int x4), .val (.int (3 : Int32)), .val (.int (1 : Int32)), .val (.int tt), .val (.int q0), .val (.ref ad386), .val (.ref ad394), .val (.ref ad403), .val (.ref ad429), .val (.int (2 : Int32))] [(.int ((own_ap (own_rm (own_ap (own_ap (own_ap own_st0 q0 tt) q1 tt) q2 tt) q1) (3 : Int32) tt) 0 q1.toNatClampNeg))]))
        refine g_iconst X449.here hx (Jvm.hb hby at_326) (pc' := 327) rfl (z := (-1 : Int32)) rfl ?_
        refine g_icY X449.here hx (Jvm.hb hby at_327) (by decide) (pc' := 332) (by decide) (teq (own_l69 q0 q1 q2 tt h0 h1 h2 h01 h02 h12 ht)).1 ?_
        refine g_aload X449.here hx (Jvm.hb hby at_332) (pc' := 334) rfl rfl rfl ?_
        refine g_iload X449.here hx (Jvm.hb hby at_334) (pc' := 336) rfl rfl ?_
        refine g_callV X449 hx hZ hown w_47 w_48 (own_nf hZ w_50) w_50 w_49 w_5 w_51 (by decide) (rm8 l Z a0 hw [] ad403 r0 r1 r2 r3 r4 r5 tt (own_ap (own_rm (own_ap (own_ap (own_ap own_st0 q0 tt) q1 tt) q2 tt) q1) (3 : Int32) tt) hh445 PLx448 rt) 0 (by decide) (by decide) e449 PLx448.1.1 (by rw [hml]; rfl) [(.int tt)] [] (lenOf pd_4 rfl) rfl rfl (Nat.le_of_eq rfl) (Jvm.hb hby at_336) (pc' := 339) rfl (cells' := 10) (slots' := 33) rfl rfl (by decide) (by decide) ?_
        intro v450 T450 L450 X450 hQ450
        obtain ⟨rfl, rfl, e450⟩ := hQ450
        rw [List.append_nil] at X450
        show own_Gl p e below s (own_Q0 n0) room_1.cells room_1.slots (T450.setTop (mkF m 339 #[.val (.int x0), .val (.int x1), .val (.int x2), .val (.int x3), .val (.int x4), .val (.int (3 : Int32)), .val (.int (1 : Int32)), .val (.int tt), .val (.int q0), .val (.ref ad386), .val (.ref ad394), .val (.ref ad403), .val (.ref ad429), .val (.int (2 : Int32))] [(.int ((own_ap (own_rm (own_ap (own_ap (own_ap own_st0 q0 tt) q1 tt) q2 tt) q1) (3 : Int32) tt) 5 tt.toNatClampNeg))]))
        refine g_iload X450.here hx (Jvm.hb hby at_339) (pc' := 341) rfl rfl ?_
        refine g_iconst X450.here hx (Jvm.hb hby at_341) (pc' := 342) rfl (z := (1 : Int32)) rfl ?_
        refine g_iadd X450.here hx (Jvm.hb hby at_342) (pc' := 343) rfl ?_
        refine g_icY X450.here hx (Jvm.hb hby at_343) (by decide) (pc' := 348) (by decide) (teq ((own_l70 q0 q1 q2 tt h0 h1 h2 h01 h02 h12 ht))).1 ?_
        refine g_aload X450.here hx (Jvm.hb hby at_348) (pc' := 350) rfl rfl rfl ?_
        refine g_iload X450.here hx (Jvm.hb hby at_350) (pc' := 352) rfl rfl ?_
        refine g_callV X450 hx hZ hown w_52 w_53 (own_nf hZ w_55) w_55 w_54 w_5 w_56 (by decide) (rm9 l Z a0 hw [] ad403 r0 r1 r2 r3 r4 r5 tt (own_ap (own_rm (own_ap (own_ap (own_ap own_st0 q0 tt) q1 tt) q2 tt) q1) (3 : Int32) tt) hh445 PLx448 rt) 0 (by decide) (by decide) e450 PLx448.1.1 (by rw [hml]; rfl) [(.int tt)] [] (lenOf pd_4 rfl) rfl rfl (Nat.le_of_eq rfl) (Jvm.hb hby at_352) (pc' := 355) rfl (cells' := 10) (slots' := 33) rfl rfl (by decide) (by decide) ?_
        intro v451 T451 L451 X451 hQ451
        obtain ⟨rfl, rfl, e451⟩ := hQ451
        rw [List.append_nil] at X451
        show own_Gl p e below s (own_Q0 n0) room_1.cells room_1.slots (T451.setTop (mkF m 355 #[.val (.int x0), .val (.int x1), .val (.int x2), .val (.int x3), .val (.int x4), .val (.int (3 : Int32)), .val (.int (1 : Int32)), .val (.int tt), .val (.int q0), .val (.ref ad386), .val (.ref ad394), .val (.ref ad403), .val (.ref ad429), .val (.int (2 : Int32))] [(.int ((own_ap (own_rm (own_ap (own_ap (own_ap own_st0 q0 tt) q1 tt) q2 tt) q1) (3 : Int32) tt) 3 tt.toNatClampNeg))]))
        refine g_aload X451.here hx (Jvm.hb hby at_355) (pc' := 357) rfl rfl rfl ?_
        refine g_iconst X451.here hx (Jvm.hb hby at_357) (pc' := 358) rfl (z := (0 : Int32)) rfl ?_
        refine g_iaload X451 hx hZ e451 V445 ⟨by decide, by decide⟩ (v := q0) rfl (Jvm.hb hby at_358) (pc' := 359) rfl ?_
        refine g_icY X451.here hx (Jvm.hb hby at_359) (by decide) (pc' := 364) (by decide) (teq (own_l71 q0 q1 q2 tt h0 h1 h2 h01 h02 h12 ht)).1 ?_
        refine g_aload X451.here hx (Jvm.hb hby at_364) (pc' := 366) rfl rfl rfl ?_
        refine g_iconst X451.here hx (Jvm.hb hby at_366) (pc' := 367) rfl (z := (0 : Int32)) rfl ?_
        refine g_iaload X451 hx hZ e451 V445 ⟨by decide, by decide⟩ (v := q0) rfl (Jvm.hb hby at_367) (pc' := 368) rfl ?_
        refine g_iconst X451.here hx (Jvm.hb hby at_368) (pc' := 369) rfl (z := (3 : Int32)) rfl ?_
        refine g_icN X451.here hx (Jvm.hb hby at_369) (pc' := 372) rfl (feq (fun q => by have := congrArg Int32.toInt q; simp only [Int32.reduceToInt] at this; omega)).1 ?_
        refine g_aload X451.here hx (Jvm.hb hby at_372) (pc' := 374) rfl rfl rfl ?_
        refine g_aload X451.here hx (Jvm.hb hby at_374) (pc' := 376) rfl rfl rfl ?_
        refine g_iconst X451.here hx (Jvm.hb hby at_376) (pc' := 377) rfl (z := (0 : Int32)) rfl ?_
        refine g_iaload X451 hx hZ e451 V445 ⟨by decide, by decide⟩ (v := q0) rfl (Jvm.hb hby at_377) (pc' := 378) rfl ?_
        refine g_callV X451 hx hZ hown w_57 w_58 (own_nf hZ w_60) w_60 w_59 w_5 w_61 (by decide) (rm10 l Z a0 hw [] ad403 r0 r1 r2 r3 r4 r5 q0 (own_ap (own_rm (own_ap (own_ap (own_ap own_st0 q0 tt) q1 tt) q2 tt) q1) (3 : Int32) tt) hh445 PLx448 ⟨h0.1, by omega⟩) 0 (by decide) (by decide) e451 PLx448.1.1 (by rw [hml]; rfl) [(.int q0)] [] (lenOf pd_4 rfl) rfl rfl (Nat.le_of_eq rfl) (Jvm.hb hby at_378) (pc' := 381) rfl (cells' := 10) (slots' := 33) rfl rfl (by decide) (by decide) ?_
        intro v452 T452 L452 X452 hQ452
        obtain ⟨rfl, rfl, e452⟩ := hQ452
        rw [List.append_nil] at X452
        show own_Gl p e below s (own_Q0 n0) room_1.cells room_1.slots (T452.setTop (mkF m 381 #[.val (.int x0), .val (.int x1), .val (.int x2), .val (.int x3), .val (.int x4), .val (.int (3 : Int32)), .val (.int (1 : Int32)), .val (.int tt), .val (.int q0), .val (.ref ad386), .val (.ref ad394), .val (.ref ad403), .val (.ref ad429), .val (.int (2 : Int32))] [(.int ((own_ap (own_rm (own_ap (own_ap (own_ap own_st0 q0 tt) q1 tt) q2 tt) q1) (3 : Int32) tt) 2 q0.toNatClampNeg))]))
        refine g_aload X452.here hx (Jvm.hb hby at_381) (pc' := 383) rfl rfl rfl ?_
        refine g_iconst X452.here hx (Jvm.hb hby at_383) (pc' := 384) rfl (z := (1 : Int32)) rfl ?_
        refine g_iaload X452 hx hZ e452 V445 ⟨by decide, by decide⟩ (v := q2) rfl (Jvm.hb hby at_384) (pc' := 385) rfl ?_
        refine g_icY X452.here hx (Jvm.hb hby at_385) (by decide) (pc' := 390) (by decide) (teq (own_l72 q0 q1 q2 tt h0 h1 h2 h01 h02 h12 ht)).1 ?_
        refine g_aload X452.here hx (Jvm.hb hby at_390) (pc' := 392) rfl rfl rfl ?_
        refine g_iconst X452.here hx (Jvm.hb hby at_392) (pc' := 393) rfl (z := (0 : Int32)) rfl ?_
        refine g_iaload X452 hx hZ e452 V445 ⟨by decide, by decide⟩ (v := q0) rfl (Jvm.hb hby at_393) (pc' := 394) rfl ?_
        refine g_iconst X452.here hx (Jvm.hb hby at_394) (pc' := 395) rfl (z := (3 : Int32)) rfl ?_
        refine g_icN X452.here hx (Jvm.hb hby at_395) (pc' := 398) rfl (feq (fun q => by have := congrArg Int32.toInt q; simp only [Int32.reduceToInt] at this; omega)).1 ?_
        refine g_aload X452.here hx (Jvm.hb hby at_398) (pc' := 400) rfl rfl rfl ?_
        refine g_iconst X452.here hx (Jvm.hb hby at_400) (pc' := 401) rfl (z := (1 : Int32)) rfl ?_
        refine g_iaload X452 hx hZ e452 V445 ⟨by decide, by decide⟩ (v := q2) rfl (Jvm.hb hby at_401) (pc' := 402) rfl ?_
        refine g_iconst X452.here hx (Jvm.hb hby at_402) (pc' := 403) rfl (z := (3 : Int32)) rfl ?_
        refine g_icN X452.here hx (Jvm.hb hby at_403) (pc' := 406) rfl (feq (fun q => by have := congrArg Int32.toInt q; simp only [Int32.reduceToInt] at this; omega)).1 ?_
        refine g_aload X452.here hx (Jvm.hb hby at_406) (pc' := 408) rfl rfl rfl ?_
        refine g_aload X452.here hx (Jvm.hb hby at_408) (pc' := 410) rfl rfl rfl ?_
        refine g_iconst X452.here hx (Jvm.hb hby at_410) (pc' := 411) rfl (z := (1 : Int32)) rfl ?_
        refine g_iaload X452 hx hZ e452 V445 ⟨by decide, by decide⟩ (v := q2) rfl (Jvm.hb hby at_411) (pc' := 412) rfl ?_
        refine g_callV X452 hx hZ hown w_57 w_58 (own_nf hZ w_60) w_60 w_59 w_5 w_61 (by decide) (rm10 l Z a0 hw [] ad403 r0 r1 r2 r3 r4 r5 q2 (own_ap (own_rm (own_ap (own_ap (own_ap own_st0 q0 tt) q1 tt) q2 tt) q1) (3 : Int32) tt) hh445 PLx448 ⟨h2.1, by omega⟩) 0 (by decide) (by decide) e452 PLx448.1.1 (by rw [hml]; rfl) [(.int q2)] [] (lenOf pd_4 rfl) rfl rfl (Nat.le_of_eq rfl) (Jvm.hb hby at_412) (pc' := 415) rfl (cells' := 10) (slots' := 33) rfl rfl (by decide) (by decide) ?_
        intro v453 T453 L453 X453 hQ453
        obtain ⟨rfl, rfl, e453⟩ := hQ453
        rw [List.append_nil] at X453
        show own_Gl p e below s (own_Q0 n0) room_1.cells room_1.slots (T453.setTop (mkF m 415 #[.val (.int x0), .val (.int x1), .val (.int x2), .val (.int x3), .val (.int x4), .val (.int (3 : Int32)), .val (.int (1 : Int32)), .val (.int tt), .val (.int q0), .val (.ref ad386), .val (.ref ad394), .val (.ref ad403), .val (.ref ad429), .val (.int (2 : Int32))] [(.int ((own_ap (own_rm (own_ap (own_ap (own_ap own_st0 q0 tt) q1 tt) q2 tt) q1) (3 : Int32) tt) 2 q2.toNatClampNeg))]))
        refine g_aload X453.here hx (Jvm.hb hby at_415) (pc' := 417) rfl rfl rfl ?_
        refine g_iconst X453.here hx (Jvm.hb hby at_417) (pc' := 418) rfl (z := (2 : Int32)) rfl ?_
        refine g_iaload X453 hx hZ e453 V445 ⟨by decide, by decide⟩ (v := (3 : Int32)) rfl (Jvm.hb hby at_418) (pc' := 419) rfl ?_
        refine g_icY X453.here hx (Jvm.hb hby at_419) (by decide) (pc' := 424) (by decide) (teq (own_l73 q0 q1 q2 tt h0 h1 h2 h01 h02 h12 ht)).1 ?_
        refine g_iconst X453.here hx (Jvm.hb hby at_424) (pc' := 425) rfl (z := (1 : Int32)) rfl ?_
        exact g_retN X453 hx hlk (t := .boolean) hret (by simp) (z' := (1 : Int32)) rfl (Jvm.hb hby at_425) (by decide) (by decide) ⟨rfl, N445⟩
      · refine g_ifN X422.here hx (Jvm.hb hby at_179) (pc' := 182) rfl ((if0 _ _).trans (feq hc179).1) ?_
        refine g_iload X422.here hx (Jvm.hb hby at_182) (pc' := 184) rfl rfl ?_
        refine g_iconst X422.here hx (Jvm.hb hby at_184) (pc' := 185) rfl (z := (1 : Int32)) rfl ?_
        refine g_icN X422.here hx (Jvm.hb hby at_185) (pc' := 188) rfl (tlt (by decide)).2.2.2 ?_
        refine g_iload X422.here hx (Jvm.hb hby at_188) (pc' := 190) rfl rfl ?_
        refine g_iconst X422.here hx (Jvm.hb hby at_190) (pc' := 191) rfl (z := (1 : Int32)) rfl ?_
        refine g_iadd X422.here hx (Jvm.hb hby at_191) (pc' := 192) rfl ?_
        refine g_iloadN X422.here hx (Jvm.hb hby at_192) (pc' := 193) rfl rfl ?_
        refine g_iconst X422.here hx (Jvm.hb hby at_193) (pc' := 194) rfl (z := (1 : Int32)) rfl ?_
        refine g_iushr X422.here hx (Jvm.hb hby at_194) (pc' := 195) rfl ?_
        refine g_iload X422.here hx (Jvm.hb hby at_195) (pc' := 197) rfl rfl ?_
        refine g_iconst X422.here hx (Jvm.hb hby at_197) (pc' := 198) rfl (z := (1 : Int32)) rfl ?_
        refine g_isub X422.here hx (Jvm.hb hby at_198) (pc' := 199) rfl ?_
        rw [show ((3 : Int32) - (1 : Int32)) = (2 : Int32) from rfl]
        refine g_irem X422 hx (Jvm.hb hby at_199) (pc' := 200) rfl (by decide) ?_
        generalize htj : (((x3.toUInt32 >>> ((1 : Int32) &&& 31).toUInt32).toInt32) % (2 : Int32)) = tj
        have hj : tj = (0 : Int32) ∨ tj = (1 : Int32) := by
          have e1 := c_iushr x3 1 1 (by decide) (by decide)
          have e2 := c_irem ((x3.toUInt32 >>> ((1 : Int32) &&& 31).toUInt32).toInt32) 2 2 (by decide)
          have r := rng32 x3
          simp only [Nat.reducePow] at e1
          rw [htj] at e2
          simp only [← Int32.toInt_inj, Int32.reduceToInt]
          omega
        clear htj
        rcases hj with rfl | rfl
        · refine g_iadd X422.here hx (Jvm.hb hby at_200) (pc' := 201) rfl ?_
          refine g_iload X422.here hx (Jvm.hb hby at_201) (pc' := 203) rfl rfl ?_
          refine g_irem X422 hx (Jvm.hb hby at_203) (pc' := 204) rfl (by decide) ?_
          refine g_istore X422.here hx (Jvm.hb hby at_204) (pc' := 206) rfl (L' := #[.val (.int x0), .val (.int x1), .val (.int x2), .val (.int x3), .val (.int x4), .val (.int (3 : Int32)), .val (.int (1 : Int32)), .val (.int tt), .val (.int q0), .val (.ref ad386), .val (.ref ad394), .val (.ref ad403), .val (.int ((((1 : Int32) + (1 : Int32)) + (0 : Int32)) % (3 : Int32))), .unset]) rfl ?_
          rw [show ((((1 : Int32) + (1 : Int32)) + (0 : Int32)) % (3 : Int32)) = (2 : Int32) from rfl]
          refine g_aload X422.here hx (Jvm.hb hby at_206) (pc' := 208) rfl rfl rfl ?_
          refine g_aload X422.here hx (Jvm.hb hby at_208) (pc' := 210) rfl rfl rfl ?_
          refine g_iload X422.here hx (Jvm.hb hby at_210) (pc' := 212) rfl rfl ?_
          have F454 := ((F418.keep K419 (ninS (Nat.ne_of_lt (by omega)) (ninS (Nat.ne_of_lt (by omega)) (ninS (Nat.ne_of_lt (by omega)) (ninS (Nat.ne_of_lt (by omega)) (ninS (Nat.ne_of_lt (by omega)) (ninS (Nat.ne_of_lt (by omega)) nin0))))))).other W422 ne_ad386_ad394)
          refine g_iaload X422 hx hZ e422 F454 ⟨by decide, by decide⟩ (v := q2) rfl (Jvm.hb hby at_212) (pc' := 213) rfl ?_
          have PLx455 := (own_PL.other PL419 W422 hord (by omega))
          refine g_callV X422 hx hZ hown w_37 w_38 (own_nf hZ w_40) w_40 w_39 w_5 w_41 (by decide) (rm6 l Z a0 hw [] ad403 r0 r1 r2 r3 r4 r5 q2 (own_rm (own_ap (own_ap (own_ap own_st0 q0 tt) q1 tt) q2 tt) q1) hh422 n0 Z423 g_ad403 hord PLx455 ⟨h2.1, by omega⟩ (own_l74 q0 q1 q2 tt h0 h1 h2 h01 h02 h12 ht) (own_l75 q0 q1 q2 tt h0 h1 h2 h01 h02 h12 ht) (own_l76 q0 q1 q2 tt h0 h1 h2 h01 h02 h12 ht)) 0 (by decide) (by decide) e422 PLx455.1.1 (by rw [hml]; rfl) [(.int q2)] [] (lenOf pd_3 rfl) rfl rfl (Nat.le_of_eq rfl) (Jvm.hb hby at_213) (pc' := 216) rfl (cells' := 9) (slots' := 30) rfl rfl (by decide) (by decide) ?_
          intro v456 T456 L456 X456 hQ456
          obtain ⟨rfl, Nq456, K456, PL456⟩ := hQ456
          have N456 := Fr.app N422 Nq456
          have Z457 : n0 ≤ T456.heap.size := Nat.le_trans Z423 K456.1
          show own_Gl p e below s (own_Q0 n0) room_1.cells room_1.slots (T456.setTop (mkF m 216 #[.val (.int x0), .val (.int x1), .val (.int x2), .val (.int x3), .val (.int x4), .val (.int (3 : Int32)), .val (.int (1 : Int32)), .val (.int tt), .val (.int q0), .val (.ref ad386), .val (.ref ad394), .val (.ref ad403), .val (.int (2 : Int32)), .unset] []))
          refine g_aload X456.here hx (Jvm.hb hby at_216) (pc' := 218) rfl rfl rfl ?_
          refine g_iload X456.here hx (Jvm.hb hby at_218) (pc' := 220) rfl rfl ?_
          refine g_iconst X456.here hx (Jvm.hb hby at_220) (pc' := 221) rfl (z := (0 : Int32)) rfl ?_
          have F458 := (V422.keep K456 (ninS (Nat.ne_of_lt (by omega)) (ninS (Nat.ne_of_lt (by omega)) (ninS (Nat.ne_of_lt (by omega)) (ninS (Nat.ne_of_lt (by omega)) (ninS (Nat.ne_of_lt (by omega)) (ninS (Nat.ne_of_lt (by omega)) nin0)))))))
          refine g_zastore X456 hx hZ rfl F458 ⟨by decide, by decide⟩ (x' := (0 : Int32)) rfl (Jvm.hb hby at_221) (pc' := 222) rfl ?_
          intro T459 hh459 X459 e459 W459 V459
          have N459 := Fr.snoc X459 N456 g_ad394
          have Z460 : n0 ≤ hh459.size := (by rw [W459.size]; exact Z457)
          refine g_aload X459.here hx (Jvm.hb hby at_222) (pc' := 224) rfl rfl rfl ?_
          refine g_iconst X459.here hx (Jvm.hb hby at_224) (pc' := 225) rfl (z := (3 : Int32)) rfl ?_
          refine g_iload X459.here hx (Jvm.hb hby at_225) (pc' := 227) rfl rfl ?_
          have PLx461 := (own_PL.other PL456 W459 hord (by omega))
          refine g_callV X459 hx hZ hown w_32 w_33 (own_nf hZ w_35) w_35 w_34 w_5 w_36 (by decide) (rm5 l Z a0 hw [] ad403 r0 r1 r2 r3 r4 r5 (3 : Int32) tt (own_rm (own_rm (own_ap (own_ap (own_ap own_st0 q0 tt) q1 tt) q2 tt) q1) q2) hh459 n0 Z460 g_ad403 hord PLx461 ⟨by decide, by decide⟩ rt (own_l77 q0 q1 q2 tt h0 h1 h2 h01 h02 h12 ht)) 0 (by decide) (by decide) e459 PLx461.1.1 (by rw [hml]; rfl) [(.int (3 : Int32)), (.int tt)] [] (lenOf pd_2 rfl) rfl rfl (Nat.le_of_eq rfl) (Jvm.hb hby at_227) (pc' := 230) rfl (cells' := 9) (slots' := 30) rfl rfl (by decide) (by decide) ?_
          intro v462 T462 L462 X462 hQ462
          obtain ⟨rfl, Nq462, K462, PL462⟩ := hQ462
          have N462 := Fr.app N459 Nq462
          have Z463 : n0 ≤ T462.heap.size := Nat.le_trans Z460 K462.1
          show own_Gl p e below s (own_Q0 n0) room_1.cells room_1.slots (T462.setTop (mkF m 230 #[.val (.int x0), .val (.int x1), .val (.int x2), .val (.int x3), .val (.int x4), .val (.int (3 : Int32)), .val (.int (1 : Int32)), .val (.int tt), .val (.int q0), .val (.ref ad386), .val (.ref ad394), .val (.ref ad403), .val (.int (2 : Int32)), .unset] []))
          refine g_iconst X462.here hx (Jvm.hb hby at_230) (pc' := 231) rfl (z := (3 : Int32)) rfl ?_
          have F464 := (((F454.keep K456 (ninS (Nat.ne_of_lt (by omega)) (ninS (Nat.ne_of_lt (by omega)) (ninS (Nat.ne_of_lt (by omega)) (ninS (Nat.ne_of_lt (by omega)) (ninS (Nat.ne_of_lt (by omega)) (ninS (Nat.ne_of_lt (by omega)) nin0))))))).other W459 ne_ad386_ad394).keep K462 (ninS (Nat.ne_of_lt (by omega)) (ninS (Nat.ne_of_lt (by omega)) (ninS (Nat.ne_of_lt (by omega)) (ninS (Nat.ne_of_lt (by omega)) (ninS (Nat.ne_of_lt (by omega)) (ninS (Nat.ne_of_lt (by omega)) nin0)))))))
          have F465 := (V459.keep K462 (ninS (Nat.ne_of_lt (by omega)) (ninS (Nat.ne_of_lt (by omega)) (ninS (Nat.ne_of_lt (by omega)) (ninS (Nat.ne_of_lt (by omega)) (ninS (Nat.ne_of_lt (by omega)) (ninS (Nat.ne_of_lt (by omega)) nin0)))))))
          refine g_newarr X462 hx hZ (ty := .int) rfl rfl w_1 rfl (Jvm.hb hby at_231) (pc' := 233) rfl (n := 3) (by decide) 3 (by decide) (by decide) (cells' := 10) (slots' := 33) rfl rfl (by decide) (by decide) ?_
          intro T466 hh466 ad466 gb466 X466 e466 E466 V466
          have g_ad466 : n0 ≤ ad466 := by rw [gb466]; exact Z463
          have lt_ad386_ad466 : @LT.lt Nat _ ad386 ad466 := by rw [gb466]; exact F464.lt
          have ne_ad386_ad466 : ad386 ≠ ad466 := Nat.ne_of_lt lt_ad386_ad466
          have lt_ad394_ad466 : @LT.lt Nat _ ad394 ad466 := by rw [gb466]; exact F465.lt
          have ne_ad394_ad466 : ad394 ≠ ad466 := Nat.ne_of_lt lt_ad394_ad466
          have lt_ad403_ad466 : @LT.lt Nat _ ad403 ad466 := by rw [gb466]; exact PL462.1.1.lt
          have ne_ad403_ad466 : ad403 ≠ ad466 := Nat.ne_of_lt lt_ad403_ad466
          have Z467 : n0 ≤ hh466.size := Nat.le_trans Z463 E466.1
          have lt5 : @LT.lt Nat _ r5 ad466 := by rw [gb466]; exact own_PL.lt5 PL462
          refine g_astore X466.here hx (Jvm.hb hby at_233) (pc' := 235) rfl rfl (L' := #[.val (.int x0), .val (.int x1), .val (.int x2), .val (.int x3), .val (.int x4), .val (.int (3 : Int32)), .val (.int (1 : Int32)), .val (.int tt), .val (.int q0), .val (.ref ad386), .val (.ref ad394), .val (.ref ad403), .val (.ref ad466), .unset]) rfl ?_
          refine g_aload X466.here hx (Jvm.hb hby at_235) (pc' := 237) rfl rfl rfl ?_
          refine g_iconst X466.here hx (Jvm.hb hby at_237) (pc' := 238) rfl (z := (0 : Int32)) rfl ?_
          refine g_iconst X466.here hx (Jvm.hb hby at_238) (pc' := 239) rfl (z := (-1 : Int32)) rfl ?_
          refine g_iastore X466 hx hZ e466 V466 ⟨by decide, by decide⟩ (Jvm.hb hby at_239) (pc' := 240) rfl ?_
          intro T468 hh468 X468 e468 W468 V468
          have N468 := Fr.snoc X468 N462 g_ad466
          have Z469 : n0 ≤ hh468.size := (by rw [W468.size]; exact Z467)
          refine g_aload X468.here hx (Jvm.hb hby at_240) (pc' := 242) rfl rfl rfl ?_
          refine g_iconst X468.here hx (Jvm.hb hby at_242) (pc' := 243) rfl (z := (1 : Int32)) rfl ?_
          refine g_iconst X468.here hx (Jvm.hb hby at_243) (pc' := 244) rfl (z := (-1 : Int32)) rfl ?_
          refine g_iastore X468 hx hZ e468 V468 ⟨by decide, by decide⟩ (Jvm.hb hby at_244) (pc' := 245) rfl ?_
          intro T470 hh470 X470 e470 W470 V470
          have N470 := Fr.snoc X470 N468 g_ad466
          have Z471 : n0 ≤ hh470.size := (by rw [W470.size]; exact Z469)
          refine g_aload X470.here hx (Jvm.hb hby at_245) (pc' := 247) rfl rfl rfl ?_
          refine g_iconst X470.here hx (Jvm.hb hby at_247) (pc' := 248) rfl (z := (2 : Int32)) rfl ?_
          refine g_iconst X470.here hx (Jvm.hb hby at_248) (pc' := 249) rfl (z := (-1 : Int32)) rfl ?_
          refine g_iastore X470 hx hZ e470 V470 ⟨by decide, by decide⟩ (Jvm.hb hby at_249) (pc' := 250) rfl ?_
          intro T472 hh472 X472 e472 W472 V472
          have N472 := Fr.snoc X472 N470 g_ad466
          have Z473 : n0 ≤ hh472.size := (by rw [W472.size]; exact Z471)
          refine g_iconst X472.here hx (Jvm.hb hby at_250) (pc' := 251) rfl (z := (0 : Int32)) rfl ?_
          refine g_istore X472.here hx (Jvm.hb hby at_251) (pc' := 253) rfl (L' := #[.val (.int x0), .val (.int x1), .val (.int x2), .val (.int x3), .val (.int x4), .val (.int (3 : Int32)), .val (.int (1 : Int32)), .val (.int tt), .val (.int q0), .val (.ref ad386), .val (.ref ad394), .val (.ref ad403), .val (.ref ad466), .val (.int (0 : Int32))]) rfl ?_
          refine g_aload X472.here hx (Jvm.hb hby at_253) (pc' := 255) rfl rfl rfl ?_
          refine g_iconst X472.here hx (Jvm.hb hby at_255) (pc' := 256) rfl (z := (0 : Int32)) rfl ?_
          have F474 := ((((F465.ext E466).other W468 ne_ad394_ad466).other W470 ne_ad394_ad466).other W472 ne_ad394_ad466)
          refine g_zaload X472 hx hZ e472 F474 ⟨by decide, by decide⟩ (v := (1 : Int32)) rfl (Jvm.hb hby at_256) (pc' := 257) rfl ?_
          refine g_ifN X472.here hx (Jvm.hb hby at_257) (pc' := 260) rfl ((if0 _ _).trans (feq (by decide)).1) ?_
          refine g_aload X472.here hx (Jvm.hb hby at_260) (pc' := 262) rfl rfl rfl ?_
          refine g_iload X472.here hx (Jvm.hb hby at_262) (pc' := 264) rfl rfl ?_
          refine g_aload X472.here hx (Jvm.hb hby at_264) (pc' := 266) rfl rfl rfl ?_
          refine g_iconst X472.here hx (Jvm.hb hby at_266) (pc' := 267) rfl (z := (0 : Int32)) rfl ?_
          have F475 := ((((F464.ext E466).other W468 ne_ad386_ad466).other W470 ne_ad386_ad466).other W472 ne_ad386_ad466)
          refine g_iaload X472 hx hZ e472 F475 ⟨by decide, by decide⟩ (v := q0) rfl (Jvm.hb hby at_267) (pc' := 268) rfl ?_
          refine g_iastore X472 hx hZ e472 V472 ⟨by decide, by decide⟩ (Jvm.hb hby at_268) (pc' := 269) rfl ?_
          intro T476 hh476 X476 e476 W476 V476
          have N476 := Fr.snoc X476 N472 g_ad466
          have Z477 : n0 ≤ hh476.size := (by rw [W476.size]; exact Z473)
          refine g_iinc X476.here hx (Jvm.hb hby at_269) (pc' := 272) rfl (z := (1 : Int32)) rfl rfl (L' := #[.val (.int x0), .val (.int x1), .val (.int x2), .val (.int x3), .val (.int x4), .val (.int (3 : Int32)), .val (.int (1 : Int32)), .val (.int tt), .val (.int q0), .val (.ref ad386), .val (.ref ad394), .val (.ref ad403), .val (.ref ad466), .val (.int (1 : Int32))]) rfl ?_
          refine g_aload X476.here hx (Jvm.hb hby at_272) (pc' := 274) rfl rfl rfl ?_
          refine g_iconst X476.here hx (Jvm.hb hby at_274) (pc' := 275) rfl (z := (1 : Int32)) rfl ?_
          have F478 := (F474.other W476 ne_ad394_ad466)
          refine g_zaload X476 hx hZ e476 F478 ⟨by decide, by decide⟩ (v := (0 : Int32)) rfl (Jvm.hb hby at_275) (pc' := 276) rfl ?_
          refine g_ifY X476.here hx (Jvm.hb hby at_276) (by decide) (pc' := 291) (by decide) ((if0 _ _).trans (teq (by decide)).1) ?_
          refine g_aload X476.here hx (Jvm.hb hby at_291) (pc' := 293) rfl rfl rfl ?_
          refine g_iconst X476.here hx (Jvm.hb hby at_293) (pc' := 294) rfl (z := (2 : Int32)) rfl ?_
          refine g_zaload X476 hx hZ e476 F478 ⟨by decide, by decide⟩ (v := (0 : Int32)) rfl (Jvm.hb hby at_294) (pc' := 295) rfl ?_
          refine g_ifY X476.here hx (Jvm.hb hby at_295) (by decide) (pc' := 310) (by decide) ((if0 _ _).trans (teq (by decide)).1) ?_
          refine g_aload X476.here hx (Jvm.hb hby at_310) (pc' := 312) rfl rfl rfl ?_
          refine g_iload X476.here hx (Jvm.hb hby at_312) (pc' := 314) rfl rfl ?_
          refine g_iconst X476.here hx (Jvm.hb hby at_314) (pc' := 315) rfl (z := (3 : Int32)) rfl ?_
          refine g_iastore X476 hx hZ e476 V476 ⟨by decide, by decide⟩ (Jvm.hb hby at_315) (pc' := 316) rfl ?_
          intro T479 hh479 X479 e479 W479 V479
          have N479 := Fr.snoc X479 N476 g_ad466
          have Z480 : n0 ≤ hh479.size := (by rw [W479.size]; exact Z477)
          refine g_aload X479.here hx (Jvm.hb hby at_316) (pc' := 318) rfl rfl rfl ?_
          refine g_aload X479.here hx (Jvm.hb hby at_318) (pc' := 320) rfl rfl rfl ?_
          refine g_iload X479.here hx (Jvm.hb hby at_320) (pc' := 322) rfl rfl ?_
          have F481 := ((F475.other W476 ne_ad386_ad466).other W479 ne_ad386_ad466)
          refine g_iaload X479 hx hZ e479 F481 ⟨by decide, by decide⟩ (v := q1) rfl (Jvm.hb hby at_322) (pc' := 323) rfl ?_
          have PLx482 := (own_PL.other (own_PL.other (own_PL.other (own_PL.other (own_PL.other (own_PL.ext PL462 E466) W468 hord (by omega)) W470 hord (by omega)) W472 hord (by omega)) W476 hord (by omega)) W479 hord (by omega))
          refine g_callV X479 hx hZ hown w_42 w_43 (own_nf hZ w_45) w_45 w_44 w_5 w_46 (by decide) (rm7 l Z a0 hw [] ad403 r0 r1 r2 r3 r4 r5 q1 (own_ap (own_rm (own_rm (own_ap (own_ap (own_ap own_st0 q0 tt) q1 tt) q2 tt) q1) q2) (3 : Int32) tt) hh479 PLx482 ⟨h1.1, by omega⟩) 0 (by decide) (by decide) e479 PLx482.1.1 (by rw [hml]; rfl) [(.int q1)] [] (lenOf pd_4 rfl) rfl rfl (Nat.le_of_eq rfl) (Jvm.hb hby at_323) (pc' := 326) rfl (cells' := 10) (slots' := 33) rfl rfl (by decide) (by decide) ?_
          intro v483 T483 L483 X483 hQ483
          obtain ⟨rfl, rfl, e483⟩ := hQ483
          rw [List.append_nil] at X483
          show own_Gl p e below s (own_Q0 n0) room_1.cells room_1.slots (T483.setTop (mkF m 326 #[.val (.int x0), .val (.int x1), .val (.int x2), .val (.int x3), .val (.int x4), .val (.int (3 : Int32)), .val (.int (1 : Int32)), .val (.int tt), .val (.int q0), .val (.ref ad386), .val (.ref ad394), .val (.ref ad403), .val (.ref ad466), .val (.int (1 : Int32))] [(.int ((own_ap (own_rm (own_rm (own_ap (own_ap (own_ap own_st0 q0 tt) q1 tt) q2 tt) q1) q2) (3 : Int32) tt) 0 q1.toNatClampNeg))]))
          refine g_iconst X483.here hx (Jvm.hb hby at_326) (pc' := 327) rfl (z := (-1 : Int32)) rfl ?_
          refine g_icY X483.here hx (Jvm.hb hby at_327) (by decide) (pc' := 332) (by decide) (teq (own_l78 q0 q1 q2 tt h0 h1 h2 h01 h02 h12 ht)).1 ?_
          refine g_aload X483.here hx (Jvm.hb hby at_332) (pc' := 334) rfl rfl rfl ?_
          refine g_iload X483.here hx (Jvm.hb hby at_334) (pc' := 336) rfl rfl ?_
          refine g_callV X483 hx hZ hown w_47 w_48 (own_nf hZ w_50) w_50 w_49 w_5 w_51 (by decide) (rm8 l Z a0 hw [] ad403 r0 r1 r2 r3 r4 r5 tt (own_ap (own_rm (own_rm (own_ap (own_ap (own_ap own_st0 q0 tt) q1 tt) q2 tt) q1) q2) (3 : Int32) tt) hh479 PLx482 rt) 0 (by decide) (by decide) e483 PLx482.1.1 (by rw [hml]; rfl) [(.int tt)] [] (lenOf pd_4 rfl) rfl rfl (Nat.le_of_eq rfl) (Jvm.hb hby at_336) (pc' := 339) rfl (cells' := 10) (slots' := 33) rfl rfl (by decide) (by decide) ?_
          intro v484 T484 L484 X484 hQ484
          obtain ⟨rfl, rfl, e484⟩ := hQ484
          rw [List.append_nil] at X484
          show own_Gl p e below s (own_Q0 n0) room_1.cells room_1.slots (T484.setTop (mkF m 339 #[.val (.int x0), .val (.int x1), .val (.int x2), .val (.int x3), .val (.int x4), .val (.int (3 : Int32)), .val (.int (1 : Int32)), .val (.int tt), .val (.int q0), .val (.ref ad386), .val (.ref ad394), .val (.ref ad403), .val (.ref ad466), .val (.int (1 : Int32))] [(.int ((own_ap (own_rm (own_rm (own_ap (own_ap (own_ap own_st0 q0 tt) q1 tt) q2 tt) q1) q2) (3 : Int32) tt) 5 tt.toNatClampNeg))]))
          refine g_iload X484.here hx (Jvm.hb hby at_339) (pc' := 341) rfl rfl ?_
          refine g_iconst X484.here hx (Jvm.hb hby at_341) (pc' := 342) rfl (z := (1 : Int32)) rfl ?_
          refine g_iadd X484.here hx (Jvm.hb hby at_342) (pc' := 343) rfl ?_
          refine g_icY X484.here hx (Jvm.hb hby at_343) (by decide) (pc' := 348) (by decide) (teq ((own_l79 q0 q1 q2 tt h0 h1 h2 h01 h02 h12 ht))).1 ?_
          refine g_aload X484.here hx (Jvm.hb hby at_348) (pc' := 350) rfl rfl rfl ?_
          refine g_iload X484.here hx (Jvm.hb hby at_350) (pc' := 352) rfl rfl ?_
          refine g_callV X484 hx hZ hown w_52 w_53 (own_nf hZ w_55) w_55 w_54 w_5 w_56 (by decide) (rm9 l Z a0 hw [] ad403 r0 r1 r2 r3 r4 r5 tt (own_ap (own_rm (own_rm (own_ap (own_ap (own_ap own_st0 q0 tt) q1 tt) q2 tt) q1) q2) (3 : Int32) tt) hh479 PLx482 rt) 0 (by decide) (by decide) e484 PLx482.1.1 (by rw [hml]; rfl) [(.int tt)] [] (lenOf pd_4 rfl) rfl rfl (Nat.le_of_eq rfl) (Jvm.hb hby at_352) (pc' := 355) rfl (cells' := 10) (slots' := 33) rfl rfl (by decide) (by decide) ?_
          intro v485 T485 L485 X485 hQ485
          obtain ⟨rfl, rfl, e485⟩ := hQ485
          rw [List.append_nil] at X485
          show own_Gl p e below s (own_Q0 n0) room_1.cells room_1.slots (T485.setTop (mkF m 355 #[.val (.int x0), .val (.int x1), .val (.int x2), .val (.int x3), .val (.int x4), .val (.int (3 : Int32)), .val (.int (1 : Int32)), .val (.int tt), .val (.int q0), .val (.ref ad386), .val (.ref ad394), .val (.ref ad403), .val (.ref ad466), .val (.int (1 : Int32))] [(.int ((own_ap (own_rm (own_rm (own_ap (own_ap (own_ap own_st0 q0 tt) q1 tt) q2 tt) q1) q2) (3 : Int32) tt) 3 tt.toNatClampNeg))]))
          refine g_aload X485.here hx (Jvm.hb hby at_355) (pc' := 357) rfl rfl rfl ?_
          refine g_iconst X485.here hx (Jvm.hb hby at_357) (pc' := 358) rfl (z := (0 : Int32)) rfl ?_
          refine g_iaload X485 hx hZ e485 V479 ⟨by decide, by decide⟩ (v := q0) rfl (Jvm.hb hby at_358) (pc' := 359) rfl ?_
          refine g_icY X485.here hx (Jvm.hb hby at_359) (by decide) (pc' := 364) (by decide) (teq (own_l80 q0 q1 q2 tt h0 h1 h2 h01 h02 h12 ht)).1 ?_
          refine g_aload X485.here hx (Jvm.hb hby at_364) (pc' := 366) rfl rfl rfl ?_
          refine g_iconst X485.here hx (Jvm.hb hby at_366) (pc' := 367) rfl (z := (0 : Int32)) rfl ?_
          refine g_iaload X485 hx hZ e485 V479 ⟨by decide, by decide⟩ (v := q0) rfl (Jvm.hb hby at_367) (pc' := 368) rfl ?_
          refine g_iconst X485.here hx (Jvm.hb hby at_368) (pc' := 369) rfl (z := (3 : Int32)) rfl ?_
          refine g_icN X485.here hx (Jvm.hb hby at_369) (pc' := 372) rfl (feq (fun q => by have := congrArg Int32.toInt q; simp only [Int32.reduceToInt] at this; omega)).1 ?_
          refine g_aload X485.here hx (Jvm.hb hby at_372) (pc' := 374) rfl rfl rfl ?_
          refine g_aload X485.here hx (Jvm.hb hby at_374) (pc' := 376) rfl rfl rfl ?_
          refine g_iconst X485.here hx (Jvm.hb hby at_376) (pc' := 377) rfl (z := (0 : Int32)) rfl ?_
          refine g_iaload X485 hx hZ e485 V479 ⟨by decide, by decide⟩ (v := q0) rfl (Jvm.hb hby at_377) (pc' := 378) rfl ?_
          refine g_callV X485 hx hZ hown w_57 w_58 (own_nf hZ w_60) w_60 w_59 w_5 w_61 (by decide) (rm10 l Z a0 hw [] ad403 r0 r1 r2 r3 r4 r5 q0 (own_ap (own_rm (own_rm (own_ap (own_ap (own_ap own_st0 q0 tt) q1 tt) q2 tt) q1) q2) (3 : Int32) tt) hh479 PLx482 ⟨h0.1, by omega⟩) 0 (by decide) (by decide) e485 PLx482.1.1 (by rw [hml]; rfl) [(.int q0)] [] (lenOf pd_4 rfl) rfl rfl (Nat.le_of_eq rfl) (Jvm.hb hby at_378) (pc' := 381) rfl (cells' := 10) (slots' := 33) rfl rfl (by decide) (by decide) ?_
          intro v486 T486 L486 X486 hQ486
          obtain ⟨rfl, rfl, e486⟩ := hQ486
          rw [List.append_nil] at X486
          show own_Gl p e below s (own_Q0 n0) room_1.cells room_1.slots (T486.setTop (mkF m 381 #[.val (.int x0), .val (.int x1), .val (.int x2), .val (.int x3), .val (.int x4), .val (.int (3 : Int32)), .val (.int (1 : Int32)), .val (.int tt), .val (.int q0), .val (.ref ad386), .val (.ref ad394), .val (.ref ad403), .val (.ref ad466), .val (.int (1 : Int32))] [(.int ((own_ap (own_rm (own_rm (own_ap (own_ap (own_ap own_st0 q0 tt) q1 tt) q2 tt) q1) q2) (3 : Int32) tt) 2 q0.toNatClampNeg))]))
          refine g_aload X486.here hx (Jvm.hb hby at_381) (pc' := 383) rfl rfl rfl ?_
          refine g_iconst X486.here hx (Jvm.hb hby at_383) (pc' := 384) rfl (z := (1 : Int32)) rfl ?_
          refine g_iaload X486 hx hZ e486 V479 ⟨by decide, by decide⟩ (v := (3 : Int32)) rfl (Jvm.hb hby at_384) (pc' := 385) rfl ?_
          refine g_icY X486.here hx (Jvm.hb hby at_385) (by decide) (pc' := 390) (by decide) (teq (own_l81 q0 q1 q2 tt h0 h1 h2 h01 h02 h12 ht)).1 ?_
          refine g_aload X486.here hx (Jvm.hb hby at_390) (pc' := 392) rfl rfl rfl ?_
          refine g_iconst X486.here hx (Jvm.hb hby at_392) (pc' := 393) rfl (z := (0 : Int32)) rfl ?_
          refine g_iaload X486 hx hZ e486 V479 ⟨by decide, by decide⟩ (v := q0) rfl (Jvm.hb hby at_393) (pc' := 394) rfl ?_
          refine g_iconst X486.here hx (Jvm.hb hby at_394) (pc' := 395) rfl (z := (3 : Int32)) rfl ?_
          refine g_icN X486.here hx (Jvm.hb hby at_395) (pc' := 398) rfl (feq (fun q => by have := congrArg Int32.toInt q; simp only [Int32.reduceToInt] at this; omega)).1 ?_
          refine g_aload X486.here hx (Jvm.hb hby at_398) (pc' := 400) rfl rfl rfl ?_
          refine g_iconst X486.here hx (Jvm.hb hby at_400) (pc' := 401) rfl (z := (1 : Int32)) rfl ?_
          refine g_iaload X486 hx hZ e486 V479 ⟨by decide, by decide⟩ (v := (3 : Int32)) rfl (Jvm.hb hby at_401) (pc' := 402) rfl ?_
          refine g_iconst X486.here hx (Jvm.hb hby at_402) (pc' := 403) rfl (z := (3 : Int32)) rfl ?_
          refine g_icY X486.here hx (Jvm.hb hby at_403) (by decide) (pc' := 424) (by decide) (teq (by decide)).1 ?_
          refine g_iconst X486.here hx (Jvm.hb hby at_424) (pc' := 425) rfl (z := (1 : Int32)) rfl ?_
          exact g_retN X486 hx hlk (t := .boolean) hret (by simp) (z' := (1 : Int32)) rfl (Jvm.hb hby at_425) (by decide) (by decide) ⟨rfl, N479⟩
        · refine g_iadd X422.here hx (Jvm.hb hby at_200) (pc' := 201) rfl ?_
          refine g_iload X422.here hx (Jvm.hb hby at_201) (pc' := 203) rfl rfl ?_
          refine g_irem X422 hx (Jvm.hb hby at_203) (pc' := 204) rfl (by decide) ?_
          refine g_istore X422.here hx (Jvm.hb hby at_204) (pc' := 206) rfl (L' := #[.val (.int x0), .val (.int x1), .val (.int x2), .val (.int x3), .val (.int x4), .val (.int (3 : Int32)), .val (.int (1 : Int32)), .val (.int tt), .val (.int q0), .val (.ref ad386), .val (.ref ad394), .val (.ref ad403), .val (.int ((((1 : Int32) + (1 : Int32)) + (1 : Int32)) % (3 : Int32))), .unset]) rfl ?_
          rw [show ((((1 : Int32) + (1 : Int32)) + (1 : Int32)) % (3 : Int32)) = (0 : Int32) from rfl]
          refine g_aload X422.here hx (Jvm.hb hby at_206) (pc' := 208) rfl rfl rfl ?_
          refine g_aload X422.here hx (Jvm.hb hby at_208) (pc' := 210) rfl rfl rfl ?_
          refine g_iload X422.here hx (Jvm.hb hby at_210) (pc' := 212) rfl rfl ?_
          have F487 := ((F418.keep K419 (ninS (Nat.ne_of_lt (by omega)) (ninS (Nat.ne_of_lt (by omega)) (ninS (Nat.ne_of_lt (by omega)) (ninS (Nat.ne_of_lt (by omega)) (ninS (Nat.ne_of_lt (by omega)) (ninS (Nat.ne_of_lt (by omega)) nin0))))))).other W422 ne_ad386_ad394)
          refine g_iaload X422 hx hZ e422 F487 ⟨by decide, by decide⟩ (v := q0) rfl (Jvm.hb hby at_212) (pc' := 213) rfl ?_
          have PLx488 := (own_PL.other PL419 W422 hord (by omega))
          refine g_callV X422 hx hZ hown w_37 w_38 (own_nf hZ w_40) w_40 w_39 w_5 w_41 (by decide) (rm6 l Z a0 hw [] ad403 r0 r1 r2 r3 r4 r5 q0 (own_rm (own_ap (own_ap (own_ap own_st0 q0 tt) q1 tt) q2 tt) q1) hh422 n0 Z423 g_ad403 hord PLx488 ⟨h0.1, by omega⟩ (own_l82 q0 q1 q2 tt h0 h1 h2 h01 h02 h12 ht) (own_l83 q0 q1 q2 tt h0 h1 h2 h01 h02 h12 ht) (own_l84 q0 q1 q2 tt h0 h1 h2 h01 h02 h12 ht)) 0 (by decide) (by decide) e422 PLx488.1.1 (by rw [hml]; rfl) [(.int q0)] [] (lenOf pd_3 rfl) rfl rfl (Nat.le_of_eq rfl) (Jvm.hb hby at_213) (pc' := 216) rfl (cells' := 9) (slots' := 30) rfl rfl (by decide) (by decide) ?_
          intro v489 T489 L489 X489 hQ489
          obtain ⟨rfl, Nq489, K489, PL489⟩ := hQ489
          have N489 := Fr.app N422 Nq489
          have Z490 : n0 ≤ T489.heap.size := Nat.le_trans Z423 K489.1
          show own_Gl p e below s (own_Q0 n0) room_1.cells room_1.slots (T489.setTop (mkF m 216 #[.val (.int x0), .val (.int x1), .val (.int x2), .val (.int x3), .val (.int x4), .val (.int (3 : Int32)), .val (.int (1 : Int32)), .val (.int tt), .val (.int q0), .val (.ref ad386), .val (.ref ad394), .val (.ref ad403), .val (.int (0 : Int32)), .unset] []))
          refine g_aload X489.here hx (Jvm.hb hby at_216) (pc' := 218) rfl rfl rfl ?_
          refine g_iload X489.here hx (Jvm.hb hby at_218) (pc' := 220) rfl rfl ?_
          refine g_iconst X489.here hx (Jvm.hb hby at_220) (pc' := 221) rfl (z := (0 : Int32)) rfl ?_
          have F491 := (V422.keep K489 (ninS (Nat.ne_of_lt (by omega)) (ninS (Nat.ne_of_lt (by omega)) (ninS (Nat.ne_of_lt (by omega)) (ninS (Nat.ne_of_lt (by omega)) (ninS (Nat.ne_of_lt (by omega)) (ninS (Nat.ne_of_lt (by omega)) nin0)))))))
          refine g_zastore X489 hx hZ rfl F491 ⟨by decide, by decide⟩ (x' := (0 : Int32)) rfl (Jvm.hb hby at_221) (pc' := 222) rfl ?_
          intro T492 hh492 X492 e492 W492 V492
          have N492 := Fr.snoc X492 N489 g_ad394
          have Z493 : n0 ≤ hh492.size := (by rw [W492.size]; exact Z490)
          refine g_aload X492.here hx (Jvm.hb hby at_222) (pc' := 224) rfl rfl rfl ?_
          refine g_iconst X492.here hx (Jvm.hb hby at_224) (pc' := 225) rfl (z := (3 : Int32)) rfl ?_
          refine g_iload X492.here hx (Jvm.hb hby at_225) (pc' := 227) rfl rfl ?_
          have PLx494 := (own_PL.other PL489 W492 hord (by omega))
          refine g_callV X492 hx hZ hown w_32 w_33 (own_nf hZ w_35) w_35 w_34 w_5 w_36 (by decide) (rm5 l Z a0 hw [] ad403 r0 r1 r2 r3 r4 r5 (3 : Int32) tt (own_rm (own_rm (own_ap (own_ap (own_ap own_st0 q0 tt) q1 tt) q2 tt) q1) q0) hh492 n0 Z493 g_ad403 hord PLx494 ⟨by decide, by decide⟩ rt (own_l85 q0 q1 q2 tt h0 h1 h2 h01 h02 h12 ht)) 0 (by decide) (by decide) e492 PLx494.1.1 (by rw [hml]; rfl) [(.int (3 : Int32)), (.int tt)] [] (lenOf pd_2 rfl) rfl rfl (Nat.le_of_eq rfl) (Jvm.hb hby at_227) (pc' := 230) rfl (cells' := 9) (slots' := 30) rfl rfl (by decide) (by decide) ?_
          intro v495 T495 L495 X495 hQ495
          obtain ⟨rfl, Nq495, K495, PL495⟩ := hQ495
          have N495 := Fr.app N492 Nq495
          have Z496 : n0 ≤ T495.heap.size := Nat.le_trans Z493 K495.1
          show own_Gl p e below s (own_Q0 n0) room_1.cells room_1.slots (T495.setTop (mkF m 230 #[.val (.int x0), .val (.int x1), .val (.int x2), .val (.int x3), .val (.int x4), .val (.int (3 : Int32)), .val (.int (1 : Int32)), .val (.int tt), .val (.int q0), .val (.ref ad386), .val (.ref ad394), .val (.ref ad403), .val (.int (0 : Int32)), .unset] []))
          refine g_iconst X495.here hx (Jvm.hb hby at_230) (pc' := 231) rfl (z := (3 : Int32)) rfl ?_
          have F497 := (((F487.keep K489 (ninS (Nat.ne_of_lt (by omega)) (ninS (Nat.ne_of_lt (by omega)) (ninS (Nat.ne_of_lt (by omega)) (ninS (Nat.ne_of_lt (by omega)) (ninS (Nat.ne_of_lt (by omega)) (ninS (Nat.ne_of_lt (by omega)) nin0))))))).other W492 ne_ad386_ad394).keep K495 (ninS (Nat.ne_of_lt (by omega)) (ninS (Nat.ne_of_lt (by omega)) (ninS (Nat.ne_of_lt (by omega)) (ninS (Nat.ne_of_lt (by omega)) (ninS (Nat.ne_of_lt (by omega)) (ninS (Nat.ne_of_lt (by omega)) nin0)))))))
          have F498 := (V492.keep K495 (ninS (Nat.ne_of_lt (by omega)) (ninS (Nat.ne_of_lt (by omega)) (ninS (Nat.ne_of_lt (by omega)) (ninS (Nat.ne_of_lt (by omega)) (ninS (Nat.ne_of_lt (by omega)) (ninS (Nat.ne_of_lt (by omega)) nin0)))))))
          refine g_newarr X495 hx hZ (ty := .int) rfl rfl w_1 rfl (Jvm.hb hby at_231) (pc' := 233) rfl (n := 3) (by decide) 3 (by decide) (by decide) (cells' := 10) (slots' := 33) rfl rfl (by decide) (by decide) ?_
          intro T499 hh499 ad499 gb499 X499 e499 E499 V499
          have g_ad499 : n0 ≤ ad499 := by rw [gb499]; exact Z496
          have lt_ad386_ad499 : @LT.lt Nat _ ad386 ad499 := by rw [gb499]; exact F497.lt
          have ne_ad386_ad499 : ad386 ≠ ad499 := Nat.ne_of_lt lt_ad386_ad499
          have lt_ad394_ad499 : @LT.lt Nat _ ad394 ad499 := by rw [gb499]; exact F498.lt
          have ne_ad394_ad499 : ad394 ≠ ad499 := Nat.ne_of_lt lt_ad394_ad499
          have lt_ad403_ad499 : @LT.lt Nat _ ad403 ad499 := by rw [gb499]; exact PL495.1.1.lt
          have ne_ad403_ad499 : ad403 ≠ ad499 := Nat.ne_of_lt lt_ad403_ad499
          have Z500 : n0 ≤ hh499.size := Nat.le_trans Z496 E499.1
          have lt5 : @LT.lt Nat _ r5 ad499 := by rw [gb499]; exact own_PL.lt5 PL495
          refine g_astore X499.here hx (Jvm.hb hby at_233) (pc' := 235) rfl rfl (L' := #[.val (.int x0), .val (.int x1), .val (.int x2), .val (.int x3), .val (.int x4), .val (.int (3 : Int32)), .val (.int (1 : Int32)), .val (.int tt), .val (.int q0), .val (.ref ad386), .val (.ref ad394), .val (.ref ad403), .val (.ref ad499), .unset]) rfl ?_
          refine g_aload X499.here hx (Jvm.hb hby at_235) (pc' := 237) rfl rfl rfl ?_
          refine g_iconst X499.here hx (Jvm.hb hby at_237) (pc' := 238) rfl (z := (0 : Int32)) rfl ?_
          refine g_iconst X499.here hx (Jvm.hb hby at_238) (pc' := 239) rfl (z := (-1 : Int32)) rfl ?_
          refine g_iastore X499 hx hZ e499 V499 ⟨by decide, by decide⟩ (Jvm.hb hby at_239) (pc' := 240) rfl ?_
          intro T501 hh501 X501 e501 W501 V501
          have N501 := Fr.snoc X501 N495 g_ad499
          have Z502 : n0 ≤ hh501.size := (by rw [W501.size]; exact Z500)
          refine g_aload X501.here hx (Jvm.hb hby at_240) (pc' := 242) rfl rfl rfl ?_
          refine g_iconst X501.here hx (Jvm.hb hby at_242) (pc' := 243) rfl (z := (1 : Int32)) rfl ?_
          refine g_iconst X501.here hx (Jvm.hb hby at_243) (pc' := 244) rfl (z := (-1 : Int32)) rfl ?_
          refine g_iastore X501 hx hZ e501 V501 ⟨by decide, by decide⟩ (Jvm.hb hby at_244) (pc' := 245) rfl ?_
          intro T503 hh503 X503 e503 W503 V503
          have N503 := Fr.snoc X503 N501 g_ad499
          have Z504 : n0 ≤ hh503.size := (by rw [W503.size]; exact Z502)
          refine g_aload X503.here hx (Jvm.hb hby at_245) (pc' := 247) rfl rfl rfl ?_
          refine g_iconst X503.here hx (Jvm.hb hby at_247) (pc' := 248) rfl (z := (2 : Int32)) rfl ?_
          refine g_iconst X503.here hx (Jvm.hb hby at_248) (pc' := 249) rfl (z := (-1 : Int32)) rfl ?_
          refine g_iastore X503 hx hZ e503 V503 ⟨by decide, by decide⟩ (Jvm.hb hby at_249) (pc' := 250) rfl ?_
          intro T505 hh505 X505 e505 W505 V505
          have N505 := Fr.snoc X505 N503 g_ad499
          have Z506 : n0 ≤ hh505.size := (by rw [W505.size]; exact Z504)
          refine g_iconst X505.here hx (Jvm.hb hby at_250) (pc' := 251) rfl (z := (0 : Int32)) rfl ?_
          refine g_istore X505.here hx (Jvm.hb hby at_251) (pc' := 253) rfl (L' := #[.val (.int x0), .val (.int x1), .val (.int x2), .val (.int x3), .val (.int x4), .val (.int (3 : Int32)), .val (.int (1 : Int32)), .val (.int tt), .val (.int q0), .val (.ref ad386), .val (.ref ad394), .val (.ref ad403), .val (.ref ad499), .val (.int (0 : Int32))]) rfl ?_
          refine g_aload X505.here hx (Jvm.hb hby at_253) (pc' := 255) rfl rfl rfl ?_
          refine g_iconst X505.here hx (Jvm.hb hby at_255) (pc' := 256) rfl (z := (0 : Int32)) rfl ?_
          have F507 := ((((F498.ext E499).other W501 ne_ad394_ad499).other W503 ne_ad394_ad499).other W505 ne_ad394_ad499)
          refine g_zaload X505 hx hZ e505 F507 ⟨by decide, by decide⟩ (v := (0 : Int32)) rfl (Jvm.hb hby at_256) (pc' := 257) rfl ?_
          refine g_ifY X505.here hx (Jvm.hb hby at_257) (by decide) (pc' := 272) (by decide) ((if0 _ _).trans (teq (by decide)).1) ?_
          refine g_aload X505.here hx (Jvm.hb hby at_272) (pc' := 274) rfl rfl rfl ?_
          refine g_iconst X505.here hx (Jvm.hb hby at_274) (pc' := 275) rfl (z := (1 : Int32)) rfl ?_
          refine g_zaload X505 hx hZ e505 F507 ⟨by decide, by decide⟩ (v := (0 : Int32)) rfl (Jvm.hb hby at_275) (pc' := 276) rfl ?_
          refine g_ifY X505.here hx (Jvm.hb hby at_276) (by decide) (pc' := 291) (by decide) ((if0 _ _).trans (teq (by decide)).1) ?_
          refine g_aload X505.here hx (Jvm.hb hby at_291) (pc' := 293) rfl rfl rfl ?_
          refine g_iconst X505.here hx (Jvm.hb hby at_293) (pc' := 294) rfl (z := (2 : Int32)) rfl ?_
          refine g_zaload X505 hx hZ e505 F507 ⟨by decide, by decide⟩ (v := (1 : Int32)) rfl (Jvm.hb hby at_294) (pc' := 295) rfl ?_
          refine g_ifN X505.here hx (Jvm.hb hby at_295) (pc' := 298) rfl ((if0 _ _).trans (feq (by decide)).1) ?_
          refine g_aload X505.here hx (Jvm.hb hby at_298) (pc' := 300) rfl rfl rfl ?_
          refine g_iload X505.here hx (Jvm.hb hby at_300) (pc' := 302) rfl rfl ?_
          refine g_aload X505.here hx (Jvm.hb hby at_302) (pc' := 304) rfl rfl rfl ?_
          refine g_iconst X505.here hx (Jvm.hb hby at_304) (pc' := 305) rfl (z := (2 : Int32)) rfl ?_
          have F508 := ((((F497.ext E499).other W501 ne_ad386_ad499).other W503 ne_ad386_ad499).other W505 ne_ad386_ad499)
          refine g_iaload X505 hx hZ e505 F508 ⟨by decide, by decide⟩ (v := q2) rfl (Jvm.hb hby at_305) (pc' := 306) rfl ?_
          refine g_iastore X505 hx hZ e505 V505 ⟨by decide, by decide⟩ (Jvm.hb hby at_306) (pc' := 307) rfl ?_
          intro T509 hh509 X509 e509 W509 V509
          have N509 := Fr.snoc X509 N505 g_ad499
          have Z510 : n0 ≤ hh509.size := (by rw [W509.size]; exact Z506)
          refine g_iinc X509.here hx (Jvm.hb hby at_307) (pc' := 310) rfl (z := (1 : Int32)) rfl rfl (L' := #[.val (.int x0), .val (.int x1), .val (.int x2), .val (.int x3), .val (.int x4), .val (.int (3 : Int32)), .val (.int (1 : Int32)), .val (.int tt), .val (.int q0), .val (.ref ad386), .val (.ref ad394), .val (.ref ad403), .val (.ref ad499), .val (.int (1 : Int32))]) rfl ?_
          refine g_aload X509.here hx (Jvm.hb hby at_310) (pc' := 312) rfl rfl rfl ?_
          refine g_iload X509.here hx (Jvm.hb hby at_312) (pc' := 314) rfl rfl ?_
          refine g_iconst X509.here hx (Jvm.hb hby at_314) (pc' := 315) rfl (z := (3 : Int32)) rfl ?_
          refine g_iastore X509 hx hZ e509 V509 ⟨by decide, by decide⟩ (Jvm.hb hby at_315) (pc' := 316) rfl ?_
          intro T511 hh511 X511 e511 W511 V511
          have N511 := Fr.snoc X511 N509 g_ad499
          have Z512 : n0 ≤ hh511.size := (by rw [W511.size]; exact Z510)
          refine g_aload X511.here hx (Jvm.hb hby at_316) (pc' := 318) rfl rfl rfl ?_
          refine g_aload X511.here hx (Jvm.hb hby at_318) (pc' := 320) rfl rfl rfl ?_
          refine g_iload X511.here hx (Jvm.hb hby at_320) (pc' := 322) rfl rfl ?_
          have F513 := ((F508.other W509 ne_ad386_ad499).other W511 ne_ad386_ad499)
          refine g_iaload X511 hx hZ e511 F513 ⟨by decide, by decide⟩ (v := q1) rfl (Jvm.hb hby at_322) (pc' := 323) rfl ?_
          have PLx514 := (own_PL.other (own_PL.other (own_PL.other (own_PL.other (own_PL.other (own_PL.ext PL495 E499) W501 hord (by omega)) W503 hord (by omega)) W505 hord (by omega)) W509 hord (by omega)) W511 hord (by omega))
          refine g_callV X511 hx hZ hown w_42 w_43 (own_nf hZ w_45) w_45 w_44 w_5 w_46 (by decide) (rm7 l Z a0 hw [] ad403 r0 r1 r2 r3 r4 r5 q1 (own_ap (own_rm (own_rm (own_ap (own_ap (own_ap own_st0 q0 tt) q1 tt) q2 tt) q1) q0) (3 : Int32) tt) hh511 PLx514 ⟨h1.1, by omega⟩) 0 (by decide) (by decide) e511 PLx514.1.1 (by rw [hml]; rfl) [(.int q1)] [] (lenOf pd_4 rfl) rfl rfl (Nat.le_of_eq rfl) (Jvm.hb hby at_323) (pc' := 326) rfl (cells' := 10) (slots' := 33) rfl rfl (by decide) (by decide) ?_
          intro v515 T515 L515 X515 hQ515
          obtain ⟨rfl, rfl, e515⟩ := hQ515
          rw [List.append_nil] at X515
          show own_Gl p e below s (own_Q0 n0) room_1.cells room_1.slots (T515.setTop (mkF m 326 #[.val (.int x0), .val (.int x1), .val (.int x2), .val (.int x3), .val (.int x4), .val (.int (3 : Int32)), .val (.int (1 : Int32)), .val (.int tt), .val (.int q0), .val (.ref ad386), .val (.ref ad394), .val (.ref ad403), .val (.ref ad499), .val (.int (1 : Int32))] [(.int ((own_ap (own_rm (own_rm (own_ap (own_ap (own_ap own_st0 q0 tt) q1 tt) q2 tt) q1) q0) (3 : Int32) tt) 0 q1.toNatClampNeg))]))
          refine g_iconst X515.here hx (Jvm.hb hby at_326) (pc' := 327) rfl (z := (-1 : Int32)) rfl ?_
          refine g_icY X515.here hx (Jvm.hb hby at_327) (by decide) (pc' := 332) (by decide) (teq (own_l86 q0 q1 q2 tt h0 h1 h2 h01 h02 h12 ht)).1 ?_
          refine g_aload X515.here hx (Jvm.hb hby at_332) (pc' := 334) rfl rfl rfl ?_
          refine g_iload X515.here hx (Jvm.hb hby at_334) (pc' := 336) rfl rfl ?_
          refine g_callV X515 hx hZ hown w_47 w_48 (own_nf hZ w_50) w_50 w_49 w_5 w_51 (by decide) (rm8 l Z a0 hw [] ad403 r0 r1 r2 r3 r4 r5 tt (own_ap (own_rm (own_rm (own_ap (own_ap (own_ap own_st0 q0 tt) q1 tt) q2 tt) q1) q0) (3 : Int32) tt) hh511 PLx514 rt) 0 (by decide) (by decide) e515 PLx514.1.1 (by rw [hml]; rfl) [(.int tt)] [] (lenOf pd_4 rfl) rfl rfl (Nat.le_of_eq rfl) (Jvm.hb hby at_336) (pc' := 339) rfl (cells' := 10) (slots' := 33) rfl rfl (by decide) (by decide) ?_
          intro v516 T516 L516 X516 hQ516
          obtain ⟨rfl, rfl, e516⟩ := hQ516
          rw [List.append_nil] at X516
          show own_Gl p e below s (own_Q0 n0) room_1.cells room_1.slots (T516.setTop (mkF m 339 #[.val (.int x0), .val (.int x1), .val (.int x2), .val (.int x3), .val (.int x4), .val (.int (3 : Int32)), .val (.int (1 : Int32)), .val (.int tt), .val (.int q0), .val (.ref ad386), .val (.ref ad394), .val (.ref ad403), .val (.ref ad499), .val (.int (1 : Int32))] [(.int ((own_ap (own_rm (own_rm (own_ap (own_ap (own_ap own_st0 q0 tt) q1 tt) q2 tt) q1) q0) (3 : Int32) tt) 5 tt.toNatClampNeg))]))
          refine g_iload X516.here hx (Jvm.hb hby at_339) (pc' := 341) rfl rfl ?_
          refine g_iconst X516.here hx (Jvm.hb hby at_341) (pc' := 342) rfl (z := (1 : Int32)) rfl ?_
          refine g_iadd X516.here hx (Jvm.hb hby at_342) (pc' := 343) rfl ?_
          refine g_icY X516.here hx (Jvm.hb hby at_343) (by decide) (pc' := 348) (by decide) (teq ((own_l87 q0 q1 q2 tt h0 h1 h2 h01 h02 h12 ht))).1 ?_
          refine g_aload X516.here hx (Jvm.hb hby at_348) (pc' := 350) rfl rfl rfl ?_
          refine g_iload X516.here hx (Jvm.hb hby at_350) (pc' := 352) rfl rfl ?_
          refine g_callV X516 hx hZ hown w_52 w_53 (own_nf hZ w_55) w_55 w_54 w_5 w_56 (by decide) (rm9 l Z a0 hw [] ad403 r0 r1 r2 r3 r4 r5 tt (own_ap (own_rm (own_rm (own_ap (own_ap (own_ap own_st0 q0 tt) q1 tt) q2 tt) q1) q0) (3 : Int32) tt) hh511 PLx514 rt) 0 (by decide) (by decide) e516 PLx514.1.1 (by rw [hml]; rfl) [(.int tt)] [] (lenOf pd_4 rfl) rfl rfl (Nat.le_of_eq rfl) (Jvm.hb hby at_352) (pc' := 355) rfl (cells' := 10) (slots' := 33) rfl rfl (by decide) (by decide) ?_
          intro v517 T517 L517 X517 hQ517
          obtain ⟨rfl, rfl, e517⟩ := hQ517
          rw [List.append_nil] at X517
          show own_Gl p e below s (own_Q0 n0) room_1.cells room_1.slots (T517.setTop (mkF m 355 #[.val (.int x0), .val (.int x1), .val (.int x2), .val (.int x3), .val (.int x4), .val (.int (3 : Int32)), .val (.int (1 : Int32)), .val (.int tt), .val (.int q0), .val (.ref ad386), .val (.ref ad394), .val (.ref ad403), .val (.ref ad499), .val (.int (1 : Int32))] [(.int ((own_ap (own_rm (own_rm (own_ap (own_ap (own_ap own_st0 q0 tt) q1 tt) q2 tt) q1) q0) (3 : Int32) tt) 3 tt.toNatClampNeg))]))
          refine g_aload X517.here hx (Jvm.hb hby at_355) (pc' := 357) rfl rfl rfl ?_
          refine g_iconst X517.here hx (Jvm.hb hby at_357) (pc' := 358) rfl (z := (0 : Int32)) rfl ?_
          refine g_iaload X517 hx hZ e517 V511 ⟨by decide, by decide⟩ (v := q2) rfl (Jvm.hb hby at_358) (pc' := 359) rfl ?_
          refine g_icY X517.here hx (Jvm.hb hby at_359) (by decide) (pc' := 364) (by decide) (teq (own_l88 q0 q1 q2 tt h0 h1 h2 h01 h02 h12 ht)).1 ?_
          refine g_aload X517.here hx (Jvm.hb hby at_364) (pc' := 366) rfl rfl rfl ?_
          refine g_iconst X517.here hx (Jvm.hb hby at_366) (pc' := 367) rfl (z := (0 : Int32)) rfl ?_
          refine g_iaload X517 hx hZ e517 V511 ⟨by decide, by decide⟩ (v := q2) rfl (Jvm.hb hby at_367) (pc' := 368) rfl ?_
          refine g_iconst X517.here hx (Jvm.hb hby at_368) (pc' := 369) rfl (z := (3 : Int32)) rfl ?_
          refine g_icN X517.here hx (Jvm.hb hby at_369) (pc' := 372) rfl (feq (fun q => by have := congrArg Int32.toInt q; simp only [Int32.reduceToInt] at this; omega)).1 ?_
          refine g_aload X517.here hx (Jvm.hb hby at_372) (pc' := 374) rfl rfl rfl ?_
          refine g_aload X517.here hx (Jvm.hb hby at_374) (pc' := 376) rfl rfl rfl ?_
          refine g_iconst X517.here hx (Jvm.hb hby at_376) (pc' := 377) rfl (z := (0 : Int32)) rfl ?_
          refine g_iaload X517 hx hZ e517 V511 ⟨by decide, by decide⟩ (v := q2) rfl (Jvm.hb hby at_377) (pc' := 378) rfl ?_
          refine g_callV X517 hx hZ hown w_57 w_58 (own_nf hZ w_60) w_60 w_59 w_5 w_61 (by decide) (rm10 l Z a0 hw [] ad403 r0 r1 r2 r3 r4 r5 q2 (own_ap (own_rm (own_rm (own_ap (own_ap (own_ap own_st0 q0 tt) q1 tt) q2 tt) q1) q0) (3 : Int32) tt) hh511 PLx514 ⟨h2.1, by omega⟩) 0 (by decide) (by decide) e517 PLx514.1.1 (by rw [hml]; rfl) [(.int q2)] [] (lenOf pd_4 rfl) rfl rfl (Nat.le_of_eq rfl) (Jvm.hb hby at_378) (pc' := 381) rfl (cells' := 10) (slots' := 33) rfl rfl (by decide) (by decide) ?_
          intro v518 T518 L518 X518 hQ518
          obtain ⟨rfl, rfl, e518⟩ := hQ518
          rw [List.append_nil] at X518
          show own_Gl p e below s (own_Q0 n0) room_1.cells room_1.slots (T518.setTop (mkF m 381 #[.val (.int x0), .val (.int x1), .val (.int x2), .val (.int x3), .val (.int x4), .val (.int (3 : Int32)), .val (.int (1 : Int32)), .val (.int tt), .val (.int q0), .val (.ref ad386), .val (.ref ad394), .val (.ref ad403), .val (.ref ad499), .val (.int (1 : Int32))] [(.int ((own_ap (own_rm (own_rm (own_ap (own_ap (own_ap own_st0 q0 tt) q1 tt) q2 tt) q1) q0) (3 : Int32) tt) 2 q2.toNatClampNeg))]))
          refine g_aload X518.here hx (Jvm.hb hby at_381) (pc' := 383) rfl rfl rfl ?_
          refine g_iconst X518.here hx (Jvm.hb hby at_383) (pc' := 384) rfl (z := (1 : Int32)) rfl ?_
          refine g_iaload X518 hx hZ e518 V511 ⟨by decide, by decide⟩ (v := (3 : Int32)) rfl (Jvm.hb hby at_384) (pc' := 385) rfl ?_
          refine g_icY X518.here hx (Jvm.hb hby at_385) (by decide) (pc' := 390) (by decide) (teq (own_l89 q0 q1 q2 tt h0 h1 h2 h01 h02 h12 ht)).1 ?_
          refine g_aload X518.here hx (Jvm.hb hby at_390) (pc' := 392) rfl rfl rfl ?_
          refine g_iconst X518.here hx (Jvm.hb hby at_392) (pc' := 393) rfl (z := (0 : Int32)) rfl ?_
          refine g_iaload X518 hx hZ e518 V511 ⟨by decide, by decide⟩ (v := q2) rfl (Jvm.hb hby at_393) (pc' := 394) rfl ?_
          refine g_iconst X518.here hx (Jvm.hb hby at_394) (pc' := 395) rfl (z := (3 : Int32)) rfl ?_
          refine g_icN X518.here hx (Jvm.hb hby at_395) (pc' := 398) rfl (feq (fun q => by have := congrArg Int32.toInt q; simp only [Int32.reduceToInt] at this; omega)).1 ?_
          refine g_aload X518.here hx (Jvm.hb hby at_398) (pc' := 400) rfl rfl rfl ?_
          refine g_iconst X518.here hx (Jvm.hb hby at_400) (pc' := 401) rfl (z := (1 : Int32)) rfl ?_
          refine g_iaload X518 hx hZ e518 V511 ⟨by decide, by decide⟩ (v := (3 : Int32)) rfl (Jvm.hb hby at_401) (pc' := 402) rfl ?_
          refine g_iconst X518.here hx (Jvm.hb hby at_402) (pc' := 403) rfl (z := (3 : Int32)) rfl ?_
          refine g_icY X518.here hx (Jvm.hb hby at_403) (by decide) (pc' := 424) (by decide) (teq (by decide)).1 ?_
          refine g_iconst X518.here hx (Jvm.hb hby at_424) (pc' := 425) rfl (z := (1 : Int32)) rfl ?_
          exact g_retN X518 hx hlk (t := .boolean) hret (by simp) (z' := (1 : Int32)) rfl (Jvm.hb hby at_425) (by decide) (by decide) ⟨rfl, N511⟩
    · refine g_iloadN X0.here hx (Jvm.hb hby at_19) (pc' := 20) rfl rfl ?_
      refine g_iconst X0.here hx (Jvm.hb hby at_20) (pc' := 21) rfl (z := (1 : Int32)) rfl ?_
      refine g_iand X0.here hx (Jvm.hb hby at_21) (pc' := 22) rfl ?_
      refine g_istore X0.here hx (Jvm.hb hby at_22) (pc' := 24) rfl (L' := #[.val (.int x0), .val (.int x1), .val (.int x2), .val (.int x3), .val (.int x4), .val (.int (3 : Int32)), .val (.int (2 : Int32)), .val (.int (x2 &&& (1 : Int32))), .unset, .unset, .unset, .unset, .unset, .unset]) rfl ?_
      generalize htt : (x2 &&& (1 : Int32)) = tt
      have ht := and_one x2
      rw [htt] at ht
      have rt := own_rg tt ht
      refine g_iload X0.here hx (Jvm.hb hby at_24) (pc' := 26) rfl rfl ?_
      refine g_ldc X0 hx hZ hown w_0 (Jvm.hb hby at_26) (pc' := 28) rfl ?_
      refine g_iand X0.here hx (Jvm.hb hby at_28) (pc' := 29) rfl ?_
      refine g_iconst X0.here hx (Jvm.hb hby at_29) (pc' := 30) rfl (z := (3 : Int32)) rfl ?_
      refine g_irem X0 hx (Jvm.hb hby at_30) (pc' := 31) rfl (by decide) ?_
      refine g_istore X0.here hx (Jvm.hb hby at_31) (pc' := 33) rfl (L' := #[.val (.int x0), .val (.int x1), .val (.int x2), .val (.int x3), .val (.int x4), .val (.int (3 : Int32)), .val (.int (2 : Int32)), .val (.int tt), .val (.int ((x4 &&& (2147483647 : Int32)) % (3 : Int32))), .unset, .unset, .unset, .unset, .unset]) rfl ?_
      generalize hq0 : ((x4 &&& (2147483647 : Int32)) % (3 : Int32)) = q0
      obtain ⟨q1, hq1⟩ : ∃ z, ((q0 + (1 : Int32)) % (3 : Int32)) = z := ⟨_, rfl⟩
      obtain ⟨q2, hq2⟩ : ∃ z, ((q0 + (2 : Int32)) % (3 : Int32)) = z := ⟨_, rfl⟩
      obtain ⟨h0, h1, h2, h01, h02, h12⟩ := own_pg x4 q0 q0 q1 q2 hq0 hq1 hq2
      refine g_iconst X0.here hx (Jvm.hb hby at_33) (pc' := 34) rfl (z := (3 : Int32)) rfl ?_
      refine g_newarr X0 hx hZ (ty := .int) rfl rfl w_1 e0 (Jvm.hb hby at_34) (pc' := 36) rfl (n := 3) (by decide) 3 (by decide) (by decide) (cells' := 1) (slots' := 3) rfl rfl (by decide) (by decide) ?_
      intro T519 hh519 ad519 gb519 X519 e519 E519 V519
      have g_ad519 : n0 ≤ ad519 := by rw [gb519]; exact Z0
      have Z520 : n0 ≤ hh519.size := Nat.le_trans Z0 E519.1
      refine g_astore X519.here hx (Jvm.hb hby at_36) (pc' := 38) rfl rfl (L' := #[.val (.int x0), .val (.int x1), .val (.int x2), .val (.int x3), .val (.int x4), .val (.int (3 : Int32)), .val (.int (2 : Int32)), .val (.int tt), .val (.int q0), .val (.ref ad519), .unset, .unset, .unset, .unset]) rfl ?_
      refine g_aload X519.here hx (Jvm.hb hby at_38) (pc' := 40) rfl rfl rfl ?_
      refine g_iconst X519.here hx (Jvm.hb hby at_40) (pc' := 41) rfl (z := (0 : Int32)) rfl ?_
      refine g_iload X519.here hx (Jvm.hb hby at_41) (pc' := 43) rfl rfl ?_
      refine g_iastore X519 hx hZ e519 V519 ⟨by decide, by decide⟩ (Jvm.hb hby at_43) (pc' := 44) rfl ?_
      intro T521 hh521 X521 e521 W521 V521
      have N521 := Fr.snoc X521 N0 g_ad519
      have Z522 : n0 ≤ hh521.size := (by rw [W521.size]; exact Z520)
      refine g_aload X521.here hx (Jvm.hb hby at_44) (pc' := 46) rfl rfl rfl ?_
      refine g_iconst X521.here hx (Jvm.hb hby at_46) (pc' := 47) rfl (z := (1 : Int32)) rfl ?_
      refine g_iload X521.here hx (Jvm.hb hby at_47) (pc' := 49) rfl rfl ?_
      refine g_iconst X521.here hx (Jvm.hb hby at_49) (pc' := 50) rfl (z := (1 : Int32)) rfl ?_
      refine g_iadd X521.here hx (Jvm.hb hby at_50) (pc' := 51) rfl ?_
      refine g_iconst X521.here hx (Jvm.hb hby at_51) (pc' := 52) rfl (z := (3 : Int32)) rfl ?_
      refine g_irem X521 hx (Jvm.hb hby at_52) (pc' := 53) rfl (by decide) ?_
      rw [hq1]
      refine g_iastore X521 hx hZ e521 V521 ⟨by decide, by decide⟩ (Jvm.hb hby at_53) (pc' := 54) rfl ?_
      intro T523 hh523 X523 e523 W523 V523
      have N523 := Fr.snoc X523 N521 g_ad519
      have Z524 : n0 ≤ hh523.size := (by rw [W523.size]; exact Z522)
      refine g_aload X523.here hx (Jvm.hb hby at_54) (pc' := 56) rfl rfl rfl ?_
      refine g_iconst X523.here hx (Jvm.hb hby at_56) (pc' := 57) rfl (z := (2 : Int32)) rfl ?_
      refine g_iload X523.here hx (Jvm.hb hby at_57) (pc' := 59) rfl rfl ?_
      refine g_iconst X523.here hx (Jvm.hb hby at_59) (pc' := 60) rfl (z := (2 : Int32)) rfl ?_
      refine g_iadd X523.here hx (Jvm.hb hby at_60) (pc' := 61) rfl ?_
      refine g_iconst X523.here hx (Jvm.hb hby at_61) (pc' := 62) rfl (z := (3 : Int32)) rfl ?_
      refine g_irem X523 hx (Jvm.hb hby at_62) (pc' := 63) rfl (by decide) ?_
      rw [hq2]
      refine g_iastore X523 hx hZ e523 V523 ⟨by decide, by decide⟩ (Jvm.hb hby at_63) (pc' := 64) rfl ?_
      intro T525 hh525 X525 e525 W525 V525
      have N525 := Fr.snoc X525 N523 g_ad519
      have Z526 : n0 ≤ hh525.size := (by rw [W525.size]; exact Z524)
      refine g_iconst X525.here hx (Jvm.hb hby at_64) (pc' := 65) rfl (z := (3 : Int32)) rfl ?_
      refine g_newarr X525 hx hZ (ty := .boolean) rfl rfl w_2 e525 (Jvm.hb hby at_65) (pc' := 67) rfl (n := 3) (by decide) 3 (by decide) (by decide) (cells' := 2) (slots' := 6) rfl rfl (by decide) (by decide) ?_
      intro T527 hh527 ad527 gb527 X527 e527 E527 V527
      have g_ad527 : n0 ≤ ad527 := by rw [gb527]; exact Z526
      have lt_ad519_ad527 : @LT.lt Nat _ ad519 ad527 := by rw [gb527]; exact V525.lt
      have ne_ad519_ad527 : ad519 ≠ ad527 := Nat.ne_of_lt lt_ad519_ad527
      have Z528 : n0 ≤ hh527.size := Nat.le_trans Z526 E527.1
      refine g_astore X527.here hx (Jvm.hb hby at_67) (pc' := 69) rfl rfl (L' := #[.val (.int x0), .val (.int x1), .val (.int x2), .val (.int x3), .val (.int x4), .val (.int (3 : Int32)), .val (.int (2 : Int32)), .val (.int tt), .val (.int q0), .val (.ref ad519), .val (.ref ad527), .unset, .unset, .unset]) rfl ?_
      refine g_aload X527.here hx (Jvm.hb hby at_69) (pc' := 71) rfl rfl rfl ?_
      refine g_iconst X527.here hx (Jvm.hb hby at_71) (pc' := 72) rfl (z := (0 : Int32)) rfl ?_
      refine g_iconst X527.here hx (Jvm.hb hby at_72) (pc' := 73) rfl (z := (1 : Int32)) rfl ?_
      refine g_zastore X527 hx hZ e527 V527 ⟨by decide, by decide⟩ (x' := (1 : Int32)) rfl (Jvm.hb hby at_73) (pc' := 74) rfl ?_
      intro T529 hh529 X529 e529 W529 V529
      have N529 := Fr.snoc X529 N525 g_ad527
      have Z530 : n0 ≤ hh529.size := (by rw [W529.size]; exact Z528)
      refine g_aload X529.here hx (Jvm.hb hby at_74) (pc' := 76) rfl rfl rfl ?_
      refine g_iconst X529.here hx (Jvm.hb hby at_76) (pc' := 77) rfl (z := (1 : Int32)) rfl ?_
      refine g_iload X529.here hx (Jvm.hb hby at_77) (pc' := 79) rfl rfl ?_
      refine g_iconst X529.here hx (Jvm.hb hby at_79) (pc' := 80) rfl (z := (1 : Int32)) rfl ?_
      refine g_icN X529.here hx (Jvm.hb hby at_80) (pc' := 83) rfl (tlt (by decide)).2.2.2 ?_
      refine g_iconst X529.here hx (Jvm.hb hby at_83) (pc' := 84) rfl (z := (1 : Int32)) rfl ?_
      refine g_goto X529.here hx (Jvm.hb hby at_84) (by decide) (pc' := 88) (by decide) ?_
      refine g_zastore X529 hx hZ e529 V529 ⟨by decide, by decide⟩ (x' := (1 : Int32)) rfl (Jvm.hb hby at_88) (pc' := 89) rfl ?_
      intro T531 hh531 X531 e531 W531 V531
      have N531 := Fr.snoc X531 N529 g_ad527
      have Z532 : n0 ≤ hh531.size := (by rw [W531.size]; exact Z530)
      refine g_aload X531.here hx (Jvm.hb hby at_89) (pc' := 91) rfl rfl rfl ?_
      refine g_iconst X531.here hx (Jvm.hb hby at_91) (pc' := 92) rfl (z := (2 : Int32)) rfl ?_
      refine g_iload X531.here hx (Jvm.hb hby at_92) (pc' := 94) rfl rfl ?_
      refine g_iconst X531.here hx (Jvm.hb hby at_94) (pc' := 95) rfl (z := (2 : Int32)) rfl ?_
      refine g_icN X531.here hx (Jvm.hb hby at_95) (pc' := 98) rfl (tlt (by decide)).2.2.2 ?_
      refine g_iconst X531.here hx (Jvm.hb hby at_98) (pc' := 99) rfl (z := (1 : Int32)) rfl ?_
      refine g_goto X531.here hx (Jvm.hb hby at_99) (by decide) (pc' := 103) (by decide) ?_
      refine g_zastore X531 hx hZ e531 V531 ⟨by decide, by decide⟩ (x' := (1 : Int32)) rfl (Jvm.hb hby at_103) (pc' := 104) rfl ?_
      intro T533 hh533 X533 e533 W533 V533
      have N533 := Fr.snoc X533 N531 g_ad527
      have Z534 : n0 ≤ hh533.size := (by rw [W533.size]; exact Z532)
      have F535 := ((((V525.ext E527).other W529 ne_ad519_ad527).other W531 ne_ad519_ad527).other W533 ne_ad519_ad527)
      refine g_new X533 hx hZ hown w_3 w_4 w_5 e533 (Jvm.hb hby at_104) (pc' := 107) rfl (cells' := 3) (slots' := 12) rfl rfl (by decide) (by decide) ?_
      intro T536 hh536 ad536 gb536 X536 e536 E536 A536 D536
      have g_ad536 : n0 ≤ ad536 := by rw [gb536]; exact Z534
      have lt_ad519_ad536 : @LT.lt Nat _ ad519 ad536 := by rw [gb536]; exact F535.lt
      have ne_ad519_ad536 : ad519 ≠ ad536 := Nat.ne_of_lt lt_ad519_ad536
      have lt_ad527_ad536 : @LT.lt Nat _ ad527 ad536 := by rw [gb536]; exact V533.lt
      have ne_ad527_ad536 : ad527 ≠ ad536 := Nat.ne_of_lt lt_ad527_ad536
      have Z537 : n0 ≤ hh536.size := Nat.le_trans Z534 E536.1
      have F536_list : Fld Z hh536 ad536 "com/example/tierstone/tierstone/PageLists" "list" "[B" .null := D536 (Or.inr w_14) (ty := (.array .byte)) (by decide)
      have F536_older : Fld Z hh536 ad536 "com/example/tierstone/tierstone/PageLists" "older" "[I" .null := D536 (Or.inr w_20) (ty := (.array .int)) (by decide)
      have F536_newer : Fld Z hh536 ad536 "com/example/tierstone/tierstone/PageLists" "newer" "[I" .null := D536 (Or.inr w_22) (ty := (.array .int)) (by decide)
      have F536_oldest : Fld Z hh536 ad536 "com/example/tierstone/tierstone/PageLists" "oldest" "[I" .null := D536 (Or.inr w_24) (ty := (.array .int)) (by decide)
      have F536_newest : Fld Z hh536 ad536 "com/example/tierstone/tierstone/PageLists" "newest" "[I" .null := D536 (Or.inr w_26) (ty := (.array .int)) (by decide)
      have F536_length : Fld Z hh536 ad536 "com/example/tierstone/tierstone/PageLists" "length" "[I" .null := D536 (Or.inr w_31) (ty := (.array .int)) (by decide)
      refine g_dup X536.here hx (Jvm.hb hby at_107) (pc' := 108) rfl rfl ?_
      refine g_iconst X536.here hx (Jvm.hb hby at_108) (pc' := 109) rfl (z := (2 : Int32)) rfl ?_
      refine g_iconst X536.here hx (Jvm.hb hby at_109) (pc' := 110) rfl (z := (4 : Int32)) rfl ?_
      have F538 := (F535.ext E536)
      have F539 := (V533.ext E536)
      refine g_callI X536 hx hZ rfl hown w_6 w_7 w_5 w_8 (by decide) (rm1 l Z a0 hw [] ad536 (2 : Int32) (4 : Int32) hh536 n0 Z537 g_ad536 A536 F536_list F536_older F536_newer F536_oldest F536_newest F536_length (by decide) (by decide)) 1 (by decide) (by decide) e536 (by rw [hml]; rfl) [(.int (2 : Int32)), (.int (4 : Int32))] [(.ref ad536)] (lenOf pd_2 rfl) rfl rfl (Nat.le_of_eq rfl) (Jvm.hb hby at_110) (pc' := 113) rfl (cells' := 9) (slots' := 30) rfl rfl (by decide) (by decide) ?_
      intro v540 T540 L540 X540 hQ540
      obtain ⟨rfl, Nq540, K540, r0, r1, r2, r3, r4, r5, hord, PL540⟩ := hQ540
      have N540 := Fr.app N533 Nq540
      have Z541 : n0 ≤ T540.heap.size := Nat.le_trans Z537 K540.1
      obtain ⟨o1, o2, o3, o4, o5, o6⟩ := id hord
      show own_Gl p e below s (own_Q0 n0) room_1.cells room_1.slots (T540.setTop (mkF m 113 #[.val (.int x0), .val (.int x1), .val (.int x2), .val (.int x3), .val (.int x4), .val (.int (3 : Int32)), .val (.int (2 : Int32)), .val (.int tt), .val (.int q0), .val (.ref ad519), .val (.ref ad527), .unset, .unset, .unset] [(.ref ad536)]))
      refine g_astore X540.here hx (Jvm.hb hby at_113) (pc' := 115) rfl rfl (L' := #[.val (.int x0), .val (.int x1), .val (.int x2), .val (.int x3), .val (.int x4), .val (.int (3 : Int32)), .val (.int (2 : Int32)), .val (.int tt), .val (.int q0), .val (.ref ad519), .val (.ref ad527), .val (.ref ad536), .unset, .unset]) rfl ?_
      refine g_aload X540.here hx (Jvm.hb hby at_115) (pc' := 117) rfl rfl rfl ?_
      refine g_aload X540.here hx (Jvm.hb hby at_117) (pc' := 119) rfl rfl rfl ?_
      refine g_iconst X540.here hx (Jvm.hb hby at_119) (pc' := 120) rfl (z := (0 : Int32)) rfl ?_
      have F542 := (F538.keep K540 (ninS ne_ad519_ad536 nin0))
      refine g_iaload X540 hx hZ rfl F542 ⟨by decide, by decide⟩ (v := q0) rfl (Jvm.hb hby at_120) (pc' := 121) rfl ?_
      refine g_iload X540.here hx (Jvm.hb hby at_121) (pc' := 123) rfl rfl ?_
      refine g_callV X540 hx hZ hown w_32 w_33 (own_nf hZ w_35) w_35 w_34 w_5 w_36 (by decide) (rm5 l Z a0 hw [] ad536 r0 r1 r2 r3 r4 r5 q0 tt own_st0 T540.heap n0 Z541 g_ad536 hord PL540 ⟨h0.1, by omega⟩ rt (own_l0 q0 q1 q2 tt h0 h1 h2 h01 h02 h12 ht)) 0 (by decide) (by decide) rfl PL540.1.1 (by rw [hml]; rfl) [(.int q0), (.int tt)] [] (lenOf pd_2 rfl) rfl rfl (Nat.le_of_eq rfl) (Jvm.hb hby at_123) (pc' := 126) rfl (cells' := 9) (slots' := 30) rfl rfl (by decide) (by decide) ?_
      intro v543 T543 L543 X543 hQ543
      obtain ⟨rfl, Nq543, K543, PL543⟩ := hQ543
      have N543 := Fr.app N540 Nq543
      have Z544 : n0 ≤ T543.heap.size := Nat.le_trans Z541 K543.1
      show own_Gl p e below s (own_Q0 n0) room_1.cells room_1.slots (T543.setTop (mkF m 126 #[.val (.int x0), .val (.int x1), .val (.int x2), .val (.int x3), .val (.int x4), .val (.int (3 : Int32)), .val (.int (2 : Int32)), .val (.int tt), .val (.int q0), .val (.ref ad519), .val (.ref ad527), .val (.ref ad536), .unset, .unset] []))
      refine g_iload X543.here hx (Jvm.hb hby at_126) (pc' := 128) rfl rfl ?_
      refine g_iconst X543.here hx (Jvm.hb hby at_128) (pc' := 129) rfl (z := (1 : Int32)) rfl ?_
      refine g_icN X543.here hx (Jvm.hb hby at_129) (pc' := 132) rfl (tlt (by decide)).2.2.2 ?_
      refine g_aload X543.here hx (Jvm.hb hby at_132) (pc' := 134) rfl rfl rfl ?_
      refine g_aload X543.here hx (Jvm.hb hby at_134) (pc' := 136) rfl rfl rfl ?_
      refine g_iconst X543.here hx (Jvm.hb hby at_136) (pc' := 137) rfl (z := (1 : Int32)) rfl ?_
      have F545 := (F542.keep K543 (ninS (Nat.ne_of_lt (by omega)) (ninS (Nat.ne_of_lt (by omega)) (ninS (Nat.ne_of_lt (by omega)) (ninS (Nat.ne_of_lt (by omega)) (ninS (Nat.ne_of_lt (by omega)) (ninS (Nat.ne_of_lt (by omega)) nin0)))))))
      refine g_iaload X543 hx hZ rfl F545 ⟨by decide, by decide⟩ (v := q1) rfl (Jvm.hb hby at_137) (pc' := 138) rfl ?_
      refine g_iload X543.here hx (Jvm.hb hby at_138) (pc' := 140) rfl rfl ?_
      refine g_callV X543 hx hZ hown w_32 w_33 (own_nf hZ w_35) w_35 w_34 w_5 w_36 (by decide) (rm5 l Z a0 hw [] ad536 r0 r1 r2 r3 r4 r5 q1 tt (own_ap own_st0 q0 tt) T543.heap n0 Z544 g_ad536 hord PL543 ⟨h1.1, by omega⟩ rt (own_l8 q0 q1 q2 tt h0 h1 h2 h01 h02 h12 ht)) 0 (by decide) (by decide) rfl PL543.1.1 (by rw [hml]; rfl) [(.int q1), (.int tt)] [] (lenOf pd_2 rfl) rfl rfl (Nat.le_of_eq rfl) (Jvm.hb hby at_140) (pc' := 143) rfl (cells' := 9) (slots' := 30) rfl rfl (by decide) (by decide) ?_
      intro v546 T546 L546 X546 hQ546
      obtain ⟨rfl, Nq546, K546, PL546⟩ := hQ546
      have N546 := Fr.app N543 Nq546
      have Z547 : n0 ≤ T546.heap.size := Nat.le_trans Z544 K546.1
      show own_Gl p e below s (own_Q0 n0) room_1.cells room_1.slots (T546.setTop (mkF m 143 #[.val (.int x0), .val (.int x1), .val (.int x2), .val (.int x3), .val (.int x4), .val (.int (3 : Int32)), .val (.int (2 : Int32)), .val (.int tt), .val (.int q0), .val (.ref ad519), .val (.ref ad527), .val (.ref ad536), .unset, .unset] []))
      refine g_iload X546.here hx (Jvm.hb hby at_143) (pc' := 145) rfl rfl ?_
      refine g_iconst X546.here hx (Jvm.hb hby at_145) (pc' := 146) rfl (z := (2 : Int32)) rfl ?_
      refine g_icN X546.here hx (Jvm.hb hby at_146) (pc' := 149) rfl (tlt (by decide)).2.2.2 ?_
      refine g_aload X546.here hx (Jvm.hb hby at_149) (pc' := 151) rfl rfl rfl ?_
      refine g_aload X546.here hx (Jvm.hb hby at_151) (pc' := 153) rfl rfl rfl ?_
      refine g_iconst X546.here hx (Jvm.hb hby at_153) (pc' := 154) rfl (z := (2 : Int32)) rfl ?_
      have F548 := (F545.keep K546 (ninS (Nat.ne_of_lt (by omega)) (ninS (Nat.ne_of_lt (by omega)) (ninS (Nat.ne_of_lt (by omega)) (ninS (Nat.ne_of_lt (by omega)) (ninS (Nat.ne_of_lt (by omega)) (ninS (Nat.ne_of_lt (by omega)) nin0)))))))
      refine g_iaload X546 hx hZ rfl F548 ⟨by decide, by decide⟩ (v := q2) rfl (Jvm.hb hby at_154) (pc' := 155) rfl ?_
      refine g_iload X546.here hx (Jvm.hb hby at_155) (pc' := 157) rfl rfl ?_
      refine g_callV X546 hx hZ hown w_32 w_33 (own_nf hZ w_35) w_35 w_34 w_5 w_36 (by decide) (rm5 l Z a0 hw [] ad536 r0 r1 r2 r3 r4 r5 q2 tt (own_ap (own_ap own_st0 q0 tt) q1 tt) T546.heap n0 Z547 g_ad536 hord PL546 ⟨h2.1, by omega⟩ rt (own_l39 q0 q1 q2 tt h0 h1 h2 h01 h02 h12 ht)) 0 (by decide) (by decide) rfl PL546.1.1 (by rw [hml]; rfl) [(.int q2), (.int tt)] [] (lenOf pd_2 rfl) rfl rfl (Nat.le_of_eq rfl) (Jvm.hb hby at_157) (pc' := 160) rfl (cells' := 9) (slots' := 30) rfl rfl (by decide) (by decide) ?_
      intro v549 T549 L549 X549 hQ549
      obtain ⟨rfl, Nq549, K549, PL549⟩ := hQ549
      have N549 := Fr.app N546 Nq549
      have Z550 : n0 ≤ T549.heap.size := Nat.le_trans Z547 K549.1
      show own_Gl p e below s (own_Q0 n0) room_1.cells room_1.slots (T549.setTop (mkF m 160 #[.val (.int x0), .val (.int x1), .val (.int x2), .val (.int x3), .val (.int x4), .val (.int (3 : Int32)), .val (.int (2 : Int32)), .val (.int tt), .val (.int q0), .val (.ref ad519), .val (.ref ad527), .val (.ref ad536), .unset, .unset] []))
      refine g_aload X549.here hx (Jvm.hb hby at_160) (pc' := 162) rfl rfl rfl ?_
      refine g_aload X549.here hx (Jvm.hb hby at_162) (pc' := 164) rfl rfl rfl ?_
      refine g_iload X549.here hx (Jvm.hb hby at_164) (pc' := 166) rfl rfl ?_
      have F551 := (F548.keep K549 (ninS (Nat.ne_of_lt (by omega)) (ninS (Nat.ne_of_lt (by omega)) (ninS (Nat.ne_of_lt (by omega)) (ninS (Nat.ne_of_lt (by omega)) (ninS (Nat.ne_of_lt (by omega)) (ninS (Nat.ne_of_lt (by omega)) nin0)))))))
      refine g_iaload X549 hx hZ rfl F551 ⟨by decide, by decide⟩ (v := q2) rfl (Jvm.hb hby at_166) (pc' := 167) rfl ?_
      refine g_callV X549 hx hZ hown w_37 w_38 (own_nf hZ w_40) w_40 w_39 w_5 w_41 (by decide) (rm6 l Z a0 hw [] ad536 r0 r1 r2 r3 r4 r5 q2 (own_ap (own_ap (own_ap own_st0 q0 tt) q1 tt) q2 tt) T549.heap n0 Z550 g_ad536 hord PL549 ⟨h2.1, by omega⟩ (own_l90 q0 q1 q2 tt h0 h1 h2 h01 h02 h12 ht) (own_l91 q0 q1 q2 tt h0 h1 h2 h01 h02 h12 ht) (own_l92 q0 q1 q2 tt h0 h1 h2 h01 h02 h12 ht)) 0 (by decide) (by decide) rfl PL549.1.1 (by rw [hml]; rfl) [(.int q2)] [] (lenOf pd_3 rfl) rfl rfl (Nat.le_of_eq rfl) (Jvm.hb hby at_167) (pc' := 170) rfl (cells' := 9) (slots' := 30) rfl rfl (by decide) (by decide) ?_
      intro v552 T552 L552 X552 hQ552
      obtain ⟨rfl, Nq552, K552, PL552⟩ := hQ552
      have N552 := Fr.app N549 Nq552
      have Z553 : n0 ≤ T552.heap.size := Nat.le_trans Z550 K552.1
      show own_Gl p e below s (own_Q0 n0) room_1.cells room_1.slots (T552.setTop (mkF m 170 #[.val (.int x0), .val (.int x1), .val (.int x2), .val (.int x3), .val (.int x4), .val (.int (3 : Int32)), .val (.int (2 : Int32)), .val (.int tt), .val (.int q0), .val (.ref ad519), .val (.ref ad527), .val (.ref ad536), .unset, .unset] []))
      refine g_aload X552.here hx (Jvm.hb hby at_170) (pc' := 172) rfl rfl rfl ?_
      refine g_iload X552.here hx (Jvm.hb hby at_172) (pc' := 174) rfl rfl ?_
      refine g_iconst X552.here hx (Jvm.hb hby at_174) (pc' := 175) rfl (z := (0 : Int32)) rfl ?_
      have F554 := (((((F539.keep K540 (ninS ne_ad527_ad536 nin0)).keep K543 (ninS (Nat.ne_of_lt (by omega)) (ninS (Nat.ne_of_lt (by omega)) (ninS (Nat.ne_of_lt (by omega)) (ninS (Nat.ne_of_lt (by omega)) (ninS (Nat.ne_of_lt (by omega)) (ninS (Nat.ne_of_lt (by omega)) nin0))))))).keep K546 (ninS (Nat.ne_of_lt (by omega)) (ninS (Nat.ne_of_lt (by omega)) (ninS (Nat.ne_of_lt (by omega)) (ninS (Nat.ne_of_lt (by omega)) (ninS (Nat.ne_of_lt (by omega)) (ninS (Nat.ne_of_lt (by omega)) nin0))))))).keep K549 (ninS (Nat.ne_of_lt (by omega)) (ninS (Nat.ne_of_lt (by omega)) (ninS (Nat.ne_of_lt (by omega)) (ninS (Nat.ne_of_lt (by omega)) (ninS (Nat.ne_of_lt (by omega)) (ninS (Nat.ne_of_lt (by omega)) nin0))))))).keep K552 (ninS (Nat.ne_of_lt (by omega)) (ninS (Nat.ne_of_lt (by omega)) (ninS (Nat.ne_of_lt (by omega)) (ninS (Nat.ne_of_lt (by omega)) (ninS (Nat.ne_of_lt (by omega)) (ninS (Nat.ne_of_lt (by omega)) nin0)))))))
      refine g_zastore X552 hx hZ rfl F554 ⟨by decide, by decide⟩ (x' := (0 : Int32)) rfl (Jvm.hb hby at_175) (pc' := 176) rfl ?_
      intro T555 hh555 X555 e555 W555 V555
      have N555 := Fr.snoc X555 N552 g_ad527
      have Z556 : n0 ≤ hh555.size := (by rw [W555.size]; exact Z553)
      refine g_iloadN X555.here hx (Jvm.hb hby at_176) (pc' := 177) rfl rfl ?_
      refine g_iconst X555.here hx (Jvm.hb hby at_177) (pc' := 178) rfl (z := (1 : Int32)) rfl ?_
      refine g_iand X555.here hx (Jvm.hb hby at_178) (pc' := 179) rfl ?_
      by_cases hc179 : (x3 &&& (1 : Int32)) = (0 : Int32)
      · refine g_ifY X555.here hx (Jvm.hb hby at_179) (by decide) (pc' := 222) (by decide) ((if0 _ _).trans (teq hc179).1) ?_
        refine g_aload X555.here hx (Jvm.hb hby at_222) (pc' := 224) rfl rfl rfl ?_
        refine g_iconst X555.here hx (Jvm.hb hby at_224) (pc' := 225) rfl (z := (3 : Int32)) rfl ?_
        refine g_iload X555.here hx (Jvm.hb hby at_225) (pc' := 227) rfl rfl ?_
        have PLx557 := (own_PL.other PL552 W555 hord (by omega))
        refine g_callV X555 hx hZ hown w_32 w_33 (own_nf hZ w_35) w_35 w_34 w_5 w_36 (by decide) (rm5 l Z a0 hw [] ad536 r0 r1 r2 r3 r4 r5 (3 : Int32) tt (own_rm (own_ap (own_ap (own_ap own_st0 q0 tt) q1 tt) q2 tt) q2) hh555 n0 Z556 g_ad536 hord PLx557 ⟨by decide, by decide⟩ rt (own_l93 q0 q1 q2 tt h0 h1 h2 h01 h02 h12 ht)) 0 (by decide) (by decide) e555 PLx557.1.1 (by rw [hml]; rfl) [(.int (3 : Int32)), (.int tt)] [] (lenOf pd_2 rfl) rfl rfl (Nat.le_of_eq rfl) (Jvm.hb hby at_227) (pc' := 230) rfl (cells' := 9) (slots' := 30) rfl rfl (by decide) (by decide) ?_
        intro v558 T558 L558 X558 hQ558
        obtain ⟨rfl, Nq558, K558, PL558⟩ := hQ558
        have N558 := Fr.app N555 Nq558
        have Z559 : n0 ≤ T558.heap.size := Nat.le_trans Z556 K558.1
        show own_Gl p e below s (own_Q0 n0) room_1.cells room_1.slots (T558.setTop (mkF m 230 #[.val (.int x0), .val (.int x1), .val (.int x2), .val (.int x3), .val (.int x4), .val (.int (3 : Int32)), .val (.int (2 : Int32)), .val (.int tt), .val (.int q0), .val (.ref ad519), .val (.ref ad527), .val (.ref ad536), .unset, .unset] []))
        refine g_iconst X558.here hx (Jvm.hb hby at_230) (pc' := 231) rfl (z := (3 : Int32)) rfl ?_
        have F560 := (((F551.keep K552 (ninS (Nat.ne_of_lt (by omega)) (ninS (Nat.ne_of_lt (by omega)) (ninS (Nat.ne_of_lt (by omega)) (ninS (Nat.ne_of_lt (by omega)) (ninS (Nat.ne_of_lt (by omega)) (ninS (Nat.ne_of_lt (by omega)) nin0))))))).other W555 ne_ad519_ad527).keep K558 (ninS (Nat.ne_of_lt (by omega)) (ninS (Nat.ne_of_lt (by omega)) (ninS (Nat.ne_of_lt (by omega)) (ninS (Nat.ne_of_lt (by omega)) (ninS (Nat.ne_of_lt (by omega)) (ninS (Nat.ne_of_lt (by omega)) nin0)))))))
        have F561 := (V555.keep K558 (ninS (Nat.ne_of_lt (by omega)) (ninS (Nat.ne_of_lt (by omega)) (ninS (Nat.ne_of_lt (by omega)) (ninS (Nat.ne_of_lt (by omega)) (ninS (Nat.ne_of_lt (by omega)) (ninS (Nat.ne_of_lt (by omega)) nin0)))))))
        refine g_newarr X558 hx hZ (ty := .int) rfl rfl w_1 rfl (Jvm.hb hby at_231) (pc' := 233) rfl (n := 3) (by decide) 3 (by decide) (by decide) (cells' := 10) (slots' := 33) rfl rfl (by decide) (by decide) ?_
        intro T562 hh562 ad562 gb562 X562 e562 E562 V562
        have g_ad562 : n0 ≤ ad562 := by rw [gb562]; exact Z559
        have lt_ad519_ad562 : @LT.lt Nat _ ad519 ad562 := by rw [gb562]; exact F560.lt
        have ne_ad519_ad562 : ad519 ≠ ad562 := Nat.ne_of_lt lt_ad519_ad562
        have lt_ad527_ad562 : @LT.lt Nat _ ad527 ad562 := by rw [gb562]; exact F561.lt
        have ne_ad527_ad562 : ad527 ≠ ad562 := Nat.ne_of_lt lt_ad527_ad562
        have lt_ad536_ad562 : @LT.lt Nat _ ad536 ad562 := by rw [gb562]; exact PL558.1.1.lt
        have ne_ad536_ad562 : ad536 ≠ ad562 := Nat.ne_of_lt lt_ad536_ad562
        have Z563 : n0 ≤ hh562.size := Nat.le_trans Z559 E562.1
        have lt5 : @LT.lt Nat _ r5 ad562 := by rw [gb562]; exact own_PL.lt5 PL558
        refine g_astore X562.here hx (Jvm.hb hby at_233) (pc' := 235) rfl rfl (L' := #[.val (.int x0), .val (.int x1), .val (.int x2), .val (.int x3), .val (.int x4), .val (.int (3 : Int32)), .val (.int (2 : Int32)), .val (.int tt), .val (.int q0), .val (.ref ad519), .val (.ref ad527), .val (.ref ad536), .val (.ref ad562), .unset]) rfl ?_
        refine g_aload X562.here hx (Jvm.hb hby at_235) (pc' := 237) rfl rfl rfl ?_
        refine g_iconst X562.here hx (Jvm.hb hby at_237) (pc' := 238) rfl (z := (0 : Int32)) rfl ?_
        refine g_iconst X562.here hx (Jvm.hb hby at_238) (pc' := 239) rfl (z := (-1 : Int32)) rfl ?_
        refine g_iastore X562 hx hZ e562 V562 ⟨by decide, by decide⟩ (Jvm.hb hby at_239) (pc' := 240) rfl ?_
        intro T564 hh564 X564 e564 W564 V564
        have N564 := Fr.snoc X564 N558 g_ad562
        have Z565 : n0 ≤ hh564.size := (by rw [W564.size]; exact Z563)
        refine g_aload X564.here hx (Jvm.hb hby at_240) (pc' := 242) rfl rfl rfl ?_
        refine g_iconst X564.here hx (Jvm.hb hby at_242) (pc' := 243) rfl (z := (1 : Int32)) rfl ?_
        refine g_iconst X564.here hx (Jvm.hb hby at_243) (pc' := 244) rfl (z := (-1 : Int32)) rfl ?_
        refine g_iastore X564 hx hZ e564 V564 ⟨by decide, by decide⟩ (Jvm.hb hby at_244) (pc' := 245) rfl ?_
        intro T566 hh566 X566 e566 W566 V566
        have N566 := Fr.snoc X566 N564 g_ad562
        have Z567 : n0 ≤ hh566.size := (by rw [W566.size]; exact Z565)
        refine g_aload X566.here hx (Jvm.hb hby at_245) (pc' := 247) rfl rfl rfl ?_
        refine g_iconst X566.here hx (Jvm.hb hby at_247) (pc' := 248) rfl (z := (2 : Int32)) rfl ?_
        refine g_iconst X566.here hx (Jvm.hb hby at_248) (pc' := 249) rfl (z := (-1 : Int32)) rfl ?_
        refine g_iastore X566 hx hZ e566 V566 ⟨by decide, by decide⟩ (Jvm.hb hby at_249) (pc' := 250) rfl ?_
        intro T568 hh568 X568 e568 W568 V568
        have N568 := Fr.snoc X568 N566 g_ad562
        have Z569 : n0 ≤ hh568.size := (by rw [W568.size]; exact Z567)
        refine g_iconst X568.here hx (Jvm.hb hby at_250) (pc' := 251) rfl (z := (0 : Int32)) rfl ?_
        refine g_istore X568.here hx (Jvm.hb hby at_251) (pc' := 253) rfl (L' := #[.val (.int x0), .val (.int x1), .val (.int x2), .val (.int x3), .val (.int x4), .val (.int (3 : Int32)), .val (.int (2 : Int32)), .val (.int tt), .val (.int q0), .val (.ref ad519), .val (.ref ad527), .val (.ref ad536), .val (.ref ad562), .val (.int (0 : Int32))]) rfl ?_
        refine g_aload X568.here hx (Jvm.hb hby at_253) (pc' := 255) rfl rfl rfl ?_
        refine g_iconst X568.here hx (Jvm.hb hby at_255) (pc' := 256) rfl (z := (0 : Int32)) rfl ?_
        have F570 := ((((F561.ext E562).other W564 ne_ad527_ad562).other W566 ne_ad527_ad562).other W568 ne_ad527_ad562)
        refine g_zaload X568 hx hZ e568 F570 ⟨by decide, by decide⟩ (v := (1 : Int32)) rfl (Jvm.hb hby at_256) (pc' := 257) rfl ?_
        refine g_ifN X568.here hx (Jvm.hb hby at_257) (pc' := 260) rfl ((if0 _ _).trans (feq (by decide)).1) ?_
        refine g_aload X568.here hx (Jvm.hb hby at_260) (pc' := 262) rfl rfl rfl ?_
        refine g_iload X568.here hx (Jvm.hb hby at_262) (pc' := 264) rfl rfl ?_
        refine g_aload X568.here hx (Jvm.hb hby at_264) (pc' := 266) rfl rfl rfl ?_
        refine g_iconst X568.here hx (Jvm.hb hby at_266) (pc' := 267) rfl (z := (0 : Int32)) rfl ?_
        have F571 := ((((F560.ext E562).other W564 ne_ad519_ad562).other W566 ne_ad519_ad562).other W568 ne_ad519_ad562)
        refine g_iaload X568 hx hZ e568 F571 ⟨by decide, by decide⟩ (v := q0) rfl (Jvm.hb hby at_267) (pc' := 268) rfl ?_
        refine g_iastore X568 hx hZ e568 V568 ⟨by decide, by decide⟩ (Jvm.hb hby at_268) (pc' := 269) rfl ?_
        intro T572 hh572 X572 e572 W572 V572
        have N572 := Fr.snoc X572 N568 g_ad562
        have Z573 : n0 ≤ hh572.size := (by rw [W572.size]; exact Z569)
        refine g_iinc X572.here hx (Jvm.hb hby at_269) (pc' := 272) rfl (z := (1 : Int32)) rfl rfl (L' := #[.val (.int x0), .val (.int x1), .val (.int x2), .val (.int x3), .val (.int x4), .val (.int (3 : Int32)), .val (.int (2 : Int32)), .val (.int tt), .val (.int q0), .val (.ref ad519), .val (.ref ad527), .val (.ref ad536), .val (.ref ad562), .val (.int (1 : Int32))]) rfl ?_
        refine g_aload X572.here hx (Jvm.hb hby at_272) (pc' := 274) rfl rfl rfl ?_
        refine g_iconst X572.here hx (Jvm.hb hby at_274) (pc' := 275) rfl (z := (1 : Int32)) rfl ?_
        have F574 := (F570.other W572 ne_ad527_ad562)
        refine g_zaload X572 hx hZ e572 F574 ⟨by decide, by decide⟩ (v := (1 : Int32)) rfl (Jvm.hb hby at_275) (pc' := 276) rfl ?_
        refine g_ifN X572.here hx (Jvm.hb hby at_276) (pc' := 279) rfl ((if0 _ _).trans (feq (by decide)).1) ?_
        refine g_aload X572.here hx (Jvm.hb hby at_279) (pc' := 281) rfl rfl rfl ?_
        refine g_iload X572.here hx (Jvm.hb hby at_281) (pc' := 283) rfl rfl ?_
        refine g_aload X572.here hx (Jvm.hb hby at_283) (pc' := 285) rfl rfl rfl ?_
        refine g_iconst X572.here hx (Jvm.hb hby at_285) (pc' := 286) rfl (z := (1 : Int32)) rfl ?_
        have F575 := (F571.other W572 ne_ad519_ad562)
        refine g_iaload X572 hx hZ e572 F575 ⟨by decide, by decide⟩ (v := q1) rfl (Jvm.hb hby at_286) (pc' := 287) rfl ?_
        refine g_iastore X572 hx hZ e572 V572 ⟨by decide, by decide⟩ (Jvm.hb hby at_287) (pc' := 288) rfl ?_
        intro T576 hh576 X576 e576 W576 V576
        have N576 := Fr.snoc X576 N572 g_ad562
        have Z577 : n0 ≤ hh576.size := (by rw [W576.size]; exact Z573)
        refine g_iinc X576.here hx (Jvm.hb hby at_288) (pc' := 291) rfl (z := (1 : Int32)) rfl rfl (L' := #[.val (.int x0), .val (.int x1), .val (.int x2), .val (.int x3), .val (.int x4), .val (.int (3 : Int32)), .val (.int (2 : Int32)), .val (.int tt), .val (.int q0), .val (.ref ad519), .val (.ref ad527), .val (.ref ad536), .val (.ref ad562), .val (.int (2 : Int32))]) rfl ?_
        refine g_aload X576.here hx (Jvm.hb hby at_291) (pc' := 293) rfl rfl rfl ?_
        refine g_iconst X576.here hx (Jvm.hb hby at_293) (pc' := 294) rfl (z := (2 : Int32)) rfl ?_
        have F578 := (F574.other W576 ne_ad527_ad562)
        refine g_zaload X576 hx hZ e576 F578 ⟨by decide, by decide⟩ (v := (0 : Int32)) rfl (Jvm.hb hby at_294) (pc' := 295) rfl ?_
        refine g_ifY X576.here hx (Jvm.hb hby at_295) (by decide) (pc' := 310) (by decide) ((if0 _ _).trans (teq (by decide)).1) ?_
        refine g_aload X576.here hx (Jvm.hb hby at_310) (pc' := 312) rfl rfl rfl ?_
        refine g_iload X576.here hx (Jvm.hb hby at_312) (pc' := 314) rfl rfl ?_
        refine g_iconst X576.here hx (Jvm.hb hby at_314) (pc' := 315) rfl (z := (3 : Int32)) rfl ?_
        refine g_iastore X576 hx hZ e576 V576 ⟨by decide, by decide⟩ (Jvm.hb hby at_315) (pc' := 316) rfl ?_
        intro T579 hh579 X579 e579 W579 V579
        have N579 := Fr.snoc X579 N576 g_ad562
        have Z580 : n0 ≤ hh579.size := (by rw [W579.size]; exact Z577)
        refine g_aload X579.here hx (Jvm.hb hby at_316) (pc' := 318) rfl rfl rfl ?_
        refine g_aload X579.here hx (Jvm.hb hby at_318) (pc' := 320) rfl rfl rfl ?_
        refine g_iload X579.here hx (Jvm.hb hby at_320) (pc' := 322) rfl rfl ?_
        have F581 := ((F575.other W576 ne_ad519_ad562).other W579 ne_ad519_ad562)
        refine g_iaload X579 hx hZ e579 F581 ⟨by decide, by decide⟩ (v := q2) rfl (Jvm.hb hby at_322) (pc' := 323) rfl ?_
        have PLx582 := (own_PL.other (own_PL.other (own_PL.other (own_PL.other (own_PL.other (own_PL.other (own_PL.ext PL558 E562) W564 hord (by omega)) W566 hord (by omega)) W568 hord (by omega)) W572 hord (by omega)) W576 hord (by omega)) W579 hord (by omega))
        refine g_callV X579 hx hZ hown w_42 w_43 (own_nf hZ w_45) w_45 w_44 w_5 w_46 (by decide) (rm7 l Z a0 hw [] ad536 r0 r1 r2 r3 r4 r5 q2 (own_ap (own_rm (own_ap (own_ap (own_ap own_st0 q0 tt) q1 tt) q2 tt) q2) (3 : Int32) tt) hh579 PLx582 ⟨h2.1, by omega⟩) 0 (by decide) (by decide) e579 PLx582.1.1 (by rw [hml]; rfl) [(.int q2)] [] (lenOf pd_4 rfl) rfl rfl (Nat.le_of_eq rfl) (Jvm.hb hby at_323) (pc' := 326) rfl (cells' := 10) (slots' := 33) rfl rfl (by decide) (by decide) ?_
        intro v583 T583 L583 X583 hQ583
        obtain ⟨rfl, rfl, e583⟩ := hQ583
        rw [List.append_nil] at X583
        show own_Gl p e below s (own_Q0 n0) room_1.cells room_1.slots (T583.setTop (mkF m 326 #[.val (.int x0), .val (.int x1), .val (.int x2), .val (.int x3), .val (.int x4), .val (.int (3 : Int32)), .val (.int (2 : Int32)), .val (.int tt), .val (.int q0), .val (.ref ad519), .val (.ref ad527), .val (.ref ad536), .val (.ref ad562), .val (.int (2 : Int32))] [(.int ((own_ap (own_rm (own_ap (own_ap (own_ap own_st0 q0 tt) q1 tt) q2 tt) q2) (3 : Int32) tt) 0 q2.toNatClampNeg))]))
        refine g_iconst X583.here hx (Jvm.hb hby at_326) (pc' := 327) rfl (z := (-1 : Int32)) rfl ?_
        refine g_icY X583.here hx (Jvm.hb hby at_327) (by decide) (pc' := 332) (by decide) (teq (own_l94 q0 q1 q2 tt h0 h1 h2 h01 h02 h12 ht)).1 ?_
        refine g_aload X583.here hx (Jvm.hb hby at_332) (pc' := 334) rfl rfl rfl ?_
        refine g_iload X583.here hx (Jvm.hb hby at_334) (pc' := 336) rfl rfl ?_
        refine g_callV X583 hx hZ hown w_47 w_48 (own_nf hZ w_50) w_50 w_49 w_5 w_51 (by decide) (rm8 l Z a0 hw [] ad536 r0 r1 r2 r3 r4 r5 tt (own_ap (own_rm (own_ap (own_ap (own_ap own_st0 q0 tt) q1 tt) q2 tt) q2) (3 : Int32) tt) hh579 PLx582 rt) 0 (by decide) (by decide) e583 PLx582.1.1 (by rw [hml]; rfl) [(.int tt)] [] (lenOf pd_4 rfl) rfl rfl (Nat.le_of_eq rfl) (Jvm.hb hby at_336) (pc' := 339) rfl (cells' := 10) (slots' := 33) rfl rfl (by decide) (by decide) ?_
        intro v584 T584 L584 X584 hQ584
        obtain ⟨rfl, rfl, e584⟩ := hQ584
        rw [List.append_nil] at X584
        show own_Gl p e below s (own_Q0 n0) room_1.cells room_1.slots (T584.setTop (mkF m 339 #[.val (.int x0), .val (.int x1), .val (.int x2), .val (.int x3), .val (.int x4), .val (.int (3 : Int32)), .val (.int (2 : Int32)), .val (.int tt), .val (.int q0), .val (.ref ad519), .val (.ref ad527), .val (.ref ad536), .val (.ref ad562), .val (.int (2 : Int32))] [(.int ((own_ap (own_rm (own_ap (own_ap (own_ap own_st0 q0 tt) q1 tt) q2 tt) q2) (3 : Int32) tt) 5 tt.toNatClampNeg))]))
        refine g_iload X584.here hx (Jvm.hb hby at_339) (pc' := 341) rfl rfl ?_
        refine g_iconst X584.here hx (Jvm.hb hby at_341) (pc' := 342) rfl (z := (1 : Int32)) rfl ?_
        refine g_iadd X584.here hx (Jvm.hb hby at_342) (pc' := 343) rfl ?_
        refine g_icY X584.here hx (Jvm.hb hby at_343) (by decide) (pc' := 348) (by decide) (teq ((own_l95 q0 q1 q2 tt h0 h1 h2 h01 h02 h12 ht))).1 ?_
        refine g_aload X584.here hx (Jvm.hb hby at_348) (pc' := 350) rfl rfl rfl ?_
        refine g_iload X584.here hx (Jvm.hb hby at_350) (pc' := 352) rfl rfl ?_
        refine g_callV X584 hx hZ hown w_52 w_53 (own_nf hZ w_55) w_55 w_54 w_5 w_56 (by decide) (rm9 l Z a0 hw [] ad536 r0 r1 r2 r3 r4 r5 tt (own_ap (own_rm (own_ap (own_ap (own_ap own_st0 q0 tt) q1 tt) q2 tt) q2) (3 : Int32) tt) hh579 PLx582 rt) 0 (by decide) (by decide) e584 PLx582.1.1 (by rw [hml]; rfl) [(.int tt)] [] (lenOf pd_4 rfl) rfl rfl (Nat.le_of_eq rfl) (Jvm.hb hby at_352) (pc' := 355) rfl (cells' := 10) (slots' := 33) rfl rfl (by decide) (by decide) ?_
        intro v585 T585 L585 X585 hQ585
        obtain ⟨rfl, rfl, e585⟩ := hQ585
        rw [List.append_nil] at X585
        show own_Gl p e below s (own_Q0 n0) room_1.cells room_1.slots (T585.setTop (mkF m 355 #[.val (.int x0), .val (.int x1), .val (.int x2), .val (.int x3), .val (.int x4), .val (.int (3 : Int32)), .val (.int (2 : Int32)), .val (.int tt), .val (.int q0), .val (.ref ad519), .val (.ref ad527), .val (.ref ad536), .val (.ref ad562), .val (.int (2 : Int32))] [(.int ((own_ap (own_rm (own_ap (own_ap (own_ap own_st0 q0 tt) q1 tt) q2 tt) q2) (3 : Int32) tt) 3 tt.toNatClampNeg))]))
        refine g_aload X585.here hx (Jvm.hb hby at_355) (pc' := 357) rfl rfl rfl ?_
        refine g_iconst X585.here hx (Jvm.hb hby at_357) (pc' := 358) rfl (z := (0 : Int32)) rfl ?_
        refine g_iaload X585 hx hZ e585 V579 ⟨by decide, by decide⟩ (v := q0) rfl (Jvm.hb hby at_358) (pc' := 359) rfl ?_
        refine g_icY X585.here hx (Jvm.hb hby at_359) (by decide) (pc' := 364) (by decide) (teq (own_l96 q0 q1 q2 tt h0 h1 h2 h01 h02 h12 ht)).1 ?_
        refine g_aload X585.here hx (Jvm.hb hby at_364) (pc' := 366) rfl rfl rfl ?_
        refine g_iconst X585.here hx (Jvm.hb hby at_366) (pc' := 367) rfl (z := (0 : Int32)) rfl ?_
        refine g_iaload X585 hx hZ e585 V579 ⟨by decide, by decide⟩ (v := q0) rfl (Jvm.hb hby at_367) (pc' := 368) rfl ?_
        refine g_iconst X585.here hx (Jvm.hb hby at_368) (pc' := 369) rfl (z := (3 : Int32)) rfl ?_
        refine g_icN X585.here hx (Jvm.hb hby at_369) (pc' := 372) rfl (feq (fun q => by have := congrArg Int32.toInt q; simp only [Int32.reduceToInt] at this; omega)).1 ?_
        refine g_aload X585.here hx (Jvm.hb hby at_372) (pc' := 374) rfl rfl rfl ?_
        refine g_aload X585.here hx (Jvm.hb hby at_374) (pc' := 376) rfl rfl rfl ?_
        refine g_iconst X585.here hx (Jvm.hb hby at_376) (pc' := 377) rfl (z := (0 : Int32)) rfl ?_
        refine g_iaload X585 hx hZ e585 V579 ⟨by decide, by decide⟩ (v := q0) rfl (Jvm.hb hby at_377) (pc' := 378) rfl ?_
        refine g_callV X585 hx hZ hown w_57 w_58 (own_nf hZ w_60) w_60 w_59 w_5 w_61 (by decide) (rm10 l Z a0 hw [] ad536 r0 r1 r2 r3 r4 r5 q0 (own_ap (own_rm (own_ap (own_ap (own_ap own_st0 q0 tt) q1 tt) q2 tt) q2) (3 : Int32) tt) hh579 PLx582 ⟨h0.1, by omega⟩) 0 (by decide) (by decide) e585 PLx582.1.1 (by rw [hml]; rfl) [(.int q0)] [] (lenOf pd_4 rfl) rfl rfl (Nat.le_of_eq rfl) (Jvm.hb hby at_378) (pc' := 381) rfl (cells' := 10) (slots' := 33) rfl rfl (by decide) (by decide) ?_
        intro v586 T586 L586 X586 hQ586
        obtain ⟨rfl, rfl, e586⟩ := hQ586
        rw [List.append_nil] at X586
        show own_Gl p e below s (own_Q0 n0) room_1.cells room_1.slots (T586.setTop (mkF m 381 #[.val (.int x0), .val (.int x1), .val (.int x2), .val (.int x3), .val (.int x4), .val (.int (3 : Int32)), .val (.int (2 : Int32)), .val (.int tt), .val (.int q0), .val (.ref ad519), .val (.ref ad527), .val (.ref ad536), .val (.ref ad562), .val (.int (2 : Int32))] [(.int ((own_ap (own_rm (own_ap (own_ap (own_ap own_st0 q0 tt) q1 tt) q2 tt) q2) (3 : Int32) tt) 2 q0.toNatClampNeg))]))
        refine g_aload X586.here hx (Jvm.hb hby at_381) (pc' := 383) rfl rfl rfl ?_
        refine g_iconst X586.here hx (Jvm.hb hby at_383) (pc' := 384) rfl (z := (1 : Int32)) rfl ?_
        refine g_iaload X586 hx hZ e586 V579 ⟨by decide, by decide⟩ (v := q1) rfl (Jvm.hb hby at_384) (pc' := 385) rfl ?_
        refine g_icY X586.here hx (Jvm.hb hby at_385) (by decide) (pc' := 390) (by decide) (teq (own_l97 q0 q1 q2 tt h0 h1 h2 h01 h02 h12 ht)).1 ?_
        refine g_aload X586.here hx (Jvm.hb hby at_390) (pc' := 392) rfl rfl rfl ?_
        refine g_iconst X586.here hx (Jvm.hb hby at_392) (pc' := 393) rfl (z := (0 : Int32)) rfl ?_
        refine g_iaload X586 hx hZ e586 V579 ⟨by decide, by decide⟩ (v := q0) rfl (Jvm.hb hby at_393) (pc' := 394) rfl ?_
        refine g_iconst X586.here hx (Jvm.hb hby at_394) (pc' := 395) rfl (z := (3 : Int32)) rfl ?_
        refine g_icN X586.here hx (Jvm.hb hby at_395) (pc' := 398) rfl (feq (fun q => by have := congrArg Int32.toInt q; simp only [Int32.reduceToInt] at this; omega)).1 ?_
        refine g_aload X586.here hx (Jvm.hb hby at_398) (pc' := 400) rfl rfl rfl ?_
        refine g_iconst X586.here hx (Jvm.hb hby at_400) (pc' := 401) rfl (z := (1 : Int32)) rfl ?_
        refine g_iaload X586 hx hZ e586 V579 ⟨by decide, by decide⟩ (v := q1) rfl (Jvm.hb hby at_401) (pc' := 402) rfl ?_
        refine g_iconst X586.here hx (Jvm.hb hby at_402) (pc' := 403) rfl (z := (3 : Int32)) rfl ?_
        refine g_icN X586.here hx (Jvm.hb hby at_403) (pc' := 406) rfl (feq (fun q => by have := congrArg Int32.toInt q; simp only [Int32.reduceToInt] at this; omega)).1 ?_
        refine g_aload X586.here hx (Jvm.hb hby at_406) (pc' := 408) rfl rfl rfl ?_
        refine g_aload X586.here hx (Jvm.hb hby at_408) (pc' := 410) rfl rfl rfl ?_
        refine g_iconst X586.here hx (Jvm.hb hby at_410) (pc' := 411) rfl (z := (1 : Int32)) rfl ?_
        refine g_iaload X586 hx hZ e586 V579 ⟨by decide, by decide⟩ (v := q1) rfl (Jvm.hb hby at_411) (pc' := 412) rfl ?_
        refine g_callV X586 hx hZ hown w_57 w_58 (own_nf hZ w_60) w_60 w_59 w_5 w_61 (by decide) (rm10 l Z a0 hw [] ad536 r0 r1 r2 r3 r4 r5 q1 (own_ap (own_rm (own_ap (own_ap (own_ap own_st0 q0 tt) q1 tt) q2 tt) q2) (3 : Int32) tt) hh579 PLx582 ⟨h1.1, by omega⟩) 0 (by decide) (by decide) e586 PLx582.1.1 (by rw [hml]; rfl) [(.int q1)] [] (lenOf pd_4 rfl) rfl rfl (Nat.le_of_eq rfl) (Jvm.hb hby at_412) (pc' := 415) rfl (cells' := 10) (slots' := 33) rfl rfl (by decide) (by decide) ?_
        intro v587 T587 L587 X587 hQ587
        obtain ⟨rfl, rfl, e587⟩ := hQ587
        rw [List.append_nil] at X587
        show own_Gl p e below s (own_Q0 n0) room_1.cells room_1.slots (T587.setTop (mkF m 415 #[.val (.int x0), .val (.int x1), .val (.int x2), .val (.int x3), .val (.int x4), .val (.int (3 : Int32)), .val (.int (2 : Int32)), .val (.int tt), .val (.int q0), .val (.ref ad519), .val (.ref ad527), .val (.ref ad536), .val (.ref ad562), .val (.int (2 : Int32))] [(.int ((own_ap (own_rm (own_ap (own_ap (own_ap own_st0 q0 tt) q1 tt) q2 tt) q2) (3 : Int32) tt) 2 q1.toNatClampNeg))]))
        refine g_aload X587.here hx (Jvm.hb hby at_415) (pc' := 417) rfl rfl rfl ?_
        refine g_iconst X587.here hx (Jvm.hb hby at_417) (pc' := 418) rfl (z := (2 : Int32)) rfl ?_
        refine g_iaload X587 hx hZ e587 V579 ⟨by decide, by decide⟩ (v := (3 : Int32)) rfl (Jvm.hb hby at_418) (pc' := 419) rfl ?_
        refine g_icY X587.here hx (Jvm.hb hby at_419) (by decide) (pc' := 424) (by decide) (teq (own_l98 q0 q1 q2 tt h0 h1 h2 h01 h02 h12 ht)).1 ?_
        refine g_iconst X587.here hx (Jvm.hb hby at_424) (pc' := 425) rfl (z := (1 : Int32)) rfl ?_
        exact g_retN X587 hx hlk (t := .boolean) hret (by simp) (z' := (1 : Int32)) rfl (Jvm.hb hby at_425) (by decide) (by decide) ⟨rfl, N579⟩
      · refine g_ifN X555.here hx (Jvm.hb hby at_179) (pc' := 182) rfl ((if0 _ _).trans (feq hc179).1) ?_
        refine g_iload X555.here hx (Jvm.hb hby at_182) (pc' := 184) rfl rfl ?_
        refine g_iconst X555.here hx (Jvm.hb hby at_184) (pc' := 185) rfl (z := (1 : Int32)) rfl ?_
        refine g_icN X555.here hx (Jvm.hb hby at_185) (pc' := 188) rfl (tlt (by decide)).2.2.2 ?_
        refine g_iload X555.here hx (Jvm.hb hby at_188) (pc' := 190) rfl rfl ?_
        refine g_iconst X555.here hx (Jvm.hb hby at_190) (pc' := 191) rfl (z := (1 : Int32)) rfl ?_
        refine g_iadd X555.here hx (Jvm.hb hby at_191) (pc' := 192) rfl ?_
        refine g_iloadN X555.here hx (Jvm.hb hby at_192) (pc' := 193) rfl rfl ?_
        refine g_iconst X555.here hx (Jvm.hb hby at_193) (pc' := 194) rfl (z := (1 : Int32)) rfl ?_
        refine g_iushr X555.here hx (Jvm.hb hby at_194) (pc' := 195) rfl ?_
        refine g_iload X555.here hx (Jvm.hb hby at_195) (pc' := 197) rfl rfl ?_
        refine g_iconst X555.here hx (Jvm.hb hby at_197) (pc' := 198) rfl (z := (1 : Int32)) rfl ?_
        refine g_isub X555.here hx (Jvm.hb hby at_198) (pc' := 199) rfl ?_
        rw [show ((3 : Int32) - (1 : Int32)) = (2 : Int32) from rfl]
        refine g_irem X555 hx (Jvm.hb hby at_199) (pc' := 200) rfl (by decide) ?_
        generalize htj : (((x3.toUInt32 >>> ((1 : Int32) &&& 31).toUInt32).toInt32) % (2 : Int32)) = tj
        have hj : tj = (0 : Int32) ∨ tj = (1 : Int32) := by
          have e1 := c_iushr x3 1 1 (by decide) (by decide)
          have e2 := c_irem ((x3.toUInt32 >>> ((1 : Int32) &&& 31).toUInt32).toInt32) 2 2 (by decide)
          have r := rng32 x3
          simp only [Nat.reducePow] at e1
          rw [htj] at e2
          simp only [← Int32.toInt_inj, Int32.reduceToInt]
          omega
        clear htj
        rcases hj with rfl | rfl
        · refine g_iadd X555.here hx (Jvm.hb hby at_200) (pc' := 201) rfl ?_
          refine g_iload X555.here hx (Jvm.hb hby at_201) (pc' := 203) rfl rfl ?_
          refine g_irem X555 hx (Jvm.hb hby at_203) (pc' := 204) rfl (by decide) ?_
          refine g_istore X555.here hx (Jvm.hb hby at_204) (pc' := 206) rfl (L' := #[.val (.int x0), .val (.int x1), .val (.int x2), .val (.int x3), .val (.int x4), .val (.int (3 : Int32)), .val (.int (2 : Int32)), .val (.int tt), .val (.int q0), .val (.ref ad519), .val (.ref ad527), .val (.ref ad536), .val (.int ((((2 : Int32) + (1 : Int32)) + (0 : Int32)) % (3 : Int32))), .unset]) rfl ?_
          rw [show ((((2 : Int32) + (1 : Int32)) + (0 : Int32)) % (3 : Int32)) = (0 : Int32) from rfl]
          refine g_aload X555.here hx (Jvm.hb hby at_206) (pc' := 208) rfl rfl rfl ?_
          refine g_aload X555.here hx (Jvm.hb hby at_208) (pc' := 210) rfl rfl rfl ?_
          refine g_iload X555.here hx (Jvm.hb hby at_210) (pc' := 212) rfl rfl ?_
          have F588 := ((F551.keep K552 (ninS (Nat.ne_of_lt (by omega)) (ninS (Nat.ne_of_lt (by omega)) (ninS (Nat.ne_of_lt (by omega)) (ninS (Nat.ne_of_lt (by omega)) (ninS (Nat.ne_of_lt (by omega)) (ninS (Nat.ne_of_lt (by omega)) nin0))))))).other W555 ne_ad519_ad527)
          refine g_iaload X555 hx hZ e555 F588 ⟨by decide, by decide⟩ (v := q0) rfl (Jvm.hb hby at_212) (pc' := 213) rfl ?_
          have PLx589 := (own_PL.other PL552 W555 hord (by omega))
          refine g_callV X555 hx hZ hown w_37 w_38 (own_nf hZ w_40) w_40 w_39 w_5 w_41 (by decide) (rm6 l Z a0 hw [] ad536 r0 r1 r2 r3 r4 r5 q0 (own_rm (own_ap (own_ap (own_ap own_st0 q0 tt) q1 tt) q2 tt) q2) hh555 n0 Z556 g_ad536 hord PLx589 ⟨h0.1, by omega⟩ (own_l99 q0 q1 q2 tt h0 h1 h2 h01 h02 h12 ht) (own_l100 q0 q1 q2 tt h0 h1 h2 h01 h02 h12 ht) (own_l101 q0 q1 q2 tt h0 h1 h2 h01 h02 h12 ht)) 0 (by decide) (by decide) e555 PLx589.1.1 (by rw [hml]; rfl) [(.int q0)] [] (lenOf pd_3 rfl) rfl rfl (Nat.le_of_eq rfl) (Jvm.hb hby at_213) (pc' := 216) rfl (cells' := 9) (slots' := 30) rfl rfl (by decide) (by decide) ?_
          intro v590 T590 L590 X590 hQ590
          obtain ⟨rfl, Nq590, K590, PL590⟩ := hQ590
          have N590 := Fr.app N555 Nq590
          have Z591 : n0 ≤ T590.heap.size := Nat.le_trans Z556 K590.1
          show own_Gl p e below s (own_Q0 n0) room_1.cells room_1.slots (T590.setTop (mkF m 216 #[.val (.int x0), .val (.int x1), .val (.int x2), .val (.int x3), .val (.int x4), .val (.int (3 : Int32)), .val (.int (2 : Int32)), .val (.int tt), .val (.int q0), .val (.ref ad519), .val (.ref ad527), .val (.ref ad536), .val (.int (0 : Int32)), .unset] []))
          refine g_aload X590.here hx (Jvm.hb hby at_216) (pc' := 218) rfl rfl rfl ?_
          refine g_iload X590.here hx (Jvm.hb hby at_218) (pc' := 220) rfl rfl ?_
          refine g_iconst X590.here hx (Jvm.hb hby at_220) (pc' := 221) rfl (z := (0 : Int32)) rfl ?_
          have F592 := (V555.keep K590 (ninS (Nat.ne_of_lt (by omega)) (ninS (Nat.ne_of_lt (by omega)) (ninS (Nat.ne_of_lt (by omega)) (ninS (Nat.ne_of_lt (by omega)) (ninS (Nat.ne_of_lt (by omega)) (ninS (Nat.ne_of_lt (by omega)) nin0)))))))
          refine g_zastore X590 hx hZ rfl F592 ⟨by decide, by decide⟩ (x' := (0 : Int32)) rfl (Jvm.hb hby at_221) (pc' := 222) rfl ?_
          intro T593 hh593 X593 e593 W593 V593
          have N593 := Fr.snoc X593 N590 g_ad527
          have Z594 : n0 ≤ hh593.size := (by rw [W593.size]; exact Z591)
          refine g_aload X593.here hx (Jvm.hb hby at_222) (pc' := 224) rfl rfl rfl ?_
          refine g_iconst X593.here hx (Jvm.hb hby at_224) (pc' := 225) rfl (z := (3 : Int32)) rfl ?_
          refine g_iload X593.here hx (Jvm.hb hby at_225) (pc' := 227) rfl rfl ?_
          have PLx595 := (own_PL.other PL590 W593 hord (by omega))
          refine g_callV X593 hx hZ hown w_32 w_33 (own_nf hZ w_35) w_35 w_34 w_5 w_36 (by decide) (rm5 l Z a0 hw [] ad536 r0 r1 r2 r3 r4 r5 (3 : Int32) tt (own_rm (own_rm (own_ap (own_ap (own_ap own_st0 q0 tt) q1 tt) q2 tt) q2) q0) hh593 n0 Z594 g_ad536 hord PLx595 ⟨by decide, by decide⟩ rt (own_l102 q0 q1 q2 tt h0 h1 h2 h01 h02 h12 ht)) 0 (by decide) (by decide) e593 PLx595.1.1 (by rw [hml]; rfl) [(.int (3 : Int32)), (.int tt)] [] (lenOf pd_2 rfl) rfl rfl (Nat.le_of_eq rfl) (Jvm.hb hby at_227) (pc' := 230) rfl (cells' := 9) (slots' := 30) rfl rfl (by decide) (by decide) ?_
          intro v596 T596 L596 X596 hQ596
          obtain ⟨rfl, Nq596, K596, PL596⟩ := hQ596
          have N596 := Fr.app N593 Nq596
          have Z597 : n0 ≤ T596.heap.size := Nat.le_trans Z594 K596.1
          show own_Gl p e below s (own_Q0 n0) room_1.cells room_1.slots (T596.setTop (mkF m 230 #[.val (.int x0), .val (.int x1), .val (.int x2), .val (.int x3), .val (.int x4), .val (.int (3 : Int32)), .val (.int (2 : Int32)), .val (.int tt), .val (.int q0), .val (.ref ad519), .val (.ref ad527), .val (.ref ad536), .val (.int (0 : Int32)), .unset] []))
          refine g_iconst X596.here hx (Jvm.hb hby at_230) (pc' := 231) rfl (z := (3 : Int32)) rfl ?_
          have F598 := (((F588.keep K590 (ninS (Nat.ne_of_lt (by omega)) (ninS (Nat.ne_of_lt (by omega)) (ninS (Nat.ne_of_lt (by omega)) (ninS (Nat.ne_of_lt (by omega)) (ninS (Nat.ne_of_lt (by omega)) (ninS (Nat.ne_of_lt (by omega)) nin0))))))).other W593 ne_ad519_ad527).keep K596 (ninS (Nat.ne_of_lt (by omega)) (ninS (Nat.ne_of_lt (by omega)) (ninS (Nat.ne_of_lt (by omega)) (ninS (Nat.ne_of_lt (by omega)) (ninS (Nat.ne_of_lt (by omega)) (ninS (Nat.ne_of_lt (by omega)) nin0)))))))
          have F599 := (V593.keep K596 (ninS (Nat.ne_of_lt (by omega)) (ninS (Nat.ne_of_lt (by omega)) (ninS (Nat.ne_of_lt (by omega)) (ninS (Nat.ne_of_lt (by omega)) (ninS (Nat.ne_of_lt (by omega)) (ninS (Nat.ne_of_lt (by omega)) nin0)))))))
          refine g_newarr X596 hx hZ (ty := .int) rfl rfl w_1 rfl (Jvm.hb hby at_231) (pc' := 233) rfl (n := 3) (by decide) 3 (by decide) (by decide) (cells' := 10) (slots' := 33) rfl rfl (by decide) (by decide) ?_
          intro T600 hh600 ad600 gb600 X600 e600 E600 V600
          have g_ad600 : n0 ≤ ad600 := by rw [gb600]; exact Z597
          have lt_ad519_ad600 : @LT.lt Nat _ ad519 ad600 := by rw [gb600]; exact F598.lt
          have ne_ad519_ad600 : ad519 ≠ ad600 := Nat.ne_of_lt lt_ad519_ad600
          have lt_ad527_ad600 : @LT.lt Nat _ ad527 ad600 := by rw [gb600]; exact F599.lt
          have ne_ad527_ad600 : ad527 ≠ ad600 := Nat.ne_of_lt lt_ad527_ad600
          have lt_ad536_ad600 : @LT.lt Nat _ ad536 ad600 := by rw [gb600]; exact PL596.1.1.lt
          have ne_ad536_ad600 : ad536 ≠ ad600 := Nat.ne_of_lt lt_ad536_ad600
          have Z601 : n0 ≤ hh600.size := Nat.le_trans Z597 E600.1
          have lt5 : @LT.lt Nat _ r5 ad600 := by rw [gb600]; exact own_PL.lt5 PL596
          refine g_astore X600.here hx (Jvm.hb hby at_233) (pc' := 235) rfl rfl (L' := #[.val (.int x0), .val (.int x1), .val (.int x2), .val (.int x3), .val (.int x4), .val (.int (3 : Int32)), .val (.int (2 : Int32)), .val (.int tt), .val (.int q0), .val (.ref ad519), .val (.ref ad527), .val (.ref ad536), .val (.ref ad600), .unset]) rfl ?_
          refine g_aload X600.here hx (Jvm.hb hby at_235) (pc' := 237) rfl rfl rfl ?_
          refine g_iconst X600.here hx (Jvm.hb hby at_237) (pc' := 238) rfl (z := (0 : Int32)) rfl ?_
          refine g_iconst X600.here hx (Jvm.hb hby at_238) (pc' := 239) rfl (z := (-1 : Int32)) rfl ?_
          refine g_iastore X600 hx hZ e600 V600 ⟨by decide, by decide⟩ (Jvm.hb hby at_239) (pc' := 240) rfl ?_
          intro T602 hh602 X602 e602 W602 V602
          have N602 := Fr.snoc X602 N596 g_ad600
          have Z603 : n0 ≤ hh602.size := (by rw [W602.size]; exact Z601)
          refine g_aload X602.here hx (Jvm.hb hby at_240) (pc' := 242) rfl rfl rfl ?_
          refine g_iconst X602.here hx (Jvm.hb hby at_242) (pc' := 243) rfl (z := (1 : Int32)) rfl ?_
          refine g_iconst X602.here hx (Jvm.hb hby at_243) (pc' := 244) rfl (z := (-1 : Int32)) rfl ?_
          refine g_iastore X602 hx hZ e602 V602 ⟨by decide, by decide⟩ (Jvm.hb hby at_244) (pc' := 245) rfl ?_
          intro T604 hh604 X604 e604 W604 V604
          have N604 := Fr.snoc X604 N602 g_ad600
          have Z605 : n0 ≤ hh604.size := (by rw [W604.size]; exact Z603)
          refine g_aload X604.here hx (Jvm.hb hby at_245) (pc' := 247) rfl rfl rfl ?_
          refine g_iconst X604.here hx (Jvm.hb hby at_247) (pc' := 248) rfl (z := (2 : Int32)) rfl ?_
          refine g_iconst X604.here hx (Jvm.hb hby at_248) (pc' := 249) rfl (z := (-1 : Int32)) rfl ?_
          refine g_iastore X604 hx hZ e604 V604 ⟨by decide, by decide⟩ (Jvm.hb hby at_249) (pc' := 250) rfl ?_
          intro T606 hh606 X606 e606 W606 V606
          have N606 := Fr.snoc X606 N604 g_ad600
          have Z607 : n0 ≤ hh606.size := (by rw [W606.size]; exact Z605)
          refine g_iconst X606.here hx (Jvm.hb hby at_250) (pc' := 251) rfl (z := (0 : Int32)) rfl ?_
          refine g_istore X606.here hx (Jvm.hb hby at_251) (pc' := 253) rfl (L' := #[.val (.int x0), .val (.int x1), .val (.int x2), .val (.int x3), .val (.int x4), .val (.int (3 : Int32)), .val (.int (2 : Int32)), .val (.int tt), .val (.int q0), .val (.ref ad519), .val (.ref ad527), .val (.ref ad536), .val (.ref ad600), .val (.int (0 : Int32))]) rfl ?_
          refine g_aload X606.here hx (Jvm.hb hby at_253) (pc' := 255) rfl rfl rfl ?_
          refine g_iconst X606.here hx (Jvm.hb hby at_255) (pc' := 256) rfl (z := (0 : Int32)) rfl ?_
          have F608 := ((((F599.ext E600).other W602 ne_ad527_ad600).other W604 ne_ad527_ad600).other W606 ne_ad527_ad600)
          refine g_zaload X606 hx hZ e606 F608 ⟨by decide, by decide⟩ (v := (0 : Int32)) rfl (Jvm.hb hby at_256) (pc' := 257) rfl ?_
          refine g_ifY X606.here hx (Jvm.hb hby at_257) (by decide) (pc' := 272) (by decide) ((if0 _ _).trans (teq (by decide)).1) ?_
          refine g_aload X606.here hx (Jvm.hb hby at_272) (pc' := 274) rfl rfl rfl ?_
          refine g_iconst X606.here hx (Jvm.hb hby at_274) (pc' := 275) rfl (z := (1 : Int32)) rfl ?_
          refine g_zaload X606 hx hZ e606 F608 ⟨by decide, by decide⟩ (v := (1 : Int32)) rfl (Jvm.hb hby at_275) (pc' := 276) rfl ?_
          refine g_ifN X606.here hx (Jvm.hb hby at_276) (pc' := 279) rfl ((if0 _ _).trans (feq (by decide)).1) ?_
          refine g_aload X606.here hx (Jvm.hb hby at_279) (pc' := 281) rfl rfl rfl ?_
          refine g_iload X606.here hx (Jvm.hb hby at_281) (pc' := 283) rfl rfl ?_
          refine g_aload X606.here hx (Jvm.hb hby at_283) (pc' := 285) rfl rfl rfl ?_
          refine g_iconst X606.here hx (Jvm.hb hby at_285) (pc' := 286) rfl (z := (1 : Int32)) rfl ?_
          have F609 := ((((F598.ext E600).other W602 ne_ad519_ad600).other W604 ne_ad519_ad600).other W606 ne_ad519_ad600)
          refine g_iaload X606 hx hZ e606 F609 ⟨by decide, by decide⟩ (v := q1) rfl (Jvm.hb hby at_286) (pc' := 287) rfl ?_
          refine g_iastore X606 hx hZ e606 V606 ⟨by decide, by decide⟩ (Jvm.hb hby at_287) (pc' := 288) rfl ?_
          intro T610 hh610 X610 e610 W610 V610
          have N610 := Fr.snoc X610 N606 g_ad600
          have Z611 : n0 ≤ hh610.size := (by rw [W610.size]; exact Z607)
          refine g_iinc X610.here hx (Jvm.hb hby at_288) (pc' := 291) rfl (z := (1 : Int32)) rfl rfl (L' := #[.val (.int x0), .val (.int x1), .val (.int x2), .val (.int x3), .val (.int x4), .val (.int (3 : Int32)), .val (.int (2 : Int32)), .val (.int tt), .val (.int q0), .val (.ref ad519), .val (.ref ad527), .val (.ref ad536), .val (.ref ad600), .val (.int (1 : Int32))]) rfl ?_
          refine g_aload X610.here hx (Jvm.hb hby at_291) (pc' := 293) rfl rfl rfl ?_
          refine g_iconst X610.here hx (Jvm.hb hby at_293) (pc' := 294) rfl (z := (2 : Int32)) rfl ?_
          have F612 := (F608.other W610 ne_ad527_ad600)
          refine g_zaload X610 hx hZ e610 F612 ⟨by decide, by decide⟩ (v := (0 : Int32)) rfl (Jvm.hb hby at_294) (pc' := 295) rfl ?_
          refine g_ifY X610.here hx (Jvm.hb hby at_295) (by decide) (pc' := 310) (by decide) ((if0 _ _).trans (teq (by decide)).1) ?_
          refine g_aload X610.here hx (Jvm.hb hby at_310) (pc' := 312) rfl rfl rfl ?_
          refine g_iload X610.here hx (Jvm.hb hby at_312) (pc' := 314) rfl rfl ?_
          refine g_iconst X610.here hx (Jvm.hb hby at_314) (pc' := 315) rfl (z := (3 : Int32)) rfl ?_
          refine g_iastore X610 hx hZ e610 V610 ⟨by decide, by decide⟩ (Jvm.hb hby at_315) (pc' := 316) rfl ?_
          intro T613 hh613 X613 e613 W613 V613
          have N613 := Fr.snoc X613 N610 g_ad600
          have Z614 : n0 ≤ hh613.size := (by rw [W613.size]; exact Z611)
          refine g_aload X613.here hx (Jvm.hb hby at_316) (pc' := 318) rfl rfl rfl ?_
          refine g_aload X613.here hx (Jvm.hb hby at_318) (pc' := 320) rfl rfl rfl ?_
          refine g_iload X613.here hx (Jvm.hb hby at_320) (pc' := 322) rfl rfl ?_
          have F615 := ((F609.other W610 ne_ad519_ad600).other W613 ne_ad519_ad600)
          refine g_iaload X613 hx hZ e613 F615 ⟨by decide, by decide⟩ (v := q2) rfl (Jvm.hb hby at_322) (pc' := 323) rfl ?_
          have PLx616 := (own_PL.other (own_PL.other (own_PL.other (own_PL.other (own_PL.other (own_PL.ext PL596 E600) W602 hord (by omega)) W604 hord (by omega)) W606 hord (by omega)) W610 hord (by omega)) W613 hord (by omega))
          refine g_callV X613 hx hZ hown w_42 w_43 (own_nf hZ w_45) w_45 w_44 w_5 w_46 (by decide) (rm7 l Z a0 hw [] ad536 r0 r1 r2 r3 r4 r5 q2 (own_ap (own_rm (own_rm (own_ap (own_ap (own_ap own_st0 q0 tt) q1 tt) q2 tt) q2) q0) (3 : Int32) tt) hh613 PLx616 ⟨h2.1, by omega⟩) 0 (by decide) (by decide) e613 PLx616.1.1 (by rw [hml]; rfl) [(.int q2)] [] (lenOf pd_4 rfl) rfl rfl (Nat.le_of_eq rfl) (Jvm.hb hby at_323) (pc' := 326) rfl (cells' := 10) (slots' := 33) rfl rfl (by decide) (by decide) ?_
          intro v617 T617 L617 X617 hQ617
          obtain ⟨rfl, rfl, e617⟩ := hQ617
          rw [List.append_nil] at X617
          show own_Gl p e below s (own_Q0 n0) room_1.cells room_1.slots (T617.setTop (mkF m 326 #[.val (.int x0), .val (.int x1), .val (.int x2), .val (.int x3), .val (.int x4), .val (.int (3 : Int32)), .val (.int (2 : Int32)), .val (.int tt), .val (.int q0), .val (.ref ad519), .val (.ref ad527), .val (.ref ad536), .val (.ref ad600), .val (.int (1 : Int32))] [(.int ((own_ap (own_rm (own_rm (own_ap (own_ap (own_ap own_st0 q0 tt) q1 tt) q2 tt) q2) q0) (3 : Int32) tt) 0 q2.toNatClampNeg))]))
          refine g_iconst X617.here hx (Jvm.hb hby at_326) (pc' := 327) rfl (z := (-1 : Int32)) rfl ?_
          refine g_icY X617.here hx (Jvm.hb hby at_327) (by decide) (pc' := 332) (by decide) (teq (own_l103 q0 q1 q2 tt h0 h1 h2 h01 h02 h12 ht)).1 ?_
          refine g_aload X617.here hx (Jvm.hb hby at_332) (pc' := 334) rfl rfl rfl ?_
          refine g_iload X617.here hx (Jvm.hb hby at_334) (pc' := 336) rfl rfl ?_
          refine g_callV X617 hx hZ hown w_47 w_48 (own_nf hZ w_50) w_50 w_49 w_5 w_51 (by decide) (rm8 l Z a0 hw [] ad536 r0 r1 r2 r3 r4 r5 tt (own_ap (own_rm (own_rm (own_ap (own_ap (own_ap own_st0 q0 tt) q1 tt) q2 tt) q2) q0) (3 : Int32) tt) hh613 PLx616 rt) 0 (by decide) (by decide) e617 PLx616.1.1 (by rw [hml]; rfl) [(.int tt)] [] (lenOf pd_4 rfl) rfl rfl (Nat.le_of_eq rfl) (Jvm.hb hby at_336) (pc' := 339) rfl (cells' := 10) (slots' := 33) rfl rfl (by decide) (by decide) ?_
          intro v618 T618 L618 X618 hQ618
          obtain ⟨rfl, rfl, e618⟩ := hQ618
          rw [List.append_nil] at X618
          show own_Gl p e below s (own_Q0 n0) room_1.cells room_1.slots (T618.setTop (mkF m 339 #[.val (.int x0), .val (.int x1), .val (.int x2), .val (.int x3), .val (.int x4), .val (.int (3 : Int32)), .val (.int (2 : Int32)), .val (.int tt), .val (.int q0), .val (.ref ad519), .val (.ref ad527), .val (.ref ad536), .val (.ref ad600), .val (.int (1 : Int32))] [(.int ((own_ap (own_rm (own_rm (own_ap (own_ap (own_ap own_st0 q0 tt) q1 tt) q2 tt) q2) q0) (3 : Int32) tt) 5 tt.toNatClampNeg))]))
          refine g_iload X618.here hx (Jvm.hb hby at_339) (pc' := 341) rfl rfl ?_
          refine g_iconst X618.here hx (Jvm.hb hby at_341) (pc' := 342) rfl (z := (1 : Int32)) rfl ?_
          refine g_iadd X618.here hx (Jvm.hb hby at_342) (pc' := 343) rfl ?_
          refine g_icY X618.here hx (Jvm.hb hby at_343) (by decide) (pc' := 348) (by decide) (teq ((own_l104 q0 q1 q2 tt h0 h1 h2 h01 h02 h12 ht))).1 ?_
          refine g_aload X618.here hx (Jvm.hb hby at_348) (pc' := 350) rfl rfl rfl ?_
          refine g_iload X618.here hx (Jvm.hb hby at_350) (pc' := 352) rfl rfl ?_
          refine g_callV X618 hx hZ hown w_52 w_53 (own_nf hZ w_55) w_55 w_54 w_5 w_56 (by decide) (rm9 l Z a0 hw [] ad536 r0 r1 r2 r3 r4 r5 tt (own_ap (own_rm (own_rm (own_ap (own_ap (own_ap own_st0 q0 tt) q1 tt) q2 tt) q2) q0) (3 : Int32) tt) hh613 PLx616 rt) 0 (by decide) (by decide) e618 PLx616.1.1 (by rw [hml]; rfl) [(.int tt)] [] (lenOf pd_4 rfl) rfl rfl (Nat.le_of_eq rfl) (Jvm.hb hby at_352) (pc' := 355) rfl (cells' := 10) (slots' := 33) rfl rfl (by decide) (by decide) ?_
          intro v619 T619 L619 X619 hQ619
          obtain ⟨rfl, rfl, e619⟩ := hQ619
          rw [List.append_nil] at X619
          show own_Gl p e below s (own_Q0 n0) room_1.cells room_1.slots (T619.setTop (mkF m 355 #[.val (.int x0), .val (.int x1), .val (.int x2), .val (.int x3), .val (.int x4), .val (.int (3 : Int32)), .val (.int (2 : Int32)), .val (.int tt), .val (.int q0), .val (.ref ad519), .val (.ref ad527), .val (.ref ad536), .val (.ref ad600), .val (.int (1 : Int32))] [(.int ((own_ap (own_rm (own_rm (own_ap (own_ap (own_ap own_st0 q0 tt) q1 tt) q2 tt) q2) q0) (3 : Int32) tt) 3 tt.toNatClampNeg))]))
          refine g_aload X619.here hx (Jvm.hb hby at_355) (pc' := 357) rfl rfl rfl ?_
          refine g_iconst X619.here hx (Jvm.hb hby at_357) (pc' := 358) rfl (z := (0 : Int32)) rfl ?_
          refine g_iaload X619 hx hZ e619 V613 ⟨by decide, by decide⟩ (v := q1) rfl (Jvm.hb hby at_358) (pc' := 359) rfl ?_
          refine g_icY X619.here hx (Jvm.hb hby at_359) (by decide) (pc' := 364) (by decide) (teq (own_l105 q0 q1 q2 tt h0 h1 h2 h01 h02 h12 ht)).1 ?_
          refine g_aload X619.here hx (Jvm.hb hby at_364) (pc' := 366) rfl rfl rfl ?_
          refine g_iconst X619.here hx (Jvm.hb hby at_366) (pc' := 367) rfl (z := (0 : Int32)) rfl ?_
          refine g_iaload X619 hx hZ e619 V613 ⟨by decide, by decide⟩ (v := q1) rfl (Jvm.hb hby at_367) (pc' := 368) rfl ?_
          refine g_iconst X619.here hx (Jvm.hb hby at_368) (pc' := 369) rfl (z := (3 : Int32)) rfl ?_
          refine g_icN X619.here hx (Jvm.hb hby at_369) (pc' := 372) rfl (feq (fun q => by have := congrArg Int32.toInt q; simp only [Int32.reduceToInt] at this; omega)).1 ?_
          refine g_aload X619.here hx (Jvm.hb hby at_372) (pc' := 374) rfl rfl rfl ?_
          refine g_aload X619.here hx (Jvm.hb hby at_374) (pc' := 376) rfl rfl rfl ?_
          refine g_iconst X619.here hx (Jvm.hb hby at_376) (pc' := 377) rfl (z := (0 : Int32)) rfl ?_
          refine g_iaload X619 hx hZ e619 V613 ⟨by decide, by decide⟩ (v := q1) rfl (Jvm.hb hby at_377) (pc' := 378) rfl ?_
          refine g_callV X619 hx hZ hown w_57 w_58 (own_nf hZ w_60) w_60 w_59 w_5 w_61 (by decide) (rm10 l Z a0 hw [] ad536 r0 r1 r2 r3 r4 r5 q1 (own_ap (own_rm (own_rm (own_ap (own_ap (own_ap own_st0 q0 tt) q1 tt) q2 tt) q2) q0) (3 : Int32) tt) hh613 PLx616 ⟨h1.1, by omega⟩) 0 (by decide) (by decide) e619 PLx616.1.1 (by rw [hml]; rfl) [(.int q1)] [] (lenOf pd_4 rfl) rfl rfl (Nat.le_of_eq rfl) (Jvm.hb hby at_378) (pc' := 381) rfl (cells' := 10) (slots' := 33) rfl rfl (by decide) (by decide) ?_
          intro v620 T620 L620 X620 hQ620
          obtain ⟨rfl, rfl, e620⟩ := hQ620
          rw [List.append_nil] at X620
          show own_Gl p e below s (own_Q0 n0) room_1.cells room_1.slots (T620.setTop (mkF m 381 #[.val (.int x0), .val (.int x1), .val (.int x2), .val (.int x3), .val (.int x4), .val (.int (3 : Int32)), .val (.int (2 : Int32)), .val (.int tt), .val (.int q0), .val (.ref ad519), .val (.ref ad527), .val (.ref ad536), .val (.ref ad600), .val (.int (1 : Int32))] [(.int ((own_ap (own_rm (own_rm (own_ap (own_ap (own_ap own_st0 q0 tt) q1 tt) q2 tt) q2) q0) (3 : Int32) tt) 2 q1.toNatClampNeg))]))
          refine g_aload X620.here hx (Jvm.hb hby at_381) (pc' := 383) rfl rfl rfl ?_
          refine g_iconst X620.here hx (Jvm.hb hby at_383) (pc' := 384) rfl (z := (1 : Int32)) rfl ?_
          refine g_iaload X620 hx hZ e620 V613 ⟨by decide, by decide⟩ (v := (3 : Int32)) rfl (Jvm.hb hby at_384) (pc' := 385) rfl ?_
          refine g_icY X620.here hx (Jvm.hb hby at_385) (by decide) (pc' := 390) (by decide) (teq (own_l106 q0 q1 q2 tt h0 h1 h2 h01 h02 h12 ht)).1 ?_
          refine g_aload X620.here hx (Jvm.hb hby at_390) (pc' := 392) rfl rfl rfl ?_
          refine g_iconst X620.here hx (Jvm.hb hby at_392) (pc' := 393) rfl (z := (0 : Int32)) rfl ?_
          refine g_iaload X620 hx hZ e620 V613 ⟨by decide, by decide⟩ (v := q1) rfl (Jvm.hb hby at_393) (pc' := 394) rfl ?_
          refine g_iconst X620.here hx (Jvm.hb hby at_394) (pc' := 395) rfl (z := (3 : Int32)) rfl ?_
          refine g_icN X620.here hx (Jvm.hb hby at_395) (pc' := 398) rfl (feq (fun q => by have := congrArg Int32.toInt q; simp only [Int32.reduceToInt] at this; omega)).1 ?_
          refine g_aload X620.here hx (Jvm.hb hby at_398) (pc' := 400) rfl rfl rfl ?_
          refine g_iconst X620.here hx (Jvm.hb hby at_400) (pc' := 401) rfl (z := (1 : Int32)) rfl ?_
          refine g_iaload X620 hx hZ e620 V613 ⟨by decide, by decide⟩ (v := (3 : Int32)) rfl (Jvm.hb hby at_401) (pc' := 402) rfl ?_
          refine g_iconst X620.here hx (Jvm.hb hby at_402) (pc' := 403) rfl (z := (3 : Int32)) rfl ?_
          refine g_icY X620.here hx (Jvm.hb hby at_403) (by decide) (pc' := 424) (by decide) (teq (by decide)).1 ?_
          refine g_iconst X620.here hx (Jvm.hb hby at_424) (pc' := 425) rfl (z := (1 : Int32)) rfl ?_
          exact g_retN X620 hx hlk (t := .boolean) hret (by simp) (z' := (1 : Int32)) rfl (Jvm.hb hby at_425) (by decide) (by decide) ⟨rfl, N613⟩
        · refine g_iadd X555.here hx (Jvm.hb hby at_200) (pc' := 201) rfl ?_
          refine g_iload X555.here hx (Jvm.hb hby at_201) (pc' := 203) rfl rfl ?_
          refine g_irem X555 hx (Jvm.hb hby at_203) (pc' := 204) rfl (by decide) ?_
          refine g_istore X555.here hx (Jvm.hb hby at_204) (pc' := 206) rfl (L' := #[.val (.int x0), .val (.int x1), .val (.int x2), .val (.int x3), .val (.int x4), .val (.int (3 : Int32)), .val (.int (2 : Int32)), .val (.int tt), .val (.int q0), .val (.ref ad519), .val (.ref ad527), .val (.ref ad536), .val (.int ((((2 : Int32) + (1 : Int32)) + (1 : Int32)) % (3 : Int32))), .unset]) rfl ?_
          rw [show ((((2 : Int32) + (1 : Int32)) + (1 : Int32)) % (3 : Int32)) = (1 : Int32) from rfl]
          refine g_aload X555.here hx (Jvm.hb hby at_206) (pc' := 208) rfl rfl rfl ?_
          refine g_aload X555.here hx (Jvm.hb hby at_208) (pc' := 210) rfl rfl rfl ?_
          refine g_iload X555.here hx (Jvm.hb hby at_210) (pc' := 212) rfl rfl ?_
          have F621 := ((F551.keep K552 (ninS (Nat.ne_of_lt (by omega)) (ninS (Nat.ne_of_lt (by omega)) (ninS (Nat.ne_of_lt (by omega)) (ninS (Nat.ne_of_lt (by omega)) (ninS (Nat.ne_of_lt (by omega)) (ninS (Nat.ne_of_lt (by omega)) nin0))))))).other W555 ne_ad519_ad527)
          refine g_iaload X555 hx hZ e555 F621 ⟨by decide, by decide⟩ (v := q1) rfl (Jvm.hb hby at_212) (pc' := 213) rfl ?_
          have PLx622 := (own_PL.other PL552 W555 hord (by omega))
          refine g_callV X555 hx hZ hown w_37 w_38 (own_nf hZ w_40) w_40 w_39 w_5 w_41 (by decide) (rm6 l Z a0 hw [] ad536 r0 r1 r2 r3 r4 r5 q1 (own_rm (own_ap (own_ap (own_ap own_st0 q0 tt) q1 tt) q2 tt) q2) hh555 n0 Z556 g_ad536 hord PLx622 ⟨h1.1, by omega⟩ (own_l107 q0 q1 q2 tt h0 h1 h2 h01 h02 h12 ht) (own_l108 q0 q1 q2 tt h0 h1 h2 h01 h02 h12 ht) (own_l109 q0 q1 q2 tt h0 h1 h2 h01 h02 h12 ht)) 0 (by decide) (by decide) e555 PLx622.1.1 (by rw [hml]; rfl) [(.int q1)] [] (lenOf pd_3 rfl) rfl rfl (Nat.le_of_eq rfl) (Jvm.hb hby at_213) (pc' := 216) rfl (cells' := 9) (slots' := 30) rfl rfl (by decide) (by decide) ?_
          intro v623 T623 L623 X623 hQ623
          obtain ⟨rfl, Nq623, K623, PL623⟩ := hQ623
          have N623 := Fr.app N555 Nq623
          have Z624 : n0 ≤ T623.heap.size := Nat.le_trans Z556 K623.1
          show own_Gl p e below s (own_Q0 n0) room_1.cells room_1.slots (T623.setTop (mkF m 216 #[.val (.int x0), .val (.int x1), .val (.int x2), .val (.int x3), .val (.int x4), .val (.int (3 : Int32)), .val (.int (2 : Int32)), .val (.int tt), .val (.int q0), .val (.ref ad519), .val (.ref ad527), .val (.ref ad536), .val (.int (1 : Int32)), .unset] []))
          refine g_aload X623.here hx (Jvm.hb hby at_216) (pc' := 218) rfl rfl rfl ?_
          refine g_iload X623.here hx (Jvm.hb hby at_218) (pc' := 220) rfl rfl ?_
          refine g_iconst X623.here hx (Jvm.hb hby at_220) (pc' := 221) rfl (z := (0 : Int32)) rfl ?_
          have F625 := (V555.keep K623 (ninS (Nat.ne_of_lt (by omega)) (ninS (Nat.ne_of_lt (by omega)) (ninS (Nat.ne_of_lt (by omega)) (ninS (Nat.ne_of_lt (by omega)) (ninS (Nat.ne_of_lt (by omega)) (ninS (Nat.ne_of_lt (by omega)) nin0)))))))
          refine g_zastore X623 hx hZ rfl F625 ⟨by decide, by decide⟩ (x' := (0 : Int32)) rfl (Jvm.hb hby at_221) (pc' := 222) rfl ?_
          intro T626 hh626 X626 e626 W626 V626
          have N626 := Fr.snoc X626 N623 g_ad527
          have Z627 : n0 ≤ hh626.size := (by rw [W626.size]; exact Z624)
          refine g_aload X626.here hx (Jvm.hb hby at_222) (pc' := 224) rfl rfl rfl ?_
          refine g_iconst X626.here hx (Jvm.hb hby at_224) (pc' := 225) rfl (z := (3 : Int32)) rfl ?_
          refine g_iload X626.here hx (Jvm.hb hby at_225) (pc' := 227) rfl rfl ?_
          have PLx628 := (own_PL.other PL623 W626 hord (by omega))
          refine g_callV X626 hx hZ hown w_32 w_33 (own_nf hZ w_35) w_35 w_34 w_5 w_36 (by decide) (rm5 l Z a0 hw [] ad536 r0 r1 r2 r3 r4 r5 (3 : Int32) tt (own_rm (own_rm (own_ap (own_ap (own_ap own_st0 q0 tt) q1 tt) q2 tt) q2) q1) hh626 n0 Z627 g_ad536 hord PLx628 ⟨by decide, by decide⟩ rt (own_l110 q0 q1 q2 tt h0 h1 h2 h01 h02 h12 ht)) 0 (by decide) (by decide) e626 PLx628.1.1 (by rw [hml]; rfl) [(.int (3 : Int32)), (.int tt)] [] (lenOf pd_2 rfl) rfl rfl (Nat.le_of_eq rfl) (Jvm.hb hby at_227) (pc' := 230) rfl (cells' := 9) (slots' := 30) rfl rfl (by decide) (by decide) ?_
          intro v629 T629 L629 X629 hQ629
          obtain ⟨rfl, Nq629, K629, PL629⟩ := hQ629
          have N629 := Fr.app N626 Nq629
          have Z630 : n0 ≤ T629.heap.size := Nat.le_trans Z627 K629.1
          show own_Gl p e below s (own_Q0 n0) room_1.cells room_1.slots (T629.setTop (mkF m 230 #[.val (.int x0), .val (.int x1), .val (.int x2), .val (.int x3), .val (.int x4), .val (.int (3 : Int32)), .val (.int (2 : Int32)), .val (.int tt), .val (.int q0), .val (.ref ad519), .val (.ref ad527), .val (.ref ad536), .val (.int (1 : Int32)), .unset] []))
          refine g_iconst X629.here hx (Jvm.hb hby at_230) (pc' := 231) rfl (z := (3 : Int32)) rfl ?_
          have F631 := (((F621.keep K623 (ninS (Nat.ne_of_lt (by omega)) (ninS (Nat.ne_of_lt (by omega)) (ninS (Nat.ne_of_lt (by omega)) (ninS (Nat.ne_of_lt (by omega)) (ninS (Nat.ne_of_lt (by omega)) (ninS (Nat.ne_of_lt (by omega)) nin0))))))).other W626 ne_ad519_ad527).keep K629 (ninS (Nat.ne_of_lt (by omega)) (ninS (Nat.ne_of_lt (by omega)) (ninS (Nat.ne_of_lt (by omega)) (ninS (Nat.ne_of_lt (by omega)) (ninS (Nat.ne_of_lt (by omega)) (ninS (Nat.ne_of_lt (by omega)) nin0)))))))
          have F632 := (V626.keep K629 (ninS (Nat.ne_of_lt (by omega)) (ninS (Nat.ne_of_lt (by omega)) (ninS (Nat.ne_of_lt (by omega)) (ninS (Nat.ne_of_lt (by omega)) (ninS (Nat.ne_of_lt (by omega)) (ninS (Nat.ne_of_lt (by omega)) nin0)))))))
          refine g_newarr X629 hx hZ (ty := .int) rfl rfl w_1 rfl (Jvm.hb hby at_231) (pc' := 233) rfl (n := 3) (by decide) 3 (by decide) (by decide) (cells' := 10) (slots' := 33) rfl rfl (by decide) (by decide) ?_
          intro T633 hh633 ad633 gb633 X633 e633 E633 V633
          have g_ad633 : n0 ≤ ad633 := by rw [gb633]; exact Z630
          have lt_ad519_ad633 : @LT.lt Nat _ ad519 ad633 := by rw [gb633]; exact F631.lt
          have ne_ad519_ad633 : ad519 ≠ ad633 := Nat.ne_of_lt lt_ad519_ad633
          have lt_ad527_ad633 : @LT.lt Nat _ ad527 ad633 := by rw [gb633]; exact F632.lt
          have ne_ad527_ad633 : ad527 ≠ ad633 := Nat.ne_of_lt lt_ad527_ad633
          have lt_ad536_ad633 : @LT.lt Nat _ ad536 ad633 := by rw [gb633]; exact PL629.1.1.lt
          have ne_ad536_ad633 : ad536 ≠ ad633 := Nat.ne_of_lt lt_ad536_ad633
          have Z634 : n0 ≤ hh633.size := Nat.le_trans Z630 E633.1
          have lt5 : @LT.lt Nat _ r5 ad633 := by rw [gb633]; exact own_PL.lt5 PL629
          refine g_astore X633.here hx (Jvm.hb hby at_233) (pc' := 235) rfl rfl (L' := #[.val (.int x0), .val (.int x1), .val (.int x2), .val (.int x3), .val (.int x4), .val (.int (3 : Int32)), .val (.int (2 : Int32)), .val (.int tt), .val (.int q0), .val (.ref ad519), .val (.ref ad527), .val (.ref ad536), .val (.ref ad633), .unset]) rfl ?_
          refine g_aload X633.here hx (Jvm.hb hby at_235) (pc' := 237) rfl rfl rfl ?_
          refine g_iconst X633.here hx (Jvm.hb hby at_237) (pc' := 238) rfl (z := (0 : Int32)) rfl ?_
          refine g_iconst X633.here hx (Jvm.hb hby at_238) (pc' := 239) rfl (z := (-1 : Int32)) rfl ?_
          refine g_iastore X633 hx hZ e633 V633 ⟨by decide, by decide⟩ (Jvm.hb hby at_239) (pc' := 240) rfl ?_
          intro T635 hh635 X635 e635 W635 V635
          have N635 := Fr.snoc X635 N629 g_ad633
          have Z636 : n0 ≤ hh635.size := (by rw [W635.size]; exact Z634)
          refine g_aload X635.here hx (Jvm.hb hby at_240) (pc' := 242) rfl rfl rfl ?_
          refine g_iconst X635.here hx (Jvm.hb hby at_242) (pc' := 243) rfl (z := (1 : Int32)) rfl ?_
          refine g_iconst X635.here hx (Jvm.hb hby at_243) (pc' := 244) rfl (z := (-1 : Int32)) rfl ?_
          refine g_iastore X635 hx hZ e635 V635 ⟨by decide, by decide⟩ (Jvm.hb hby at_244) (pc' := 245) rfl ?_
          intro T637 hh637 X637 e637 W637 V637
          have N637 := Fr.snoc X637 N635 g_ad633
          have Z638 : n0 ≤ hh637.size := (by rw [W637.size]; exact Z636)
          refine g_aload X637.here hx (Jvm.hb hby at_245) (pc' := 247) rfl rfl rfl ?_
          refine g_iconst X637.here hx (Jvm.hb hby at_247) (pc' := 248) rfl (z := (2 : Int32)) rfl ?_
          refine g_iconst X637.here hx (Jvm.hb hby at_248) (pc' := 249) rfl (z := (-1 : Int32)) rfl ?_
          refine g_iastore X637 hx hZ e637 V637 ⟨by decide, by decide⟩ (Jvm.hb hby at_249) (pc' := 250) rfl ?_
          intro T639 hh639 X639 e639 W639 V639
          have N639 := Fr.snoc X639 N637 g_ad633
          have Z640 : n0 ≤ hh639.size := (by rw [W639.size]; exact Z638)
          refine g_iconst X639.here hx (Jvm.hb hby at_250) (pc' := 251) rfl (z := (0 : Int32)) rfl ?_
          refine g_istore X639.here hx (Jvm.hb hby at_251) (pc' := 253) rfl (L' := #[.val (.int x0), .val (.int x1), .val (.int x2), .val (.int x3), .val (.int x4), .val (.int (3 : Int32)), .val (.int (2 : Int32)), .val (.int tt), .val (.int q0), .val (.ref ad519), .val (.ref ad527), .val (.ref ad536), .val (.ref ad633), .val (.int (0 : Int32))]) rfl ?_
          refine g_aload X639.here hx (Jvm.hb hby at_253) (pc' := 255) rfl rfl rfl ?_
          refine g_iconst X639.here hx (Jvm.hb hby at_255) (pc' := 256) rfl (z := (0 : Int32)) rfl ?_
          have F641 := ((((F632.ext E633).other W635 ne_ad527_ad633).other W637 ne_ad527_ad633).other W639 ne_ad527_ad633)
          refine g_zaload X639 hx hZ e639 F641 ⟨by decide, by decide⟩ (v := (1 : Int32)) rfl (Jvm.hb hby at_256) (pc' := 257) rfl ?_
          refine g_ifN X639.here hx (Jvm.hb hby at_257) (pc' := 260) rfl ((if0 _ _).trans (feq (by decide)).1) ?_
          refine g_aload X639.here hx (Jvm.hb hby at_260) (pc' := 262) rfl rfl rfl ?_
          refine g_iload X639.here hx (Jvm.hb hby at_262) (pc' := 264) rfl rfl ?_
          refine g_aload X639.here hx (Jvm.hb hby at_264) (pc' := 266) rfl rfl rfl ?_
          refine g_iconst X639.here hx (Jvm.hb hby at_266) (pc' := 267) rfl (z := (0 : Int32)) rfl ?_
          have F642 := ((((F631.ext E633).other W635 ne_ad519_ad633).other W637 ne_ad519_ad633).other W639 ne_ad519_ad633)
          refine g_iaload X639 hx hZ e639 F642 ⟨by decide, by decide⟩ (v := q0) rfl (Jvm.hb hby at_267) (pc' := 268) rfl ?_
          refine g_iastore X639 hx hZ e639 V639 ⟨by decide, by decide⟩ (Jvm.hb hby at_268) (pc' := 269) rfl ?_
          intro T643 hh643 X643 e643 W643 V643
          have N643 := Fr.snoc X643 N639 g_ad633
          have Z644 : n0 ≤ hh643.size := (by rw [W643.size]; exact Z640)
          refine g_iinc X643.here hx (Jvm.hb hby at_269) (pc' := 272) rfl (z := (1 : Int32)) rfl rfl (L' := #[.val (.int x0), .val (.int x1), .val (.int x2), .val (.int x3), .val (.int x4), .val (.int (3 : Int32)), .val (.int (2 : Int32)), .val (.int tt), .val (.int q0), .val (.ref ad519), .val (.ref ad527), .val (.ref ad536), .val (.ref ad633), .val (.int (1 : Int32))]) rfl ?_
          refine g_aload X643.here hx (Jvm.hb hby at_272) (pc' := 274) rfl rfl rfl ?_
          refine g_iconst X643.here hx (Jvm.hb hby at_274) (pc' := 275) rfl (z := (1 : Int32)) rfl ?_
          have F645 := (F641.other W643 ne_ad527_ad633)
          refine g_zaload X643 hx hZ e643 F645 ⟨by decide, by decide⟩ (v := (0 : Int32)) rfl (Jvm.hb hby at_275) (pc' := 276) rfl ?_
          refine g_ifY X643.here hx (Jvm.hb hby at_276) (by decide) (pc' := 291) (by decide) ((if0 _ _).trans (teq (by decide)).1) ?_
          refine g_aload X643.here hx (Jvm.hb hby at_291) (pc' := 293) rfl rfl rfl ?_
          refine g_iconst X643.here hx (Jvm.hb hby at_293) (pc' := 294) rfl (z := (2 : Int32)) rfl ?_
          refine g_zaload X643 hx hZ e643 F645 ⟨by decide, by decide⟩ (v := (0 : Int32)) rfl (Jvm.hb hby at_294) (pc' := 295) rfl ?_
          refine g_ifY X643.here hx (Jvm.hb hby at_295) (by decide) (pc' := 310) (by decide) ((if0 _ _).trans (teq (by decide)).1) ?_
          refine g_aload X643.here hx (Jvm.hb hby at_310) (pc' := 312) rfl rfl rfl ?_
          refine g_iload X643.here hx (Jvm.hb hby at_312) (pc' := 314) rfl rfl ?_
          refine g_iconst X643.here hx (Jvm.hb hby at_314) (pc' := 315) rfl (z := (3 : Int32)) rfl ?_
          refine g_iastore X643 hx hZ e643 V643 ⟨by decide, by decide⟩ (Jvm.hb hby at_315) (pc' := 316) rfl ?_
          intro T646 hh646 X646 e646 W646 V646
          have N646 := Fr.snoc X646 N643 g_ad633
          have Z647 : n0 ≤ hh646.size := (by rw [W646.size]; exact Z644)
          refine g_aload X646.here hx (Jvm.hb hby at_316) (pc' := 318) rfl rfl rfl ?_
          refine g_aload X646.here hx (Jvm.hb hby at_318) (pc' := 320) rfl rfl rfl ?_
          refine g_iload X646.here hx (Jvm.hb hby at_320) (pc' := 322) rfl rfl ?_
          have F648 := ((F642.other W643 ne_ad519_ad633).other W646 ne_ad519_ad633)
          refine g_iaload X646 hx hZ e646 F648 ⟨by decide, by decide⟩ (v := q2) rfl (Jvm.hb hby at_322) (pc' := 323) rfl ?_
          have PLx649 := (own_PL.other (own_PL.other (own_PL.other (own_PL.other (own_PL.other (own_PL.ext PL629 E633) W635 hord (by omega)) W637 hord (by omega)) W639 hord (by omega)) W643 hord (by omega)) W646 hord (by omega))
          refine g_callV X646 hx hZ hown w_42 w_43 (own_nf hZ w_45) w_45 w_44 w_5 w_46 (by decide) (rm7 l Z a0 hw [] ad536 r0 r1 r2 r3 r4 r5 q2 (own_ap (own_rm (own_rm (own_ap (own_ap (own_ap own_st0 q0 tt) q1 tt) q2 tt) q2) q1) (3 : Int32) tt) hh646 PLx649 ⟨h2.1, by omega⟩) 0 (by decide) (by decide) e646 PLx649.1.1 (by rw [hml]; rfl) [(.int q2)] [] (lenOf pd_4 rfl) rfl rfl (Nat.le_of_eq rfl) (Jvm.hb hby at_323) (pc' := 326) rfl (cells' := 10) (slots' := 33) rfl rfl (by decide) (by decide) ?_
          intro v650 T650 L650 X650 hQ650
          obtain ⟨rfl, rfl, e650⟩ := hQ650
          rw [List.append_nil] at X650
          show own_Gl p e below s (own_Q0 n0) room_1.cells room_1.slots (T650.setTop (mkF m 326 #[.val (.int x0), .val (.int x1), .val (.int x2), .val (.int x3), .val (.int x4), .val (.int (3 : Int32)), .val (.int (2 : Int32)), .val (.int tt), .val (.int q0), .val (.ref ad519), .val (.ref ad527), .val (.ref ad536), .val (.ref ad633), .val (.int (1 : Int32))] [(.int ((own_ap (own_rm (own_rm (own_ap (own_ap (own_ap own_st0 q0 tt) q1 tt) q2 tt) q2) q1) (3 : Int32) tt) 0 q2.toNatClampNeg))]))
          refine g_iconst X650.here hx (Jvm.hb hby at_326) (pc' := 327) rfl (z := (-1 : Int32)) rfl ?_
          refine g_icY X650.here hx (Jvm.hb hby at_327) (by decide) (pc' := 332) (by decide) (teq (own_l111 q0 q1 q2 tt h0 h1 h2 h01 h02 h12 ht)).1 ?_
          refine g_aload X650.here hx (Jvm.hb hby at_332) (pc' := 334) rfl rfl rfl ?_
          refine g_iload X650.here hx (Jvm.hb hby at_334) (pc' := 336) rfl rfl ?_
          refine g_callV X650 hx hZ hown w_47 w_48 (own_nf hZ w_50) w_50 w_49 w_5 w_51 (by decide) (rm8 l Z a0 hw [] ad536 r0 r1 r2 r3 r4 r5 tt (own_ap (own_rm (own_rm (own_ap (own_ap (own_ap own_st0 q0 tt) q1 tt) q2 tt) q2) q1) (3 : Int32) tt) hh646 PLx649 rt) 0 (by decide) (by decide) e650 PLx649.1.1 (by rw [hml]; rfl) [(.int tt)] [] (lenOf pd_4 rfl) rfl rfl (Nat.le_of_eq rfl) (Jvm.hb hby at_336) (pc' := 339) rfl (cells' := 10) (slots' := 33) rfl rfl (by decide) (by decide) ?_
          intro v651 T651 L651 X651 hQ651
          obtain ⟨rfl, rfl, e651⟩ := hQ651
          rw [List.append_nil] at X651
          show own_Gl p e below s (own_Q0 n0) room_1.cells room_1.slots (T651.setTop (mkF m 339 #[.val (.int x0), .val (.int x1), .val (.int x2), .val (.int x3), .val (.int x4), .val (.int (3 : Int32)), .val (.int (2 : Int32)), .val (.int tt), .val (.int q0), .val (.ref ad519), .val (.ref ad527), .val (.ref ad536), .val (.ref ad633), .val (.int (1 : Int32))] [(.int ((own_ap (own_rm (own_rm (own_ap (own_ap (own_ap own_st0 q0 tt) q1 tt) q2 tt) q2) q1) (3 : Int32) tt) 5 tt.toNatClampNeg))]))
          refine g_iload X651.here hx (Jvm.hb hby at_339) (pc' := 341) rfl rfl ?_
          refine g_iconst X651.here hx (Jvm.hb hby at_341) (pc' := 342) rfl (z := (1 : Int32)) rfl ?_
          refine g_iadd X651.here hx (Jvm.hb hby at_342) (pc' := 343) rfl ?_
          refine g_icY X651.here hx (Jvm.hb hby at_343) (by decide) (pc' := 348) (by decide) (teq ((own_l112 q0 q1 q2 tt h0 h1 h2 h01 h02 h12 ht))).1 ?_
          refine g_aload X651.here hx (Jvm.hb hby at_348) (pc' := 350) rfl rfl rfl ?_
          refine g_iload X651.here hx (Jvm.hb hby at_350) (pc' := 352) rfl rfl ?_
          refine g_callV X651 hx hZ hown w_52 w_53 (own_nf hZ w_55) w_55 w_54 w_5 w_56 (by decide) (rm9 l Z a0 hw [] ad536 r0 r1 r2 r3 r4 r5 tt (own_ap (own_rm (own_rm (own_ap (own_ap (own_ap own_st0 q0 tt) q1 tt) q2 tt) q2) q1) (3 : Int32) tt) hh646 PLx649 rt) 0 (by decide) (by decide) e651 PLx649.1.1 (by rw [hml]; rfl) [(.int tt)] [] (lenOf pd_4 rfl) rfl rfl (Nat.le_of_eq rfl) (Jvm.hb hby at_352) (pc' := 355) rfl (cells' := 10) (slots' := 33) rfl rfl (by decide) (by decide) ?_
          intro v652 T652 L652 X652 hQ652
          obtain ⟨rfl, rfl, e652⟩ := hQ652
          rw [List.append_nil] at X652
          show own_Gl p e below s (own_Q0 n0) room_1.cells room_1.slots (T652.setTop (mkF m 355 #[.val (.int x0), .val (.int x1), .val (.int x2), .val (.int x3), .val (.int x4), .val (.int (3 : Int32)), .val (.int (2 : Int32)), .val (.int tt), .val (.int q0), .val (.ref ad519), .val (.ref ad527), .val (.ref ad536), .val (.ref ad633), .val (.int (1 : Int32))] [(.int ((own_ap (own_rm (own_rm (own_ap (own_ap (own_ap own_st0 q0 tt) q1 tt) q2 tt) q2) q1) (3 : Int32) tt) 3 tt.toNatClampNeg))]))
          refine g_aload X652.here hx (Jvm.hb hby at_355) (pc' := 357) rfl rfl rfl ?_
          refine g_iconst X652.here hx (Jvm.hb hby at_357) (pc' := 358) rfl (z := (0 : Int32)) rfl ?_
          refine g_iaload X652 hx hZ e652 V646 ⟨by decide, by decide⟩ (v := q0) rfl (Jvm.hb hby at_358) (pc' := 359) rfl ?_
          refine g_icY X652.here hx (Jvm.hb hby at_359) (by decide) (pc' := 364) (by decide) (teq (own_l113 q0 q1 q2 tt h0 h1 h2 h01 h02 h12 ht)).1 ?_
          refine g_aload X652.here hx (Jvm.hb hby at_364) (pc' := 366) rfl rfl rfl ?_
          refine g_iconst X652.here hx (Jvm.hb hby at_366) (pc' := 367) rfl (z := (0 : Int32)) rfl ?_
          refine g_iaload X652 hx hZ e652 V646 ⟨by decide, by decide⟩ (v := q0) rfl (Jvm.hb hby at_367) (pc' := 368) rfl ?_
          refine g_iconst X652.here hx (Jvm.hb hby at_368) (pc' := 369) rfl (z := (3 : Int32)) rfl ?_
          refine g_icN X652.here hx (Jvm.hb hby at_369) (pc' := 372) rfl (feq (fun q => by have := congrArg Int32.toInt q; simp only [Int32.reduceToInt] at this; omega)).1 ?_
          refine g_aload X652.here hx (Jvm.hb hby at_372) (pc' := 374) rfl rfl rfl ?_
          refine g_aload X652.here hx (Jvm.hb hby at_374) (pc' := 376) rfl rfl rfl ?_
          refine g_iconst X652.here hx (Jvm.hb hby at_376) (pc' := 377) rfl (z := (0 : Int32)) rfl ?_
          refine g_iaload X652 hx hZ e652 V646 ⟨by decide, by decide⟩ (v := q0) rfl (Jvm.hb hby at_377) (pc' := 378) rfl ?_
          refine g_callV X652 hx hZ hown w_57 w_58 (own_nf hZ w_60) w_60 w_59 w_5 w_61 (by decide) (rm10 l Z a0 hw [] ad536 r0 r1 r2 r3 r4 r5 q0 (own_ap (own_rm (own_rm (own_ap (own_ap (own_ap own_st0 q0 tt) q1 tt) q2 tt) q2) q1) (3 : Int32) tt) hh646 PLx649 ⟨h0.1, by omega⟩) 0 (by decide) (by decide) e652 PLx649.1.1 (by rw [hml]; rfl) [(.int q0)] [] (lenOf pd_4 rfl) rfl rfl (Nat.le_of_eq rfl) (Jvm.hb hby at_378) (pc' := 381) rfl (cells' := 10) (slots' := 33) rfl rfl (by decide) (by decide) ?_
          intro v653 T653 L653 X653 hQ653
          obtain ⟨rfl, rfl, e653⟩ := hQ653
          rw [List.append_nil] at X653
          show own_Gl p e below s (own_Q0 n0) room_1.cells room_1.slots (T653.setTop (mkF m 381 #[.val (.int x0), .val (.int x1), .val (.int x2), .val (.int x3), .val (.int x4), .val (.int (3 : Int32)), .val (.int (2 : Int32)), .val (.int tt), .val (.int q0), .val (.ref ad519), .val (.ref ad527), .val (.ref ad536), .val (.ref ad633), .val (.int (1 : Int32))] [(.int ((own_ap (own_rm (own_rm (own_ap (own_ap (own_ap own_st0 q0 tt) q1 tt) q2 tt) q2) q1) (3 : Int32) tt) 2 q0.toNatClampNeg))]))
          refine g_aload X653.here hx (Jvm.hb hby at_381) (pc' := 383) rfl rfl rfl ?_
          refine g_iconst X653.here hx (Jvm.hb hby at_383) (pc' := 384) rfl (z := (1 : Int32)) rfl ?_
          refine g_iaload X653 hx hZ e653 V646 ⟨by decide, by decide⟩ (v := (3 : Int32)) rfl (Jvm.hb hby at_384) (pc' := 385) rfl ?_
          refine g_icY X653.here hx (Jvm.hb hby at_385) (by decide) (pc' := 390) (by decide) (teq (own_l114 q0 q1 q2 tt h0 h1 h2 h01 h02 h12 ht)).1 ?_
          refine g_aload X653.here hx (Jvm.hb hby at_390) (pc' := 392) rfl rfl rfl ?_
          refine g_iconst X653.here hx (Jvm.hb hby at_392) (pc' := 393) rfl (z := (0 : Int32)) rfl ?_
          refine g_iaload X653 hx hZ e653 V646 ⟨by decide, by decide⟩ (v := q0) rfl (Jvm.hb hby at_393) (pc' := 394) rfl ?_
          refine g_iconst X653.here hx (Jvm.hb hby at_394) (pc' := 395) rfl (z := (3 : Int32)) rfl ?_
          refine g_icN X653.here hx (Jvm.hb hby at_395) (pc' := 398) rfl (feq (fun q => by have := congrArg Int32.toInt q; simp only [Int32.reduceToInt] at this; omega)).1 ?_
          refine g_aload X653.here hx (Jvm.hb hby at_398) (pc' := 400) rfl rfl rfl ?_
          refine g_iconst X653.here hx (Jvm.hb hby at_400) (pc' := 401) rfl (z := (1 : Int32)) rfl ?_
          refine g_iaload X653 hx hZ e653 V646 ⟨by decide, by decide⟩ (v := (3 : Int32)) rfl (Jvm.hb hby at_401) (pc' := 402) rfl ?_
          refine g_iconst X653.here hx (Jvm.hb hby at_402) (pc' := 403) rfl (z := (3 : Int32)) rfl ?_
          refine g_icY X653.here hx (Jvm.hb hby at_403) (by decide) (pc' := 424) (by decide) (teq (by decide)).1 ?_
          refine g_iconst X653.here hx (Jvm.hb hby at_424) (pc' := 425) rfl (z := (1 : Int32)) rfl ?_
          exact g_retN X653 hx hlk (t := .boolean) hret (by simp) (z' := (1 : Int32)) rfl (Jvm.hb hby at_425) (by decide) (by decide) ⟨rfl, N646⟩
set_option maxRecDepth 65536 in
set_option maxHeartbeats 40000000 in
theorem comes_1 {Post : Tables → Env → Array Value → State → Outcome → State → Prop} (hpost : ∀ tb e args s v u, (limb_1_1.after args s (.returned v) u = true ∧ limb_1_2.after args s (.returned v) u = true ∧ True) → FrameEnd s (.returned v) u (Jvm.fieldLocs frame_1_writes args s ++ Jvm.arrayLocs frame_1_arrays args s ++ Jvm.staticLocs frame_1_statics s) 32 192 → Post tb e args s (.returned v) u) :
    ArmFor flags0 classFile x code maxLocals ret World_1 tables_1 room_1 Calls_1 rest_1 Pre_1 Post := by
  intro l hfl _ _ p e ha hc hk s m args below hf hA hF happ hP
  obtain ⟨hcalls, hrest, hpre⟩ := hP
  obtain ⟨-, -, -, hnamed, -, -, -, hat⟩ := (Spec.applies_iff hf).mp happ
  obtain ⟨hg, hn⟩ := and_e (Cond.before_iff.mp (show (Jvm.Cond.and given_1 narrow_1).before args s = true from hpre))
  obtain ⟨g1, g2⟩ := and_e hg
  obtain ⟨g3, g4⟩ := and_e g2
  obtain ⟨g5, g6⟩ := and_e g4
  obtain ⟨g7, g8⟩ := and_e g6
  obtain ⟨g9, g10⟩ := and_e g8
  obtain ⟨w0, w1, w2, w3, w4, rfl⟩ : ∃ w0 w1 w2 w3 w4 : Value, args = #[w0, w1, w2, w3, w4] := by
    have hs : args.size = 5 := by simpa [Cond.value, given_1] using g1
    obtain ⟨L⟩ := args
    match L, hs with
    | [w0, w1, w2, w3, w4], _ => exact ⟨w0, w1, w2, w3, w4, rfl⟩
  have hw := fun d (hd : d ∈ tables_1) => atoms_spec (ws := Jvm.Cond.code x code maxLocals ret :: tables_1) hat d (List.mem_cons_of_mem _ hd)
  obtain ⟨i0, ei0⟩ := is_v g3
  obtain rfl : w0 = (.int i0) := Option.some.inj ei0
  obtain ⟨i1, ei1⟩ := is_v g5
  obtain rfl : w1 = (.int i1) := Option.some.inj ei1
  obtain ⟨i2, ei2⟩ := is_v g7
  obtain rfl : w2 = (.int i2) := Option.some.inj ei2
  obtain ⟨i3, ei3⟩ := is_v g9
  obtain rfl : w3 = (.int i3) := Option.some.inj ei3
  obtain ⟨i4, ei4⟩ := is_v g10
  obtain rfl : w4 = (.int i4) := Option.some.inj ei4
  obtain ⟨n, o, h1, h2, h3, _, L, rfl, ⟨rfl, N⟩, hq⟩ := rm0 l s _ hw tables_1 i0 i1 i2 i3 i4 s.heap s.heap.size (Nat.le_refl _) p e ha hc hk s m _ below hf ((Spec.applies_iff_loose hf).mp happ).1 ⟨rfl, State.Warmed39.refl s, rfl⟩ trivial
  refine ⟨n, _, h1, h2, h3, hpost _ _ _ _ _ _ ⟨Cond.after_iff.mpr rfl, Cond.after_iff.mpr (eq_i res_at (Term.int_eval (1)) rfl), trivial⟩ ⟨hq.1, hq.2.1, (hq.2.2.sift fun y hy => Or.inr (N y hy)).mono (by decide) (by decide)⟩⟩
theorem main_1_1 : Claimed_1_1 := comes_1 fun _ _ _ _ _ _ h hF => ⟨h.1, hF⟩
theorem main_1_2 : Claimed_1_2 := comes_1 fun _ _ _ _ _ _ h hF => ⟨h.2.1, hF⟩
end Jvm.Pilot.@@N@@
namespace Jvm.Pilot.@@N@@
open Jvm Jvm.ClassFile Sem Op Lib Jvm.Free Jvm.Stand Jvm.Pilot.@@N@@.Jvm.D
/-! MADE BY PROGRAM (witnessworld.py) out of the Statement's table words and the real class files: 12 classes; the members and pool entries that the words name. The judged class is class 1, her method 1. -/
namespace start1
open Jvm.ClassFile
def u (s : String) : CpInfo := .utf8 (stringToUtf16 s)
/-- a pool by its gaps: so many unusable entries, then the entry; so many at the end -/
def gap : Nat → List CpInfo → List CpInfo
  | 0, r => r
  | n + 1, r => .unusable :: gap n r
def poolList (es : List (Nat × CpInfo)) (last : Nat) : List CpInfo := es.foldr (fun e r => gap e.1 (e.2 :: r)) (gap last [])
def pool (es : List (Nat × CpInfo)) (last : Nat) : Array CpInfo := ⟨poolList es last⟩
def fileOf (pool : Array CpInfo) (this : Nat) (attrs : Array Attribute := #[]) (ms : Array MethodInfo := #[]) (fl : Nat := 33) (sup : Nat := 0) (ifs : Array Nat := #[]) (fds : Array FieldInfo := #[]) : ClassFile where
  minorVersion := 0
  majorVersion := 65
  constantPool := pool
  accessFlags := fl
  thisClass := this
  superClass := sup
  interfaces := ifs
  fields := fds
  methods := ms
  attributes := attrs
def plain (name : String) (sup : Option ClassId) : Class where
  name := name
  kind := .ordinary
  loader := none
  accessFlags := 33
  super := sup
  interfaces := #[]
  cf := none
  fields := #[]
  methods := #[]
  instanceTypes := #[]
  staticTypes := #[]
  resolved := #[]
  callSites := []
  init := .initialized
  statics := none
  mirror := none

def pool0 : Array CpInfo := pool [(5, u "<init>"), (0, u "()V"), (1, .class_ 10), (1, u "java/lang/Object")] 113

def k0c0 : Code := { maxStack := 0, maxLocals := 1, code := object_method_1_code, exceptionTable := #[], attributes := #[] }
def k0m0 : Method := { name := "<init>", desc := "()V", sig := { parameters := [], returnType := none }, accessFlags := 1, code := some k0c0 }
/-- java/lang/Object -/
def k0 : Class := { plain "java/lang/Object" none with
  accessFlags := 33
  interfaces := #[]
  cf := some (fileOf pool0 8 #[] #[{ accessFlags := 1, nameIndex := 5, descriptorIndex := 6, attributes := #[] }] 33 0 #[] #[])
  fields := #[]
  methods := #[k0m0]
  instanceTypes := #[]
  staticTypes := #[]
  resolved := Array.replicate 124 none
  statics := none }

def pool1 : Array CpInfo := pool [(2, .class_ 4), (1, u "java/lang/Object"), (0, u "<init>"), (0, u "()V"), (0, .integer 2147483647), (0, .class_ 9), (0, u "com/example/tierstone/tierstone/PageLists"), (0, .methodref 8 11), (0, .nameAndType 5 12), (0, u "(II)V"), (0, .methodref 8 14), (0, .nameAndType 15 12), (0, u "append"), (0, .methodref 8 17), (0, .nameAndType 18 19), (0, u "remove"), (0, u "(I)V"), (0, .methodref 8 21), (0, .nameAndType 22 23), (0, u "listOf"), (0, u "(I)I"), (0, .methodref 8 25), (0, .nameAndType 26 23), (0, u "length"), (0, .methodref 8 28), (0, .nameAndType 29 23), (0, u "oldest"), (0, .methodref 8 31), (0, .nameAndType 32 23), (0, u "newer"), (0, .class_ 34), (0, u "com/example/tierstone/tierstone/PageListsRemovePinLaw"), (2, u "law"), (0, u "(IIIII)Z")] 7

def k1m0 : Method := { name := "<init>", desc := "()V", sig := { parameters := [], returnType := none }, accessFlags := 1, code := none }
def k1c1 : Code := { maxStack := 4, maxLocals := 14, code := code, exceptionTable := #[], attributes := #[] }
def k1m1 : Method := { name := "law", desc := "(IIIII)Z", sig := { parameters := [.int, .int, .int, .int, .int], returnType := some .boolean }, accessFlags := 9, code := some k1c1 }
/-- com/example/tierstone/tierstone/PageListsRemovePinLaw -/
def k1 : Class := { plain "com/example/tierstone/tierstone/PageListsRemovePinLaw" (some 0) with
  accessFlags := 49
  interfaces := #[]
  cf := some (fileOf pool1 33 #[] #[{ accessFlags := 1, nameIndex := 5, descriptorIndex := 6, attributes := #[] }, { accessFlags := 9, nameIndex := 37, descriptorIndex := 38, attributes := #[] }] 49 2 #[] #[])
  fields := #[]
  methods := #[k1m0, k1m1]
  instanceTypes := #[]
  staticTypes := #[]
  resolved := Array.replicate 46 none
  statics := none }

def pool2 : Array CpInfo := pool [(1, .methodref 2 3), (0, .class_ 4), (0, .nameAndType 5 6), (0, u "java/lang/Object"), (0, u "<init>"), (0, u "()V"), (0, .fieldref 8 9), (0, .class_ 10), (0, .nameAndType 11 12), (0, u "com/example/tierstone/tierstone/PageLists"), (0, u "list"), (0, u "[B"), (0, .methodref 14 15), (0, .class_ 16), (0, .nameAndType 17 18), (0, u "java/util/Arrays"), (0, u "fill"), (0, u "([BB)V"), (0, .fieldref 8 20), (0, .nameAndType 21 22), (0, u "older"), (0, u "[I"), (0, .fieldref 8 24), (0, .nameAndType 25 22), (0, u "newer"), (0, .fieldref 8 27), (0, .nameAndType 28 22), (0, u "oldest"), (0, .fieldref 8 30), (0, .nameAndType 31 22), (0, u "newest"), (0, .methodref 14 33), (0, .nameAndType 17 34), (0, u "([II)V"), (0, .fieldref 8 36), (0, .nameAndType 37 22), (0, u "length"), (8, u "remove"), (0, u "(I)V"), (2, u "append"), (0, u "(II)V"), (0, u "NONE"), (0, u "I"), (4, u "listOf"), (0, u "(I)I")] 10

def k2c0 : Code := { maxStack := 2, maxLocals := 3, code := prog_64_method_1_code, exceptionTable := #[], attributes := #[] }
def k2m0 : Method := { name := "<init>", desc := "(II)V", sig := { parameters := [.int, .int], returnType := none }, accessFlags := 0, code := some k2c0 }
def k2c1 : Code := { maxStack := 2, maxLocals := 2, code := prog_64_method_2_code, exceptionTable := #[], attributes := #[] }
def k2m1 : Method := { name := "listOf", desc := "(I)I", sig := { parameters := [.int], returnType := some .int }, accessFlags := 0, code := some k2c1 }
def k2c2 : Code := { maxStack := 2, maxLocals := 2, code := prog_64_method_3_code, exceptionTable := #[], attributes := #[] }
def k2m2 : Method := { name := "length", desc := "(I)I", sig := { parameters := [.int], returnType := some .int }, accessFlags := 0, code := some k2c2 }
def k2c3 : Code := { maxStack := 2, maxLocals := 2, code := prog_64_method_4_code, exceptionTable := #[], attributes := #[] }
def k2m3 : Method := { name := "oldest", desc := "(I)I", sig := { parameters := [.int], returnType := some .int }, accessFlags := 0, code := some k2c3 }
def k2c4 : Code := { maxStack := 2, maxLocals := 2, code := prog_64_method_5_code, exceptionTable := #[], attributes := #[] }
def k2m4 : Method := { name := "newer", desc := "(I)I", sig := { parameters := [.int], returnType := some .int }, accessFlags := 0, code := some k2c4 }
def k2c5 : Code := { maxStack := 4, maxLocals := 3, code := prog_64_method_7_code, exceptionTable := #[], attributes := #[] }
def k2m5 : Method := { name := "append", desc := "(II)V", sig := { parameters := [.int, .int], returnType := none }, accessFlags := 0, code := some k2c5 }
def k2c6 : Code := { maxStack := 4, maxLocals := 5, code := prog_64_method_9_code, exceptionTable := #[], attributes := #[] }
def k2m6 : Method := { name := "remove", desc := "(I)V", sig := { parameters := [.int], returnType := none }, accessFlags := 0, code := some k2c6 }
/-- com/example/tierstone/tierstone/PageLists -/
def k2 : Class := { plain "com/example/tierstone/tierstone/PageLists" (some 0) with
  accessFlags := 48
  interfaces := #[]
  cf := some (fileOf pool2 8 #[] #[{ accessFlags := 0, nameIndex := 5, descriptorIndex := 51, attributes := #[] }, { accessFlags := 0, nameIndex := 58, descriptorIndex := 59, attributes := #[] }, { accessFlags := 0, nameIndex := 37, descriptorIndex := 59, attributes := #[] }, { accessFlags := 0, nameIndex := 28, descriptorIndex := 59, attributes := #[] }, { accessFlags := 0, nameIndex := 25, descriptorIndex := 59, attributes := #[] }, { accessFlags := 0, nameIndex := 50, descriptorIndex := 51, attributes := #[] }, { accessFlags := 0, nameIndex := 46, descriptorIndex := 47, attributes := #[] }] 48 2 #[] #[{ accessFlags := 24, nameIndex := 52, descriptorIndex := 53, attributes := #[] }, { accessFlags := 18, nameIndex := 11, descriptorIndex := 12, attributes := #[] }, { accessFlags := 18, nameIndex := 21, descriptorIndex := 22, attributes := #[] }, { accessFlags := 18, nameIndex := 25, descriptorIndex := 22, attributes := #[] }, { accessFlags := 18, nameIndex := 28, descriptorIndex := 22, attributes := #[] }, { accessFlags := 18, nameIndex := 31, descriptorIndex := 22, attributes := #[] }, { accessFlags := 18, nameIndex := 37, descriptorIndex := 22, attributes := #[] }])
  fields := #[{ name := "NONE", type := .int, accessFlags := 24, slot := 0, constantValue := 0 }, { name := "list", type := (.array .byte), accessFlags := 18, slot := 0, constantValue := 0 }, { name := "older", type := (.array .int), accessFlags := 18, slot := 1, constantValue := 0 }, { name := "newer", type := (.array .int), accessFlags := 18, slot := 2, constantValue := 0 }, { name := "oldest", type := (.array .int), accessFlags := 18, slot := 3, constantValue := 0 }, { name := "newest", type := (.array .int), accessFlags := 18, slot := 4, constantValue := 0 }, { name := "length", type := (.array .int), accessFlags := 18, slot := 5, constantValue := 0 }]
  methods := #[k2m0, k2m1, k2m2, k2m3, k2m4, k2m5, k2m6]
  instanceTypes := #[(.array .byte), (.array .int), (.array .int), (.array .int), (.array .int), (.array .int)]
  staticTypes := #[.int]
  resolved := Array.replicate 70 none
  statics := none }

def pool3 : Array CpInfo := pool [(2, .class_ 4), (1, u "java/lang/Object"), (0, u "<init>"), (0, u "()V"), (7, .class_ 16), (1, u "java/util/Arrays"), (57, .class_ 76), (1, u "java/util/Arrays$NaturalOrder"), (36, .class_ 115), (1, u "java/util/Arrays$LegacyMergeSort"), (1, u "Z"), (257, .class_ 376), (0, u "java/util/Arrays$ArrayList"), (68, u "$assertionsDisabled"), (269, u "MIN_ARRAY_SORT_GRAN"), (0, u "I"), (2, u "INSERTIONSORT_THRESHOLD"), (120, u "fill"), (4, u "([II)V"), (4, u "([BB)V"), (124, .class_ 976), (0, u "java/util/Arrays$ArrayItr")] 52

def k3m0 : Method := { name := "<init>", desc := "()V", sig := { parameters := [], returnType := none }, accessFlags := 2, code := none }
def k3c1 : Code := { maxStack := 3, maxLocals := 4, code := jdk_65_method_103_code, exceptionTable := #[], attributes := #[] }
def k3m1 : Method := { name := "fill", desc := "([II)V", sig := { parameters := [(.array .int), .int], returnType := none }, accessFlags := 9, code := some k3c1 }
def k3c2 : Code := { maxStack := 3, maxLocals := 4, code := jdk_65_method_109_code, exceptionTable := #[], attributes := #[] }
def k3m2 : Method := { name := "fill", desc := "([BB)V", sig := { parameters := [(.array .byte), .byte], returnType := none }, accessFlags := 9, code := some k3c2 }
/-- java/util/Arrays -/
def k3 : Class := { plain "java/util/Arrays" (some 0) with
  accessFlags := 49
  interfaces := #[]
  cf := some (fileOf pool3 14 #[.nestMembers #[975, 375, 113, 74]] #[{ accessFlags := 2, nameIndex := 5, descriptorIndex := 6, attributes := #[] }, { accessFlags := 9, nameIndex := 840, descriptorIndex := 845, attributes := #[] }, { accessFlags := 9, nameIndex := 840, descriptorIndex := 850, attributes := #[] }] 49 2 #[] #[{ accessFlags := 26, nameIndex := 715, descriptorIndex := 716, attributes := #[] }, { accessFlags := 26, nameIndex := 719, descriptorIndex := 716, attributes := #[] }, { accessFlags := 4120, nameIndex := 445, descriptorIndex := 117, attributes := #[] }])
  fields := #[{ name := "MIN_ARRAY_SORT_GRAN", type := .int, accessFlags := 26, slot := 0, constantValue := 0 }, { name := "INSERTIONSORT_THRESHOLD", type := .int, accessFlags := 26, slot := 1, constantValue := 0 }, { name := "$assertionsDisabled", type := .boolean, accessFlags := 4120, slot := 2, constantValue := 0 }]
  methods := #[k3m0, k3m1, k3m2]
  instanceTypes := #[]
  staticTypes := #[.int, .int, .boolean]
  resolved := Array.replicate 1029 none
  statics := none }

def pool4 : Array CpInfo := pool [(1, u "java/lang/Cloneable"), (0, .class_ 1), (0, u "java/lang/Object"), (0, .class_ 3)] 3

/-- java/lang/Cloneable -/
def k4 : Class := { plain "java/lang/Cloneable" (some 0) with
  accessFlags := 1537
  interfaces := #[]
  cf := some (fileOf pool4 2 #[] #[] 1537 4 #[] #[])
  fields := #[]
  methods := #[]
  instanceTypes := #[]
  staticTypes := #[]
  resolved := Array.replicate 8 none
  statics := none }

def pool5 : Array CpInfo := pool [(1, u "java/io/Serializable"), (0, .class_ 1), (0, u "java/lang/Object"), (0, .class_ 3)] 3

/-- java/io/Serializable -/
def k5 : Class := { plain "java/io/Serializable" (some 0) with
  accessFlags := 1537
  interfaces := #[]
  cf := some (fileOf pool5 2 #[] #[] 1537 4 #[] #[])
  fields := #[]
  methods := #[]
  instanceTypes := #[]
  staticTypes := #[]
  resolved := Array.replicate 8 none
  statics := none }

/-- the primitive boolean -/
def k6 : Class := { plain "boolean" none with kind := .primitive 'Z', accessFlags := 0x411 }
/-- [Z -/
def k7 : Class := { plain "[Z" (some 0) with kind := .array 6 .boolean, interfaces := #[4, 5], accessFlags := 1041 }

/-- the primitive byte -/
def k8 : Class := { plain "byte" none with kind := .primitive 'B', accessFlags := 0x411 }
/-- [B -/
def k9 : Class := { plain "[B" (some 0) with kind := .array 8 .byte, interfaces := #[4, 5], accessFlags := 1041 }

/-- the primitive int -/
def k10 : Class := { plain "int" none with kind := .primitive 'I', accessFlags := 0x411 }
/-- [I -/
def k11 : Class := { plain "[I" (some 0) with kind := .array 10 .int, interfaces := #[4, 5], accessFlags := 1041 }

def heap : Heap := #[]
def classes : Array Class := #[k0, k1, k2, k3, k4, k5, k6, k7, k8, k9, k10, k11]
def interned : List (Array UInt16 × Addr) := []
def slotsUsed : Nat := 0
def theMethod : MethodId := ⟨1, 1⟩
def args0 : Array Value := #[.int 5, .int 6, .int 3, .int 1, .int 2]
def aboutOver (below : List Frame) : State where
  vm := { classes := classes, interned := interned.toArray }
  heap := heap
  slotsUsed := slotsUsed
  threads := #[{ frames := .invoking theMethod args0 :: below }]
def below0 : List Frame := [.native { method := ⟨0, 0⟩, args := #[] }]
def about1 : State := aboutOver below0
def p0 : Program := .bare "" "" ""
def e0 : Env := launch0.env 0 0 0
theorem w_frames : about1.frames = Frame.invoking theMethod args0 :: below0 := rfl
set_option maxRecDepth 65536 in
theorem w_args : argsFit about1.vm theMethod args0 = true := by decide +kernel
set_option maxRecDepth 65536 in
theorem w_heap : heapFits about1 = true := by decide +kernel
set_option maxRecDepth 65536 in
theorem w_runnable : about1.curStatus? = some .runnable := by decide +kernel
set_option maxRecDepth 65536 in
theorem w_alone : about1.alone = true := by decide +kernel
set_option maxRecDepth 65536 in
theorem w_named : about1.methodNamed? x = some theMethod := by decide +kernel
set_option maxRecDepth 65536 in
theorem w_hears : about1.hears theMethod below0 = true := by decide +kernel
set_option maxRecDepth 65536 in
theorem w_ripe : about1.ripe theMethod args0 below0 = true := by decide +kernel
theorem w_running : about1.status = .running := rfl
set_option maxRecDepth 65536 in
theorem w_room : about1.hasRoom e0.platform room_1 = true :=
  launch0.hasRoom_least _ room_1 (by decide +kernel) (by decide +kernel) (by decide +kernel) (by decide +kernel) (by decide +kernel) (by decide +kernel)
theorem allAtoms_all (ts : List Jvm.Cond) (a : Array Jvm.Value) (st : Jvm.State) : (allAtoms ts).before a st = ts.all (fun c => c.before a st) := by
  induction ts with
  | nil => rfl
  | cons c t ih =>
    show (Jvm.Cond.and c (allAtoms t)).before a st = _
    rw [Jvm.Cond.before_and, ih, List.all_cons]
def words1 : List Jvm.Cond := Jvm.Cond.code x code maxLocals ret :: tables_1
/-- a 'code' word, met by the world's own term for the bytes: nothing is compared byte by byte -/
theorem code_word {y : MethodName} {bytes : ByteArray} {mx : Nat} {rt : Option FieldType} {a : Array Value} {s : State} {m : MethodId} {meth : Method} {c : Code} (h1 : s.methodNamed? y = some m) (h2 : s.vm.method? m = some meth) (h3 : meth.code = some c) (h4 : c.code = bytes)
    (h5 : (c.maxLocals == mx && c.exceptionTable.isEmpty && decide (c.maxStack ≤ mostOperands) && decide (meth.sig.returnType = rt) && !meth.locks && decide (parseMethodDescriptor y.desc = some meth.sig)) = true) : (Jvm.Cond.code y bytes mx rt).before a s = true := by
  simp only [Bool.and_eq_true, beq_iff_eq, Bool.not_eq_true', decide_eq_true_eq] at h5
  obtain ⟨⟨⟨⟨⟨g1, g2⟩, g3⟩, g4⟩, g5⟩, g6⟩ := h5
  simp [Cond.before, Cond.holds, Cond.value, h1, h2, h3, h4, g1, g2, g3, g4, g5, g6]
def isCode : Jvm.Cond → Bool
  | .code _ _ _ _ => true
  | _ => false
theorem all_split {L : List Jvm.Cond} {P : Jvm.Cond → Bool} (h1 : L.all (fun c => isCode c || P c) = true) (h2 : ∀ c ∈ L.filter isCode, P c = true) : L.all P = true := by
  refine List.all_eq_true.mpr fun c hc => ?_
  have h := List.all_eq_true.mp h1 c hc
  rcases Bool.eq_false_or_eq_true (isCode c) with hi | hi
  · exact h2 c (List.mem_filter.mpr ⟨hc, hi⟩)
  · simpa [hi] using h
set_option maxRecDepth 65536 in
theorem w_c0 : (Jvm.Cond.code x code maxLocals ret).before args0 about1 = true := code_word (m := ⟨1, 1⟩) (meth := k1m1) (c := k1c1) (by decide +kernel) rfl rfl rfl (by decide +kernel)
set_option maxRecDepth 65536 in
theorem w_c1 : (Jvm.Cond.code ({ cls := "com/example/tierstone/tierstone/PageLists", name := "<init>", desc := "(II)V" } : Jvm.MethodName) prog_64_method_1_code (3 : Nat) (Option.none : Option Jvm.ClassFile.FieldType)).before args0 about1 = true := code_word (m := ⟨2, 0⟩) (meth := k2m0) (c := k2c0) (by decide +kernel) rfl rfl rfl (by decide +kernel)
set_option maxRecDepth 65536 in
theorem w_c2 : (Jvm.Cond.code ({ cls := "java/lang/Object", name := "<init>", desc := "()V" } : Jvm.MethodName) object_method_1_code (1 : Nat) (Option.none : Option Jvm.ClassFile.FieldType)).before args0 about1 = true := code_word (m := ⟨0, 0⟩) (meth := k0m0) (c := k0c0) (by decide +kernel) rfl rfl rfl (by decide +kernel)
set_option maxRecDepth 65536 in
theorem w_c3 : (Jvm.Cond.code ({ cls := "java/util/Arrays", name := "fill", desc := "([BB)V" } : Jvm.MethodName) jdk_65_method_109_code (4 : Nat) (Option.none : Option Jvm.ClassFile.FieldType)).before args0 about1 = true := code_word (m := ⟨3, 2⟩) (meth := k3m2) (c := k3c2) (by decide +kernel) rfl rfl rfl (by decide +kernel)
set_option maxRecDepth 65536 in
theorem w_c4 : (Jvm.Cond.code ({ cls := "java/util/Arrays", name := "fill", desc := "([II)V" } : Jvm.MethodName) jdk_65_method_103_code (4 : Nat) (Option.none : Option Jvm.ClassFile.FieldType)).before args0 about1 = true := code_word (m := ⟨3, 1⟩) (meth := k3m1) (c := k3c1) (by decide +kernel) rfl rfl rfl (by decide +kernel)
set_option maxRecDepth 65536 in
theorem w_c5 : (Jvm.Cond.code ({ cls := "com/example/tierstone/tierstone/PageLists", name := "append", desc := "(II)V" } : Jvm.MethodName) prog_64_method_7_code (3 : Nat) (Option.none : Option Jvm.ClassFile.FieldType)).before args0 about1 = true := code_word (m := ⟨2, 5⟩) (meth := k2m5) (c := k2c5) (by decide +kernel) rfl rfl rfl (by decide +kernel)
set_option maxRecDepth 65536 in
theorem w_c6 : (Jvm.Cond.code ({ cls := "com/example/tierstone/tierstone/PageLists", name := "remove", desc := "(I)V" } : Jvm.MethodName) prog_64_method_9_code (5 : Nat) (Option.none : Option Jvm.ClassFile.FieldType)).before args0 about1 = true := code_word (m := ⟨2, 6⟩) (meth := k2m6) (c := k2c6) (by decide +kernel) rfl rfl rfl (by decide +kernel)
set_option maxRecDepth 65536 in
theorem w_c7 : (Jvm.Cond.code ({ cls := "com/example/tierstone/tierstone/PageLists", name := "listOf", desc := "(I)I" } : Jvm.MethodName) prog_64_method_2_code (2 : Nat) (Option.some Jvm.ClassFile.FieldType.int)).before args0 about1 = true := code_word (m := ⟨2, 1⟩) (meth := k2m1) (c := k2c1) (by decide +kernel) rfl rfl rfl (by decide +kernel)
set_option maxRecDepth 65536 in
theorem w_c8 : (Jvm.Cond.code ({ cls := "com/example/tierstone/tierstone/PageLists", name := "length", desc := "(I)I" } : Jvm.MethodName) prog_64_method_3_code (2 : Nat) (Option.some Jvm.ClassFile.FieldType.int)).before args0 about1 = true := code_word (m := ⟨2, 2⟩) (meth := k2m2) (c := k2c2) (by decide +kernel) rfl rfl rfl (by decide +kernel)
set_option maxRecDepth 65536 in
theorem w_c9 : (Jvm.Cond.code ({ cls := "com/example/tierstone/tierstone/PageLists", name := "oldest", desc := "(I)I" } : Jvm.MethodName) prog_64_method_4_code (2 : Nat) (Option.some Jvm.ClassFile.FieldType.int)).before args0 about1 = true := code_word (m := ⟨2, 3⟩) (meth := k2m3) (c := k2c3) (by decide +kernel) rfl rfl rfl (by decide +kernel)
set_option maxRecDepth 65536 in
theorem w_c10 : (Jvm.Cond.code ({ cls := "com/example/tierstone/tierstone/PageLists", name := "newer", desc := "(I)I" } : Jvm.MethodName) prog_64_method_5_code (2 : Nat) (Option.some Jvm.ClassFile.FieldType.int)).before args0 about1 = true := code_word (m := ⟨2, 4⟩) (meth := k2m4) (c := k2c4) (by decide +kernel) rfl rfl rfl (by decide +kernel)
def codes1 : List Jvm.Cond := [Jvm.Cond.code x code maxLocals ret, Jvm.Cond.code ({ cls := "com/example/tierstone/tierstone/PageLists", name := "<init>", desc := "(II)V" } : Jvm.MethodName) prog_64_method_1_code (3 : Nat) (Option.none : Option Jvm.ClassFile.FieldType), Jvm.Cond.code ({ cls := "java/lang/Object", name := "<init>", desc := "()V" } : Jvm.MethodName) object_method_1_code (1 : Nat) (Option.none : Option Jvm.ClassFile.FieldType), Jvm.Cond.code ({ cls := "java/util/Arrays", name := "fill", desc := "([BB)V" } : Jvm.MethodName) jdk_65_method_109_code (4 : Nat) (Option.none : Option Jvm.ClassFile.FieldType), Jvm.Cond.code ({ cls := "java/util/Arrays", name := "fill", desc := "([II)V" } : Jvm.MethodName) jdk_65_method_103_code (4 : Nat) (Option.none : Option Jvm.ClassFile.FieldType), Jvm.Cond.code ({ cls := "com/example/tierstone/tierstone/PageLists", name := "append", desc := "(II)V" } : Jvm.MethodName) prog_64_method_7_code (3 : Nat) (Option.none : Option Jvm.ClassFile.FieldType), Jvm.Cond.code ({ cls := "com/example/tierstone/tierstone/PageLists", name := "remove", desc := "(I)V" } : Jvm.MethodName) prog_64_method_9_code (5 : Nat) (Option.none : Option Jvm.ClassFile.FieldType), Jvm.Cond.code ({ cls := "com/example/tierstone/tierstone/PageLists", name := "listOf", desc := "(I)I" } : Jvm.MethodName) prog_64_method_2_code (2 : Nat) (Option.some Jvm.ClassFile.FieldType.int), Jvm.Cond.code ({ cls := "com/example/tierstone/tierstone/PageLists", name := "length", desc := "(I)I" } : Jvm.MethodName) prog_64_method_3_code (2 : Nat) (Option.some Jvm.ClassFile.FieldType.int), Jvm.Cond.code ({ cls := "com/example/tierstone/tierstone/PageLists", name := "oldest", desc := "(I)I" } : Jvm.MethodName) prog_64_method_4_code (2 : Nat) (Option.some Jvm.ClassFile.FieldType.int), Jvm.Cond.code ({ cls := "com/example/tierstone/tierstone/PageLists", name := "newer", desc := "(I)I" } : Jvm.MethodName) prog_64_method_5_code (2 : Nat) (Option.some Jvm.ClassFile.FieldType.int)]
set_option maxRecDepth 65536 in
theorem codes_eq : words1.filter isCode = codes1 := rfl
theorem w_codes : ∀ c ∈ words1.filter isCode, c.before args0 about1 = true := by
  rw [codes_eq]
  intro c hc
  simp only [codes1, List.mem_cons, List.not_mem_nil, or_false] at hc
  rcases hc with rfl | rfl | rfl | rfl | rfl | rfl | rfl | rfl | rfl | rfl | rfl
  · exact w_c0
  · exact w_c1
  · exact w_c2
  · exact w_c3
  · exact w_c4
  · exact w_c5
  · exact w_c6
  · exact w_c7
  · exact w_c8
  · exact w_c9
  · exact w_c10
set_option maxRecDepth 65536 in
theorem w_t1 : (words1.take 24).all (fun c => isCode c || c.before args0 about1) = true := by decide +kernel
set_option maxRecDepth 65536 in
theorem w_t2 : ((words1.drop 24).take 24).all (fun c => isCode c || c.before args0 about1) = true := by decide +kernel
set_option maxRecDepth 65536 in
theorem w_t3 : ((words1.drop 24).drop 24).all (fun c => isCode c || c.before args0 about1) = true := by decide +kernel
theorem w_tables : (allAtoms (Jvm.Cond.code x code maxLocals ret :: tables_1)).before args0 about1 = true := by
  rw [allAtoms_all]
  show words1.all (fun c => c.before args0 about1) = true
  refine all_split ?_ w_codes
  rw [← List.take_append_drop 24 words1, List.all_append, w_t1, ← List.take_append_drop 24 (words1.drop 24), List.all_append, w_t2, w_t3]
  rfl
set_option maxRecDepth 65536 in
theorem w_case : (Jvm.Cond.and given_1 narrow_1).before args0 about1 = true := by decide +kernel
theorem w_applies : (headSpec (Jvm.Cond.code x code maxLocals ret :: tables_1) room_1).applies x e0.platform about1 = true :=
  (Spec.applies_iff w_frames).mpr ⟨w_running, w_runnable, w_alone, w_named, w_hears, w_ripe, w_room, w_tables⟩
theorem atStart : AtStart classFile x code maxLocals ret World_1 tables_1 room_1 Calls_1 rest_1 Pre_1 launch0 p0 e0 about1 theMethod args0 below0 :=
  ⟨lists_1, trivial, launch0.admits_env _ _ _, launch0.least_env, fairChoices_fair.cas, fairChoices_fair.clock, w_frames, w_args, w_heap, w_applies, trivial, trivial, w_case⟩
end start1
theorem witness_1 : WitnessClaimed_1 := ⟨start1.p0, start1.e0, start1.about1, start1.theMethod, start1.args0, start1.below0, start1.atStart⟩
end Jvm.Pilot.@@N@@
