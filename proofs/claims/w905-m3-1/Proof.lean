import JvmDerived
import JvmDerived.Pilot.@@N@@Statement
import JvmDerived.Pilot.@@N@@Code
set_option linter.unusedVariables false
set_option linter.unusedSimpArgs false
namespace Jvm.Pilot.@@N@@
open Jvm Jvm.ClassFile Sem Op Lib Jvm.Free Jvm.Stand Jvm.LawKit Jvm.RoadKit Bundle Jvm.Pilot.@@N@@.Jvm.D
set_option maxRecDepth 4000
section OwnKit
/-- the goal of a walk: from S the run comes to a return that Q allows, and nothing old is touched -/
def own_Gl (p : Program) (e : Env) (below : List Frame) (s : State) (Q : Option Value → Heap → List Loc → Prop) (kc ks : Nat) (S : State) : Prop :=
  ∃ s₂ o, Steps p.tables e below S s₂ ∧ s₂.status = .running ∧ Ended s₂ below o ∧ ∃ v L, o = .returned v ∧ Q v s₂.heap L ∧ FrameEnd s o s₂ L kc ks
variable {p : Program} {l : Launch} {e : Env} {R : Room} {s : State} {m : MethodId} {args : Array Value} {below : List Frame} {meth : Method} {c : Code} {T : State} {locs : List Loc} {cells slots : Nat} {Z : State} {a0 : Array Value} {h : Heap} {Q : Option Value → Heap → List Loc → Prop} {kc ks : Nat} {pc pc' : Nat} {L L' : Array Slot} {S : List Value}
theorem own_Gl.go {S S' : State} (h : own_Gl p e below s Q kc ks S') (st : ∀ t, Steps p.tables e below S' t → Steps p.tables e below S t) : own_Gl p e below s Q kc ks S := by
  obtain ⟨s₂, o, h1, h2⟩ := h
  exact ⟨s₂, o, st _ h1, h2⟩
/-- what a method leaves that writes nothing and makes nothing -/
def own_Pure (w : Option Value) (h0 : Heap) (v : Option Value) (h : Heap) (L : List Loc) : Prop := v = w ∧ L = [] ∧ h = h0
theorem own_body {l : Launch} {Z : State} {y : MethodName} {bytes : ByteArray} {maxL : Nat} {ret : Option FieldType} {ws : List Jvm.Cond} {rm : Room} {as' : Array Value} {h0 : Heap} {Q : Option Value → Heap → List Loc → Prop} {L0 : Array Slot} {own : String}
    (hpl : plainName y.cls = true) (hyc : y.cls = own) (hef : ∀ m, entryFrame m as' maxL = mkF m 0 L0 [])
    (body : ∀ p e s m below meth c T, p.tables.exec = Jvm.exec → c.code = bytes → c.maxLocals = maxL → s.vm.findClass own = some m.cls → meth.name = y.name → meth.locks = false → meth.sig.returnType = ret → Z.Warmed39 s.vm → Stand p l e rm s m as' below meth c T [] 0 0 → T.heap = h0 →
      own_Gl p e below s Q rm.cells rm.slots (T.setTop (mkF m 0 L0 []))) :
    MetFree l y (head1 (Jvm.Cond.code y bytes maxL ret :: ws) rm) (fun a U => a = as' ∧ Z.Warmed39 U.vm ∧ U.heap = h0) (fun _ _ _ _ _ => True) (fun _ U o U' => ∃ v L, o = .returned v ∧ Q v U'.heap L ∧ FrameEnd U o U' L rm.cells rm.slots) := by
  refine MetFree.of_bodySF (plainFor_of_name hpl) hisR ?_
  intro p e s m args below meth c s₁ Bd hml0 hP hK
  obtain ⟨rfl, hZ, hh⟩ := hP
  have hown : s.vm.findClass y.cls = some m.cls := findClass_of_methodNamed Bd.named
  have hnm := (name_of_methodNamed Bd.named Bd.method).1
  have X0 : Stand p l e rm s m _ below meth c s₁ [] 0 0 := Stand.of_body Bd
  have e0 : s₁.heap = h0 := by rw [← hh, Bd.state]; rfl
  obtain ⟨s₂, o, h1, h2⟩ := body p e s m below meth c s₁ Bd.exec Bd.bytes hml0 (hyc ▸ hown) hnm Bd.notSynchronized Bd.returns hZ X0 e0
  exact ⟨s₂, o, castTop (hef m) h1, h2⟩
theorem own_ret (X : Stand p l e R s m args below meth c T locs cells slots) (hlk : meth.locks = false) {v : Option Value} (hv : meth.sig.returnType = none → v = none) (hQ : Q v T.heap locs) (hc : cells ≤ kc) (hs : slots ≤ ks) {S : State}
    (st : ∀ fs, (∀ (f : JFrame) (acts : List Action), f.method = m → f.locked = none → f.entered = [] → (doReturn e (T.setTop f) acts v).1 = T.setFrames fs) → Steps p.tables e below S (T.setFrames fs)) : own_Gl p e below s Q kc ks S := by
  obtain ⟨fs, hr, hrun, hended, hW, hsame⟩ := X.leave (v := v) hv hlk
  exact ⟨_, _, st fs hr, hrun, hended, v, locs, rfl, hQ, ⟨_, rfl⟩, hW, hsame.mono hc hs⟩
theorem g_retI (X : Stand p l e R s m args below meth c T locs cells slots) (hx : p.tables.exec = Jvm.exec) (hlk : meth.locks = false) {z : Int32} (hret : meth.sig.returnType = some .int) (hd : decode c.code pc = .ok (.ireturn, 1)) (hc : cells ≤ kc) (hs : slots ≤ ks) (hQ : Q (some (.int z)) T.heap locs) :
    own_Gl p e below s Q kc ks (T.setTop (mkF m pc L (.int z :: S))) :=
  own_ret X hlk (fun h => by rw [hret] at h; cases h) hQ hc hs fun fs hr => retOut X hx hret rfl (Or.inl ⟨rfl, Or.inl rfl, z, rfl⟩) hd hr
theorem g_retN (X : Stand p l e R s m args below meth c T locs cells slots) (hx : p.tables.exec = Jvm.exec) (hlk : meth.locks = false) {z z' : Int32} {t : FieldType} (hret : meth.sig.returnType = some t) (ht : t = .boolean ∨ t = .byte ∨ t = .char ∨ t = .short) (hz : nar t z = z') (hd : decode c.code pc = .ok (.ireturn, 1)) (hc : cells ≤ kc) (hs : slots ≤ ks) (hQ : Q (some (.int z')) T.heap locs) :
    own_Gl p e below s Q kc ks (T.setTop (mkF m pc L (.int z :: S))) := by
  subst hz
  exact own_ret X hlk (fun h => by rw [hret] at h; cases h) hQ hc hs fun fs hr => retN X hx hret ht hd hr
theorem g_retL (X : Stand p l e R s m args below meth c T locs cells slots) (hx : p.tables.exec = Jvm.exec) (hlk : meth.locks = false) {z : Int64} (hret : meth.sig.returnType = some .long) (hd : decode c.code pc = .ok (.lreturn, 1)) (hc : cells ≤ kc) (hs : slots ≤ ks) (hQ : Q (some (.long z)) T.heap locs) :
    own_Gl p e below s Q kc ks (T.setTop (mkF m pc L (.long z :: S))) :=
  own_ret X hlk (fun h => by rw [hret] at h; cases h) hQ hc hs fun fs hr => retOut X hx hret rfl (Or.inr (Or.inl ⟨rfl, rfl, z, rfl⟩)) hd hr
theorem g_retV (X : Stand p l e R s m args below meth c T locs cells slots) (hx : p.tables.exec = Jvm.exec) (hlk : meth.locks = false) (hret : meth.sig.returnType = none) (hd : decode c.code pc = .ok (.return_, 1)) (hc : cells ≤ kc) (hs : slots ≤ ks) (hQ : Q none T.heap locs) :
    own_Gl p e below s Q kc ks (T.setTop (mkF m pc L [])) :=
  own_ret X hlk (fun _ => rfl) hQ hc hs fun fs hr => X.returnOut hx hret hd hr
/-- a static call by the callee's contract -/
theorem g_callS (X : Stand p l e R s m args below meth c T locs cells slots) (hx : p.tables.exec = Jvm.exec) (hZ : Z.Warmed39 s.vm) {own : String} {index : Nat} {y : MethodName} {bytes : ByteArray} {maxL : Nat} {ret : Option FieldType} (hown : s.vm.findClass own = some m.cls)
    (w1 : (Jvm.Cond.methodLink own index y).before a0 Z = true) (w2 : (Jvm.Cond.static y).before a0 Z = true) (w3 : (Jvm.Cond.initialized y.cls).before a0 Z = true) (w4 : (Jvm.Cond.code y bytes maxL ret).before a0 Z = true) (hy : y.cls ≠ "java/lang/invoke/MethodHandle" ∧ y.cls ≠ "java/lang/invoke/VarHandle")
    {rm : Room} {as' : Array Value} {Qc : Option Value → Heap → List Loc → Prop}
    (hM : MetFree l y (head1 [Jvm.Cond.code y bytes maxL ret] rm) (fun a U => a = as' ∧ Z.Warmed39 U.vm ∧ U.heap = h) (fun _ _ _ _ _ => True) (fun _ U o U' => ∃ v L, o = .returned v ∧ Qc v U'.heap L ∧ FrameEnd U o U' L rm.cells rm.slots))
    (W : Nat) (hf : rm.frames + 1 ≤ R.frames) (hl : W + (maxL + 11) + rm.locals ≤ R.locals) (eT : T.heap = h) (hsize : L.size = c.maxLocals) (argsL rest : List Value) (hlen : ∀ sig, parseMethodDescriptor y.desc = some sig → argsL.length = sig.parameters.length)
    (hst : S = argsL.reverse ++ rest) (has : argsL.toArray = as') (hW : (rest.map fun v => v.category).sum ≤ W) (hd : decode c.code pc = .ok (.invokestatic index, 3)) (hp : pc + 3 = pc') {cells' slots' : Nat} (hcc : cells + rm.cells = cells') (hss : slots + rm.slots = slots') (hcl : cells' ≤ R.cells) (hsl : slots' ≤ R.slots)
    (k : ∀ (v : Option Value) (T' : State) (L' : List Loc), Stand p l e R s m args below meth c T' (locs ++ L') cells' slots' → Qc v T'.heap L' → own_Gl p e below s Q kc ks (T'.setTop (mkF m pc' L (v.toList ++ rest)))) :
    own_Gl p e below s Q kc ks (T.setTop (mkF m pc L S)) := by
  subst hp hst hcc hss
  obtain ⟨v, _, ⟨T', L', k', n'⟩, -, X', ⟨Lc, hQ, l', y', z'⟩, st⟩ := Jvm.LawKit.callS X hx (y := y) hown (mvT hZ w1) (mvT hZ w2) (mvT hZ w3) (mvT hZ w4) hy (backOf (W := W) hM hZ w4 w3 hf hl) (g := mkF m pc L (argsL.reverse ++ rest)) rfl hsize (argsL := argsL) (rest := rest) hlen rfl (by show 2 * 0 + _ ≤ _; omega) hd (fun _ _ => ⟨has, eT, hcl, hsl⟩)
  dsimp only [Pt.U, Pt.locs, Pt.cells, Pt.slots] at X' l' y' z' st hQ
  subst l' y' z'
  exact (k v T' Lc X' hQ).go st
/-- the same of a method that writes nothing -/
theorem g_callP (X : Stand p l e R s m args below meth c T locs cells slots) (hx : p.tables.exec = Jvm.exec) (hZ : Z.Warmed39 s.vm) {own : String} {index : Nat} {y : MethodName} {bytes : ByteArray} {maxL : Nat} {ret : Option FieldType} (hown : s.vm.findClass own = some m.cls)
    (w1 : (Jvm.Cond.methodLink own index y).before a0 Z = true) (w2 : (Jvm.Cond.static y).before a0 Z = true) (w3 : (Jvm.Cond.initialized y.cls).before a0 Z = true) (w4 : (Jvm.Cond.code y bytes maxL ret).before a0 Z = true) (hy : y.cls ≠ "java/lang/invoke/MethodHandle" ∧ y.cls ≠ "java/lang/invoke/VarHandle")
    {fr lo : Nat} {as' : Array Value} {w : Option Value}
    (hM : MetFree l y (head1 [Jvm.Cond.code y bytes maxL ret] ({ frames := fr, cells := 0, slots := 0, locals := lo } : Room)) (fun a U => a = as' ∧ Z.Warmed39 U.vm ∧ U.heap = h) (fun _ _ _ _ _ => True) (fun _ U o U' => ∃ v L, o = .returned v ∧ own_Pure w h v U'.heap L ∧ FrameEnd U o U' L ({ frames := fr, cells := 0, slots := 0, locals := lo } : Room).cells ({ frames := fr, cells := 0, slots := 0, locals := lo } : Room).slots))
    (W : Nat) (hf : fr + 1 ≤ R.frames) (hl : W + (maxL + 11) + lo ≤ R.locals) (eT : T.heap = h) (hsize : L.size = c.maxLocals) (argsL rest : List Value) (hlen : ∀ sig, parseMethodDescriptor y.desc = some sig → argsL.length = sig.parameters.length)
    (hst : S = argsL.reverse ++ rest) (has : argsL.toArray = as') (hW : (rest.map fun v => v.category).sum ≤ W) (hd : decode c.code pc = .ok (.invokestatic index, 3)) (hp : pc + 3 = pc') (hcl : cells ≤ R.cells) (hsl : slots ≤ R.slots)
    (k : ∀ (T' : State), Stand p l e R s m args below meth c T' locs cells slots → T'.heap = h → own_Gl p e below s Q kc ks (T'.setTop (mkF m pc' L (w.toList ++ rest)))) :
    own_Gl p e below s Q kc ks (T.setTop (mkF m pc L S)) := by
  refine g_callS X hx hZ hown w1 w2 w3 w4 hy hM W hf hl eT hsize argsL rest hlen hst has hW hd hp (cells' := cells) (slots' := slots) rfl rfl hcl hsl ?_
  intro v T' L' X' hQ
  obtain ⟨rfl, rfl, e'⟩ := hQ
  rw [List.append_nil] at X'
  exact k T' X' e'
theorem own_tltL {x y : Int64} (h : x < y) : ifCond.holds .lt (lcmpW x y) = true ∧ ifCond.holds .ge (lcmpW x y) = false ∧ ifCond.holds .gt (lcmpW y x) = true ∧ ifCond.holds .le (lcmpW y x) = false := by
  have h1 := (lw_lt x y).mpr h
  have h2 := (lw_gt y x).mpr h
  rw [if0, if0, if0, if0]
  exact ⟨(tlt h1).1, (tlt h1).2.1, (tlt h2).2.2.1, (tlt h2).2.2.2⟩
theorem own_fltL {x y : Int64} (h : ¬ x < y) : ifCond.holds .lt (lcmpW x y) = false ∧ ifCond.holds .ge (lcmpW x y) = true ∧ ifCond.holds .gt (lcmpW y x) = false ∧ ifCond.holds .le (lcmpW y x) = true := by
  have h1 := fun q => h ((lw_lt x y).mp q)
  have h2 := fun q => h ((lw_gt y x).mp q)
  rw [if0, if0, if0, if0]
  exact ⟨(flt h1).1, (flt h1).2.1, (flt h2).2.2.1, (flt h2).2.2.2⟩
theorem own_teqL {x y : Int64} (h : x = y) : ifCond.holds .eq (lcmpW x y) = true ∧ ifCond.holds .ne (lcmpW x y) = false := by
  have h1 := (lw_eq x y).mpr h
  rw [if0, if0]
  exact ⟨(teq h1).1, (teq h1).2⟩
theorem own_feqL {x y : Int64} (h : ¬ x = y) : ifCond.holds .eq (lcmpW x y) = false ∧ ifCond.holds .ne (lcmpW x y) = true := by
  have h1 := fun q => h ((lw_eq x y).mp q)
  rw [if0, if0]
  exact ⟨(feq h1).1, (feq h1).2⟩
theorem g_iloadN (h : At T m c below) (hx : p.tables.exec = Jvm.exec) {j : Fin 4} {v : Int32} (hd : decode c.code pc = .ok (.iload_n j, 1)) (hp : pc + 1 = pc') (hl : L[j.val]? = some (.val (.int v))) (hr : own_Gl p e below s Q kc ks (T.setTop (mkF m pc' L (.int v :: S)))) : own_Gl p e below s Q kc ks (T.setTop (mkF m pc L S)) := by
  subst hp; exact hr.go fun t k => XS.iloadN h hx rfl hd hl k
theorem g_lloadN (h : At T m c below) (hx : p.tables.exec = Jvm.exec) {j : Fin 4} {v : Int64} (hd : decode c.code pc = .ok (.lload_n j, 1)) (hp : pc + 1 = pc') (hl : L[j.val]? = some (.val (.long v))) (hr : own_Gl p e below s Q kc ks (T.setTop (mkF m pc' L (.long v :: S)))) : own_Gl p e below s Q kc ks (T.setTop (mkF m pc L S)) := by
  subst hp; exact hr.go fun t k => XS.lloadN h hx rfl hd hl k
theorem g_aloadN (h : At T m c below) (hx : p.tables.exec = Jvm.exec) {j : Fin 4} {v : Value} (hd : decode c.code pc = .ok (.aload_n j, 1)) (hp : pc + 1 = pc') (hl : L[j.val]? = some (.val v)) (hv : v.isRef = true) (hr : own_Gl p e below s Q kc ks (T.setTop (mkF m pc' L (v :: S)))) : own_Gl p e below s Q kc ks (T.setTop (mkF m pc L S)) := by
  subst hp; exact hr.go fun t k => XS.aloadN h hx rfl hd hl hv k
theorem g_istoreN (h : At T m c below) (hx : p.tables.exec = Jvm.exec) {j : Fin 4} {v : Int32} (hd : decode c.code pc = .ok (.istore_n j, 1)) (hp : pc + 1 = pc') (hl : storeLocals L j.val (.int v) = some L') (hr : own_Gl p e below s Q kc ks (T.setTop (mkF m pc' L' S))) : own_Gl p e below s Q kc ks (T.setTop (mkF m pc L (.int v :: S))) := by
  subst hp; exact hr.go fun t k => XS.istoreN h hx rfl hd rfl hl k
theorem g_lstoreN (h : At T m c below) (hx : p.tables.exec = Jvm.exec) {j : Fin 4} {v : Int64} (hd : decode c.code pc = .ok (.lstore_n j, 1)) (hp : pc + 1 = pc') (hl : storeLocals L j.val (.long v) = some L') (hr : own_Gl p e below s Q kc ks (T.setTop (mkF m pc' L' S))) : own_Gl p e below s Q kc ks (T.setTop (mkF m pc L (.long v :: S))) := by
  subst hp; exact hr.go fun t k => XS.lstoreN h hx rfl hd rfl hl k
theorem g_astoreN (h : At T m c below) (hx : p.tables.exec = Jvm.exec) {j : Fin 4} {v : Value} (hd : decode c.code pc = .ok (.astore_n j, 1)) (hp : pc + 1 = pc') (hv : v.isRef = true) (hl : storeLocals L j.val v = some L') (hr : own_Gl p e below s Q kc ks (T.setTop (mkF m pc' L' S))) : own_Gl p e below s Q kc ks (T.setTop (mkF m pc L (v :: S))) := by
  subst hp; exact hr.go fun t k => XS.astoreN h hx rfl hd rfl hv hl k
theorem g_iload (h : At T m c below) (hx : p.tables.exec = Jvm.exec) {j : Nat} {v : Int32} (hd : decode c.code pc = .ok (.iload j, 2)) (hp : pc + 2 = pc') (hl : L[j]? = some (.val (.int v))) (hr : own_Gl p e below s Q kc ks (T.setTop (mkF m pc' L (.int v :: S)))) : own_Gl p e below s Q kc ks (T.setTop (mkF m pc L S)) := by
  subst hp; exact hr.go fun t k => XS.iload h hx rfl hd hl k
theorem g_lload (h : At T m c below) (hx : p.tables.exec = Jvm.exec) {j : Nat} {v : Int64} (hd : decode c.code pc = .ok (.lload j, 2)) (hp : pc + 2 = pc') (hl : L[j]? = some (.val (.long v))) (hr : own_Gl p e below s Q kc ks (T.setTop (mkF m pc' L (.long v :: S)))) : own_Gl p e below s Q kc ks (T.setTop (mkF m pc L S)) := by
  subst hp; exact hr.go fun t k => XS.lload h hx rfl hd hl k
theorem g_aload (h : At T m c below) (hx : p.tables.exec = Jvm.exec) {j : Nat} {v : Value} (hd : decode c.code pc = .ok (.aload j, 2)) (hp : pc + 2 = pc') (hl : L[j]? = some (.val v)) (hv : v.isRef = true) (hr : own_Gl p e below s Q kc ks (T.setTop (mkF m pc' L (v :: S)))) : own_Gl p e below s Q kc ks (T.setTop (mkF m pc L S)) := by
  subst hp; exact hr.go fun t k => XS.aload h hx rfl hd hl hv k
theorem g_istore (h : At T m c below) (hx : p.tables.exec = Jvm.exec) {j : Nat} {v : Int32} (hd : decode c.code pc = .ok (.istore j, 2)) (hp : pc + 2 = pc') (hl : storeLocals L j (.int v) = some L') (hr : own_Gl p e below s Q kc ks (T.setTop (mkF m pc' L' S))) : own_Gl p e below s Q kc ks (T.setTop (mkF m pc L (.int v :: S))) := by
  subst hp; exact hr.go fun t k => XS.istore h hx rfl hd rfl hl k
theorem g_lstore (h : At T m c below) (hx : p.tables.exec = Jvm.exec) {j : Nat} {v : Int64} (hd : decode c.code pc = .ok (.lstore j, 2)) (hp : pc + 2 = pc') (hl : storeLocals L j (.long v) = some L') (hr : own_Gl p e below s Q kc ks (T.setTop (mkF m pc' L' S))) : own_Gl p e below s Q kc ks (T.setTop (mkF m pc L (.long v :: S))) := by
  subst hp; exact hr.go fun t k => XS.lstore h hx rfl hd rfl hl k
theorem g_astore (h : At T m c below) (hx : p.tables.exec = Jvm.exec) {j : Nat} {v : Value} (hd : decode c.code pc = .ok (.astore j, 2)) (hp : pc + 2 = pc') (hv : v.isRef = true) (hl : storeLocals L j v = some L') (hr : own_Gl p e below s Q kc ks (T.setTop (mkF m pc' L' S))) : own_Gl p e below s Q kc ks (T.setTop (mkF m pc L (v :: S))) := by
  subst hp; exact hr.go fun t k => XS.astore h hx rfl hd rfl hv hl k
theorem g_iconst (h : At T m c below) (hx : p.tables.exec = Jvm.exec) {i : Int} {z : Int32} (hd : decode c.code pc = .ok (.iconst i, 1)) (hp : pc + 1 = pc') (hz : Int32.ofInt i = z) (hr : own_Gl p e below s Q kc ks (T.setTop (mkF m pc' L (.int z :: S)))) : own_Gl p e below s Q kc ks (T.setTop (mkF m pc L S)) := by
  subst hp hz; exact hr.go fun t k => XS.iconst h hx rfl hd k
theorem g_bipush (h : At T m c below) (hx : p.tables.exec = Jvm.exec) {i : Int} {z : Int32} (hd : decode c.code pc = .ok (.bipush i, 2)) (hp : pc + 2 = pc') (hz : (Int8.ofInt i).toInt32 = z) (hr : own_Gl p e below s Q kc ks (T.setTop (mkF m pc' L (.int z :: S)))) : own_Gl p e below s Q kc ks (T.setTop (mkF m pc L S)) := by
  subst hp hz; exact hr.go fun t k => XS.bipush h hx rfl hd k
theorem g_sipush (h : At T m c below) (hx : p.tables.exec = Jvm.exec) {i : Int} {z : Int32} (hd : decode c.code pc = .ok (.sipush i, 3)) (hp : pc + 3 = pc') (hz : (Int16.ofInt i).toInt32 = z) (hr : own_Gl p e below s Q kc ks (T.setTop (mkF m pc' L (.int z :: S)))) : own_Gl p e below s Q kc ks (T.setTop (mkF m pc L S)) := by
  subst hp hz; exact hr.go fun t k => XS.sipush h hx rfl hd k
theorem g_lconst (h : At T m c below) (hx : p.tables.exec = Jvm.exec) {i : Fin 2} {z : Int64} (hd : decode c.code pc = .ok (.lconst i, 1)) (hp : pc + 1 = pc') (hz : Int64.ofNat i = z) (hr : own_Gl p e below s Q kc ks (T.setTop (mkF m pc' L (.long z :: S)))) : own_Gl p e below s Q kc ks (T.setTop (mkF m pc L S)) := by
  subst hp hz; exact hr.go fun t k => XS.lconst h hx rfl hd k
theorem g_aconstNull (h : At T m c below) (hx : p.tables.exec = Jvm.exec)  (hd : decode c.code pc = .ok (.aconst_null, 1)) (hp : pc + 1 = pc')  (hr : own_Gl p e below s Q kc ks (T.setTop (mkF m pc' L (.null :: S)))) : own_Gl p e below s Q kc ks (T.setTop (mkF m pc L S)) := by
  subst hp; exact hr.go fun t k => XS.aconstNull h hx rfl hd k
theorem g_iadd (h : At T m c below) (hx : p.tables.exec = Jvm.exec) {u v : Int32} (hd : decode c.code pc = .ok (.iadd, 1)) (hp : pc + 1 = pc')  (hr : own_Gl p e below s Q kc ks (T.setTop (mkF m pc' L (.int (u + v) :: S)))) : own_Gl p e below s Q kc ks (T.setTop (mkF m pc L (.int v :: .int u :: S))) := by
  subst hp; exact hr.go fun t k => XS.iadd h hx rfl hd rfl k
theorem g_ladd (h : At T m c below) (hx : p.tables.exec = Jvm.exec) {u v : Int64} (hd : decode c.code pc = .ok (.ladd, 1)) (hp : pc + 1 = pc')  (hr : own_Gl p e below s Q kc ks (T.setTop (mkF m pc' L (.long (u + v) :: S)))) : own_Gl p e below s Q kc ks (T.setTop (mkF m pc L (.long v :: .long u :: S))) := by
  subst hp; exact hr.go fun t k => XS.ladd h hx rfl hd rfl k
theorem g_isub (h : At T m c below) (hx : p.tables.exec = Jvm.exec) {u v : Int32} (hd : decode c.code pc = .ok (.isub, 1)) (hp : pc + 1 = pc')  (hr : own_Gl p e below s Q kc ks (T.setTop (mkF m pc' L (.int (u - v) :: S)))) : own_Gl p e below s Q kc ks (T.setTop (mkF m pc L (.int v :: .int u :: S))) := by
  subst hp; exact hr.go fun t k => XS.isub h hx rfl hd rfl k
theorem g_lsub (h : At T m c below) (hx : p.tables.exec = Jvm.exec) {u v : Int64} (hd : decode c.code pc = .ok (.lsub, 1)) (hp : pc + 1 = pc')  (hr : own_Gl p e below s Q kc ks (T.setTop (mkF m pc' L (.long (u - v) :: S)))) : own_Gl p e below s Q kc ks (T.setTop (mkF m pc L (.long v :: .long u :: S))) := by
  subst hp; exact hr.go fun t k => XS.lsub h hx rfl hd rfl k
theorem g_imul (h : At T m c below) (hx : p.tables.exec = Jvm.exec) {u v : Int32} (hd : decode c.code pc = .ok (.imul, 1)) (hp : pc + 1 = pc')  (hr : own_Gl p e below s Q kc ks (T.setTop (mkF m pc' L (.int (u * v) :: S)))) : own_Gl p e below s Q kc ks (T.setTop (mkF m pc L (.int v :: .int u :: S))) := by
  subst hp; exact hr.go fun t k => XS.imul h hx rfl hd rfl k
theorem g_lmul (h : At T m c below) (hx : p.tables.exec = Jvm.exec) {u v : Int64} (hd : decode c.code pc = .ok (.lmul, 1)) (hp : pc + 1 = pc')  (hr : own_Gl p e below s Q kc ks (T.setTop (mkF m pc' L (.long (u * v) :: S)))) : own_Gl p e below s Q kc ks (T.setTop (mkF m pc L (.long v :: .long u :: S))) := by
  subst hp; exact hr.go fun t k => XS.lmul h hx rfl hd rfl k
theorem g_iand (h : At T m c below) (hx : p.tables.exec = Jvm.exec) {u v : Int32} (hd : decode c.code pc = .ok (.iand, 1)) (hp : pc + 1 = pc')  (hr : own_Gl p e below s Q kc ks (T.setTop (mkF m pc' L (.int (u &&& v) :: S)))) : own_Gl p e below s Q kc ks (T.setTop (mkF m pc L (.int v :: .int u :: S))) := by
  subst hp; exact hr.go fun t k => XS.iand h hx rfl hd rfl k
theorem g_land (h : At T m c below) (hx : p.tables.exec = Jvm.exec) {u v : Int64} (hd : decode c.code pc = .ok (.land, 1)) (hp : pc + 1 = pc')  (hr : own_Gl p e below s Q kc ks (T.setTop (mkF m pc' L (.long (u &&& v) :: S)))) : own_Gl p e below s Q kc ks (T.setTop (mkF m pc L (.long v :: .long u :: S))) := by
  subst hp; exact hr.go fun t k => XS.land h hx rfl hd rfl k
theorem g_ior (h : At T m c below) (hx : p.tables.exec = Jvm.exec) {u v : Int32} (hd : decode c.code pc = .ok (.ior, 1)) (hp : pc + 1 = pc')  (hr : own_Gl p e below s Q kc ks (T.setTop (mkF m pc' L (.int (u ||| v) :: S)))) : own_Gl p e below s Q kc ks (T.setTop (mkF m pc L (.int v :: .int u :: S))) := by
  subst hp; exact hr.go fun t k => XS.ior h hx rfl hd rfl k
theorem g_lor (h : At T m c below) (hx : p.tables.exec = Jvm.exec) {u v : Int64} (hd : decode c.code pc = .ok (.lor, 1)) (hp : pc + 1 = pc')  (hr : own_Gl p e below s Q kc ks (T.setTop (mkF m pc' L (.long (u ||| v) :: S)))) : own_Gl p e below s Q kc ks (T.setTop (mkF m pc L (.long v :: .long u :: S))) := by
  subst hp; exact hr.go fun t k => XS.lor h hx rfl hd rfl k
theorem g_ixor (h : At T m c below) (hx : p.tables.exec = Jvm.exec) {u v : Int32} (hd : decode c.code pc = .ok (.ixor, 1)) (hp : pc + 1 = pc')  (hr : own_Gl p e below s Q kc ks (T.setTop (mkF m pc' L (.int (u ^^^ v) :: S)))) : own_Gl p e below s Q kc ks (T.setTop (mkF m pc L (.int v :: .int u :: S))) := by
  subst hp; exact hr.go fun t k => XS.ixor h hx rfl hd rfl k
theorem g_lxor (h : At T m c below) (hx : p.tables.exec = Jvm.exec) {u v : Int64} (hd : decode c.code pc = .ok (.lxor, 1)) (hp : pc + 1 = pc')  (hr : own_Gl p e below s Q kc ks (T.setTop (mkF m pc' L (.long (u ^^^ v) :: S)))) : own_Gl p e below s Q kc ks (T.setTop (mkF m pc L (.long v :: .long u :: S))) := by
  subst hp; exact hr.go fun t k => XS.lxor h hx rfl hd rfl k
theorem g_ishl (h : At T m c below) (hx : p.tables.exec = Jvm.exec) {u v : Int32} (hd : decode c.code pc = .ok (.ishl, 1)) (hp : pc + 1 = pc')  (hr : own_Gl p e below s Q kc ks (T.setTop (mkF m pc' L (.int (u <<< (v &&& 31)) :: S)))) : own_Gl p e below s Q kc ks (T.setTop (mkF m pc L (.int v :: .int u :: S))) := by
  subst hp; exact hr.go fun t k => XS.ishl h hx rfl hd rfl k
theorem g_ishr (h : At T m c below) (hx : p.tables.exec = Jvm.exec) {u v : Int32} (hd : decode c.code pc = .ok (.ishr, 1)) (hp : pc + 1 = pc')  (hr : own_Gl p e below s Q kc ks (T.setTop (mkF m pc' L (.int (u >>> (v &&& 31)) :: S)))) : own_Gl p e below s Q kc ks (T.setTop (mkF m pc L (.int v :: .int u :: S))) := by
  subst hp; exact hr.go fun t k => XS.ishr h hx rfl hd rfl k
theorem g_iushr (h : At T m c below) (hx : p.tables.exec = Jvm.exec) {u v : Int32} (hd : decode c.code pc = .ok (.iushr, 1)) (hp : pc + 1 = pc')  (hr : own_Gl p e below s Q kc ks (T.setTop (mkF m pc' L (.int ((u.toUInt32 >>> (v &&& 31).toUInt32).toInt32) :: S)))) : own_Gl p e below s Q kc ks (T.setTop (mkF m pc L (.int v :: .int u :: S))) := by
  subst hp; exact hr.go fun t k => XS.iushr h hx rfl hd rfl k
theorem g_lshl (h : At T m c below) (hx : p.tables.exec = Jvm.exec) {u : Int64} {v : Int32} (hd : decode c.code pc = .ok (.lshl, 1)) (hp : pc + 1 = pc')  (hr : own_Gl p e below s Q kc ks (T.setTop (mkF m pc' L (.long (u <<< (v &&& 0x3f).toInt64) :: S)))) : own_Gl p e below s Q kc ks (T.setTop (mkF m pc L (.int v :: .long u :: S))) := by
  subst hp; exact hr.go fun t k => XS.lshl h hx rfl hd rfl k
theorem g_lshr (h : At T m c below) (hx : p.tables.exec = Jvm.exec) {u : Int64} {v : Int32} (hd : decode c.code pc = .ok (.lshr, 1)) (hp : pc + 1 = pc')  (hr : own_Gl p e below s Q kc ks (T.setTop (mkF m pc' L (.long (u >>> (v &&& 0x3f).toInt64) :: S)))) : own_Gl p e below s Q kc ks (T.setTop (mkF m pc L (.int v :: .long u :: S))) := by
  subst hp; exact hr.go fun t k => XS.lshr h hx rfl hd rfl k
theorem g_lushr (h : At T m c below) (hx : p.tables.exec = Jvm.exec) {u : Int64} {v : Int32} (hd : decode c.code pc = .ok (.lushr, 1)) (hp : pc + 1 = pc')  (hr : own_Gl p e below s Q kc ks (T.setTop (mkF m pc' L (.long ((u.toUInt64 >>> (v &&& 0x3f).toInt64.toUInt64).toInt64) :: S)))) : own_Gl p e below s Q kc ks (T.setTop (mkF m pc L (.int v :: .long u :: S))) := by
  subst hp; exact hr.go fun t k => XS.lushr h hx rfl hd rfl k
theorem g_idiv (h : At T m c below) (hx : p.tables.exec = Jvm.exec) {u v : Int32} (hd : decode c.code pc = .ok (.idiv, 1)) (hp : pc + 1 = pc') (hy : v ≠ 0) (hr : own_Gl p e below s Q kc ks (T.setTop (mkF m pc' L (.int (u / v) :: S)))) : own_Gl p e below s Q kc ks (T.setTop (mkF m pc L (.int v :: .int u :: S))) := by
  subst hp; exact hr.go fun t k => XS.idiv h hx rfl hd rfl hy k
theorem g_ldiv (h : At T m c below) (hx : p.tables.exec = Jvm.exec) {u v : Int64} (hd : decode c.code pc = .ok (.ldiv, 1)) (hp : pc + 1 = pc') (hy : v ≠ 0) (hr : own_Gl p e below s Q kc ks (T.setTop (mkF m pc' L (.long (u / v) :: S)))) : own_Gl p e below s Q kc ks (T.setTop (mkF m pc L (.long v :: .long u :: S))) := by
  subst hp; exact hr.go fun t k => XS.ldiv h hx rfl hd rfl hy k
theorem g_irem (X : Stand p l e R s m args below meth c T locs cells slots) (hx : p.tables.exec = Jvm.exec) {u v : Int32} (hd : decode c.code pc = .ok (.irem, 1)) (hp : pc + 1 = pc') (hy : v ≠ 0) (hr : own_Gl p e below s Q kc ks (T.setTop (mkF m pc' L (.int (u % v) :: S)))) : own_Gl p e below s Q kc ks (T.setTop (mkF m pc L (.int v :: .int u :: S))) := by
  subst hp; exact hr.go fun t k => iremM X hx rfl hd rfl hy k
theorem g_lrem (h : At T m c below) (hx : p.tables.exec = Jvm.exec) {u v : Int64} (hd : decode c.code pc = .ok (.lrem, 1)) (hp : pc + 1 = pc') (hy : v ≠ 0) (hr : own_Gl p e below s Q kc ks (T.setTop (mkF m pc' L (.long (u % v) :: S)))) : own_Gl p e below s Q kc ks (T.setTop (mkF m pc L (.long v :: .long u :: S))) := by
  subst hp; exact hr.go fun t k => XS.lrem h hx rfl hd rfl hy (by rw [lrem_mod]; exact k)
theorem g_ineg (h : At T m c below) (hx : p.tables.exec = Jvm.exec) {u : Int32} (hd : decode c.code pc = .ok (.ineg, 1)) (hp : pc + 1 = pc')  (hr : own_Gl p e below s Q kc ks (T.setTop (mkF m pc' L (.int (-u) :: S)))) : own_Gl p e below s Q kc ks (T.setTop (mkF m pc L (.int u :: S))) := by
  subst hp; exact hr.go fun t k => XS.ineg h hx rfl hd rfl k
theorem g_lneg (h : At T m c below) (hx : p.tables.exec = Jvm.exec) {u : Int64} (hd : decode c.code pc = .ok (.lneg, 1)) (hp : pc + 1 = pc')  (hr : own_Gl p e below s Q kc ks (T.setTop (mkF m pc' L (.long (-u) :: S)))) : own_Gl p e below s Q kc ks (T.setTop (mkF m pc L (.long u :: S))) := by
  subst hp; exact hr.go fun t k => XS.lneg h hx rfl hd rfl k
theorem g_i2l (h : At T m c below) (hx : p.tables.exec = Jvm.exec) {u : Int32} (hd : decode c.code pc = .ok (.i2l, 1)) (hp : pc + 1 = pc')  (hr : own_Gl p e below s Q kc ks (T.setTop (mkF m pc' L (.long u.toInt64 :: S)))) : own_Gl p e below s Q kc ks (T.setTop (mkF m pc L (.int u :: S))) := by
  subst hp; exact hr.go fun t k => XS.i2l h hx rfl hd rfl k
theorem g_l2i (h : At T m c below) (hx : p.tables.exec = Jvm.exec) {u : Int64} (hd : decode c.code pc = .ok (.l2i, 1)) (hp : pc + 1 = pc')  (hr : own_Gl p e below s Q kc ks (T.setTop (mkF m pc' L (.int u.toInt32 :: S)))) : own_Gl p e below s Q kc ks (T.setTop (mkF m pc L (.long u :: S))) := by
  subst hp; exact hr.go fun t k => XS.l2i h hx rfl hd rfl k
theorem g_i2b (h : At T m c below) (hx : p.tables.exec = Jvm.exec) {u : Int32} (hd : decode c.code pc = .ok (.i2b, 1)) (hp : pc + 1 = pc')  (hr : own_Gl p e below s Q kc ks (T.setTop (mkF m pc' L (.int u.toInt8.toInt32 :: S)))) : own_Gl p e below s Q kc ks (T.setTop (mkF m pc L (.int u :: S))) := by
  subst hp; exact hr.go fun t k => XS.i2b h hx rfl hd rfl k
theorem g_i2s (h : At T m c below) (hx : p.tables.exec = Jvm.exec) {u : Int32} (hd : decode c.code pc = .ok (.i2s, 1)) (hp : pc + 1 = pc')  (hr : own_Gl p e below s Q kc ks (T.setTop (mkF m pc' L (.int u.toInt16.toInt32 :: S)))) : own_Gl p e below s Q kc ks (T.setTop (mkF m pc L (.int u :: S))) := by
  subst hp; exact hr.go fun t k => XS.i2s h hx rfl hd rfl k
theorem g_i2c (h : At T m c below) (hx : p.tables.exec = Jvm.exec) {u : Int32} (hd : decode c.code pc = .ok (.i2c, 1)) (hp : pc + 1 = pc')  (hr : own_Gl p e below s Q kc ks (T.setTop (mkF m pc' L (.int u.toUInt32.toUInt16.toUInt32.toInt32 :: S)))) : own_Gl p e below s Q kc ks (T.setTop (mkF m pc L (.int u :: S))) := by
  subst hp; exact hr.go fun t k => XS.i2c h hx rfl hd rfl k
theorem g_lcmp (h : At T m c below) (hx : p.tables.exec = Jvm.exec) {u v : Int64} (hd : decode c.code pc = .ok (.lcmp, 1)) (hp : pc + 1 = pc')  (hr : own_Gl p e below s Q kc ks (T.setTop (mkF m pc' L (.int (lcmpW u v) :: S)))) : own_Gl p e below s Q kc ks (T.setTop (mkF m pc L (.long v :: .long u :: S))) := by
  subst hp; exact hr.go fun t k => XS.lcmp h hx rfl hd rfl k
theorem g_dup (h : At T m c below) (hx : p.tables.exec = Jvm.exec) {v : Value} (hd : decode c.code pc = .ok (.dup, 1)) (hp : pc + 1 = pc') (hc : v.category = 1) (hr : own_Gl p e below s Q kc ks (T.setTop (mkF m pc' L (v :: v :: S)))) : own_Gl p e below s Q kc ks (T.setTop (mkF m pc L (v :: S))) := by
  subst hp; exact hr.go fun t k => XS.dup h hx rfl hd rfl hc k
theorem g_pop (h : At T m c below) (hx : p.tables.exec = Jvm.exec) {v : Value} (hd : decode c.code pc = .ok (.pop, 1)) (hp : pc + 1 = pc') (hc : v.category = 1) (hr : own_Gl p e below s Q kc ks (T.setTop (mkF m pc' L S))) : own_Gl p e below s Q kc ks (T.setTop (mkF m pc L (v :: S))) := by
  subst hp; exact hr.go fun t k => XS.pop h hx rfl hd rfl hc k
theorem g_dupX1 (h : At T m c below) (hx : p.tables.exec = Jvm.exec) {v w : Value} (hd : decode c.code pc = .ok (.dup_x1, 1)) (hp : pc + 1 = pc') (hc : v.category = 1) (hc' : w.category = 1) (hr : own_Gl p e below s Q kc ks (T.setTop (mkF m pc' L (v :: w :: v :: S)))) : own_Gl p e below s Q kc ks (T.setTop (mkF m pc L (v :: w :: S))) := by
  subst hp; exact hr.go fun t k => XS.dupX1 h hx rfl hd rfl hc hc' k
theorem g_dup2 (h : At T m c below) (hx : p.tables.exec = Jvm.exec) {v w : Value} (hd : decode c.code pc = .ok (.dup2, 1)) (hp : pc + 1 = pc') (hc : v.category = 1) (hc' : w.category = 1) (hr : own_Gl p e below s Q kc ks (T.setTop (mkF m pc' L (v :: w :: v :: w :: S)))) : own_Gl p e below s Q kc ks (T.setTop (mkF m pc L (v :: w :: S))) := by
  subst hp; exact hr.go fun t k => XT.dup2 h hx rfl hd rfl hc hc' k
theorem g_dup2L (h : At T m c below) (hx : p.tables.exec = Jvm.exec) {v : Int64} (hd : decode c.code pc = .ok (.dup2, 1)) (hp : pc + 1 = pc')  (hr : own_Gl p e below s Q kc ks (T.setTop (mkF m pc' L (.long v :: .long v :: S)))) : own_Gl p e below s Q kc ks (T.setTop (mkF m pc L (.long v :: S))) := by
  subst hp; exact hr.go fun t k => XT.dup2L h hx rfl hd rfl k
theorem g_pop2L (h : At T m c below) (hx : p.tables.exec = Jvm.exec) {v : Int64} (hd : decode c.code pc = .ok (.pop2, 1)) (hp : pc + 1 = pc') (hr : own_Gl p e below s Q kc ks (T.setTop (mkF m pc' L S))) : own_Gl p e below s Q kc ks (T.setTop (mkF m pc L (.long v :: S))) := by
  subst hp
  refine hr.go fun t k => ?_
  jvm_step h [h.top, hx, hd, Value.category]
  exact k
theorem g_iinc (h : At T m c below) (hx : p.tables.exec = Jvm.exec) {j : Nat} {i : Int} {v z : Int32} (hd : decode c.code pc = .ok (.iinc j i, 3)) (hp : pc + 3 = pc') (hz : Int32.ofInt i = z) (hl : L[j]? = some (.val (.int v))) (hl' : storeLocals L j (.int (v + z)) = some L') (hr : own_Gl p e below s Q kc ks (T.setTop (mkF m pc' L' S))) : own_Gl p e below s Q kc ks (T.setTop (mkF m pc L S)) := by
  subst hp; exact hr.go fun t k => XS.iinc h hx rfl hd hl (by rw [hz]; exact hl') k
theorem g_goto (h : At T m c below) (hx : p.tables.exec = Jvm.exec) {i : Int} (hd : decode c.code pc = .ok (.goto i, 3)) (ho : 0 ≤ (pc : Int) + i) (hp : ((pc : Int) + i).toNat = pc') (hr : own_Gl p e below s Q kc ks (T.setTop (mkF m pc' L S))) : own_Gl p e below s Q kc ks (T.setTop (mkF m pc L S)) := hr.go fun t k => XS.goto h hx rfl (pc0 := pc) rfl hd ho hp k
theorem g_ifY (h : At T m c below) (hx : p.tables.exec = Jvm.exec) {cd : ClassFile.Cond} {i : Int} {x : Int32} (hd : decode c.code pc = .ok (.ifCond cd i, 3)) (ho : 0 ≤ (pc : Int) + i) (hp : ((pc : Int) + i).toNat = pc') (hc : ifCond.holds cd x = true) (hr : own_Gl p e below s Q kc ks (T.setTop (mkF m pc' L S))) : own_Gl p e below s Q kc ks (T.setTop (mkF m pc L (.int x :: S))) := hr.go fun t k => XS.ifYes h hx rfl (pc0 := pc) rfl hd rfl hc ho hp k
theorem g_ifN (h : At T m c below) (hx : p.tables.exec = Jvm.exec) {cd : ClassFile.Cond} {i : Int} {x : Int32} (hd : decode c.code pc = .ok (.ifCond cd i, 3)) (hp : pc + 3 = pc') (hc : ifCond.holds cd x = false) (hr : own_Gl p e below s Q kc ks (T.setTop (mkF m pc' L S))) : own_Gl p e below s Q kc ks (T.setTop (mkF m pc L (.int x :: S))) := by
  subst hp; exact hr.go fun t k => XS.ifNo h hx rfl hd rfl hc k
theorem g_icY (h : At T m c below) (hx : p.tables.exec = Jvm.exec) {cd : ClassFile.Cond} {i : Int} {x y : Int32} (hd : decode c.code pc = .ok (.if_icmp cd i, 3)) (ho : 0 ≤ (pc : Int) + i) (hp : ((pc : Int) + i).toNat = pc') (hc : if_icmp.holds cd x y = true) (hr : own_Gl p e below s Q kc ks (T.setTop (mkF m pc' L S))) : own_Gl p e below s Q kc ks (T.setTop (mkF m pc L (.int y :: .int x :: S))) := hr.go fun t k => XS.icmpYes h hx rfl (pc0 := pc) rfl hd rfl hc ho hp k
theorem g_icN (h : At T m c below) (hx : p.tables.exec = Jvm.exec) {cd : ClassFile.Cond} {i : Int} {x y : Int32} (hd : decode c.code pc = .ok (.if_icmp cd i, 3)) (hp : pc + 3 = pc') (hc : if_icmp.holds cd x y = false) (hr : own_Gl p e below s Q kc ks (T.setTop (mkF m pc' L S))) : own_Gl p e below s Q kc ks (T.setTop (mkF m pc L (.int y :: .int x :: S))) := by
  subst hp; exact hr.go fun t k => XS.icmpNo h hx rfl hd rfl hc k
theorem g_ifnullY (h : At T m c below) (hx : p.tables.exec = Jvm.exec)  {i : Int} (hd : decode c.code pc = .ok (.ifnull i, 3)) (ho : 0 ≤ (pc : Int) + i) (hp : ((pc : Int) + i).toNat = pc') (hr : own_Gl p e below s Q kc ks (T.setTop (mkF m pc' L S))) : own_Gl p e below s Q kc ks (T.setTop (mkF m pc L (.null :: S))) := hr.go fun t k => XS.ifnullYes h hx rfl (pc0 := pc) rfl hd rfl ho hp k
theorem g_ifnullN (h : At T m c below) (hx : p.tables.exec = Jvm.exec) {b : Addr} {i : Int} (hd : decode c.code pc = .ok (.ifnull i, 3)) (hp : pc + 3 = pc') (hr : own_Gl p e below s Q kc ks (T.setTop (mkF m pc' L S))) : own_Gl p e below s Q kc ks (T.setTop (mkF m pc L (.ref b :: S))) := by
  subst hp; exact hr.go fun t k => XS.ifnullNo h hx rfl hd rfl k
theorem g_ifnonnullY (h : At T m c below) (hx : p.tables.exec = Jvm.exec) {b : Addr} {i : Int} (hd : decode c.code pc = .ok (.ifnonnull i, 3)) (ho : 0 ≤ (pc : Int) + i) (hp : ((pc : Int) + i).toNat = pc') (hr : own_Gl p e below s Q kc ks (T.setTop (mkF m pc' L S))) : own_Gl p e below s Q kc ks (T.setTop (mkF m pc L (.ref b :: S))) := hr.go fun t k => XS.ifnonnullYes h hx rfl (pc0 := pc) rfl hd rfl ho hp k
theorem g_ifnonnullN (h : At T m c below) (hx : p.tables.exec = Jvm.exec)  {i : Int} (hd : decode c.code pc = .ok (.ifnonnull i, 3)) (hp : pc + 3 = pc') (hr : own_Gl p e below s Q kc ks (T.setTop (mkF m pc' L S))) : own_Gl p e below s Q kc ks (T.setTop (mkF m pc L (.null :: S))) := by
  subst hp; exact hr.go fun t k => XS.ifnonnullNo h hx rfl hd rfl k
theorem g_ldc (X : Stand p l e R s m args below meth c T locs cells slots) (hx : p.tables.exec = Jvm.exec) (hZ : Z.Warmed39 s.vm) {own : String} {index : Nat} {v : Int32} (hown : s.vm.findClass own = some m.cls) (w : (Jvm.Cond.constant own index v).before a0 Z = true) (hd : decode c.code pc = .ok (.ldc index, 2)) (hp : pc + 2 = pc') (hr : own_Gl p e below s Q kc ks (T.setTop (mkF m pc' L (.int v :: S)))) : own_Gl p e below s Q kc ks (T.setTop (mkF m pc L S)) := by
  subst hp; exact hr.go (X.ldcInt hx hown (mvT hZ w) (g := mkF m pc L S) rfl hd)
theorem g_ldcw (X : Stand p l e R s m args below meth c T locs cells slots) (hx : p.tables.exec = Jvm.exec) (hZ : Z.Warmed39 s.vm) {own : String} {index : Nat} {v : Int32} (hown : s.vm.findClass own = some m.cls) (w : (Jvm.Cond.constant own index v).before a0 Z = true) (hd : decode c.code pc = .ok (.ldc_w index, 3)) (hp : pc + 3 = pc') (hr : own_Gl p e below s Q kc ks (T.setTop (mkF m pc' L (.int v :: S)))) : own_Gl p e below s Q kc ks (T.setTop (mkF m pc L S)) := by
  subst hp; exact hr.go (X.ldcwInt hx hown (mvT hZ w) (g := mkF m pc L S) rfl hd)
theorem g_ldc2 (X : Stand p l e R s m args below meth c T locs cells slots) (hx : p.tables.exec = Jvm.exec) (hZ : Z.Warmed39 s.vm) {own : String} {index : Nat} {v : Int64} (hown : s.vm.findClass own = some m.cls) (w : (Jvm.Cond.constantLong own index v).before a0 Z = true) (hd : decode c.code pc = .ok (.ldc2_w index, 3)) (hp : pc + 3 = pc') (hr : own_Gl p e below s Q kc ks (T.setTop (mkF m pc' L (.long v :: S)))) : own_Gl p e below s Q kc ks (T.setTop (mkF m pc L S)) := by
  subst hp; exact hr.go (X.ldc2Long hx hown (mvT hZ w) (g := mkF m pc L S) rfl hd)
end OwnKit

section OwnHeap
variable {p : Program} {l : Launch} {e : Env} {R : Room} {s : State} {m : MethodId} {args : Array Value} {below : List Frame} {meth : Method} {c : Code} {T : State} {locs : List Loc} {cells slots : Nat} {Z : State} {a0 : Array Value} {h : Heap} {Q : Option Value → Heap → List Loc → Prop} {kc ks : Nat} {pc pc' : Nat} {L L' : Array Slot} {S : List Value}
/-- an array of ints, bytes or booleans by what each place holds -/
def own_IA (Z : State) (h : Heap) (a : Addr) (ty : FieldType) (n : Nat) (f : Nat → Int32) : Prop := ∃ c : Cell, Arr Z h a c ty ∧ c.slots.size = n ∧ ∀ i, i < n → c.slots[i]? = some (.int (f i))
theorem own_IA.lt {a : Addr} {ty : FieldType} {n : Nat} {f : Nat → Int32} (V : own_IA Z h a ty n f) : a < h.size := by obtain ⟨c, A, -⟩ := V; exact A.lt
theorem own_IA.ext {h' : Heap} {a : Addr} {ty : FieldType} {n : Nat} {f : Nat → Int32} (V : own_IA Z h a ty n f) (E : Ext h h') : own_IA Z h' a ty n f := by obtain ⟨c, A, r⟩ := V; exact ⟨c, A.ext E, r⟩
theorem own_IA.other {h' : Heap} {a b : Addr} {ty : FieldType} {n sl : Nat} {v : Value} {f : Nat → Int32} (V : own_IA Z h b ty n f) (W : Wr h h' a sl v) (q : b ≠ a) : own_IA Z h' b ty n f := by obtain ⟨c, A, r⟩ := V; exact ⟨c, A.other W q, r⟩
theorem own_IA.keep {h' : Heap} {ws : List Addr} {a : Addr} {ty : FieldType} {n : Nat} {f : Nat → Int32} (V : own_IA Z h a ty n f) (K : Keep h h' ws) (q : a ∉ ws) : own_IA Z h' a ty n f := by obtain ⟨c, A, r⟩ := V; exact ⟨c, ⟨K.2.1 a c A.1 q, A.2⟩, r⟩
theorem own_IA.congr {a : Addr} {ty : FieldType} {n : Nat} {f g : Nat → Int32} (V : own_IA Z h a ty n f) (q : ∀ i, i < n → f i = g i) : own_IA Z h a ty n g := by obtain ⟨c, A, S, H⟩ := V; exact ⟨c, A, S, fun i hi => by rw [H i hi, q i hi]⟩
theorem own_clamp (j : Int32) : j.toNatClampNeg = j.toInt.toNat := rfl
theorem own_in {c : Cell} {n : Nat} (S : c.slots.size = n) {j : Int32} (hj : 0 ≤ j.toInt ∧ j.toInt < n) : ¬ (j < 0 ∨ c.slots.size ≤ j.toNatClampNeg) := by
  have k : (0 : Int32).toInt = 0 := by decide
  rw [Int32.lt_iff_toInt_lt, own_clamp, S, k]; omega
theorem own_IA.set {h' : Heap} {a : Addr} {ty : FieldType} {n : Nat} {x : Int32} {k : Nat} {f : Nat → Int32} (V : own_IA Z h a ty n f) (W : Wr h h' a k (.int x)) : own_IA Z h' a ty n (fun i => if i = k then x else f i) := by
  obtain ⟨c, A, S, H⟩ := V
  refine ⟨c.setSlot k (.int x), A.same W, by rw [sz_set]; exact S, fun i hi => ?_⟩
  show (c.slots.setIfInBounds k (.int x))[i]? = some (Value.int (if i = k then x else f i))
  by_cases q : i = k
  · subst q
    rw [Array.getElem?_setIfInBounds_self_of_lt (by omega), if_pos rfl]
  · rw [Array.getElem?_setIfInBounds_ne (fun z => q z.symm), H i hi, if_neg q]
theorem g_getF (X : Stand p l e R s m args below meth c T locs cells slots) (hx : p.tables.exec = Jvm.exec) (hZ : Z.Warmed39 s.vm) {own R0 O n d host : String} {index : Nat} (hown : s.vm.findClass own = some m.cls) (w : (Jvm.Cond.fieldLink own index R0 n d).before a0 Z = true ∨ (Jvm.Cond.fieldLinkNest own index R0 n d host).before a0 Z = true) (via : Via Z R0 O n d)
    (eT : T.heap = h) {a : Addr} {v : Value} (F : Fld Z h a O n d v) (hd : decode c.code pc = .ok (.getfield index, 3)) (hp : pc + 3 = pc') (k : ∀ T' : State, Stand p l e R s m args below meth c T' locs cells slots → T'.heap = h → own_Gl p e below s Q kc ks (T'.setTop (mkF m pc' L (v :: S)))) :
    own_Gl p e below s Q kc ks (T.setTop (mkF m pc L (.ref a :: S))) := by
  subst hp
  obtain ⟨T', X', e', st⟩ := getF X hx hZ hown w via eT F (g := mkF m pc L (.ref a :: S)) rfl rfl hd
  exact (k T' X' e').go st
theorem g_putF (X : Stand p l e R s m args below meth c T locs cells slots) (hx : p.tables.exec = Jvm.exec) (hZ : Z.Warmed39 s.vm) {own R0 O n d host C : String} {index kk : Nat} {ty : FieldType} (hown : s.vm.findClass own = some m.cls) (w : (Jvm.Cond.fieldLink own index R0 n d).before a0 Z = true ∨ (Jvm.Cond.fieldLinkNest own index R0 n d host).before a0 Z = true) (via : Via Z R0 O n d)
    (eT : T.heap = h) {a : Addr} {v old : Value} (F : Fld Z h a O n d old) (E : Exa Z h a C) (Ly : (Jvm.Cond.lays C O n d).before a0 Z = true ∨ ((Jvm.Cond.laysFinal C O n d).before a0 Z = true ∧ own = O ∧ meth.name = "<init>")) (wi : (Jvm.Cond.instantiable C kk).before a0 Z = true)
    (hty : parseFieldDescriptor d = some ty) (hn : narrow ty v = v) (hf : fits ty v = true) (hd : decode c.code pc = .ok (.putfield index, 3)) (hp : pc + 3 = pc')
    (k : ∀ (T' : State) (h' : Heap), Stand p l e R s m args below meth c T' (locs ++ [⟨a, Jvm.RoadKit.slotOf Z O n d⟩]) cells slots → T'.heap = h' → Wr h h' a (Jvm.RoadKit.slotOf Z O n d) v → own_Gl p e below s Q kc ks (T'.setTop (mkF m pc' L S))) :
    own_Gl p e below s Q kc ks (T.setTop (mkF m pc L (v :: .ref a :: S))) := by
  subst hp
  obtain ⟨T', h', X', e', W', st⟩ := putF X hx hZ hown w via eT F E Ly wi hty hn hf (g := mkF m pc L (v :: .ref a :: S)) rfl rfl hd
  exact (k T' h' X' e' W').go st
theorem g_putFN (X : Stand p l e R s m args below meth c T locs cells slots) (hx : p.tables.exec = Jvm.exec) (hZ : Z.Warmed39 s.vm) {own R0 O n d C : String} {index kk : Nat} {ty : FieldType} (hown : s.vm.findClass own = some m.cls) (w : (Jvm.Cond.fieldLink own index R0 n d).before a0 Z = true) (via : Via Z R0 O n d)
    (eT : T.heap = h) {a : Addr} {v v' old : Value} (F : Fld Z h a O n d old) (E : Exa Z h a C) (Ly : (Jvm.Cond.lays C O n d).before a0 Z = true ∨ ((Jvm.Cond.laysFinal C O n d).before a0 Z = true ∧ own = O ∧ meth.name = "<init>")) (wi : (Jvm.Cond.instantiable C kk).before a0 Z = true)
    (hty : parseFieldDescriptor d = some ty) (hn : narrow ty v = v') (hf : fits ty v' = true) (hd : decode c.code pc = .ok (.putfield index, 3)) (hp : pc + 3 = pc')
    (k : ∀ (T' : State) (h' : Heap), Stand p l e R s m args below meth c T' (locs ++ [⟨a, Jvm.RoadKit.slotOf Z O n d⟩]) cells slots → T'.heap = h' → Wr h h' a (Jvm.RoadKit.slotOf Z O n d) v' → own_Gl p e below s Q kc ks (T'.setTop (mkF m pc' L S))) :
    own_Gl p e below s Q kc ks (T.setTop (mkF m pc L (v :: .ref a :: S))) := by
  subst hp
  obtain ⟨T', h', X', e', W', st⟩ := putFN X hx hZ hown w via eT F E Ly wi hty hn hf (g := mkF m pc L (v :: .ref a :: S)) rfl rfl hd
  exact (k T' h' X' e' W').go st
theorem g_new (X : Stand p l e R s m args below meth c T locs cells slots) (hx : p.tables.exec = Jvm.exec) (hZ : Z.Warmed39 s.vm) {own C : String} {index n : Nat} (hown : s.vm.findClass own = some m.cls) (w : (Jvm.Cond.classLink own index C).before a0 Z = true) (wi : (Jvm.Cond.instantiable C n).before a0 Z = true) (wz : (Jvm.Cond.initialized C).before a0 Z = true) (eT : T.heap = h)
    (hd : decode c.code pc = .ok (.new index, 3)) (hp : pc + 3 = pc') {cells' slots' : Nat} (hcc : cells + 1 = cells') (hss : slots + n = slots') (hc : cells' ≤ R.cells) (hl : slots' ≤ R.slots)
    (k : ∀ (T' : State) (h' : Heap) (b : Addr), b = h.size → Stand p l e R s m args below meth c T' locs cells' slots' → T'.heap = h' → Ext h h' → Exa Z h' b C → (∀ {O nm d : String} {ty : FieldType}, Laid Z a0 C O nm d → parseFieldDescriptor d = some ty → Fld Z h' b O nm d (defaultValue ty)) → own_Gl p e below s Q kc ks (T'.setTop (mkF m pc' L (.ref b :: S)))) :
    own_Gl p e below s Q kc ks (T.setTop (mkF m pc L S)) := by
  subst hp hcc hss
  obtain ⟨T', h', X', e', E', A', D', -, st⟩ := newO X hx hZ hown w wi wz eT (g := mkF m pc L S) rfl hd hc hl
  exact (k T' h' _ rfl X' e' E' A' D').go st
theorem g_newarr (X : Stand p l e R s m args below meth c T locs cells slots) (hx : p.tables.exec = Jvm.exec) (hZ : Z.Warmed39 s.vm) {aty : ArrayType} {ty : FieldType} (hty : newarray.typeOf aty = ty) (hdv : defaultValue ty = .int 0) (w : (Jvm.Cond.arrayClass ty).before a0 Z = true) (eT : T.heap = h)
    (hd : decode c.code pc = .ok (.newarray aty, 2)) (hp : pc + 2 = pc') {z : Int32} {n : Nat} (hn : z.toInt = n) (cap : Nat) (hcap : n ≤ cap) (hb : cap * 8 ≤ 536870912) {cells' slots' : Nat} (hcc : cells + 1 = cells') (hss : slots + cap = slots') (hc : cells' ≤ R.cells) (hl : slots' ≤ R.slots)
    (k : ∀ (T' : State) (h' : Heap) (b : Addr), b = h.size → Stand p l e R s m args below meth c T' locs cells' slots' → T'.heap = h' → Ext h h' → own_IA Z h' b ty n (fun _ => 0) → own_Gl p e below s Q kc ks (T'.setTop (mkF m pc' L (.ref b :: S)))) :
    own_Gl p e below s Q kc ks (T.setTop (mkF m pc L (.int z :: S))) := by
  subst hp hcc hss hty
  have q : ¬ z < 0 := by
    have k0 : (0 : Int32).toInt = 0 := by decide
    rw [Int32.lt_iff_toInt_lt, k0]; omega
  have zn : z.toNatClampNeg = n := by rw [own_clamp]; omega
  obtain ⟨T', h', cA, X', e', E', A', st⟩ := newP X hx hZ w eT (g := mkF m pc L (.int z :: S)) rfl hd rfl q (cap := cap) (by omega) hb hc hl
  refine (k T' h' _ rfl X' e' E' ⟨_, A', by rw [sz_new, zn], fun i hi => ?_⟩).go st
  show (Array.replicate z.toNatClampNeg (defaultValue (newarray.typeOf aty)))[i]? = _
  rw [zn, hdv, Array.getElem?_replicate, if_pos hi]
theorem g_iastore (X : Stand p l e R s m args below meth c T locs cells slots) (hx : p.tables.exec = Jvm.exec) (hZ : Z.Warmed39 s.vm) (eT : T.heap = h) {a : Addr} {n : Nat} {f : Nat → Int32} {j x : Int32} (V : own_IA Z h a .int n f) (hj : 0 ≤ j.toInt ∧ j.toInt < n) (hd : decode c.code pc = .ok (.iastore, 1)) (hp : pc + 1 = pc')
    (k : ∀ (T' : State) (h' : Heap), Stand p l e R s m args below meth c T' (locs ++ [⟨a, j.toNatClampNeg⟩]) cells slots → T'.heap = h' → Wr h h' a j.toNatClampNeg (.int x) → own_IA Z h' a .int n (fun i => if i = j.toNatClampNeg then x else f i) → own_Gl p e below s Q kc ks (T'.setTop (mkF m pc' L S))) :
    own_Gl p e below s Q kc ks (T.setTop (mkF m pc L (.int x :: .int j :: .ref a :: S))) := by
  subst hp
  have V' := V
  obtain ⟨cl, A, Sz, H⟩ := V
  obtain ⟨T', h', X', e', W', st⟩ := stI X hx hZ eT A (own_in Sz hj) (g := mkF m pc L (.int x :: .int j :: .ref a :: S)) rfl rfl hd
  exact (k T' h' X' e' W' (V'.set W')).go st
theorem g_bastore (X : Stand p l e R s m args below meth c T locs cells slots) (hx : p.tables.exec = Jvm.exec) (hZ : Z.Warmed39 s.vm) (eT : T.heap = h) {a : Addr} {n : Nat} {f : Nat → Int32} {j x : Int32} (V : own_IA Z h a .byte n f) (hj : 0 ≤ j.toInt ∧ j.toInt < n) (hd : decode c.code pc = .ok (.bastore, 1)) (hp : pc + 1 = pc')
    (k : ∀ (T' : State) (h' : Heap), Stand p l e R s m args below meth c T' (locs ++ [⟨a, j.toNatClampNeg⟩]) cells slots → T'.heap = h' → Wr h h' a j.toNatClampNeg (.int x.toInt8.toInt32) → own_IA Z h' a .byte n (fun i => if i = j.toNatClampNeg then x.toInt8.toInt32 else f i) → own_Gl p e below s Q kc ks (T'.setTop (mkF m pc' L S))) :
    own_Gl p e below s Q kc ks (T.setTop (mkF m pc L (.int x :: .int j :: .ref a :: S))) := by
  subst hp
  have V' := V
  obtain ⟨cl, A, Sz, H⟩ := V
  obtain ⟨T', h', X', e', W', st⟩ := stB X hx hZ eT A (own_in Sz hj) (g := mkF m pc L (.int x :: .int j :: .ref a :: S)) rfl rfl hd
  exact (k T' h' X' e' W' (V'.set W')).go st
theorem g_zastore (X : Stand p l e R s m args below meth c T locs cells slots) (hx : p.tables.exec = Jvm.exec) (hZ : Z.Warmed39 s.vm) (eT : T.heap = h) {a : Addr} {n : Nat} {f : Nat → Int32} {j x x' : Int32} (V : own_IA Z h a .boolean n f) (hj : 0 ≤ j.toInt ∧ j.toInt < n) (hv : nar .boolean x = x') (hd : decode c.code pc = .ok (.bastore, 1)) (hp : pc + 1 = pc')
    (k : ∀ (T' : State) (h' : Heap), Stand p l e R s m args below meth c T' (locs ++ [⟨a, j.toNatClampNeg⟩]) cells slots → T'.heap = h' → Wr h h' a j.toNatClampNeg (.int x') → own_IA Z h' a .boolean n (fun i => if i = j.toNatClampNeg then x' else f i) → own_Gl p e below s Q kc ks (T'.setTop (mkF m pc' L S))) :
    own_Gl p e below s Q kc ks (T.setTop (mkF m pc L (.int x :: .int j :: .ref a :: S))) := by
  subst hp hv
  have V' := V
  obtain ⟨cl, A, Sz, H⟩ := V
  obtain ⟨T', h', X', e', W', st⟩ := stZ X hx hZ eT A (own_in Sz hj) (g := mkF m pc L (.int x :: .int j :: .ref a :: S)) rfl rfl hd
  exact (k T' h' X' e' W' (V'.set W')).go st
theorem own_at {a : Addr} {ty : FieldType} {n : Nat} {f : Nat → Int32} {c : Cell} (S : c.slots.size = n) (H : ∀ i, i < n → c.slots[i]? = some (.int (f i))) {j v : Int32} (hj : 0 ≤ j.toInt ∧ j.toInt < n) (hv : f j.toInt.toNat = v) : c.slots[j.toNatClampNeg]? = some (.int v) := by
  rw [own_clamp, H _ (by omega), hv]
theorem g_iaload (X : Stand p l e R s m args below meth c T locs cells slots) (hx : p.tables.exec = Jvm.exec) (hZ : Z.Warmed39 s.vm) (eT : T.heap = h) {a : Addr} {n : Nat} {f : Nat → Int32} {j v : Int32} (V : own_IA Z h a .int n f) (hj : 0 ≤ j.toInt ∧ j.toInt < n) (hv : f j.toInt.toNat = v) (hd : decode c.code pc = .ok (.iaload, 1)) (hp : pc + 1 = pc')
    (hr : own_Gl p e below s Q kc ks (T.setTop (mkF m pc' L (.int v :: S)))) : own_Gl p e below s Q kc ks (T.setTop (mkF m pc L (.int j :: .ref a :: S))) := by
  subst hp
  obtain ⟨cl, A, Sz, H⟩ := V
  exact hr.go fun t k => X.iaload hx (by rw [eT]; exact A.1) (State.isArrayOf_alike hZ.alike A.2.1) A.2.2 (own_in Sz hj) (own_at (a := a) (ty := .int) Sz H hj hv) (g := mkF m pc L (.int j :: .ref a :: S)) rfl rfl hd t k
theorem g_baload (X : Stand p l e R s m args below meth c T locs cells slots) (hx : p.tables.exec = Jvm.exec) (hZ : Z.Warmed39 s.vm) (eT : T.heap = h) {a : Addr} {n : Nat} {f : Nat → Int32} {j v : Int32} (V : own_IA Z h a .byte n f) (hj : 0 ≤ j.toInt ∧ j.toInt < n) (hv : f j.toInt.toNat = v) (hd : decode c.code pc = .ok (.baload, 1)) (hp : pc + 1 = pc')
    (hr : own_Gl p e below s Q kc ks (T.setTop (mkF m pc' L (.int v :: S)))) : own_Gl p e below s Q kc ks (T.setTop (mkF m pc L (.int j :: .ref a :: S))) := by
  subst hp
  obtain ⟨cl, A, Sz, H⟩ := V
  exact hr.go fun t k => X.baloadBytes hx (by rw [eT]; exact A.1) (State.isArrayOf_alike hZ.alike A.2.1) A.2.2 (own_in Sz hj) (own_at (a := a) (ty := .byte) Sz H hj hv) (g := mkF m pc L (.int j :: .ref a :: S)) rfl rfl hd t k
theorem g_zaload (X : Stand p l e R s m args below meth c T locs cells slots) (hx : p.tables.exec = Jvm.exec) (hZ : Z.Warmed39 s.vm) (eT : T.heap = h) {a : Addr} {n : Nat} {f : Nat → Int32} {j v : Int32} (V : own_IA Z h a .boolean n f) (hj : 0 ≤ j.toInt ∧ j.toInt < n) (hv : f j.toInt.toNat = v) (hd : decode c.code pc = .ok (.baload, 1)) (hp : pc + 1 = pc')
    (hr : own_Gl p e below s Q kc ks (T.setTop (mkF m pc' L (.int v :: S)))) : own_Gl p e below s Q kc ks (T.setTop (mkF m pc L (.int j :: .ref a :: S))) := by
  subst hp
  obtain ⟨cl, A, Sz, H⟩ := V
  exact hr.go fun t k => X.baloadBooleans hx (by rw [eT]; exact A.1) (State.isArrayOf_alike hZ.alike A.2.1) A.2.2 (own_in Sz hj) (own_at (a := a) (ty := .boolean) Sz H hj hv) (g := mkF m pc L (.int j :: .ref a :: S)) rfl rfl hd t k
theorem g_arraylength (X : Stand p l e R s m args below meth c T locs cells slots) (hx : p.tables.exec = Jvm.exec) (hZ : Z.Warmed39 s.vm) (eT : T.heap = h) {a : Addr} {ty : FieldType} {n : Nat} {f : Nat → Int32} {z : Int32} (V : own_IA Z h a ty n f) (hz : n.toInt32 = z) (hd : decode c.code pc = .ok (.arraylength, 1)) (hp : pc + 1 = pc')
    (hr : own_Gl p e below s Q kc ks (T.setTop (mkF m pc' L (.int z :: S)))) : own_Gl p e below s Q kc ks (T.setTop (mkF m pc L (.ref a :: S))) := by
  subst hp hz
  obtain ⟨cl, A, Sz, H⟩ := V
  subst Sz
  exact hr.go fun t k => X.arraylength hx (by rw [eT]; exact A.1) (State.isArrayOf_alike hZ.alike A.2.1) (g := mkF m pc L (.ref a :: S)) rfl rfl hd t k
theorem g_initO (X : Stand p l e R s m args below meth c T locs cells slots) (hx : p.tables.exec = Jvm.exec) (hZ : Z.Warmed39 s.vm) {own : String} {idx : Nat} (hown : s.vm.findClass own = some m.cls) (w1 : (Jvm.Cond.methodLink own idx Lib.objectInit).before a0 Z = true) (w2 : (Jvm.Cond.instanceMethod Lib.objectInit).before a0 Z = true)
    (w3 : (Jvm.Cond.code Lib.objectInit ⟨#[0xb1]⟩ 1 none).before a0 Z = true) (eT : T.heap = h) {a : Addr} (hsize : L.size = c.maxLocals) (hd : decode c.code pc = .ok (.invokespecial idx, 3)) (hp : pc + 3 = pc')
    (hf : 1 ≤ R.frames) (W : Nat) (hW : (S.map fun v => v.category).sum ≤ W) (hl : W + 12 ≤ R.locals) (k : ∀ T' : State, Stand p l e R s m args below meth c T' locs cells slots → T'.heap = h → own_Gl p e below s Q kc ks (T'.setTop (mkF m pc' L S))) :
    own_Gl p e below s Q kc ks (T.setTop (mkF m pc L (.ref a :: S))) := by
  subst hp
  obtain ⟨T', X', e', st⟩ := initO X hx hZ hown w1 w2 w3 eT (g := mkF m pc L (.ref a :: S)) rfl hsize rfl hd hf (W := W) (by show 2 * 0 + _ ≤ _; omega) hl
  exact (k T' X' e').go st
/-- a constructor by its contract -/
theorem g_callI (X : Stand p l e R s m args below meth c T locs cells slots) (hx : p.tables.exec = Jvm.exec) (hZ : Z.Warmed39 s.vm) {own : String} {index : Nat} {y : MethodName} {bytes : ByteArray} {maxL : Nat} (hy1 : y.name = "<init>") (hown : s.vm.findClass own = some m.cls)
    (w1 : (Jvm.Cond.methodLink own index y).before a0 Z = true) (w2 : (Jvm.Cond.instanceMethod y).before a0 Z = true) (w3 : (Jvm.Cond.initialized y.cls).before a0 Z = true) (w4 : (Jvm.Cond.code y bytes maxL none).before a0 Z = true) (hy : y.cls ≠ "java/lang/invoke/MethodHandle" ∧ y.cls ≠ "java/lang/invoke/VarHandle")
    {rm : Room} {as' : Array Value} {Qc : Option Value → Heap → List Loc → Prop}
    (hM : MetFree l y (head1 [Jvm.Cond.code y bytes maxL none] rm) (fun a U => a = as' ∧ Z.Warmed39 U.vm ∧ U.heap = h) (fun _ _ _ _ _ => True) (fun _ U o U' => ∃ v L, o = .returned v ∧ Qc v U'.heap L ∧ FrameEnd U o U' L rm.cells rm.slots))
    (W : Nat) (hf : rm.frames + 1 ≤ R.frames) (hl : W + (maxL + 11) + rm.locals ≤ R.locals) (eT : T.heap = h) (hsize : L.size = c.maxLocals) {a : Addr} (argsL rest : List Value) (hlen : ∀ sig, parseMethodDescriptor y.desc = some sig → argsL.length = sig.parameters.length)
    (hst : S = argsL.reverse ++ .ref a :: rest) (has : (Value.ref a :: argsL).toArray = as') (hW : (rest.map fun v => v.category).sum ≤ W) (hd : decode c.code pc = .ok (.invokespecial index, 3)) (hp : pc + 3 = pc') {cells' slots' : Nat} (hcc : cells + rm.cells = cells') (hss : slots + rm.slots = slots') (hcl : cells' ≤ R.cells) (hsl : slots' ≤ R.slots)
    (k : ∀ (v : Option Value) (T' : State) (L' : List Loc), Stand p l e R s m args below meth c T' (locs ++ L') cells' slots' → Qc v T'.heap L' → own_Gl p e below s Q kc ks (T'.setTop (mkF m pc' L (v.toList ++ rest)))) :
    own_Gl p e below s Q kc ks (T.setTop (mkF m pc L S)) := by
  subst hp hst hcc hss
  obtain ⟨v, _, ⟨T', L', k', n'⟩, -, X', ⟨Lc, hQ, l', y', z'⟩, st⟩ := X.specialBack hx (y := y) hy1 hown (mvT hZ w1) (mvT hZ w2) (mvT hZ w4) hy (backOf (W := W) hM hZ w4 w3 hf hl) (g := mkF m pc L (argsL.reverse ++ .ref a :: rest)) rfl hsize (Steps.refl _) (a := a) (argsL := argsL) (rest := rest) hlen rfl (by show 2 * 0 + _ ≤ _; omega) hd (fun _ _ => ⟨has, eT, hcl, hsl⟩)
  dsimp only [Pt.U, Pt.locs, Pt.cells, Pt.slots] at X' l' y' z' st hQ
  subst l' y' z'
  exact (k v T' Lc X' hQ).go fun t q => st.trans q
/-- an instance method by its contract -/
theorem g_callV (X : Stand p l e R s m args below meth c T locs cells slots) (hx : p.tables.exec = Jvm.exec) (hZ : Z.Warmed39 s.vm) {own C : String} {index : Nat} {y z : MethodName} {bytes : ByteArray} {maxL : Nat} {ret : Option FieldType} (hown : s.vm.findClass own = some m.cls)
    (w1 : (Jvm.Cond.methodLink own index y).before a0 Z = true) (w2 : (Jvm.Cond.declares y).before a0 Z = true) (nf : NotFace s y) (w5 : (Jvm.Cond.selects C y z).before a0 Z = true) (w6 : (Jvm.Cond.instanceMethod z).before a0 Z = true) (w3 : (Jvm.Cond.initialized z.cls).before a0 Z = true) (w4 : (Jvm.Cond.code z bytes maxL ret).before a0 Z = true) (hy : y.cls ≠ "java/lang/invoke/MethodHandle" ∧ y.cls ≠ "java/lang/invoke/VarHandle")
    {rm : Room} {as' : Array Value} {Qc : Option Value → Heap → List Loc → Prop}
    (hM : MetFree l z (head1 [Jvm.Cond.code z bytes maxL ret] rm) (fun a U => a = as' ∧ Z.Warmed39 U.vm ∧ U.heap = h) (fun _ _ _ _ _ => True) (fun _ U o U' => ∃ v L, o = .returned v ∧ Qc v U'.heap L ∧ FrameEnd U o U' L rm.cells rm.slots))
    (W : Nat) (hf : rm.frames + 1 ≤ R.frames) (hl : W + (maxL + 11) + rm.locals ≤ R.locals) (eT : T.heap = h) {a : Addr} (E : Exa Z h a C) (hsize : L.size = c.maxLocals) (argsL rest : List Value) (hlen : ∀ sig, parseMethodDescriptor y.desc = some sig → argsL.length = sig.parameters.length)
    (hst : S = argsL.reverse ++ .ref a :: rest) (has : (Value.ref a :: argsL).toArray = as') (hW : (rest.map fun v => v.category).sum ≤ W) (hd : decode c.code pc = .ok (.invokevirtual index, 3)) (hp : pc + 3 = pc') {cells' slots' : Nat} (hcc : cells + rm.cells = cells') (hss : slots + rm.slots = slots') (hcl : cells' ≤ R.cells) (hsl : slots' ≤ R.slots)
    (k : ∀ (v : Option Value) (T' : State) (L' : List Loc), Stand p l e R s m args below meth c T' (locs ++ L') cells' slots' → Qc v T'.heap L' → own_Gl p e below s Q kc ks (T'.setTop (mkF m pc' L (v.toList ++ rest)))) :
    own_Gl p e below s Q kc ks (T.setTop (mkF m pc L S)) := by
  subst hp hst hcc hss
  obtain ⟨cq, kq, qa, qb, qc⟩ := isOf hZ eT E
  obtain ⟨v, _, ⟨T', L', k', n'⟩, -, X', ⟨Lc, hQ, l', y', z'⟩, st⟩ := X.virtualBack hx (y := y) (z := z) hown (mvT hZ w1) (mvT hZ w2) nf (mvT hZ w5) (mvT hZ w6) hy (backOf (W := W) hM hZ w4 w3 hf hl) qa qc (g := mkF m pc L (argsL.reverse ++ .ref a :: rest)) rfl hsize (Steps.refl _) (argsL := argsL) (rest := rest) hlen rfl (by show 2 * 0 + _ ≤ _; omega) hd (fun _ _ => ⟨has, eT, hcl, hsl⟩)
  dsimp only [Pt.U, Pt.locs, Pt.cells, Pt.slots] at X' l' y' z' st hQ
  subst l' y' z'
  exact (k v T' Lc X' hQ).go fun t q => st.trans q
theorem own_nameL {n0 : Nat} (X : Stand p l e R s m args below meth c T locs cells slots) (N : Fr n0 locs) : ∃ lc, Fr n0 lc ∧ Stand p l e R s m args below meth c T lc cells slots := ⟨locs, N, X⟩
theorem own_nf {y : MethodName} {C : String} (hZ : Z.Warmed39 s.vm) (w5 : (Jvm.Cond.selects C y y).before a0 Z = true) : NotFace s y := notFace_of_selects (args := #[]) (mvT hZ w5)
end OwnHeap
def own_Q0 (n0 : Nat) (v : Option Value) (h : Heap) (L : List Loc) : Prop := v = some (.int 1) ∧ Fr n0 L
theorem d10_0 : decode method_2_code 0 = .ok (.iload_n 1, 1) := by decide +kernel
theorem d10_1 : decode method_2_code 1 = .ok (.iload_n 0, 1) := by decide +kernel
theorem d10_2 : decode method_2_code 2 = .ok (.if_icmp .ne 6, 3) := by decide +kernel
theorem d10_5 : decode method_2_code 5 = .ok (.iload 4, 2) := by decide +kernel
theorem d10_7 : decode method_2_code 7 = .ok (.ireturn, 1) := by decide +kernel
theorem d10_8 : decode method_2_code 8 = .ok (.iload_n 2, 1) := by decide +kernel
theorem d10_9 : decode method_2_code 9 = .ok (.iload_n 0, 1) := by decide +kernel
theorem d10_10 : decode method_2_code 10 = .ok (.if_icmp .ne 6, 3) := by decide +kernel
theorem d10_13 : decode method_2_code 13 = .ok (.iload 5, 2) := by decide +kernel
theorem d10_15 : decode method_2_code 15 = .ok (.ireturn, 1) := by decide +kernel
theorem d10_16 : decode method_2_code 16 = .ok (.iload_n 3, 1) := by decide +kernel
theorem d10_17 : decode method_2_code 17 = .ok (.iload_n 0, 1) := by decide +kernel
theorem d10_18 : decode method_2_code 18 = .ok (.if_icmp .ne 6, 3) := by decide +kernel
theorem d10_21 : decode method_2_code 21 = .ok (.iload 6, 2) := by decide +kernel
theorem d10_23 : decode method_2_code 23 = .ok (.ireturn, 1) := by decide +kernel
theorem d10_24 : decode method_2_code 24 = .ok (.iconst (-1), 1) := by decide +kernel
theorem d10_25 : decode method_2_code 25 = .ok (.ireturn, 1) := by decide +kernel
def f_first (x0 : Int32) (x1 : Int32) (x2 : Int32) (x3 : Int32) (x4 : Int32) (x5 : Int32) (x6 : Int32) : Int32 := (if x1 = x0 then x4 else (if x2 = x0 then x5 else (if x3 = x0 then x6 else (-1 : Int32))))
theorem pn_0 : plainName "com/example/tierstone/tierstone/PageListsAppendPinLaw" = true := by first | (simp [plainName, overriddenIn]; done) | decide +kernel
theorem ef_10 (m : MethodId) (x0 : Int32) (x1 : Int32) (x2 : Int32) (x3 : Int32) (x4 : Int32) (x5 : Int32) (x6 : Int32) : entryFrame m #[(.int x0), (.int x1), (.int x2), (.int x3), (.int x4), (.int x5), (.int x6)] 7 = mkF m 0 #[.val (.int x0), .val (.int x1), .val (.int x2), .val (.int x3), .val (.int x4), .val (.int x5), .val (.int x6)] [] := by first | (simp [entryFrame, mkF, argsToLocals, Value.category]; done) | rfl
set_option maxRecDepth 65536 in
set_option maxHeartbeats 40000000 in
theorem rm10 (l : Launch) (Z : State) (a0 : Array Value) (hw : ∀ d ∈ tables_1, d.before a0 Z = true) (ws : List Jvm.Cond) (x0 : Int32) (x1 : Int32) (x2 : Int32) (x3 : Int32) (x4 : Int32) (x5 : Int32) (x6 : Int32) (h0 : Heap) :
    MetFree l (⟨"com/example/tierstone/tierstone/PageListsAppendPinLaw", "firstIn", "(IIIIIII)I"⟩ : MethodName) (head1 (Jvm.Cond.code (⟨"com/example/tierstone/tierstone/PageListsAppendPinLaw", "firstIn", "(IIIIIII)I"⟩ : MethodName) method_2_code 7 (some .int) :: ws) ({ frames := 0, cells := 0, slots := 0, locals := 0 } : Room)) (fun a U => a = #[(.int x0), (.int x1), (.int x2), (.int x3), (.int x4), (.int x5), (.int x6)] ∧ Z.Warmed39 U.vm ∧ U.heap = h0) (fun _ _ _ _ _ => True) (fun _ U o U' => ∃ v L, o = .returned v ∧ (own_Pure (some (.int (f_first x0 x1 x2 x3 x4 x5 x6))) h0) v U'.heap L ∧ FrameEnd U o U' L ({ frames := 0, cells := 0, slots := 0, locals := 0 } : Room).cells ({ frames := 0, cells := 0, slots := 0, locals := 0 } : Room).slots) := by
  refine own_body (own := "com/example/tierstone/tierstone/PageListsAppendPinLaw") pn_0 rfl (fun m => ef_10 m x0 x1 x2 x3 x4 x5 x6) ?_
  intro p e s m below meth c T0 hx hby hml hown hnm hlk hret hZ X0 e0
  refine g_iloadN X0.here hx (Jvm.hb hby d10_0) (pc' := 1) rfl rfl ?_
  refine g_iloadN X0.here hx (Jvm.hb hby d10_1) (pc' := 2) rfl rfl ?_
  by_cases hc2_0 : x1 = x0
  · refine g_icN X0.here hx (Jvm.hb hby d10_2) (pc' := 5) rfl (teq hc2_0).2 ?_
    refine g_iload X0.here hx (Jvm.hb hby d10_5) (pc' := 7) rfl rfl ?_
    exact g_retI X0 hx hlk hret (Jvm.hb hby d10_7) (Nat.zero_le _) (Nat.zero_le _) ⟨by simp only [f_first, if_pos hc2_0], rfl, e0⟩
  · refine g_icY X0.here hx (Jvm.hb hby d10_2) (by decide) (pc' := 8) (by decide) (feq hc2_0).2 ?_
    refine g_iloadN X0.here hx (Jvm.hb hby d10_8) (pc' := 9) rfl rfl ?_
    refine g_iloadN X0.here hx (Jvm.hb hby d10_9) (pc' := 10) rfl rfl ?_
    by_cases hc10_1 : x2 = x0
    · refine g_icN X0.here hx (Jvm.hb hby d10_10) (pc' := 13) rfl (teq hc10_1).2 ?_
      refine g_iload X0.here hx (Jvm.hb hby d10_13) (pc' := 15) rfl rfl ?_
      exact g_retI X0 hx hlk hret (Jvm.hb hby d10_15) (Nat.zero_le _) (Nat.zero_le _) ⟨by simp only [f_first, if_neg hc2_0, if_pos hc10_1], rfl, e0⟩
    · refine g_icY X0.here hx (Jvm.hb hby d10_10) (by decide) (pc' := 16) (by decide) (feq hc10_1).2 ?_
      refine g_iloadN X0.here hx (Jvm.hb hby d10_16) (pc' := 17) rfl rfl ?_
      refine g_iloadN X0.here hx (Jvm.hb hby d10_17) (pc' := 18) rfl rfl ?_
      by_cases hc18_2 : x3 = x0
      · refine g_icN X0.here hx (Jvm.hb hby d10_18) (pc' := 21) rfl (teq hc18_2).2 ?_
        refine g_iload X0.here hx (Jvm.hb hby d10_21) (pc' := 23) rfl rfl ?_
        exact g_retI X0 hx hlk hret (Jvm.hb hby d10_23) (Nat.zero_le _) (Nat.zero_le _) ⟨by simp only [f_first, if_neg hc2_0, if_neg hc10_1, if_pos hc18_2], rfl, e0⟩
      · refine g_icY X0.here hx (Jvm.hb hby d10_18) (by decide) (pc' := 24) (by decide) (feq hc18_2).2 ?_
        refine g_iconst X0.here hx (Jvm.hb hby d10_24) (pc' := 25) rfl (z := (-1 : Int32)) rfl ?_
        exact g_retI X0 hx hlk hret (Jvm.hb hby d10_25) (Nat.zero_le _) (Nat.zero_le _) ⟨by simp only [f_first, if_neg hc2_0, if_neg hc10_1, if_neg hc18_2], rfl, e0⟩
def own_PF (Z : State) (h : Heap) (a : Addr) (f_list : Addr) (f_older : Addr) (f_newer : Addr) (f_oldest : Addr) (f_newest : Addr) (f_length : Addr) : Prop := Exa Z h a "com/example/tierstone/tierstone/PageLists" ∧ Fld Z h a "com/example/tierstone/tierstone/PageLists" "list" "[B" (.ref f_list) ∧ Fld Z h a "com/example/tierstone/tierstone/PageLists" "older" "[I" (.ref f_older) ∧ Fld Z h a "com/example/tierstone/tierstone/PageLists" "newer" "[I" (.ref f_newer) ∧ Fld Z h a "com/example/tierstone/tierstone/PageLists" "oldest" "[I" (.ref f_oldest) ∧ Fld Z h a "com/example/tierstone/tierstone/PageLists" "newest" "[I" (.ref f_newest) ∧ Fld Z h a "com/example/tierstone/tierstone/PageLists" "length" "[I" (.ref f_length)
def own_up (st : Nat → Nat → Int32) (k i : Nat) (v : Int32) : Nat → Nat → Int32 := fun k' i' => if k' = k ∧ i' = i then v else st k' i'
def own_PL (Z : State) (h : Heap) (a r0 r1 r2 r3 r4 r5 : Addr) (st : Nat → Nat → Int32) : Prop := own_PF Z h a r0 r1 r2 r3 r4 r5 ∧ own_IA Z h r0 .byte 8 (st 0) ∧ own_IA Z h r1 .int 8 (st 1) ∧ own_IA Z h r2 .int 8 (st 2) ∧ own_IA Z h r3 .int 2 (st 3) ∧ own_IA Z h r4 .int 2 (st 4) ∧ own_IA Z h r5 .int 2 (st 5)
def own_Q3 (Z : State) (n0 : Nat) (x0 : Addr) (x1 : Int32) (n : Nat) (h0 : Heap) (v : Option Value) (h : Heap) (L : List Loc) : Prop := v = none ∧ Fr n0 L ∧ Keep h0 h [x0] ∧ own_IA Z h x0 .byte n (fun _ => x1.toInt8.toInt32)
theorem d3_0 : decode jdk_65_method_109_code 0 = .ok (.iconst 0, 1) := by decide +kernel
theorem d3_1 : decode jdk_65_method_109_code 1 = .ok (.istore_n 2, 1) := by decide +kernel
theorem d3_2 : decode jdk_65_method_109_code 2 = .ok (.aload_n 0, 1) := by decide +kernel
theorem d3_3 : decode jdk_65_method_109_code 3 = .ok (.arraylength, 1) := by decide +kernel
theorem d3_4 : decode jdk_65_method_109_code 4 = .ok (.istore_n 3, 1) := by decide +kernel
theorem d3_5 : decode jdk_65_method_109_code 5 = .ok (.iload_n 2, 1) := by decide +kernel
theorem d3_6 : decode jdk_65_method_109_code 6 = .ok (.iload_n 3, 1) := by decide +kernel
theorem d3_7 : decode jdk_65_method_109_code 7 = .ok (.if_icmp .ge 13, 3) := by decide +kernel
theorem d3_20 : decode jdk_65_method_109_code 20 = .ok (.return_, 1) := by decide +kernel
theorem d3_10 : decode jdk_65_method_109_code 10 = .ok (.aload_n 0, 1) := by decide +kernel
theorem d3_11 : decode jdk_65_method_109_code 11 = .ok (.iload_n 2, 1) := by decide +kernel
theorem d3_12 : decode jdk_65_method_109_code 12 = .ok (.iload_n 1, 1) := by decide +kernel
theorem d3_13 : decode jdk_65_method_109_code 13 = .ok (.bastore, 1) := by decide +kernel
theorem d3_14 : decode jdk_65_method_109_code 14 = .ok (.iinc 2 1, 3) := by decide +kernel
theorem d3_17 : decode jdk_65_method_109_code 17 = .ok (.goto (-12), 3) := by decide +kernel
theorem pn_1 : plainName "java/util/Arrays" = true := by first | (simp [plainName, overriddenIn]; done) | decide +kernel
theorem ef_3 (m : MethodId) (x0 : Addr) (x1 : Int32) : entryFrame m #[(.ref x0), (.int x1)] 4 = mkF m 0 #[.val (.ref x0), .val (.int x1), .unset, .unset] [] := by first | (simp [entryFrame, mkF, argsToLocals, Value.category]; done) | rfl
set_option maxRecDepth 65536 in
set_option maxHeartbeats 40000000 in
theorem rm3 (l : Launch) (Z : State) (a0 : Array Value) (hw : ∀ d ∈ tables_1, d.before a0 Z = true) (ws : List Jvm.Cond) (x0 : Addr) (x1 : Int32) (n : Nat) (f : Nat → Int32) (h0 : Heap) (n0 : Nat) (Z0 : n0 ≤ h0.size) (g0 : n0 ≤ x0) (V0 : own_IA Z h0 x0 .byte n f) (hb : n ≤ 1000000) :
    MetFree l (⟨"java/util/Arrays", "fill", "([BB)V"⟩ : MethodName) (head1 (Jvm.Cond.code (⟨"java/util/Arrays", "fill", "([BB)V"⟩ : MethodName) jdk_65_method_109_code 4 none :: ws) ({ frames := 0, cells := 0, slots := 0, locals := 0 } : Room)) (fun a U => a = #[(.ref x0), (.int x1)] ∧ Z.Warmed39 U.vm ∧ U.heap = h0) (fun _ _ _ _ _ => True) (fun _ U o U' => ∃ v L, o = .returned v ∧ (own_Q3 Z n0 x0 x1 n h0) v U'.heap L ∧ FrameEnd U o U' L ({ frames := 0, cells := 0, slots := 0, locals := 0 } : Room).cells ({ frames := 0, cells := 0, slots := 0, locals := 0 } : Room).slots) := by
  refine own_body (own := "java/util/Arrays") pn_1 rfl (fun m => ef_3 m x0 x1) ?_
  intro p e s m below meth c T0 hx hby hml hown hnm hlk hret hZ X0 e0
  have N0 := Fr.nil n0
  have hn : (n.toInt32).toInt = n := len_toInt (by omega)
  refine g_iconst X0.here hx (Jvm.hb hby d3_0) (pc' := 1) rfl (z := (0 : Int32)) rfl ?_
  refine g_istoreN X0.here hx (Jvm.hb hby d3_1) (pc' := 2) rfl (L' := #[.val (.ref x0), .val (.int x1), .val (.int (0 : Int32)), .unset]) rfl ?_
  refine g_aloadN X0.here hx (Jvm.hb hby d3_2) (pc' := 3) rfl rfl rfl ?_
  refine g_arraylength X0 hx hZ e0 V0 (z := n.toInt32) rfl (Jvm.hb hby d3_3) (pc' := 4) rfl ?_
  refine g_istoreN X0.here hx (Jvm.hb hby d3_4) (pc' := 5) rfl (L' := #[.val (.ref x0), .val (.int x1), .val (.int (0 : Int32)), .val (.int n.toInt32)]) rfl ?_
  have lp : ∀ (k : Nat), ∀ (Tk1 : State), ∀ (hk1 : Heap), ∀ (lck1 : List Loc), ∀ (Xk1 : Stand p l e ({ frames := 0, cells := 0, slots := 0, locals := 0 } : Room) s m #[(.ref x0), (.int x1)] below meth c Tk1 lck1 0 0), ∀ (ek1 : Tk1.heap = hk1), ∀ (Nk1 : Fr n0 lck1), ∀ (Zk1 : n0 ≤ hk1.size), ∀ (g : Nat → Int32), ∀ (Fk1_0 : own_IA Z hk1 x0 .byte n g), ∀ (i : Nat), ∀ (iv : Int32), ∀ (KK : Keep h0 hk1 [x0]), ∀ (hg : ∀ j, j < i → g j = x1.toInt8.toInt32), ∀ (hiv : iv.toInt = i), ∀ (hik : i + k = n), own_Gl p e below s (own_Q3 Z n0 x0 x1 n h0) ({ frames := 0, cells := 0, slots := 0, locals := 0 } : Room).cells ({ frames := 0, cells := 0, slots := 0, locals := 0 } : Room).slots (Tk1.setTop (mkF m 5 #[.val (.ref x0), .val (.int x1), .val (.int iv), .val (.int n.toInt32)] [])) := by
    intro k
    induction k with
    | zero =>
      intro Tk1 hk1 lck1 Xk1 ek1 Nk1 Zk1 g Fk1_0 i iv KK hg hiv hik
      refine g_iloadN Xk1.here hx (Jvm.hb hby d3_5) (pc' := 6) rfl rfl ?_
      refine g_iloadN Xk1.here hx (Jvm.hb hby d3_6) (pc' := 7) rfl rfl ?_
      refine g_icY Xk1.here hx (Jvm.hb hby d3_7) (by decide) (pc' := 20) (by decide) (flt (by rw [Int32.lt_iff_toInt_lt, hn]; omega)).2.1 ?_
      exact g_retV Xk1 hx hlk hret (Jvm.hb hby d3_20) (Nat.zero_le _) (Nat.zero_le _) (by rw [ek1]; exact ⟨rfl, Nk1, KK, Fk1_0.congr (fun j hj => hg j (by omega))⟩)
    | succ k ih =>
      intro Tk1 hk1 lck1 Xk1 ek1 Nk1 Zk1 g Fk1_0 i iv KK hg hiv hik
      refine g_iloadN Xk1.here hx (Jvm.hb hby d3_5) (pc' := 6) rfl rfl ?_
      refine g_iloadN Xk1.here hx (Jvm.hb hby d3_6) (pc' := 7) rfl rfl ?_
      refine g_icN Xk1.here hx (Jvm.hb hby d3_7) (pc' := 10) rfl (tlt (by rw [Int32.lt_iff_toInt_lt, hn]; omega)).2.1 ?_
      refine g_aloadN Xk1.here hx (Jvm.hb hby d3_10) (pc' := 11) rfl rfl rfl ?_
      refine g_iloadN Xk1.here hx (Jvm.hb hby d3_11) (pc' := 12) rfl rfl ?_
      refine g_iloadN Xk1.here hx (Jvm.hb hby d3_12) (pc' := 13) rfl rfl ?_
      refine g_bastore Xk1 hx hZ ek1 Fk1_0 (by omega) (Jvm.hb hby d3_13) (pc' := 14) rfl ?_
      intro T2 hh2 X2 e2 W2 V2
      have N2 := Fr.snoc X2 Nk1 g0
      have Z3 : n0 ≤ hh2.size := (by rw [W2.size]; exact Zk1)
      refine g_iinc X2.here hx (Jvm.hb hby d3_14) (pc' := 17) rfl (z := (1 : Int32)) rfl rfl (L' := #[.val (.ref x0), .val (.int x1), .val (.int (iv + (1 : Int32))), .val (.int n.toInt32)]) rfl ?_
      refine g_goto X2.here hx (Jvm.hb hby d3_17) (by decide) (pc' := 5) (by decide) ?_
      refine ih T2 hh2 _ X2 e2 N2 Z3 _ V2 (i + 1) _ (KK.wr W2 (Or.inl (List.mem_of_getElem? (i := 0) rfl))) (fun j hj => ?_) ?_ (by omega)
      · by_cases q : j = iv.toNatClampNeg
        · exact if_pos q
        · exact (if_neg q).trans (hg j (by rw [own_clamp] at q; omega))
      · have e := c_iadd iv 1
        have r := rng32 (iv + 1)
        simp only [Int32.reduceToInt] at e
        omega
  exact lp n T0 h0 [] X0 e0 N0 Z0 f V0 0 (0 : Int32) (Keep.refl h0 [x0]) (fun j hj => absurd hj (Nat.not_lt_zero j)) (by decide) (by omega)
def own_Q4 (Z : State) (n0 : Nat) (x0 : Addr) (x1 : Int32) (n : Nat) (h0 : Heap) (v : Option Value) (h : Heap) (L : List Loc) : Prop := v = none ∧ Fr n0 L ∧ Keep h0 h [x0] ∧ own_IA Z h x0 .int n (fun _ => x1)
theorem d4_0 : decode jdk_65_method_103_code 0 = .ok (.iconst 0, 1) := by decide +kernel
theorem d4_1 : decode jdk_65_method_103_code 1 = .ok (.istore_n 2, 1) := by decide +kernel
theorem d4_2 : decode jdk_65_method_103_code 2 = .ok (.aload_n 0, 1) := by decide +kernel
theorem d4_3 : decode jdk_65_method_103_code 3 = .ok (.arraylength, 1) := by decide +kernel
theorem d4_4 : decode jdk_65_method_103_code 4 = .ok (.istore_n 3, 1) := by decide +kernel
theorem d4_5 : decode jdk_65_method_103_code 5 = .ok (.iload_n 2, 1) := by decide +kernel
theorem d4_6 : decode jdk_65_method_103_code 6 = .ok (.iload_n 3, 1) := by decide +kernel
theorem d4_7 : decode jdk_65_method_103_code 7 = .ok (.if_icmp .ge 13, 3) := by decide +kernel
theorem d4_20 : decode jdk_65_method_103_code 20 = .ok (.return_, 1) := by decide +kernel
theorem d4_10 : decode jdk_65_method_103_code 10 = .ok (.aload_n 0, 1) := by decide +kernel
theorem d4_11 : decode jdk_65_method_103_code 11 = .ok (.iload_n 2, 1) := by decide +kernel
theorem d4_12 : decode jdk_65_method_103_code 12 = .ok (.iload_n 1, 1) := by decide +kernel
theorem d4_13 : decode jdk_65_method_103_code 13 = .ok (.iastore, 1) := by decide +kernel
theorem d4_14 : decode jdk_65_method_103_code 14 = .ok (.iinc 2 1, 3) := by decide +kernel
theorem d4_17 : decode jdk_65_method_103_code 17 = .ok (.goto (-12), 3) := by decide +kernel
theorem ef_4 (m : MethodId) (x0 : Addr) (x1 : Int32) : entryFrame m #[(.ref x0), (.int x1)] 4 = mkF m 0 #[.val (.ref x0), .val (.int x1), .unset, .unset] [] := by first | (simp [entryFrame, mkF, argsToLocals, Value.category]; done) | rfl
set_option maxRecDepth 65536 in
set_option maxHeartbeats 40000000 in
theorem rm4 (l : Launch) (Z : State) (a0 : Array Value) (hw : ∀ d ∈ tables_1, d.before a0 Z = true) (ws : List Jvm.Cond) (x0 : Addr) (x1 : Int32) (n : Nat) (f : Nat → Int32) (h0 : Heap) (n0 : Nat) (Z0 : n0 ≤ h0.size) (g0 : n0 ≤ x0) (V0 : own_IA Z h0 x0 .int n f) (hb : n ≤ 1000000) :
    MetFree l (⟨"java/util/Arrays", "fill", "([II)V"⟩ : MethodName) (head1 (Jvm.Cond.code (⟨"java/util/Arrays", "fill", "([II)V"⟩ : MethodName) jdk_65_method_103_code 4 none :: ws) ({ frames := 0, cells := 0, slots := 0, locals := 0 } : Room)) (fun a U => a = #[(.ref x0), (.int x1)] ∧ Z.Warmed39 U.vm ∧ U.heap = h0) (fun _ _ _ _ _ => True) (fun _ U o U' => ∃ v L, o = .returned v ∧ (own_Q4 Z n0 x0 x1 n h0) v U'.heap L ∧ FrameEnd U o U' L ({ frames := 0, cells := 0, slots := 0, locals := 0 } : Room).cells ({ frames := 0, cells := 0, slots := 0, locals := 0 } : Room).slots) := by
  refine own_body (own := "java/util/Arrays") pn_1 rfl (fun m => ef_4 m x0 x1) ?_
  intro p e s m below meth c T0 hx hby hml hown hnm hlk hret hZ X0 e0
  have N0 := Fr.nil n0
  have hn : (n.toInt32).toInt = n := len_toInt (by omega)
  refine g_iconst X0.here hx (Jvm.hb hby d4_0) (pc' := 1) rfl (z := (0 : Int32)) rfl ?_
  refine g_istoreN X0.here hx (Jvm.hb hby d4_1) (pc' := 2) rfl (L' := #[.val (.ref x0), .val (.int x1), .val (.int (0 : Int32)), .unset]) rfl ?_
  refine g_aloadN X0.here hx (Jvm.hb hby d4_2) (pc' := 3) rfl rfl rfl ?_
  refine g_arraylength X0 hx hZ e0 V0 (z := n.toInt32) rfl (Jvm.hb hby d4_3) (pc' := 4) rfl ?_
  refine g_istoreN X0.here hx (Jvm.hb hby d4_4) (pc' := 5) rfl (L' := #[.val (.ref x0), .val (.int x1), .val (.int (0 : Int32)), .val (.int n.toInt32)]) rfl ?_
  have lp : ∀ (k : Nat), ∀ (Tk1 : State), ∀ (hk1 : Heap), ∀ (lck1 : List Loc), ∀ (Xk1 : Stand p l e ({ frames := 0, cells := 0, slots := 0, locals := 0 } : Room) s m #[(.ref x0), (.int x1)] below meth c Tk1 lck1 0 0), ∀ (ek1 : Tk1.heap = hk1), ∀ (Nk1 : Fr n0 lck1), ∀ (Zk1 : n0 ≤ hk1.size), ∀ (g : Nat → Int32), ∀ (Fk1_0 : own_IA Z hk1 x0 .int n g), ∀ (i : Nat), ∀ (iv : Int32), ∀ (KK : Keep h0 hk1 [x0]), ∀ (hg : ∀ j, j < i → g j = x1), ∀ (hiv : iv.toInt = i), ∀ (hik : i + k = n), own_Gl p e below s (own_Q4 Z n0 x0 x1 n h0) ({ frames := 0, cells := 0, slots := 0, locals := 0 } : Room).cells ({ frames := 0, cells := 0, slots := 0, locals := 0 } : Room).slots (Tk1.setTop (mkF m 5 #[.val (.ref x0), .val (.int x1), .val (.int iv), .val (.int n.toInt32)] [])) := by
    intro k
    induction k with
    | zero =>
      intro Tk1 hk1 lck1 Xk1 ek1 Nk1 Zk1 g Fk1_0 i iv KK hg hiv hik
      refine g_iloadN Xk1.here hx (Jvm.hb hby d4_5) (pc' := 6) rfl rfl ?_
      refine g_iloadN Xk1.here hx (Jvm.hb hby d4_6) (pc' := 7) rfl rfl ?_
      refine g_icY Xk1.here hx (Jvm.hb hby d4_7) (by decide) (pc' := 20) (by decide) (flt (by rw [Int32.lt_iff_toInt_lt, hn]; omega)).2.1 ?_
      exact g_retV Xk1 hx hlk hret (Jvm.hb hby d4_20) (Nat.zero_le _) (Nat.zero_le _) (by rw [ek1]; exact ⟨rfl, Nk1, KK, Fk1_0.congr (fun j hj => hg j (by omega))⟩)
    | succ k ih =>
      intro Tk1 hk1 lck1 Xk1 ek1 Nk1 Zk1 g Fk1_0 i iv KK hg hiv hik
      refine g_iloadN Xk1.here hx (Jvm.hb hby d4_5) (pc' := 6) rfl rfl ?_
      refine g_iloadN Xk1.here hx (Jvm.hb hby d4_6) (pc' := 7) rfl rfl ?_
      refine g_icN Xk1.here hx (Jvm.hb hby d4_7) (pc' := 10) rfl (tlt (by rw [Int32.lt_iff_toInt_lt, hn]; omega)).2.1 ?_
      refine g_aloadN Xk1.here hx (Jvm.hb hby d4_10) (pc' := 11) rfl rfl rfl ?_
      refine g_iloadN Xk1.here hx (Jvm.hb hby d4_11) (pc' := 12) rfl rfl ?_
      refine g_iloadN Xk1.here hx (Jvm.hb hby d4_12) (pc' := 13) rfl rfl ?_
      refine g_iastore Xk1 hx hZ ek1 Fk1_0 (by omega) (Jvm.hb hby d4_13) (pc' := 14) rfl ?_
      intro T2 hh2 X2 e2 W2 V2
      have N2 := Fr.snoc X2 Nk1 g0
      have Z3 : n0 ≤ hh2.size := (by rw [W2.size]; exact Zk1)
      refine g_iinc X2.here hx (Jvm.hb hby d4_14) (pc' := 17) rfl (z := (1 : Int32)) rfl rfl (L' := #[.val (.ref x0), .val (.int x1), .val (.int (iv + (1 : Int32))), .val (.int n.toInt32)]) rfl ?_
      refine g_goto X2.here hx (Jvm.hb hby d4_17) (by decide) (pc' := 5) (by decide) ?_
      refine ih T2 hh2 _ X2 e2 N2 Z3 _ V2 (i + 1) _ (KK.wr W2 (Or.inl (List.mem_of_getElem? (i := 0) rfl))) (fun j hj => ?_) ?_ (by omega)
      · by_cases q : j = iv.toNatClampNeg
        · exact if_pos q
        · exact (if_neg q).trans (hg j (by rw [own_clamp] at q; omega))
      · have e := c_iadd iv 1
        have r := rng32 (iv + 1)
        simp only [Int32.reduceToInt] at e
        omega
  exact lp n T0 h0 [] X0 e0 N0 Z0 f V0 0 (0 : Int32) (Keep.refl h0 [x0]) (fun j hj => absurd hj (Nat.not_lt_zero j)) (by decide) (by omega)
def own_st0 : Nat → Nat → Int32 := fun k _ => if k = 0 ∨ k = 3 ∨ k = 4 then (-1 : Int32) else (0 : Int32)
def own_Q1 (Z : State) (n0 : Nat) (x0 : Nat) (h0 : Heap) (v : Option Value) (h : Heap) (L : List Loc) : Prop := v = none ∧ Fr n0 L ∧ Keep h0 h [x0] ∧ ∃ r0 r1 r2 r3 r4 r5 : Nat, (x0 < r0 ∧ r0 < r1 ∧ r1 < r2 ∧ r2 < r3 ∧ r3 < r4 ∧ r4 < r5) ∧ own_PL Z h x0 r0 r1 r2 r3 r4 r5 own_st0
theorem d1_0 : decode prog_64_method_1_code 0 = .ok (.aload_n 0, 1) := by decide +kernel
theorem d1_1 : decode prog_64_method_1_code 1 = .ok (.invokespecial 1, 3) := by decide +kernel
theorem d1_4 : decode prog_64_method_1_code 4 = .ok (.aload_n 0, 1) := by decide +kernel
theorem d1_5 : decode prog_64_method_1_code 5 = .ok (.iload_n 2, 1) := by decide +kernel
theorem d1_6 : decode prog_64_method_1_code 6 = .ok (.newarray .byte, 2) := by decide +kernel
theorem d1_8 : decode prog_64_method_1_code 8 = .ok (.putfield 7, 3) := by decide +kernel
theorem d1_11 : decode prog_64_method_1_code 11 = .ok (.aload_n 0, 1) := by decide +kernel
theorem d1_12 : decode prog_64_method_1_code 12 = .ok (.getfield 7, 3) := by decide +kernel
theorem d1_15 : decode prog_64_method_1_code 15 = .ok (.iconst (-1), 1) := by decide +kernel
theorem d1_16 : decode prog_64_method_1_code 16 = .ok (.invokestatic 13, 3) := by decide +kernel
theorem pd_0 : parseMethodDescriptor "([BB)V" = some ⟨[(.array .byte), .byte], none⟩ := by decide +kernel
theorem d1_19 : decode prog_64_method_1_code 19 = .ok (.aload_n 0, 1) := by decide +kernel
theorem d1_20 : decode prog_64_method_1_code 20 = .ok (.iload_n 2, 1) := by decide +kernel
theorem d1_21 : decode prog_64_method_1_code 21 = .ok (.newarray .int, 2) := by decide +kernel
theorem d1_23 : decode prog_64_method_1_code 23 = .ok (.putfield 19, 3) := by decide +kernel
theorem d1_26 : decode prog_64_method_1_code 26 = .ok (.aload_n 0, 1) := by decide +kernel
theorem d1_27 : decode prog_64_method_1_code 27 = .ok (.iload_n 2, 1) := by decide +kernel
theorem d1_28 : decode prog_64_method_1_code 28 = .ok (.newarray .int, 2) := by decide +kernel
theorem d1_30 : decode prog_64_method_1_code 30 = .ok (.putfield 23, 3) := by decide +kernel
theorem d1_33 : decode prog_64_method_1_code 33 = .ok (.aload_n 0, 1) := by decide +kernel
theorem d1_34 : decode prog_64_method_1_code 34 = .ok (.iload_n 1, 1) := by decide +kernel
theorem d1_35 : decode prog_64_method_1_code 35 = .ok (.newarray .int, 2) := by decide +kernel
theorem d1_37 : decode prog_64_method_1_code 37 = .ok (.putfield 26, 3) := by decide +kernel
theorem d1_40 : decode prog_64_method_1_code 40 = .ok (.aload_n 0, 1) := by decide +kernel
theorem d1_41 : decode prog_64_method_1_code 41 = .ok (.iload_n 1, 1) := by decide +kernel
theorem d1_42 : decode prog_64_method_1_code 42 = .ok (.newarray .int, 2) := by decide +kernel
theorem d1_44 : decode prog_64_method_1_code 44 = .ok (.putfield 29, 3) := by decide +kernel
theorem d1_47 : decode prog_64_method_1_code 47 = .ok (.aload_n 0, 1) := by decide +kernel
theorem d1_48 : decode prog_64_method_1_code 48 = .ok (.getfield 26, 3) := by decide +kernel
theorem d1_51 : decode prog_64_method_1_code 51 = .ok (.iconst (-1), 1) := by decide +kernel
theorem d1_52 : decode prog_64_method_1_code 52 = .ok (.invokestatic 32, 3) := by decide +kernel
theorem pd_1 : parseMethodDescriptor "([II)V" = some ⟨[(.array .int), .int], none⟩ := by decide +kernel
theorem d1_55 : decode prog_64_method_1_code 55 = .ok (.aload_n 0, 1) := by decide +kernel
theorem d1_56 : decode prog_64_method_1_code 56 = .ok (.getfield 29, 3) := by decide +kernel
theorem d1_59 : decode prog_64_method_1_code 59 = .ok (.iconst (-1), 1) := by decide +kernel
theorem d1_60 : decode prog_64_method_1_code 60 = .ok (.invokestatic 32, 3) := by decide +kernel
theorem d1_63 : decode prog_64_method_1_code 63 = .ok (.aload_n 0, 1) := by decide +kernel
theorem d1_64 : decode prog_64_method_1_code 64 = .ok (.iload_n 1, 1) := by decide +kernel
theorem d1_65 : decode prog_64_method_1_code 65 = .ok (.newarray .int, 2) := by decide +kernel
theorem d1_67 : decode prog_64_method_1_code 67 = .ok (.putfield 35, 3) := by decide +kernel
theorem d1_70 : decode prog_64_method_1_code 70 = .ok (.return_, 1) := by decide +kernel
theorem pn_2 : plainName "com/example/tierstone/tierstone/PageLists" = true := by first | (simp [plainName, overriddenIn]; done) | decide +kernel
theorem ef_1 (m : MethodId) (x0 : Addr) (x1 : Int32) (x2 : Int32) : entryFrame m #[(.ref x0), (.int x1), (.int x2)] 3 = mkF m 0 #[.val (.ref x0), .val (.int x1), .val (.int x2)] [] := by first | (simp [entryFrame, mkF, argsToLocals, Value.category]; done) | rfl
set_option maxRecDepth 65536 in
set_option maxHeartbeats 40000000 in
theorem rm1 (l : Launch) (Z : State) (a0 : Array Value) (hw : ∀ d ∈ tables_1, d.before a0 Z = true) (ws : List Jvm.Cond) (x0 : Addr) (x1 x2 : Int32) (h0 : Heap) (n0 : Nat) (Z0 : n0 ≤ h0.size) (g0 : n0 ≤ x0) (E0 : Exa Z h0 x0 "com/example/tierstone/tierstone/PageLists") (F_list : Fld Z h0 x0 "com/example/tierstone/tierstone/PageLists" "list" "[B" .null) (F_older : Fld Z h0 x0 "com/example/tierstone/tierstone/PageLists" "older" "[I" .null) (F_newer : Fld Z h0 x0 "com/example/tierstone/tierstone/PageLists" "newer" "[I" .null) (F_oldest : Fld Z h0 x0 "com/example/tierstone/tierstone/PageLists" "oldest" "[I" .null) (F_newest : Fld Z h0 x0 "com/example/tierstone/tierstone/PageLists" "newest" "[I" .null) (F_length : Fld Z h0 x0 "com/example/tierstone/tierstone/PageLists" "length" "[I" .null) (h1 : x1.toInt = ((2 : Nat) : Int)) (h2 : x2.toInt = ((8 : Nat) : Int)) :
    MetFree l (⟨"com/example/tierstone/tierstone/PageLists", "<init>", "(II)V"⟩ : MethodName) (head1 (Jvm.Cond.code (⟨"com/example/tierstone/tierstone/PageLists", "<init>", "(II)V"⟩ : MethodName) prog_64_method_1_code 3 none :: ws) ({ frames := 1, cells := 6, slots := 30, locals := 17 } : Room)) (fun a U => a = #[(.ref x0), (.int x1), (.int x2)] ∧ Z.Warmed39 U.vm ∧ U.heap = h0) (fun _ _ _ _ _ => True) (fun _ U o U' => ∃ v L, o = .returned v ∧ (own_Q1 Z n0 x0 h0) v U'.heap L ∧ FrameEnd U o U' L ({ frames := 1, cells := 6, slots := 30, locals := 17 } : Room).cells ({ frames := 1, cells := 6, slots := 30, locals := 17 } : Room).slots) := by
  refine own_body (own := "com/example/tierstone/tierstone/PageLists") pn_2 rfl (fun m => ef_1 m x0 x1 x2) ?_
  intro p e s m below meth c T0 hx hby hml hown hnm hlk hret hZ X0 e0
  have w_2 := hw _ (List.mem_of_getElem? (i := 2) rfl)
  have w_7 := hw _ (List.mem_of_getElem? (i := 7) rfl)
  have w_8 := hw _ (List.mem_of_getElem? (i := 8) rfl)
  have w_9 := hw _ (List.mem_of_getElem? (i := 9) rfl)
  have w_10 := hw _ (List.mem_of_getElem? (i := 10) rfl)
  have w_11 := hw _ (List.mem_of_getElem? (i := 11) rfl)
  have w_12 := hw _ (List.mem_of_getElem? (i := 12) rfl)
  have w_13 := hw _ (List.mem_of_getElem? (i := 13) rfl)
  have w_14 := hw _ (List.mem_of_getElem? (i := 14) rfl)
  have w_15 := hw _ (List.mem_of_getElem? (i := 15) rfl)
  have w_16 := hw _ (List.mem_of_getElem? (i := 16) rfl)
  have w_17 := hw _ (List.mem_of_getElem? (i := 17) rfl)
  have w_18 := hw _ (List.mem_of_getElem? (i := 18) rfl)
  have w_19 := hw _ (List.mem_of_getElem? (i := 19) rfl)
  have w_20 := hw _ (List.mem_of_getElem? (i := 20) rfl)
  have w_21 := hw _ (List.mem_of_getElem? (i := 21) rfl)
  have w_22 := hw _ (List.mem_of_getElem? (i := 22) rfl)
  have w_23 := hw _ (List.mem_of_getElem? (i := 23) rfl)
  have w_24 := hw _ (List.mem_of_getElem? (i := 24) rfl)
  have w_25 := hw _ (List.mem_of_getElem? (i := 25) rfl)
  have w_26 := hw _ (List.mem_of_getElem? (i := 26) rfl)
  have w_27 := hw _ (List.mem_of_getElem? (i := 27) rfl)
  have w_28 := hw _ (List.mem_of_getElem? (i := 28) rfl)
  have w_29 := hw _ (List.mem_of_getElem? (i := 29) rfl)
  have w_30 := hw _ (List.mem_of_getElem? (i := 30) rfl)
  have N0 := Fr.nil n0
  have s_x0 := E0.lt
  refine g_aloadN X0.here hx (Jvm.hb hby d1_0) (pc' := 1) rfl rfl rfl ?_
  refine g_initO X0 hx hZ hown w_7 w_8 w_9 e0 (by rw [hml]; rfl) (Jvm.hb hby d1_1) (pc' := 4) rfl (by decide) 0 (by decide) (by decide) ?_
  intro T1 X1 e1
  refine g_aloadN X1.here hx (Jvm.hb hby d1_4) (pc' := 5) rfl rfl rfl ?_
  refine g_iloadN X1.here hx (Jvm.hb hby d1_5) (pc' := 6) rfl rfl ?_
  refine g_newarr X1 hx hZ (ty := .byte) rfl rfl w_10 e1 (Jvm.hb hby d1_6) (pc' := 8) rfl (n := 8) h2 8 (by decide) (by decide) (cells' := 1) (slots' := 8) rfl rfl (by decide) (by decide) ?_
  intro T2 hh2 ad2 gb2 X2 e2 E2 V2
  have g_ad2 : n0 ≤ ad2 := by rw [gb2]; exact Z0
  have sz_ad2 : h0.size ≤ ad2 := by rw [gb2]; exact (Nat.le_refl _)
  have lt_x0_ad2 : @LT.lt Nat _ x0 ad2 := by rw [gb2]; exact E0.lt
  have ne_x0_ad2 : x0 ≠ ad2 := Nat.ne_of_lt lt_x0_ad2
  have Z3 : n0 ≤ hh2.size := Nat.le_trans Z0 E2.1
  have z4 : h0.size ≤ hh2.size := Nat.le_trans (Nat.le_refl _) E2.1
  have F5 := (F_list.ext E2)
  have F6 := (E0.ext E2)
  refine g_putF X2 hx hZ hown (host := "") (Or.inl w_11) Via.refl e2 F5 F6 (Or.inr ⟨w_12, rfl, hnm⟩) w_2 (ty := (.array .byte)) (by decide) rfl rfl (Jvm.hb hby d1_8) (pc' := 11) rfl ?_
  intro T7 hh7 X7 e7 W7
  have Fw7 := F5.same W7
  have N7 := Fr.snoc X7 N0 g0
  have Z8 : n0 ≤ hh7.size := (by rw [W7.size]; exact Z3)
  have z9 : h0.size ≤ hh7.size := (by rw [W7.size]; exact z4)
  refine g_aloadN X7.here hx (Jvm.hb hby d1_11) (pc' := 12) rfl rfl rfl ?_
  refine g_getF X7 hx hZ hown (host := "") (Or.inl w_11) Via.refl e7 Fw7 (Jvm.hb hby d1_12) (pc' := 15) rfl ?_
  intro T10 X10 e10
  refine g_iconst X10.here hx (Jvm.hb hby d1_15) (pc' := 16) rfl (z := (-1 : Int32)) rfl ?_
  have F11 := (V2.other W7 (Ne.symm ne_x0_ad2))
  refine g_callS X10 hx hZ hown w_13 w_14 w_15 w_16 (by decide) (rm3 l Z a0 hw [] ad2 (-1 : Int32) 8 _ hh7 n0 Z8 g_ad2 F11 (by decide)) 0 (by decide) (by decide) e10 (by rw [hml]; rfl) [(.ref ad2), (.int (-1 : Int32))] [] (lenOf pd_0 rfl) rfl rfl (Nat.le_of_eq rfl) (Jvm.hb hby d1_16) (pc' := 19) rfl (cells' := 1) (slots' := 8) rfl rfl (by decide) (by decide) ?_
  intro v12 T12 L12 X12 hQ12
  obtain ⟨rfl, Nq12, K12, Vq12⟩ := hQ12
  have N12 := Fr.app N7 Nq12
  have Z13 : n0 ≤ T12.heap.size := Nat.le_trans Z8 K12.1
  have z14 : h0.size ≤ T12.heap.size := Nat.le_trans z9 K12.1
  show own_Gl p e below s (own_Q1 Z n0 x0 h0) ({ frames := 1, cells := 6, slots := 30, locals := 17 } : Room).cells ({ frames := 1, cells := 6, slots := 30, locals := 17 } : Room).slots (T12.setTop (mkF m 19 #[.val (.ref x0), .val (.int x1), .val (.int x2)] []))
  refine g_aloadN X12.here hx (Jvm.hb hby d1_19) (pc' := 20) rfl rfl rfl ?_
  refine g_iloadN X12.here hx (Jvm.hb hby d1_20) (pc' := 21) rfl rfl ?_
  have F15 := (Fw7.keep K12 (ninS ne_x0_ad2 nin0))
  refine g_newarr X12 hx hZ (ty := .int) rfl rfl w_17 rfl (Jvm.hb hby d1_21) (pc' := 23) rfl (n := 8) h2 8 (by decide) (by decide) (cells' := 2) (slots' := 16) rfl rfl (by decide) (by decide) ?_
  intro T16 hh16 ad16 gb16 X16 e16 E16 V16
  have g_ad16 : n0 ≤ ad16 := by rw [gb16]; exact Z13
  have sz_ad16 : h0.size ≤ ad16 := by rw [gb16]; exact z14
  have lt_x0_ad16 : @LT.lt Nat _ x0 ad16 := by rw [gb16]; exact F15.lt
  have ne_x0_ad16 : x0 ≠ ad16 := Nat.ne_of_lt lt_x0_ad16
  have lt_ad2_ad16 : @LT.lt Nat _ ad2 ad16 := by rw [gb16]; exact Vq12.lt
  have ne_ad2_ad16 : ad2 ≠ ad16 := Nat.ne_of_lt lt_ad2_ad16
  have Z17 : n0 ≤ hh16.size := Nat.le_trans Z13 E16.1
  have z18 : h0.size ≤ hh16.size := Nat.le_trans z14 E16.1
  have F19 := ((((F_older.ext E2).other W7 (Or.inr (slot_ne (Or.inr w_19) (Or.inr w_12) (by decide) (t := (.array .int)) (t' := (.array .byte)) (by decide) (by decide)))).keep K12 (ninS ne_x0_ad2 nin0)).ext E16)
  have F20 := (((F6.wr W7).keep K12).ext E16)
  refine g_putF X16 hx hZ hown (host := "") (Or.inl w_18) Via.refl e16 F19 F20 (Or.inr ⟨w_19, rfl, hnm⟩) w_2 (ty := (.array .int)) (by decide) rfl rfl (Jvm.hb hby d1_23) (pc' := 26) rfl ?_
  intro T21 hh21 X21 e21 W21
  have Fw21 := F19.same W21
  have N21 := Fr.snoc X21 N12 g0
  have Z22 : n0 ≤ hh21.size := (by rw [W21.size]; exact Z17)
  have z23 : h0.size ≤ hh21.size := (by rw [W21.size]; exact z18)
  refine g_aloadN X21.here hx (Jvm.hb hby d1_26) (pc' := 27) rfl rfl rfl ?_
  refine g_iloadN X21.here hx (Jvm.hb hby d1_27) (pc' := 28) rfl rfl ?_
  have F24 := ((Vq12.ext E16).other W21 (Ne.symm ne_x0_ad2))
  have F25 := (V16.other W21 (Ne.symm ne_x0_ad16))
  refine g_newarr X21 hx hZ (ty := .int) rfl rfl w_17 e21 (Jvm.hb hby d1_28) (pc' := 30) rfl (n := 8) h2 8 (by decide) (by decide) (cells' := 3) (slots' := 24) rfl rfl (by decide) (by decide) ?_
  intro T26 hh26 ad26 gb26 X26 e26 E26 V26
  have g_ad26 : n0 ≤ ad26 := by rw [gb26]; exact Z22
  have sz_ad26 : h0.size ≤ ad26 := by rw [gb26]; exact z23
  have lt_x0_ad26 : @LT.lt Nat _ x0 ad26 := by rw [gb26]; exact Fw21.lt
  have ne_x0_ad26 : x0 ≠ ad26 := Nat.ne_of_lt lt_x0_ad26
  have lt_ad2_ad26 : @LT.lt Nat _ ad2 ad26 := by rw [gb26]; exact F24.lt
  have ne_ad2_ad26 : ad2 ≠ ad26 := Nat.ne_of_lt lt_ad2_ad26
  have lt_ad16_ad26 : @LT.lt Nat _ ad16 ad26 := by rw [gb26]; exact F25.lt
  have ne_ad16_ad26 : ad16 ≠ ad26 := Nat.ne_of_lt lt_ad16_ad26
  have Z27 : n0 ≤ hh26.size := Nat.le_trans Z22 E26.1
  have z28 : h0.size ≤ hh26.size := Nat.le_trans z23 E26.1
  have F29 := ((((((F_newer.ext E2).other W7 (Or.inr (slot_ne (Or.inr w_21) (Or.inr w_12) (by decide) (t := (.array .int)) (t' := (.array .byte)) (by decide) (by decide)))).keep K12 (ninS ne_x0_ad2 nin0)).ext E16).other W21 (Or.inr (slot_ne (Or.inr w_21) (Or.inr w_19) (by decide) (t := (.array .int)) (t' := (.array .int)) (by decide) (by decide)))).ext E26)
  have F30 := ((F20.wr W21).ext E26)
  refine g_putF X26 hx hZ hown (host := "") (Or.inl w_20) Via.refl e26 F29 F30 (Or.inr ⟨w_21, rfl, hnm⟩) w_2 (ty := (.array .int)) (by decide) rfl rfl (Jvm.hb hby d1_30) (pc' := 33) rfl ?_
  intro T31 hh31 X31 e31 W31
  have Fw31 := F29.same W31
  have N31 := Fr.snoc X31 N21 g0
  have Z32 : n0 ≤ hh31.size := (by rw [W31.size]; exact Z27)
  have z33 : h0.size ≤ hh31.size := (by rw [W31.size]; exact z28)
  refine g_aloadN X31.here hx (Jvm.hb hby d1_33) (pc' := 34) rfl rfl rfl ?_
  refine g_iloadN X31.here hx (Jvm.hb hby d1_34) (pc' := 35) rfl rfl ?_
  have F34 := ((F24.ext E26).other W31 (Ne.symm ne_x0_ad2))
  have F35 := ((F25.ext E26).other W31 (Ne.symm ne_x0_ad16))
  have F36 := (V26.other W31 (Ne.symm ne_x0_ad26))
  refine g_newarr X31 hx hZ (ty := .int) rfl rfl w_17 e31 (Jvm.hb hby d1_35) (pc' := 37) rfl (n := 2) h1 2 (by decide) (by decide) (cells' := 4) (slots' := 26) rfl rfl (by decide) (by decide) ?_
  intro T37 hh37 ad37 gb37 X37 e37 E37 V37
  have g_ad37 : n0 ≤ ad37 := by rw [gb37]; exact Z32
  have sz_ad37 : h0.size ≤ ad37 := by rw [gb37]; exact z33
  have lt_x0_ad37 : @LT.lt Nat _ x0 ad37 := by rw [gb37]; exact Fw31.lt
  have ne_x0_ad37 : x0 ≠ ad37 := Nat.ne_of_lt lt_x0_ad37
  have lt_ad2_ad37 : @LT.lt Nat _ ad2 ad37 := by rw [gb37]; exact F34.lt
  have ne_ad2_ad37 : ad2 ≠ ad37 := Nat.ne_of_lt lt_ad2_ad37
  have lt_ad16_ad37 : @LT.lt Nat _ ad16 ad37 := by rw [gb37]; exact F35.lt
  have ne_ad16_ad37 : ad16 ≠ ad37 := Nat.ne_of_lt lt_ad16_ad37
  have lt_ad26_ad37 : @LT.lt Nat _ ad26 ad37 := by rw [gb37]; exact F36.lt
  have ne_ad26_ad37 : ad26 ≠ ad37 := Nat.ne_of_lt lt_ad26_ad37
  have Z38 : n0 ≤ hh37.size := Nat.le_trans Z32 E37.1
  have z39 : h0.size ≤ hh37.size := Nat.le_trans z33 E37.1
  have F40 := ((((((((F_oldest.ext E2).other W7 (Or.inr (slot_ne (Or.inr w_23) (Or.inr w_12) (by decide) (t := (.array .int)) (t' := (.array .byte)) (by decide) (by decide)))).keep K12 (ninS ne_x0_ad2 nin0)).ext E16).other W21 (Or.inr (slot_ne (Or.inr w_23) (Or.inr w_19) (by decide) (t := (.array .int)) (t' := (.array .int)) (by decide) (by decide)))).ext E26).other W31 (Or.inr (slot_ne (Or.inr w_23) (Or.inr w_21) (by decide) (t := (.array .int)) (t' := (.array .int)) (by decide) (by decide)))).ext E37)
  have F41 := ((F30.wr W31).ext E37)
  refine g_putF X37 hx hZ hown (host := "") (Or.inl w_22) Via.refl e37 F40 F41 (Or.inr ⟨w_23, rfl, hnm⟩) w_2 (ty := (.array .int)) (by decide) rfl rfl (Jvm.hb hby d1_37) (pc' := 40) rfl ?_
  intro T42 hh42 X42 e42 W42
  have Fw42 := F40.same W42
  have N42 := Fr.snoc X42 N31 g0
  have Z43 : n0 ≤ hh42.size := (by rw [W42.size]; exact Z38)
  have z44 : h0.size ≤ hh42.size := (by rw [W42.size]; exact z39)
  refine g_aloadN X42.here hx (Jvm.hb hby d1_40) (pc' := 41) rfl rfl rfl ?_
  refine g_iloadN X42.here hx (Jvm.hb hby d1_41) (pc' := 42) rfl rfl ?_
  have F45 := ((F34.ext E37).other W42 (Ne.symm ne_x0_ad2))
  have F46 := ((F35.ext E37).other W42 (Ne.symm ne_x0_ad16))
  have F47 := ((F36.ext E37).other W42 (Ne.symm ne_x0_ad26))
  have F48 := (V37.other W42 (Ne.symm ne_x0_ad37))
  refine g_newarr X42 hx hZ (ty := .int) rfl rfl w_17 e42 (Jvm.hb hby d1_42) (pc' := 44) rfl (n := 2) h1 2 (by decide) (by decide) (cells' := 5) (slots' := 28) rfl rfl (by decide) (by decide) ?_
  intro T49 hh49 ad49 gb49 X49 e49 E49 V49
  have g_ad49 : n0 ≤ ad49 := by rw [gb49]; exact Z43
  have sz_ad49 : h0.size ≤ ad49 := by rw [gb49]; exact z44
  have lt_x0_ad49 : @LT.lt Nat _ x0 ad49 := by rw [gb49]; exact Fw42.lt
  have ne_x0_ad49 : x0 ≠ ad49 := Nat.ne_of_lt lt_x0_ad49
  have lt_ad2_ad49 : @LT.lt Nat _ ad2 ad49 := by rw [gb49]; exact F45.lt
  have ne_ad2_ad49 : ad2 ≠ ad49 := Nat.ne_of_lt lt_ad2_ad49
  have lt_ad16_ad49 : @LT.lt Nat _ ad16 ad49 := by rw [gb49]; exact F46.lt
  have ne_ad16_ad49 : ad16 ≠ ad49 := Nat.ne_of_lt lt_ad16_ad49
  have lt_ad26_ad49 : @LT.lt Nat _ ad26 ad49 := by rw [gb49]; exact F47.lt
  have ne_ad26_ad49 : ad26 ≠ ad49 := Nat.ne_of_lt lt_ad26_ad49
  have lt_ad37_ad49 : @LT.lt Nat _ ad37 ad49 := by rw [gb49]; exact F48.lt
  have ne_ad37_ad49 : ad37 ≠ ad49 := Nat.ne_of_lt lt_ad37_ad49
  have Z50 : n0 ≤ hh49.size := Nat.le_trans Z43 E49.1
  have z51 : h0.size ≤ hh49.size := Nat.le_trans z44 E49.1
  have F52 := ((((((((((F_newest.ext E2).other W7 (Or.inr (slot_ne (Or.inr w_25) (Or.inr w_12) (by decide) (t := (.array .int)) (t' := (.array .byte)) (by decide) (by decide)))).keep K12 (ninS ne_x0_ad2 nin0)).ext E16).other W21 (Or.inr (slot_ne (Or.inr w_25) (Or.inr w_19) (by decide) (t := (.array .int)) (t' := (.array .int)) (by decide) (by decide)))).ext E26).other W31 (Or.inr (slot_ne (Or.inr w_25) (Or.inr w_21) (by decide) (t := (.array .int)) (t' := (.array .int)) (by decide) (by decide)))).ext E37).other W42 (Or.inr (slot_ne (Or.inr w_25) (Or.inr w_23) (by decide) (t := (.array .int)) (t' := (.array .int)) (by decide) (by decide)))).ext E49)
  have F53 := ((F41.wr W42).ext E49)
  refine g_putF X49 hx hZ hown (host := "") (Or.inl w_24) Via.refl e49 F52 F53 (Or.inr ⟨w_25, rfl, hnm⟩) w_2 (ty := (.array .int)) (by decide) rfl rfl (Jvm.hb hby d1_44) (pc' := 47) rfl ?_
  intro T54 hh54 X54 e54 W54
  have Fw54 := F52.same W54
  have N54 := Fr.snoc X54 N42 g0
  have Z55 : n0 ≤ hh54.size := (by rw [W54.size]; exact Z50)
  have z56 : h0.size ≤ hh54.size := (by rw [W54.size]; exact z51)
  refine g_aloadN X54.here hx (Jvm.hb hby d1_47) (pc' := 48) rfl rfl rfl ?_
  have F57 := ((Fw42.ext E49).other W54 (Or.inr (slot_ne (Or.inr w_23) (Or.inr w_25) (by decide) (t := (.array .int)) (t' := (.array .int)) (by decide) (by decide))))
  refine g_getF X54 hx hZ hown (host := "") (Or.inl w_22) Via.refl e54 F57 (Jvm.hb hby d1_48) (pc' := 51) rfl ?_
  intro T58 X58 e58
  refine g_iconst X58.here hx (Jvm.hb hby d1_51) (pc' := 52) rfl (z := (-1 : Int32)) rfl ?_
  have F59 := ((F48.ext E49).other W54 (Ne.symm ne_x0_ad37))
  refine g_callS X58 hx hZ hown w_26 w_27 w_15 w_28 (by decide) (rm4 l Z a0 hw [] ad37 (-1 : Int32) 2 _ hh54 n0 Z55 g_ad37 F59 (by decide)) 0 (by decide) (by decide) e58 (by rw [hml]; rfl) [(.ref ad37), (.int (-1 : Int32))] [] (lenOf pd_1 rfl) rfl rfl (Nat.le_of_eq rfl) (Jvm.hb hby d1_52) (pc' := 55) rfl (cells' := 5) (slots' := 28) rfl rfl (by decide) (by decide) ?_
  intro v60 T60 L60 X60 hQ60
  obtain ⟨rfl, Nq60, K60, Vq60⟩ := hQ60
  have N60 := Fr.app N54 Nq60
  have Z61 : n0 ≤ T60.heap.size := Nat.le_trans Z55 K60.1
  have z62 : h0.size ≤ T60.heap.size := Nat.le_trans z56 K60.1
  show own_Gl p e below s (own_Q1 Z n0 x0 h0) ({ frames := 1, cells := 6, slots := 30, locals := 17 } : Room).cells ({ frames := 1, cells := 6, slots := 30, locals := 17 } : Room).slots (T60.setTop (mkF m 55 #[.val (.ref x0), .val (.int x1), .val (.int x2)] []))
  refine g_aloadN X60.here hx (Jvm.hb hby d1_55) (pc' := 56) rfl rfl rfl ?_
  have F63 := (Fw54.keep K60 (ninS ne_x0_ad37 nin0))
  refine g_getF X60 hx hZ hown (host := "") (Or.inl w_24) Via.refl rfl F63 (Jvm.hb hby d1_56) (pc' := 59) rfl ?_
  intro T64 X64 e64
  refine g_iconst X64.here hx (Jvm.hb hby d1_59) (pc' := 60) rfl (z := (-1 : Int32)) rfl ?_
  have F65 := ((V49.other W54 (Ne.symm ne_x0_ad49)).keep K60 (ninS (Ne.symm ne_ad37_ad49) nin0))
  refine g_callS X64 hx hZ hown w_26 w_27 w_15 w_28 (by decide) (rm4 l Z a0 hw [] ad49 (-1 : Int32) 2 _ T60.heap n0 Z61 g_ad49 F65 (by decide)) 0 (by decide) (by decide) e64 (by rw [hml]; rfl) [(.ref ad49), (.int (-1 : Int32))] [] (lenOf pd_1 rfl) rfl rfl (Nat.le_of_eq rfl) (Jvm.hb hby d1_60) (pc' := 63) rfl (cells' := 5) (slots' := 28) rfl rfl (by decide) (by decide) ?_
  intro v66 T66 L66 X66 hQ66
  obtain ⟨rfl, Nq66, K66, Vq66⟩ := hQ66
  have N66 := Fr.app N60 Nq66
  have Z67 : n0 ≤ T66.heap.size := Nat.le_trans Z61 K66.1
  have z68 : h0.size ≤ T66.heap.size := Nat.le_trans z62 K66.1
  show own_Gl p e below s (own_Q1 Z n0 x0 h0) ({ frames := 1, cells := 6, slots := 30, locals := 17 } : Room).cells ({ frames := 1, cells := 6, slots := 30, locals := 17 } : Room).slots (T66.setTop (mkF m 63 #[.val (.ref x0), .val (.int x1), .val (.int x2)] []))
  refine g_aloadN X66.here hx (Jvm.hb hby d1_63) (pc' := 64) rfl rfl rfl ?_
  refine g_iloadN X66.here hx (Jvm.hb hby d1_64) (pc' := 65) rfl rfl ?_
  have F69 := (F63.keep K66 (ninS ne_x0_ad49 nin0))
  have F70 := ((((F45.ext E49).other W54 (Ne.symm ne_x0_ad2)).keep K60 (ninS ne_ad2_ad37 nin0)).keep K66 (ninS ne_ad2_ad49 nin0))
  have F71 := ((((F46.ext E49).other W54 (Ne.symm ne_x0_ad16)).keep K60 (ninS ne_ad16_ad37 nin0)).keep K66 (ninS ne_ad16_ad49 nin0))
  have F72 := ((((F47.ext E49).other W54 (Ne.symm ne_x0_ad26)).keep K60 (ninS ne_ad26_ad37 nin0)).keep K66 (ninS ne_ad26_ad49 nin0))
  have F73 := (Vq60.keep K66 (ninS ne_ad37_ad49 nin0))
  refine g_newarr X66 hx hZ (ty := .int) rfl rfl w_17 rfl (Jvm.hb hby d1_65) (pc' := 67) rfl (n := 2) h1 2 (by decide) (by decide) (cells' := 6) (slots' := 30) rfl rfl (by decide) (by decide) ?_
  intro T74 hh74 ad74 gb74 X74 e74 E74 V74
  have g_ad74 : n0 ≤ ad74 := by rw [gb74]; exact Z67
  have sz_ad74 : h0.size ≤ ad74 := by rw [gb74]; exact z68
  have lt_x0_ad74 : @LT.lt Nat _ x0 ad74 := by rw [gb74]; exact F69.lt
  have ne_x0_ad74 : x0 ≠ ad74 := Nat.ne_of_lt lt_x0_ad74
  have lt_ad2_ad74 : @LT.lt Nat _ ad2 ad74 := by rw [gb74]; exact F70.lt
  have ne_ad2_ad74 : ad2 ≠ ad74 := Nat.ne_of_lt lt_ad2_ad74
  have lt_ad16_ad74 : @LT.lt Nat _ ad16 ad74 := by rw [gb74]; exact F71.lt
  have ne_ad16_ad74 : ad16 ≠ ad74 := Nat.ne_of_lt lt_ad16_ad74
  have lt_ad26_ad74 : @LT.lt Nat _ ad26 ad74 := by rw [gb74]; exact F72.lt
  have ne_ad26_ad74 : ad26 ≠ ad74 := Nat.ne_of_lt lt_ad26_ad74
  have lt_ad37_ad74 : @LT.lt Nat _ ad37 ad74 := by rw [gb74]; exact F73.lt
  have ne_ad37_ad74 : ad37 ≠ ad74 := Nat.ne_of_lt lt_ad37_ad74
  have lt_ad49_ad74 : @LT.lt Nat _ ad49 ad74 := by rw [gb74]; exact Vq66.lt
  have ne_ad49_ad74 : ad49 ≠ ad74 := Nat.ne_of_lt lt_ad49_ad74
  have Z75 : n0 ≤ hh74.size := Nat.le_trans Z67 E74.1
  have z76 : h0.size ≤ hh74.size := Nat.le_trans z68 E74.1
  have F77 := ((((((((((((((F_length.ext E2).other W7 (Or.inr (slot_ne (Or.inr w_30) (Or.inr w_12) (by decide) (t := (.array .int)) (t' := (.array .byte)) (by decide) (by decide)))).keep K12 (ninS ne_x0_ad2 nin0)).ext E16).other W21 (Or.inr (slot_ne (Or.inr w_30) (Or.inr w_19) (by decide) (t := (.array .int)) (t' := (.array .int)) (by decide) (by decide)))).ext E26).other W31 (Or.inr (slot_ne (Or.inr w_30) (Or.inr w_21) (by decide) (t := (.array .int)) (t' := (.array .int)) (by decide) (by decide)))).ext E37).other W42 (Or.inr (slot_ne (Or.inr w_30) (Or.inr w_23) (by decide) (t := (.array .int)) (t' := (.array .int)) (by decide) (by decide)))).ext E49).other W54 (Or.inr (slot_ne (Or.inr w_30) (Or.inr w_25) (by decide) (t := (.array .int)) (t' := (.array .int)) (by decide) (by decide)))).keep K60 (ninS ne_x0_ad37 nin0)).keep K66 (ninS ne_x0_ad49 nin0)).ext E74)
  have F78 := ((((F53.wr W54).keep K60).keep K66).ext E74)
  refine g_putF X74 hx hZ hown (host := "") (Or.inl w_29) Via.refl e74 F77 F78 (Or.inr ⟨w_30, rfl, hnm⟩) w_2 (ty := (.array .int)) (by decide) rfl rfl (Jvm.hb hby d1_67) (pc' := 70) rfl ?_
  intro T79 hh79 X79 e79 W79
  have Fw79 := F77.same W79
  have N79 := Fr.snoc X79 N66 g0
  have Z80 : n0 ≤ hh79.size := (by rw [W79.size]; exact Z75)
  have z81 : h0.size ≤ hh79.size := (by rw [W79.size]; exact z76)
  have F82 := (F78.wr W79)
  have F83 := ((((((((((((F15.ext E16).other W21 (Or.inr (slot_ne (Or.inr w_12) (Or.inr w_19) (by decide) (t := (.array .byte)) (t' := (.array .int)) (by decide) (by decide)))).ext E26).other W31 (Or.inr (slot_ne (Or.inr w_12) (Or.inr w_21) (by decide) (t := (.array .byte)) (t' := (.array .int)) (by decide) (by decide)))).ext E37).other W42 (Or.inr (slot_ne (Or.inr w_12) (Or.inr w_23) (by decide) (t := (.array .byte)) (t' := (.array .int)) (by decide) (by decide)))).ext E49).other W54 (Or.inr (slot_ne (Or.inr w_12) (Or.inr w_25) (by decide) (t := (.array .byte)) (t' := (.array .int)) (by decide) (by decide)))).keep K60 (ninS ne_x0_ad37 nin0)).keep K66 (ninS ne_x0_ad49 nin0)).ext E74).other W79 (Or.inr (slot_ne (Or.inr w_12) (Or.inr w_30) (by decide) (t := (.array .byte)) (t' := (.array .int)) (by decide) (by decide))))
  have F84 := ((((((((((Fw21.ext E26).other W31 (Or.inr (slot_ne (Or.inr w_19) (Or.inr w_21) (by decide) (t := (.array .int)) (t' := (.array .int)) (by decide) (by decide)))).ext E37).other W42 (Or.inr (slot_ne (Or.inr w_19) (Or.inr w_23) (by decide) (t := (.array .int)) (t' := (.array .int)) (by decide) (by decide)))).ext E49).other W54 (Or.inr (slot_ne (Or.inr w_19) (Or.inr w_25) (by decide) (t := (.array .int)) (t' := (.array .int)) (by decide) (by decide)))).keep K60 (ninS ne_x0_ad37 nin0)).keep K66 (ninS ne_x0_ad49 nin0)).ext E74).other W79 (Or.inr (slot_ne (Or.inr w_19) (Or.inr w_30) (by decide) (t := (.array .int)) (t' := (.array .int)) (by decide) (by decide))))
  have F85 := ((((((((Fw31.ext E37).other W42 (Or.inr (slot_ne (Or.inr w_21) (Or.inr w_23) (by decide) (t := (.array .int)) (t' := (.array .int)) (by decide) (by decide)))).ext E49).other W54 (Or.inr (slot_ne (Or.inr w_21) (Or.inr w_25) (by decide) (t := (.array .int)) (t' := (.array .int)) (by decide) (by decide)))).keep K60 (ninS ne_x0_ad37 nin0)).keep K66 (ninS ne_x0_ad49 nin0)).ext E74).other W79 (Or.inr (slot_ne (Or.inr w_21) (Or.inr w_30) (by decide) (t := (.array .int)) (t' := (.array .int)) (by decide) (by decide))))
  have F86 := ((((F57.keep K60 (ninS ne_x0_ad37 nin0)).keep K66 (ninS ne_x0_ad49 nin0)).ext E74).other W79 (Or.inr (slot_ne (Or.inr w_23) (Or.inr w_30) (by decide) (t := (.array .int)) (t' := (.array .int)) (by decide) (by decide))))
  have F87 := ((F69.ext E74).other W79 (Or.inr (slot_ne (Or.inr w_25) (Or.inr w_30) (by decide) (t := (.array .int)) (t' := (.array .int)) (by decide) (by decide))))
  have F88 := ((F70.ext E74).other W79 (Ne.symm ne_x0_ad2))
  have F89 := ((F71.ext E74).other W79 (Ne.symm ne_x0_ad16))
  have F90 := ((F72.ext E74).other W79 (Ne.symm ne_x0_ad26))
  have F91 := ((F73.ext E74).other W79 (Ne.symm ne_x0_ad37))
  have F92 := ((Vq66.ext E74).other W79 (Ne.symm ne_x0_ad49))
  have F93 := (V74.other W79 (Ne.symm ne_x0_ad74))
  have KK := ((((((((((((((((Keep.refl h0 [x0]).ext E2).wr W7 (Or.inl (List.mem_of_getElem? (i := 0) rfl))).trans K12 (allS (Or.inr sz_ad2) all0)).ext E16).wr W21 (Or.inl (List.mem_of_getElem? (i := 0) rfl))).ext E26).wr W31 (Or.inl (List.mem_of_getElem? (i := 0) rfl))).ext E37).wr W42 (Or.inl (List.mem_of_getElem? (i := 0) rfl))).ext E49).wr W54 (Or.inl (List.mem_of_getElem? (i := 0) rfl))).trans K60 (allS (Or.inr sz_ad37) all0)).trans K66 (allS (Or.inr sz_ad49) all0)).ext E74).wr W79 (Or.inl (List.mem_of_getElem? (i := 0) rfl)))
  exact g_retV X79 hx hlk hret (Jvm.hb hby d1_70) (by decide) (by decide) (by rw [e79]; exact ⟨rfl, N79, KK, ad2, ad16, ad26, ad37, ad49, ad74, ⟨lt_x0_ad2, lt_ad2_ad16, lt_ad16_ad26, lt_ad26_ad37, lt_ad37_ad49, lt_ad49_ad74⟩, ⟨F82, F83, F84, F85, F86, F87, Fw79⟩, F88.congr (fun i _ => rfl), F89.congr (fun i _ => rfl), F90.congr (fun i _ => rfl), F91.congr (fun i _ => rfl), F92.congr (fun i _ => rfl), F93.congr (fun i _ => rfl)⟩)
def own_ap (st : Nat → Nat → Int32) (p t : Int32) : Nat → Nat → Int32 :=
  own_up (own_up (own_up (if st 4 t.toNatClampNeg = (-1 : Int32) then own_up (own_up (own_up st 1 p.toNatClampNeg (st 4 t.toNatClampNeg)) 2 p.toNatClampNeg (-1 : Int32)) 3 t.toNatClampNeg p
    else own_up (own_up (own_up st 1 p.toNatClampNeg (st 4 t.toNatClampNeg)) 2 p.toNatClampNeg (-1 : Int32)) 2 (st 4 t.toNatClampNeg).toNatClampNeg p) 4 t.toNatClampNeg p) 5 t.toNatClampNeg (st 5 t.toNatClampNeg + (1 : Int32))) 0 p.toNatClampNeg (t.toInt8.toInt32.toInt8.toInt32)
def own_rm1 (st : Nat → Nat → Int32) (p o b a : Int32) : Nat → Nat → Int32 := if b = (-1 : Int32) then own_up st 3 o.toNatClampNeg a else own_up st 2 b.toNatClampNeg a
def own_rm2 (st : Nat → Nat → Int32) (p o b a : Int32) : Nat → Nat → Int32 := if a = (-1 : Int32) then own_up (own_rm1 st p o b a) 4 o.toNatClampNeg b else own_up (own_rm1 st p o b a) 1 a.toNatClampNeg b
def own_rm (st : Nat → Nat → Int32) (p : Int32) : Nat → Nat → Int32 :=
  own_up (own_up (own_rm2 st p (st 0 p.toNatClampNeg) (st 1 p.toNatClampNeg) (st 2 p.toNatClampNeg)) 5 (st 0 p.toNatClampNeg).toNatClampNeg (st 5 (st 0 p.toNatClampNeg).toNatClampNeg - (1 : Int32))) 0 p.toNatClampNeg (-1 : Int32)
def own_Q5 (Z : State) (n0 : Nat) (x0 r0 r1 r2 r3 r4 r5 : Nat) (x1 x2 : Int32) (st : Nat → Nat → Int32) (h0 : Heap) (v : Option Value) (h : Heap) (L : List Loc) : Prop := v = none ∧ Fr n0 L ∧ Keep h0 h [r0, r1, r2, r3, r4, r5] ∧ own_PL Z h x0 r0 r1 r2 r3 r4 r5 (own_ap st x1 x2)
theorem d5_0 : decode prog_64_method_7_code 0 = .ok (.aload_n 0, 1) := by decide +kernel
theorem d5_1 : decode prog_64_method_7_code 1 = .ok (.getfield 19, 3) := by decide +kernel
theorem d5_4 : decode prog_64_method_7_code 4 = .ok (.iload_n 1, 1) := by decide +kernel
theorem d5_5 : decode prog_64_method_7_code 5 = .ok (.aload_n 0, 1) := by decide +kernel
theorem d5_6 : decode prog_64_method_7_code 6 = .ok (.getfield 29, 3) := by decide +kernel
theorem d5_9 : decode prog_64_method_7_code 9 = .ok (.iload_n 2, 1) := by decide +kernel
theorem d5_10 : decode prog_64_method_7_code 10 = .ok (.iaload, 1) := by decide +kernel
theorem d5_11 : decode prog_64_method_7_code 11 = .ok (.iastore, 1) := by decide +kernel
theorem d5_12 : decode prog_64_method_7_code 12 = .ok (.aload_n 0, 1) := by decide +kernel
theorem d5_13 : decode prog_64_method_7_code 13 = .ok (.getfield 23, 3) := by decide +kernel
theorem d5_16 : decode prog_64_method_7_code 16 = .ok (.iload_n 1, 1) := by decide +kernel
theorem d5_17 : decode prog_64_method_7_code 17 = .ok (.iconst (-1), 1) := by decide +kernel
theorem d5_18 : decode prog_64_method_7_code 18 = .ok (.iastore, 1) := by decide +kernel
theorem d5_19 : decode prog_64_method_7_code 19 = .ok (.aload_n 0, 1) := by decide +kernel
theorem d5_20 : decode prog_64_method_7_code 20 = .ok (.getfield 29, 3) := by decide +kernel
theorem d5_23 : decode prog_64_method_7_code 23 = .ok (.iload_n 2, 1) := by decide +kernel
theorem d5_24 : decode prog_64_method_7_code 24 = .ok (.iaload, 1) := by decide +kernel
theorem d5_25 : decode prog_64_method_7_code 25 = .ok (.iconst (-1), 1) := by decide +kernel
theorem d5_26 : decode prog_64_method_7_code 26 = .ok (.if_icmp .ne 13, 3) := by decide +kernel
theorem d5_29 : decode prog_64_method_7_code 29 = .ok (.aload_n 0, 1) := by decide +kernel
theorem d5_30 : decode prog_64_method_7_code 30 = .ok (.getfield 26, 3) := by decide +kernel
theorem d5_33 : decode prog_64_method_7_code 33 = .ok (.iload_n 2, 1) := by decide +kernel
theorem d5_34 : decode prog_64_method_7_code 34 = .ok (.iload_n 1, 1) := by decide +kernel
theorem d5_35 : decode prog_64_method_7_code 35 = .ok (.iastore, 1) := by decide +kernel
theorem d5_36 : decode prog_64_method_7_code 36 = .ok (.goto 15, 3) := by decide +kernel
theorem d5_51 : decode prog_64_method_7_code 51 = .ok (.aload_n 0, 1) := by decide +kernel
theorem d5_52 : decode prog_64_method_7_code 52 = .ok (.getfield 29, 3) := by decide +kernel
theorem d5_55 : decode prog_64_method_7_code 55 = .ok (.iload_n 2, 1) := by decide +kernel
theorem d5_56 : decode prog_64_method_7_code 56 = .ok (.iload_n 1, 1) := by decide +kernel
theorem d5_57 : decode prog_64_method_7_code 57 = .ok (.iastore, 1) := by decide +kernel
theorem d5_58 : decode prog_64_method_7_code 58 = .ok (.aload_n 0, 1) := by decide +kernel
theorem d5_59 : decode prog_64_method_7_code 59 = .ok (.getfield 35, 3) := by decide +kernel
theorem d5_62 : decode prog_64_method_7_code 62 = .ok (.iload_n 2, 1) := by decide +kernel
theorem d5_63 : decode prog_64_method_7_code 63 = .ok (.dup2, 1) := by decide +kernel
theorem d5_64 : decode prog_64_method_7_code 64 = .ok (.iaload, 1) := by decide +kernel
theorem d5_65 : decode prog_64_method_7_code 65 = .ok (.iconst 1, 1) := by decide +kernel
theorem d5_66 : decode prog_64_method_7_code 66 = .ok (.iadd, 1) := by decide +kernel
theorem d5_67 : decode prog_64_method_7_code 67 = .ok (.iastore, 1) := by decide +kernel
theorem d5_68 : decode prog_64_method_7_code 68 = .ok (.aload_n 0, 1) := by decide +kernel
theorem d5_69 : decode prog_64_method_7_code 69 = .ok (.getfield 7, 3) := by decide +kernel
theorem d5_72 : decode prog_64_method_7_code 72 = .ok (.iload_n 1, 1) := by decide +kernel
theorem d5_73 : decode prog_64_method_7_code 73 = .ok (.iload_n 2, 1) := by decide +kernel
theorem d5_74 : decode prog_64_method_7_code 74 = .ok (.i2b, 1) := by decide +kernel
theorem d5_75 : decode prog_64_method_7_code 75 = .ok (.bastore, 1) := by decide +kernel
theorem d5_76 : decode prog_64_method_7_code 76 = .ok (.return_, 1) := by decide +kernel
theorem d5_39 : decode prog_64_method_7_code 39 = .ok (.aload_n 0, 1) := by decide +kernel
theorem d5_40 : decode prog_64_method_7_code 40 = .ok (.getfield 23, 3) := by decide +kernel
theorem d5_43 : decode prog_64_method_7_code 43 = .ok (.aload_n 0, 1) := by decide +kernel
theorem d5_44 : decode prog_64_method_7_code 44 = .ok (.getfield 29, 3) := by decide +kernel
theorem d5_47 : decode prog_64_method_7_code 47 = .ok (.iload_n 2, 1) := by decide +kernel
theorem d5_48 : decode prog_64_method_7_code 48 = .ok (.iaload, 1) := by decide +kernel
theorem d5_49 : decode prog_64_method_7_code 49 = .ok (.iload_n 1, 1) := by decide +kernel
theorem d5_50 : decode prog_64_method_7_code 50 = .ok (.iastore, 1) := by decide +kernel
theorem ef_5 (m : MethodId) (x0 : Addr) (x1 : Int32) (x2 : Int32) : entryFrame m #[(.ref x0), (.int x1), (.int x2)] 3 = mkF m 0 #[.val (.ref x0), .val (.int x1), .val (.int x2)] [] := by first | (simp [entryFrame, mkF, argsToLocals, Value.category]; done) | rfl
set_option maxRecDepth 65536 in
set_option maxHeartbeats 40000000 in
theorem rm5 (l : Launch) (Z : State) (a0 : Array Value) (hw : ∀ d ∈ tables_1, d.before a0 Z = true) (ws : List Jvm.Cond) (x0 r0 r1 r2 r3 r4 r5 : Nat) (x1 x2 : Int32) (st : Nat → Nat → Int32) (h0 : Heap) (n0 : Nat) (Z0 : n0 ≤ h0.size) (g0 : n0 ≤ x0) (hord : x0 < r0 ∧ r0 < r1 ∧ r1 < r2 ∧ r2 < r3 ∧ r3 < r4 ∧ r4 < r5) (PL0 : own_PL Z h0 x0 r0 r1 r2 r3 r4 r5 st) (hp : 0 ≤ x1.toInt ∧ x1.toInt < (8 : Nat)) (ht : 0 ≤ x2.toInt ∧ x2.toInt < (2 : Nat)) (hv : st 4 x2.toNatClampNeg = (-1 : Int32) ∨ (0 ≤ (st 4 x2.toNatClampNeg).toInt ∧ (st 4 x2.toNatClampNeg).toInt < (8 : Nat))) :
    MetFree l (⟨"com/example/tierstone/tierstone/PageLists", "append", "(II)V"⟩ : MethodName) (head1 (Jvm.Cond.code (⟨"com/example/tierstone/tierstone/PageLists", "append", "(II)V"⟩ : MethodName) prog_64_method_7_code 3 none :: ws) ({ frames := 0, cells := 0, slots := 0, locals := 0 } : Room)) (fun a U => a = #[(.ref x0), (.int x1), (.int x2)] ∧ Z.Warmed39 U.vm ∧ U.heap = h0) (fun _ _ _ _ _ => True) (fun _ U o U' => ∃ v L, o = .returned v ∧ (own_Q5 Z n0 x0 r0 r1 r2 r3 r4 r5 x1 x2 st h0) v U'.heap L ∧ FrameEnd U o U' L ({ frames := 0, cells := 0, slots := 0, locals := 0 } : Room).cells ({ frames := 0, cells := 0, slots := 0, locals := 0 } : Room).slots) := by
  refine own_body (own := "com/example/tierstone/tierstone/PageLists") pn_2 rfl (fun m => ef_5 m x0 x1 x2) ?_
  intro p e s m below meth c T0 hx hby hml hown hnm hlk hret hZ X0 e0
  have w_11 := hw _ (List.mem_of_getElem? (i := 11) rfl)
  have w_18 := hw _ (List.mem_of_getElem? (i := 18) rfl)
  have w_20 := hw _ (List.mem_of_getElem? (i := 20) rfl)
  have w_22 := hw _ (List.mem_of_getElem? (i := 22) rfl)
  have w_24 := hw _ (List.mem_of_getElem? (i := 24) rfl)
  have w_29 := hw _ (List.mem_of_getElem? (i := 29) rfl)
  have N0 := Fr.nil n0
  obtain ⟨o1, o2, o3, o4, o5, o6⟩ := hord
  obtain ⟨BP1, VP1_0, VP1_1, VP1_2, VP1_3, VP1_4, VP1_5⟩ := PL0
  obtain ⟨EB2, FB2_list, FB2_older, FB2_newer, FB2_oldest, FB2_newest, FB2_length⟩ := BP1
  refine g_aloadN X0.here hx (Jvm.hb hby d5_0) (pc' := 1) rfl rfl rfl ?_
  refine g_getF X0 hx hZ hown (host := "") (Or.inl w_18) Via.refl e0 FB2_older (Jvm.hb hby d5_1) (pc' := 4) rfl ?_
  intro T3 X3 e3
  refine g_iloadN X3.here hx (Jvm.hb hby d5_4) (pc' := 5) rfl rfl ?_
  refine g_aloadN X3.here hx (Jvm.hb hby d5_5) (pc' := 6) rfl rfl rfl ?_
  refine g_getF X3 hx hZ hown (host := "") (Or.inl w_24) Via.refl e3 FB2_newest (Jvm.hb hby d5_6) (pc' := 9) rfl ?_
  intro T4 X4 e4
  refine g_iloadN X4.here hx (Jvm.hb hby d5_9) (pc' := 10) rfl rfl ?_
  refine g_iaload X4 hx hZ e4 VP1_4 ht (v := (st 4 x2.toNatClampNeg)) rfl (Jvm.hb hby d5_10) (pc' := 11) rfl ?_
  refine g_iastore X4 hx hZ e4 VP1_1 hp (Jvm.hb hby d5_11) (pc' := 12) rfl ?_
  intro T5 hh5 X5 e5 W5 V5
  have N5 := Fr.snoc X5 N0 (by omega)
  have Z6 : n0 ≤ hh5.size := (by rw [W5.size]; exact Z0)
  have z7 : h0.size ≤ hh5.size := (by rw [W5.size]; exact (Nat.le_refl _))
  refine g_aloadN X5.here hx (Jvm.hb hby d5_12) (pc' := 13) rfl rfl rfl ?_
  have F8 := (FB2_newer.other W5 (Or.inl (Nat.ne_of_lt (by omega))))
  refine g_getF X5 hx hZ hown (host := "") (Or.inl w_20) Via.refl e5 F8 (Jvm.hb hby d5_13) (pc' := 16) rfl ?_
  intro T9 X9 e9
  refine g_iloadN X9.here hx (Jvm.hb hby d5_16) (pc' := 17) rfl rfl ?_
  refine g_iconst X9.here hx (Jvm.hb hby d5_17) (pc' := 18) rfl (z := (-1 : Int32)) rfl ?_
  have F10 := (VP1_2.other W5 (Ne.symm (Nat.ne_of_lt (by omega))))
  refine g_iastore X9 hx hZ e9 F10 hp (Jvm.hb hby d5_18) (pc' := 19) rfl ?_
  intro T11 hh11 X11 e11 W11 V11
  have N11 := Fr.snoc X11 N5 (by omega)
  have Z12 : n0 ≤ hh11.size := (by rw [W11.size]; exact Z6)
  have z13 : h0.size ≤ hh11.size := (by rw [W11.size]; exact z7)
  refine g_aloadN X11.here hx (Jvm.hb hby d5_19) (pc' := 20) rfl rfl rfl ?_
  have F14 := ((FB2_newest.other W5 (Or.inl (Nat.ne_of_lt (by omega)))).other W11 (Or.inl (Nat.ne_of_lt (by omega))))
  refine g_getF X11 hx hZ hown (host := "") (Or.inl w_24) Via.refl e11 F14 (Jvm.hb hby d5_20) (pc' := 23) rfl ?_
  intro T15 X15 e15
  refine g_iloadN X15.here hx (Jvm.hb hby d5_23) (pc' := 24) rfl rfl ?_
  have F16 := ((VP1_4.other W5 (Ne.symm (Nat.ne_of_lt (by omega)))).other W11 (Ne.symm (Nat.ne_of_lt (by omega))))
  refine g_iaload X15 hx hZ e15 F16 ht (v := (st 4 x2.toNatClampNeg)) rfl (Jvm.hb hby d5_24) (pc' := 25) rfl ?_
  refine g_iconst X15.here hx (Jvm.hb hby d5_25) (pc' := 26) rfl (z := (-1 : Int32)) rfl ?_
  by_cases hc26 : (st 4 x2.toNatClampNeg) = (-1 : Int32)
  · refine g_icN X15.here hx (Jvm.hb hby d5_26) (pc' := 29) rfl (teq hc26).2 ?_
    refine g_aloadN X15.here hx (Jvm.hb hby d5_29) (pc' := 30) rfl rfl rfl ?_
    have F17 := ((FB2_oldest.other W5 (Or.inl (Nat.ne_of_lt (by omega)))).other W11 (Or.inl (Nat.ne_of_lt (by omega))))
    refine g_getF X15 hx hZ hown (host := "") (Or.inl w_22) Via.refl e15 F17 (Jvm.hb hby d5_30) (pc' := 33) rfl ?_
    intro T18 X18 e18
    refine g_iloadN X18.here hx (Jvm.hb hby d5_33) (pc' := 34) rfl rfl ?_
    refine g_iloadN X18.here hx (Jvm.hb hby d5_34) (pc' := 35) rfl rfl ?_
    have F19 := ((VP1_3.other W5 (Ne.symm (Nat.ne_of_lt (by omega)))).other W11 (Ne.symm (Nat.ne_of_lt (by omega))))
    refine g_iastore X18 hx hZ e18 F19 ht (Jvm.hb hby d5_35) (pc' := 36) rfl ?_
    intro T20 hh20 X20 e20 W20 V20
    have N20 := Fr.snoc X20 N11 (by omega)
    have Z21 : n0 ≤ hh20.size := (by rw [W20.size]; exact Z12)
    have z22 : h0.size ≤ hh20.size := (by rw [W20.size]; exact z13)
    refine g_goto X20.here hx (Jvm.hb hby d5_36) (by decide) (pc' := 51) (by decide) ?_
    refine g_aloadN X20.here hx (Jvm.hb hby d5_51) (pc' := 52) rfl rfl rfl ?_
    have F23 := (F14.other W20 (Or.inl (Nat.ne_of_lt (by omega))))
    refine g_getF X20 hx hZ hown (host := "") (Or.inl w_24) Via.refl e20 F23 (Jvm.hb hby d5_52) (pc' := 55) rfl ?_
    intro T24 X24 e24
    refine g_iloadN X24.here hx (Jvm.hb hby d5_55) (pc' := 56) rfl rfl ?_
    refine g_iloadN X24.here hx (Jvm.hb hby d5_56) (pc' := 57) rfl rfl ?_
    have F25 := (F16.other W20 (Ne.symm (Nat.ne_of_lt (by omega))))
    refine g_iastore X24 hx hZ e24 F25 ht (Jvm.hb hby d5_57) (pc' := 58) rfl ?_
    intro T26 hh26 X26 e26 W26 V26
    have N26 := Fr.snoc X26 N20 (by omega)
    have Z27 : n0 ≤ hh26.size := (by rw [W26.size]; exact Z21)
    have z28 : h0.size ≤ hh26.size := (by rw [W26.size]; exact z22)
    refine g_aloadN X26.here hx (Jvm.hb hby d5_58) (pc' := 59) rfl rfl rfl ?_
    have F29 := ((((FB2_length.other W5 (Or.inl (Nat.ne_of_lt (by omega)))).other W11 (Or.inl (Nat.ne_of_lt (by omega)))).other W20 (Or.inl (Nat.ne_of_lt (by omega)))).other W26 (Or.inl (Nat.ne_of_lt (by omega))))
    refine g_getF X26 hx hZ hown (host := "") (Or.inl w_29) Via.refl e26 F29 (Jvm.hb hby d5_59) (pc' := 62) rfl ?_
    intro T30 X30 e30
    refine g_iloadN X30.here hx (Jvm.hb hby d5_62) (pc' := 63) rfl rfl ?_
    refine g_dup2 X30.here hx (Jvm.hb hby d5_63) (pc' := 64) rfl rfl rfl ?_
    have F31 := ((((VP1_5.other W5 (Ne.symm (Nat.ne_of_lt (by omega)))).other W11 (Ne.symm (Nat.ne_of_lt (by omega)))).other W20 (Ne.symm (Nat.ne_of_lt (by omega)))).other W26 (Ne.symm (Nat.ne_of_lt (by omega))))
    refine g_iaload X30 hx hZ e30 F31 ht (v := (st 5 x2.toNatClampNeg)) rfl (Jvm.hb hby d5_64) (pc' := 65) rfl ?_
    refine g_iconst X30.here hx (Jvm.hb hby d5_65) (pc' := 66) rfl (z := (1 : Int32)) rfl ?_
    refine g_iadd X30.here hx (Jvm.hb hby d5_66) (pc' := 67) rfl ?_
    refine g_iastore X30 hx hZ e30 F31 ht (Jvm.hb hby d5_67) (pc' := 68) rfl ?_
    intro T32 hh32 X32 e32 W32 V32
    have N32 := Fr.snoc X32 N26 (by omega)
    have Z33 : n0 ≤ hh32.size := (by rw [W32.size]; exact Z27)
    have z34 : h0.size ≤ hh32.size := (by rw [W32.size]; exact z28)
    refine g_aloadN X32.here hx (Jvm.hb hby d5_68) (pc' := 69) rfl rfl rfl ?_
    have F35 := (((((FB2_list.other W5 (Or.inl (Nat.ne_of_lt (by omega)))).other W11 (Or.inl (Nat.ne_of_lt (by omega)))).other W20 (Or.inl (Nat.ne_of_lt (by omega)))).other W26 (Or.inl (Nat.ne_of_lt (by omega)))).other W32 (Or.inl (Nat.ne_of_lt (by omega))))
    refine g_getF X32 hx hZ hown (host := "") (Or.inl w_11) Via.refl e32 F35 (Jvm.hb hby d5_69) (pc' := 72) rfl ?_
    intro T36 X36 e36
    refine g_iloadN X36.here hx (Jvm.hb hby d5_72) (pc' := 73) rfl rfl ?_
    refine g_iloadN X36.here hx (Jvm.hb hby d5_73) (pc' := 74) rfl rfl ?_
    refine g_i2b X36.here hx (Jvm.hb hby d5_74) (pc' := 75) rfl ?_
    have F37 := (((((VP1_0.other W5 (Nat.ne_of_lt (by omega))).other W11 (Nat.ne_of_lt (by omega))).other W20 (Nat.ne_of_lt (by omega))).other W26 (Nat.ne_of_lt (by omega))).other W32 (Nat.ne_of_lt (by omega)))
    refine g_bastore X36 hx hZ e36 F37 hp (Jvm.hb hby d5_75) (pc' := 76) rfl ?_
    intro T38 hh38 X38 e38 W38 V38
    have N38 := Fr.snoc X38 N32 (by omega)
    have Z39 : n0 ≤ hh38.size := (by rw [W38.size]; exact Z33)
    have z40 : h0.size ≤ hh38.size := (by rw [W38.size]; exact z34)
    have F41 := ((((((EB2.wr W5).wr W11).wr W20).wr W26).wr W32).wr W38)
    have F42 := (F35.other W38 (Or.inl (Nat.ne_of_lt (by omega))))
    have F43 := ((((((FB2_older.other W5 (Or.inl (Nat.ne_of_lt (by omega)))).other W11 (Or.inl (Nat.ne_of_lt (by omega)))).other W20 (Or.inl (Nat.ne_of_lt (by omega)))).other W26 (Or.inl (Nat.ne_of_lt (by omega)))).other W32 (Or.inl (Nat.ne_of_lt (by omega)))).other W38 (Or.inl (Nat.ne_of_lt (by omega))))
    have F44 := (((((F8.other W11 (Or.inl (Nat.ne_of_lt (by omega)))).other W20 (Or.inl (Nat.ne_of_lt (by omega)))).other W26 (Or.inl (Nat.ne_of_lt (by omega)))).other W32 (Or.inl (Nat.ne_of_lt (by omega)))).other W38 (Or.inl (Nat.ne_of_lt (by omega))))
    have F45 := ((((F17.other W20 (Or.inl (Nat.ne_of_lt (by omega)))).other W26 (Or.inl (Nat.ne_of_lt (by omega)))).other W32 (Or.inl (Nat.ne_of_lt (by omega)))).other W38 (Or.inl (Nat.ne_of_lt (by omega))))
    have F46 := (((F23.other W26 (Or.inl (Nat.ne_of_lt (by omega)))).other W32 (Or.inl (Nat.ne_of_lt (by omega)))).other W38 (Or.inl (Nat.ne_of_lt (by omega))))
    have F47 := ((F29.other W32 (Or.inl (Nat.ne_of_lt (by omega)))).other W38 (Or.inl (Nat.ne_of_lt (by omega))))
    have F48 := (((((V5.other W11 (Nat.ne_of_lt (by omega))).other W20 (Nat.ne_of_lt (by omega))).other W26 (Nat.ne_of_lt (by omega))).other W32 (Nat.ne_of_lt (by omega))).other W38 (Ne.symm (Nat.ne_of_lt (by omega))))
    have F49 := ((((V11.other W20 (Nat.ne_of_lt (by omega))).other W26 (Nat.ne_of_lt (by omega))).other W32 (Nat.ne_of_lt (by omega))).other W38 (Ne.symm (Nat.ne_of_lt (by omega))))
    have F50 := (((V20.other W26 (Nat.ne_of_lt (by omega))).other W32 (Nat.ne_of_lt (by omega))).other W38 (Ne.symm (Nat.ne_of_lt (by omega))))
    have F51 := ((V26.other W32 (Nat.ne_of_lt (by omega))).other W38 (Ne.symm (Nat.ne_of_lt (by omega))))
    have F52 := (V32.other W38 (Ne.symm (Nat.ne_of_lt (by omega))))
    have KK := (((((((Keep.refl h0 [r0, r1, r2, r3, r4, r5]).wr W5 (Or.inl (List.mem_of_getElem? (i := 1) rfl))).wr W11 (Or.inl (List.mem_of_getElem? (i := 2) rfl))).wr W20 (Or.inl (List.mem_of_getElem? (i := 3) rfl))).wr W26 (Or.inl (List.mem_of_getElem? (i := 4) rfl))).wr W32 (Or.inl (List.mem_of_getElem? (i := 5) rfl))).wr W38 (Or.inl (List.mem_of_getElem? (i := 0) rfl)))
    exact g_retV X38 hx hlk hret (Jvm.hb hby d5_76) (Nat.zero_le _) (Nat.zero_le _) (by rw [e38]; exact ⟨rfl, N38, KK, ⟨F41, F42, F43, F44, F45, F46, F47⟩, V38.congr (fun i _ => by simp [own_ap, own_up, hc26]), F48.congr (fun i _ => by simp [own_ap, own_up, hc26]), F49.congr (fun i _ => by simp [own_ap, own_up, hc26]), F50.congr (fun i _ => by simp [own_ap, own_up, hc26]), F51.congr (fun i _ => by simp [own_ap, own_up, hc26]), F52.congr (fun i _ => by simp [own_ap, own_up, hc26])⟩)
  · refine g_icY X15.here hx (Jvm.hb hby d5_26) (by decide) (pc' := 39) (by decide) (feq hc26).2 ?_
    refine g_aloadN X15.here hx (Jvm.hb hby d5_39) (pc' := 40) rfl rfl rfl ?_
    have F53 := (F8.other W11 (Or.inl (Nat.ne_of_lt (by omega))))
    refine g_getF X15 hx hZ hown (host := "") (Or.inl w_20) Via.refl e15 F53 (Jvm.hb hby d5_40) (pc' := 43) rfl ?_
    intro T54 X54 e54
    refine g_aloadN X54.here hx (Jvm.hb hby d5_43) (pc' := 44) rfl rfl rfl ?_
    refine g_getF X54 hx hZ hown (host := "") (Or.inl w_24) Via.refl e54 F14 (Jvm.hb hby d5_44) (pc' := 47) rfl ?_
    intro T55 X55 e55
    refine g_iloadN X55.here hx (Jvm.hb hby d5_47) (pc' := 48) rfl rfl ?_
    refine g_iaload X55 hx hZ e55 F16 ht (v := (st 4 x2.toNatClampNeg)) rfl (Jvm.hb hby d5_48) (pc' := 49) rfl ?_
    refine g_iloadN X55.here hx (Jvm.hb hby d5_49) (pc' := 50) rfl rfl ?_
    refine g_iastore X55 hx hZ e55 V11 (hv.resolve_left hc26) (Jvm.hb hby d5_50) (pc' := 51) rfl ?_
    intro T56 hh56 X56 e56 W56 V56
    have N56 := Fr.snoc X56 N11 (by omega)
    have Z57 : n0 ≤ hh56.size := (by rw [W56.size]; exact Z12)
    have z58 : h0.size ≤ hh56.size := (by rw [W56.size]; exact z13)
    refine g_aloadN X56.here hx (Jvm.hb hby d5_51) (pc' := 52) rfl rfl rfl ?_
    have F59 := (F14.other W56 (Or.inl (Nat.ne_of_lt (by omega))))
    refine g_getF X56 hx hZ hown (host := "") (Or.inl w_24) Via.refl e56 F59 (Jvm.hb hby d5_52) (pc' := 55) rfl ?_
    intro T60 X60 e60
    refine g_iloadN X60.here hx (Jvm.hb hby d5_55) (pc' := 56) rfl rfl ?_
    refine g_iloadN X60.here hx (Jvm.hb hby d5_56) (pc' := 57) rfl rfl ?_
    have F61 := (F16.other W56 (Ne.symm (Nat.ne_of_lt (by omega))))
    refine g_iastore X60 hx hZ e60 F61 ht (Jvm.hb hby d5_57) (pc' := 58) rfl ?_
    intro T62 hh62 X62 e62 W62 V62
    have N62 := Fr.snoc X62 N56 (by omega)
    have Z63 : n0 ≤ hh62.size := (by rw [W62.size]; exact Z57)
    have z64 : h0.size ≤ hh62.size := (by rw [W62.size]; exact z58)
    refine g_aloadN X62.here hx (Jvm.hb hby d5_58) (pc' := 59) rfl rfl rfl ?_
    have F65 := ((((FB2_length.other W5 (Or.inl (Nat.ne_of_lt (by omega)))).other W11 (Or.inl (Nat.ne_of_lt (by omega)))).other W56 (Or.inl (Nat.ne_of_lt (by omega)))).other W62 (Or.inl (Nat.ne_of_lt (by omega))))
    refine g_getF X62 hx hZ hown (host := "") (Or.inl w_29) Via.refl e62 F65 (Jvm.hb hby d5_59) (pc' := 62) rfl ?_
    intro T66 X66 e66
    refine g_iloadN X66.here hx (Jvm.hb hby d5_62) (pc' := 63) rfl rfl ?_
    refine g_dup2 X66.here hx (Jvm.hb hby d5_63) (pc' := 64) rfl rfl rfl ?_
    have F67 := ((((VP1_5.other W5 (Ne.symm (Nat.ne_of_lt (by omega)))).other W11 (Ne.symm (Nat.ne_of_lt (by omega)))).other W56 (Ne.symm (Nat.ne_of_lt (by omega)))).other W62 (Ne.symm (Nat.ne_of_lt (by omega))))
    refine g_iaload X66 hx hZ e66 F67 ht (v := (st 5 x2.toNatClampNeg)) rfl (Jvm.hb hby d5_64) (pc' := 65) rfl ?_
    refine g_iconst X66.here hx (Jvm.hb hby d5_65) (pc' := 66) rfl (z := (1 : Int32)) rfl ?_
    refine g_iadd X66.here hx (Jvm.hb hby d5_66) (pc' := 67) rfl ?_
    refine g_iastore X66 hx hZ e66 F67 ht (Jvm.hb hby d5_67) (pc' := 68) rfl ?_
    intro T68 hh68 X68 e68 W68 V68
    have N68 := Fr.snoc X68 N62 (by omega)
    have Z69 : n0 ≤ hh68.size := (by rw [W68.size]; exact Z63)
    have z70 : h0.size ≤ hh68.size := (by rw [W68.size]; exact z64)
    refine g_aloadN X68.here hx (Jvm.hb hby d5_68) (pc' := 69) rfl rfl rfl ?_
    have F71 := (((((FB2_list.other W5 (Or.inl (Nat.ne_of_lt (by omega)))).other W11 (Or.inl (Nat.ne_of_lt (by omega)))).other W56 (Or.inl (Nat.ne_of_lt (by omega)))).other W62 (Or.inl (Nat.ne_of_lt (by omega)))).other W68 (Or.inl (Nat.ne_of_lt (by omega))))
    refine g_getF X68 hx hZ hown (host := "") (Or.inl w_11) Via.refl e68 F71 (Jvm.hb hby d5_69) (pc' := 72) rfl ?_
    intro T72 X72 e72
    refine g_iloadN X72.here hx (Jvm.hb hby d5_72) (pc' := 73) rfl rfl ?_
    refine g_iloadN X72.here hx (Jvm.hb hby d5_73) (pc' := 74) rfl rfl ?_
    refine g_i2b X72.here hx (Jvm.hb hby d5_74) (pc' := 75) rfl ?_
    have F73 := (((((VP1_0.other W5 (Nat.ne_of_lt (by omega))).other W11 (Nat.ne_of_lt (by omega))).other W56 (Nat.ne_of_lt (by omega))).other W62 (Nat.ne_of_lt (by omega))).other W68 (Nat.ne_of_lt (by omega)))
    refine g_bastore X72 hx hZ e72 F73 hp (Jvm.hb hby d5_75) (pc' := 76) rfl ?_
    intro T74 hh74 X74 e74 W74 V74
    have N74 := Fr.snoc X74 N68 (by omega)
    have Z75 : n0 ≤ hh74.size := (by rw [W74.size]; exact Z69)
    have z76 : h0.size ≤ hh74.size := (by rw [W74.size]; exact z70)
    have F77 := ((((((EB2.wr W5).wr W11).wr W56).wr W62).wr W68).wr W74)
    have F78 := (F71.other W74 (Or.inl (Nat.ne_of_lt (by omega))))
    have F79 := ((((((FB2_older.other W5 (Or.inl (Nat.ne_of_lt (by omega)))).other W11 (Or.inl (Nat.ne_of_lt (by omega)))).other W56 (Or.inl (Nat.ne_of_lt (by omega)))).other W62 (Or.inl (Nat.ne_of_lt (by omega)))).other W68 (Or.inl (Nat.ne_of_lt (by omega)))).other W74 (Or.inl (Nat.ne_of_lt (by omega))))
    have F80 := ((((F53.other W56 (Or.inl (Nat.ne_of_lt (by omega)))).other W62 (Or.inl (Nat.ne_of_lt (by omega)))).other W68 (Or.inl (Nat.ne_of_lt (by omega)))).other W74 (Or.inl (Nat.ne_of_lt (by omega))))
    have F81 := ((((((FB2_oldest.other W5 (Or.inl (Nat.ne_of_lt (by omega)))).other W11 (Or.inl (Nat.ne_of_lt (by omega)))).other W56 (Or.inl (Nat.ne_of_lt (by omega)))).other W62 (Or.inl (Nat.ne_of_lt (by omega)))).other W68 (Or.inl (Nat.ne_of_lt (by omega)))).other W74 (Or.inl (Nat.ne_of_lt (by omega))))
    have F82 := (((F59.other W62 (Or.inl (Nat.ne_of_lt (by omega)))).other W68 (Or.inl (Nat.ne_of_lt (by omega)))).other W74 (Or.inl (Nat.ne_of_lt (by omega))))
    have F83 := ((F65.other W68 (Or.inl (Nat.ne_of_lt (by omega)))).other W74 (Or.inl (Nat.ne_of_lt (by omega))))
    have F84 := (((((V5.other W11 (Nat.ne_of_lt (by omega))).other W56 (Nat.ne_of_lt (by omega))).other W62 (Nat.ne_of_lt (by omega))).other W68 (Nat.ne_of_lt (by omega))).other W74 (Ne.symm (Nat.ne_of_lt (by omega))))
    have F85 := (((V56.other W62 (Nat.ne_of_lt (by omega))).other W68 (Nat.ne_of_lt (by omega))).other W74 (Ne.symm (Nat.ne_of_lt (by omega))))
    have F86 := ((((((VP1_3.other W5 (Ne.symm (Nat.ne_of_lt (by omega)))).other W11 (Ne.symm (Nat.ne_of_lt (by omega)))).other W56 (Ne.symm (Nat.ne_of_lt (by omega)))).other W62 (Nat.ne_of_lt (by omega))).other W68 (Nat.ne_of_lt (by omega))).other W74 (Ne.symm (Nat.ne_of_lt (by omega))))
    have F87 := ((V62.other W68 (Nat.ne_of_lt (by omega))).other W74 (Ne.symm (Nat.ne_of_lt (by omega))))
    have F88 := (V68.other W74 (Ne.symm (Nat.ne_of_lt (by omega))))
    have KK := (((((((Keep.refl h0 [r0, r1, r2, r3, r4, r5]).wr W5 (Or.inl (List.mem_of_getElem? (i := 1) rfl))).wr W11 (Or.inl (List.mem_of_getElem? (i := 2) rfl))).wr W56 (Or.inl (List.mem_of_getElem? (i := 2) rfl))).wr W62 (Or.inl (List.mem_of_getElem? (i := 4) rfl))).wr W68 (Or.inl (List.mem_of_getElem? (i := 5) rfl))).wr W74 (Or.inl (List.mem_of_getElem? (i := 0) rfl)))
    exact g_retV X74 hx hlk hret (Jvm.hb hby d5_76) (Nat.zero_le _) (Nat.zero_le _) (by rw [e74]; exact ⟨rfl, N74, KK, ⟨F77, F78, F79, F80, F81, F82, F83⟩, V74.congr (fun i _ => by simp [own_ap, own_up, hc26]), F84.congr (fun i _ => by simp [own_ap, own_up, hc26]), F85.congr (fun i _ => by simp [own_ap, own_up, hc26]), F86.congr (fun i _ => by simp [own_ap, own_up, hc26]), F87.congr (fun i _ => by simp [own_ap, own_up, hc26]), F88.congr (fun i _ => by simp [own_ap, own_up, hc26])⟩)
def own_Q11 (Z : State) (n0 : Nat) (x0 r0 r1 r2 r3 r4 r5 : Nat) (x1 : Int32) (st : Nat → Nat → Int32) (h0 : Heap) (v : Option Value) (h : Heap) (L : List Loc) : Prop := v = none ∧ Fr n0 L ∧ Keep h0 h [r0, r1, r2, r3, r4, r5] ∧ own_PL Z h x0 r0 r1 r2 r3 r4 r5 (own_rm st x1)
theorem d11_0 : decode prog_64_method_9_code 0 = .ok (.aload_n 0, 1) := by decide +kernel
theorem d11_1 : decode prog_64_method_9_code 1 = .ok (.getfield 7, 3) := by decide +kernel
theorem d11_4 : decode prog_64_method_9_code 4 = .ok (.iload_n 1, 1) := by decide +kernel
theorem d11_5 : decode prog_64_method_9_code 5 = .ok (.baload, 1) := by decide +kernel
theorem d11_6 : decode prog_64_method_9_code 6 = .ok (.istore_n 2, 1) := by decide +kernel
theorem d11_7 : decode prog_64_method_9_code 7 = .ok (.aload_n 0, 1) := by decide +kernel
theorem d11_8 : decode prog_64_method_9_code 8 = .ok (.getfield 19, 3) := by decide +kernel
theorem d11_11 : decode prog_64_method_9_code 11 = .ok (.iload_n 1, 1) := by decide +kernel
theorem d11_12 : decode prog_64_method_9_code 12 = .ok (.iaload, 1) := by decide +kernel
theorem d11_13 : decode prog_64_method_9_code 13 = .ok (.istore_n 3, 1) := by decide +kernel
theorem d11_14 : decode prog_64_method_9_code 14 = .ok (.aload_n 0, 1) := by decide +kernel
theorem d11_15 : decode prog_64_method_9_code 15 = .ok (.getfield 23, 3) := by decide +kernel
theorem d11_18 : decode prog_64_method_9_code 18 = .ok (.iload_n 1, 1) := by decide +kernel
theorem d11_19 : decode prog_64_method_9_code 19 = .ok (.iaload, 1) := by decide +kernel
theorem d11_20 : decode prog_64_method_9_code 20 = .ok (.istore 4, 2) := by decide +kernel
theorem d11_22 : decode prog_64_method_9_code 22 = .ok (.iload_n 3, 1) := by decide +kernel
theorem d11_23 : decode prog_64_method_9_code 23 = .ok (.iconst (-1), 1) := by decide +kernel
theorem d11_24 : decode prog_64_method_9_code 24 = .ok (.if_icmp .ne 14, 3) := by decide +kernel
theorem d11_27 : decode prog_64_method_9_code 27 = .ok (.aload_n 0, 1) := by decide +kernel
theorem d11_28 : decode prog_64_method_9_code 28 = .ok (.getfield 26, 3) := by decide +kernel
theorem d11_31 : decode prog_64_method_9_code 31 = .ok (.iload_n 2, 1) := by decide +kernel
theorem d11_32 : decode prog_64_method_9_code 32 = .ok (.iload 4, 2) := by decide +kernel
theorem d11_34 : decode prog_64_method_9_code 34 = .ok (.iastore, 1) := by decide +kernel
theorem d11_35 : decode prog_64_method_9_code 35 = .ok (.goto 11, 3) := by decide +kernel
theorem d11_46 : decode prog_64_method_9_code 46 = .ok (.iload 4, 2) := by decide +kernel
theorem d11_48 : decode prog_64_method_9_code 48 = .ok (.iconst (-1), 1) := by decide +kernel
theorem d11_49 : decode prog_64_method_9_code 49 = .ok (.if_icmp .ne 13, 3) := by decide +kernel
theorem d11_52 : decode prog_64_method_9_code 52 = .ok (.aload_n 0, 1) := by decide +kernel
theorem d11_53 : decode prog_64_method_9_code 53 = .ok (.getfield 29, 3) := by decide +kernel
theorem d11_56 : decode prog_64_method_9_code 56 = .ok (.iload_n 2, 1) := by decide +kernel
theorem d11_57 : decode prog_64_method_9_code 57 = .ok (.iload_n 3, 1) := by decide +kernel
theorem d11_58 : decode prog_64_method_9_code 58 = .ok (.iastore, 1) := by decide +kernel
theorem d11_59 : decode prog_64_method_9_code 59 = .ok (.goto 11, 3) := by decide +kernel
theorem d11_70 : decode prog_64_method_9_code 70 = .ok (.aload_n 0, 1) := by decide +kernel
theorem d11_71 : decode prog_64_method_9_code 71 = .ok (.getfield 35, 3) := by decide +kernel
theorem d11_74 : decode prog_64_method_9_code 74 = .ok (.iload_n 2, 1) := by decide +kernel
theorem d11_75 : decode prog_64_method_9_code 75 = .ok (.dup2, 1) := by decide +kernel
theorem d11_76 : decode prog_64_method_9_code 76 = .ok (.iaload, 1) := by decide +kernel
theorem d11_77 : decode prog_64_method_9_code 77 = .ok (.iconst 1, 1) := by decide +kernel
theorem d11_78 : decode prog_64_method_9_code 78 = .ok (.isub, 1) := by decide +kernel
theorem d11_79 : decode prog_64_method_9_code 79 = .ok (.iastore, 1) := by decide +kernel
theorem d11_80 : decode prog_64_method_9_code 80 = .ok (.aload_n 0, 1) := by decide +kernel
theorem d11_81 : decode prog_64_method_9_code 81 = .ok (.getfield 7, 3) := by decide +kernel
theorem d11_84 : decode prog_64_method_9_code 84 = .ok (.iload_n 1, 1) := by decide +kernel
theorem d11_85 : decode prog_64_method_9_code 85 = .ok (.iconst (-1), 1) := by decide +kernel
theorem d11_86 : decode prog_64_method_9_code 86 = .ok (.bastore, 1) := by decide +kernel
theorem d11_87 : decode prog_64_method_9_code 87 = .ok (.return_, 1) := by decide +kernel
theorem d11_62 : decode prog_64_method_9_code 62 = .ok (.aload_n 0, 1) := by decide +kernel
theorem d11_63 : decode prog_64_method_9_code 63 = .ok (.getfield 19, 3) := by decide +kernel
theorem d11_66 : decode prog_64_method_9_code 66 = .ok (.iload 4, 2) := by decide +kernel
theorem d11_68 : decode prog_64_method_9_code 68 = .ok (.iload_n 3, 1) := by decide +kernel
theorem d11_69 : decode prog_64_method_9_code 69 = .ok (.iastore, 1) := by decide +kernel
theorem d11_38 : decode prog_64_method_9_code 38 = .ok (.aload_n 0, 1) := by decide +kernel
theorem d11_39 : decode prog_64_method_9_code 39 = .ok (.getfield 23, 3) := by decide +kernel
theorem d11_42 : decode prog_64_method_9_code 42 = .ok (.iload_n 3, 1) := by decide +kernel
theorem d11_43 : decode prog_64_method_9_code 43 = .ok (.iload 4, 2) := by decide +kernel
theorem d11_45 : decode prog_64_method_9_code 45 = .ok (.iastore, 1) := by decide +kernel
theorem ef_11 (m : MethodId) (x0 : Addr) (x1 : Int32) : entryFrame m #[(.ref x0), (.int x1)] 5 = mkF m 0 #[.val (.ref x0), .val (.int x1), .unset, .unset, .unset] [] := by first | (simp [entryFrame, mkF, argsToLocals, Value.category]; done) | rfl
set_option maxRecDepth 65536 in
set_option maxHeartbeats 40000000 in
theorem rm11 (l : Launch) (Z : State) (a0 : Array Value) (hw : ∀ d ∈ tables_1, d.before a0 Z = true) (ws : List Jvm.Cond) (x0 r0 r1 r2 r3 r4 r5 : Nat) (x1 : Int32) (st : Nat → Nat → Int32) (h0 : Heap) (n0 : Nat) (Z0 : n0 ≤ h0.size) (g0 : n0 ≤ x0) (hord : x0 < r0 ∧ r0 < r1 ∧ r1 < r2 ∧ r2 < r3 ∧ r3 < r4 ∧ r4 < r5) (PL0 : own_PL Z h0 x0 r0 r1 r2 r3 r4 r5 st) (hp : 0 ≤ x1.toInt ∧ x1.toInt < (8 : Nat)) (ho : 0 ≤ (st 0 x1.toNatClampNeg).toInt ∧ (st 0 x1.toNatClampNeg).toInt < (2 : Nat)) (hvb : (st 1 x1.toNatClampNeg) = (-1 : Int32) ∨ (0 ≤ (st 1 x1.toNatClampNeg).toInt ∧ (st 1 x1.toNatClampNeg).toInt < (8 : Nat))) (hva : (st 2 x1.toNatClampNeg) = (-1 : Int32) ∨ (0 ≤ (st 2 x1.toNatClampNeg).toInt ∧ (st 2 x1.toNatClampNeg).toInt < (8 : Nat))) :
    MetFree l (⟨"com/example/tierstone/tierstone/PageLists", "remove", "(I)V"⟩ : MethodName) (head1 (Jvm.Cond.code (⟨"com/example/tierstone/tierstone/PageLists", "remove", "(I)V"⟩ : MethodName) prog_64_method_9_code 5 none :: ws) ({ frames := 0, cells := 0, slots := 0, locals := 0 } : Room)) (fun a U => a = #[(.ref x0), (.int x1)] ∧ Z.Warmed39 U.vm ∧ U.heap = h0) (fun _ _ _ _ _ => True) (fun _ U o U' => ∃ v L, o = .returned v ∧ (own_Q11 Z n0 x0 r0 r1 r2 r3 r4 r5 x1 st h0) v U'.heap L ∧ FrameEnd U o U' L ({ frames := 0, cells := 0, slots := 0, locals := 0 } : Room).cells ({ frames := 0, cells := 0, slots := 0, locals := 0 } : Room).slots) := by
  refine own_body (own := "com/example/tierstone/tierstone/PageLists") pn_2 rfl (fun m => ef_11 m x0 x1) ?_
  intro p e s m below meth c T0 hx hby hml hown hnm hlk hret hZ X0 e0
  have w_11 := hw _ (List.mem_of_getElem? (i := 11) rfl)
  have w_18 := hw _ (List.mem_of_getElem? (i := 18) rfl)
  have w_20 := hw _ (List.mem_of_getElem? (i := 20) rfl)
  have w_22 := hw _ (List.mem_of_getElem? (i := 22) rfl)
  have w_24 := hw _ (List.mem_of_getElem? (i := 24) rfl)
  have w_29 := hw _ (List.mem_of_getElem? (i := 29) rfl)
  have N0 := Fr.nil n0
  obtain ⟨o1, o2, o3, o4, o5, o6⟩ := hord
  obtain ⟨BP1, VP1_0, VP1_1, VP1_2, VP1_3, VP1_4, VP1_5⟩ := PL0
  obtain ⟨EB2, FB2_list, FB2_older, FB2_newer, FB2_oldest, FB2_newest, FB2_length⟩ := BP1
  refine g_aloadN X0.here hx (Jvm.hb hby d11_0) (pc' := 1) rfl rfl rfl ?_
  refine g_getF X0 hx hZ hown (host := "") (Or.inl w_11) Via.refl e0 FB2_list (Jvm.hb hby d11_1) (pc' := 4) rfl ?_
  intro T3 X3 e3
  refine g_iloadN X3.here hx (Jvm.hb hby d11_4) (pc' := 5) rfl rfl ?_
  refine g_baload X3 hx hZ e3 VP1_0 hp (v := (st 0 x1.toNatClampNeg)) rfl (Jvm.hb hby d11_5) (pc' := 6) rfl ?_
  refine g_istoreN X3.here hx (Jvm.hb hby d11_6) (pc' := 7) rfl (L' := #[.val (.ref x0), .val (.int x1), .val (.int (st 0 x1.toNatClampNeg)), .unset, .unset]) rfl ?_
  refine g_aloadN X3.here hx (Jvm.hb hby d11_7) (pc' := 8) rfl rfl rfl ?_
  refine g_getF X3 hx hZ hown (host := "") (Or.inl w_18) Via.refl e3 FB2_older (Jvm.hb hby d11_8) (pc' := 11) rfl ?_
  intro T4 X4 e4
  refine g_iloadN X4.here hx (Jvm.hb hby d11_11) (pc' := 12) rfl rfl ?_
  refine g_iaload X4 hx hZ e4 VP1_1 hp (v := (st 1 x1.toNatClampNeg)) rfl (Jvm.hb hby d11_12) (pc' := 13) rfl ?_
  refine g_istoreN X4.here hx (Jvm.hb hby d11_13) (pc' := 14) rfl (L' := #[.val (.ref x0), .val (.int x1), .val (.int (st 0 x1.toNatClampNeg)), .val (.int (st 1 x1.toNatClampNeg)), .unset]) rfl ?_
  refine g_aloadN X4.here hx (Jvm.hb hby d11_14) (pc' := 15) rfl rfl rfl ?_
  refine g_getF X4 hx hZ hown (host := "") (Or.inl w_20) Via.refl e4 FB2_newer (Jvm.hb hby d11_15) (pc' := 18) rfl ?_
  intro T5 X5 e5
  refine g_iloadN X5.here hx (Jvm.hb hby d11_18) (pc' := 19) rfl rfl ?_
  refine g_iaload X5 hx hZ e5 VP1_2 hp (v := (st 2 x1.toNatClampNeg)) rfl (Jvm.hb hby d11_19) (pc' := 20) rfl ?_
  refine g_istore X5.here hx (Jvm.hb hby d11_20) (pc' := 22) rfl (L' := #[.val (.ref x0), .val (.int x1), .val (.int (st 0 x1.toNatClampNeg)), .val (.int (st 1 x1.toNatClampNeg)), .val (.int (st 2 x1.toNatClampNeg))]) rfl ?_
  refine g_iloadN X5.here hx (Jvm.hb hby d11_22) (pc' := 23) rfl rfl ?_
  refine g_iconst X5.here hx (Jvm.hb hby d11_23) (pc' := 24) rfl (z := (-1 : Int32)) rfl ?_
  by_cases hc24 : (st 1 x1.toNatClampNeg) = (-1 : Int32)
  · refine g_icN X5.here hx (Jvm.hb hby d11_24) (pc' := 27) rfl (teq hc24).2 ?_
    refine g_aloadN X5.here hx (Jvm.hb hby d11_27) (pc' := 28) rfl rfl rfl ?_
    refine g_getF X5 hx hZ hown (host := "") (Or.inl w_22) Via.refl e5 FB2_oldest (Jvm.hb hby d11_28) (pc' := 31) rfl ?_
    intro T6 X6 e6
    refine g_iloadN X6.here hx (Jvm.hb hby d11_31) (pc' := 32) rfl rfl ?_
    refine g_iload X6.here hx (Jvm.hb hby d11_32) (pc' := 34) rfl rfl ?_
    refine g_iastore X6 hx hZ e6 VP1_3 ho (Jvm.hb hby d11_34) (pc' := 35) rfl ?_
    intro T7 hh7 X7 e7 W7 V7
    have N7 := Fr.snoc X7 N0 (by omega)
    have Z8 : n0 ≤ hh7.size := (by rw [W7.size]; exact Z0)
    have z9 : h0.size ≤ hh7.size := (by rw [W7.size]; exact (Nat.le_refl _))
    refine g_goto X7.here hx (Jvm.hb hby d11_35) (by decide) (pc' := 46) (by decide) ?_
    refine g_iload X7.here hx (Jvm.hb hby d11_46) (pc' := 48) rfl rfl ?_
    refine g_iconst X7.here hx (Jvm.hb hby d11_48) (pc' := 49) rfl (z := (-1 : Int32)) rfl ?_
    by_cases hc49 : (st 2 x1.toNatClampNeg) = (-1 : Int32)
    · refine g_icN X7.here hx (Jvm.hb hby d11_49) (pc' := 52) rfl (teq hc49).2 ?_
      refine g_aloadN X7.here hx (Jvm.hb hby d11_52) (pc' := 53) rfl rfl rfl ?_
      have F10 := (FB2_newest.other W7 (Or.inl (Nat.ne_of_lt (by omega))))
      refine g_getF X7 hx hZ hown (host := "") (Or.inl w_24) Via.refl e7 F10 (Jvm.hb hby d11_53) (pc' := 56) rfl ?_
      intro T11 X11 e11
      refine g_iloadN X11.here hx (Jvm.hb hby d11_56) (pc' := 57) rfl rfl ?_
      refine g_iloadN X11.here hx (Jvm.hb hby d11_57) (pc' := 58) rfl rfl ?_
      have F12 := (VP1_4.other W7 (Ne.symm (Nat.ne_of_lt (by omega))))
      refine g_iastore X11 hx hZ e11 F12 ho (Jvm.hb hby d11_58) (pc' := 59) rfl ?_
      intro T13 hh13 X13 e13 W13 V13
      have N13 := Fr.snoc X13 N7 (by omega)
      have Z14 : n0 ≤ hh13.size := (by rw [W13.size]; exact Z8)
      have z15 : h0.size ≤ hh13.size := (by rw [W13.size]; exact z9)
      refine g_goto X13.here hx (Jvm.hb hby d11_59) (by decide) (pc' := 70) (by decide) ?_
      refine g_aloadN X13.here hx (Jvm.hb hby d11_70) (pc' := 71) rfl rfl rfl ?_
      have F16 := ((FB2_length.other W7 (Or.inl (Nat.ne_of_lt (by omega)))).other W13 (Or.inl (Nat.ne_of_lt (by omega))))
      refine g_getF X13 hx hZ hown (host := "") (Or.inl w_29) Via.refl e13 F16 (Jvm.hb hby d11_71) (pc' := 74) rfl ?_
      intro T17 X17 e17
      refine g_iloadN X17.here hx (Jvm.hb hby d11_74) (pc' := 75) rfl rfl ?_
      refine g_dup2 X17.here hx (Jvm.hb hby d11_75) (pc' := 76) rfl rfl rfl ?_
      have F18 := ((VP1_5.other W7 (Ne.symm (Nat.ne_of_lt (by omega)))).other W13 (Ne.symm (Nat.ne_of_lt (by omega))))
      refine g_iaload X17 hx hZ e17 F18 ho (v := (st 5 (st 0 x1.toNatClampNeg).toNatClampNeg)) rfl (Jvm.hb hby d11_76) (pc' := 77) rfl ?_
      refine g_iconst X17.here hx (Jvm.hb hby d11_77) (pc' := 78) rfl (z := (1 : Int32)) rfl ?_
      refine g_isub X17.here hx (Jvm.hb hby d11_78) (pc' := 79) rfl ?_
      refine g_iastore X17 hx hZ e17 F18 ho (Jvm.hb hby d11_79) (pc' := 80) rfl ?_
      intro T19 hh19 X19 e19 W19 V19
      have N19 := Fr.snoc X19 N13 (by omega)
      have Z20 : n0 ≤ hh19.size := (by rw [W19.size]; exact Z14)
      have z21 : h0.size ≤ hh19.size := (by rw [W19.size]; exact z15)
      refine g_aloadN X19.here hx (Jvm.hb hby d11_80) (pc' := 81) rfl rfl rfl ?_
      have F22 := (((FB2_list.other W7 (Or.inl (Nat.ne_of_lt (by omega)))).other W13 (Or.inl (Nat.ne_of_lt (by omega)))).other W19 (Or.inl (Nat.ne_of_lt (by omega))))
      refine g_getF X19 hx hZ hown (host := "") (Or.inl w_11) Via.refl e19 F22 (Jvm.hb hby d11_81) (pc' := 84) rfl ?_
      intro T23 X23 e23
      refine g_iloadN X23.here hx (Jvm.hb hby d11_84) (pc' := 85) rfl rfl ?_
      refine g_iconst X23.here hx (Jvm.hb hby d11_85) (pc' := 86) rfl (z := (-1 : Int32)) rfl ?_
      have F24 := (((VP1_0.other W7 (Nat.ne_of_lt (by omega))).other W13 (Nat.ne_of_lt (by omega))).other W19 (Nat.ne_of_lt (by omega)))
      refine g_bastore X23 hx hZ e23 F24 hp (Jvm.hb hby d11_86) (pc' := 87) rfl ?_
      intro T25 hh25 X25 e25 W25 V25
      have N25 := Fr.snoc X25 N19 (by omega)
      have Z26 : n0 ≤ hh25.size := (by rw [W25.size]; exact Z20)
      have z27 : h0.size ≤ hh25.size := (by rw [W25.size]; exact z21)
      have F28 := ((((EB2.wr W7).wr W13).wr W19).wr W25)
      have F29 := (F22.other W25 (Or.inl (Nat.ne_of_lt (by omega))))
      have F30 := ((((FB2_older.other W7 (Or.inl (Nat.ne_of_lt (by omega)))).other W13 (Or.inl (Nat.ne_of_lt (by omega)))).other W19 (Or.inl (Nat.ne_of_lt (by omega)))).other W25 (Or.inl (Nat.ne_of_lt (by omega))))
      have F31 := ((((FB2_newer.other W7 (Or.inl (Nat.ne_of_lt (by omega)))).other W13 (Or.inl (Nat.ne_of_lt (by omega)))).other W19 (Or.inl (Nat.ne_of_lt (by omega)))).other W25 (Or.inl (Nat.ne_of_lt (by omega))))
      have F32 := ((((FB2_oldest.other W7 (Or.inl (Nat.ne_of_lt (by omega)))).other W13 (Or.inl (Nat.ne_of_lt (by omega)))).other W19 (Or.inl (Nat.ne_of_lt (by omega)))).other W25 (Or.inl (Nat.ne_of_lt (by omega))))
      have F33 := (((F10.other W13 (Or.inl (Nat.ne_of_lt (by omega)))).other W19 (Or.inl (Nat.ne_of_lt (by omega)))).other W25 (Or.inl (Nat.ne_of_lt (by omega))))
      have F34 := ((F16.other W19 (Or.inl (Nat.ne_of_lt (by omega)))).other W25 (Or.inl (Nat.ne_of_lt (by omega))))
      have F35 := ((((VP1_1.other W7 (Nat.ne_of_lt (by omega))).other W13 (Nat.ne_of_lt (by omega))).other W19 (Nat.ne_of_lt (by omega))).other W25 (Ne.symm (Nat.ne_of_lt (by omega))))
      have F36 := ((((VP1_2.other W7 (Nat.ne_of_lt (by omega))).other W13 (Nat.ne_of_lt (by omega))).other W19 (Nat.ne_of_lt (by omega))).other W25 (Ne.symm (Nat.ne_of_lt (by omega))))
      have F37 := (((V7.other W13 (Nat.ne_of_lt (by omega))).other W19 (Nat.ne_of_lt (by omega))).other W25 (Ne.symm (Nat.ne_of_lt (by omega))))
      have F38 := ((V13.other W19 (Nat.ne_of_lt (by omega))).other W25 (Ne.symm (Nat.ne_of_lt (by omega))))
      have F39 := (V19.other W25 (Ne.symm (Nat.ne_of_lt (by omega))))
      have KK := (((((Keep.refl h0 [r0, r1, r2, r3, r4, r5]).wr W7 (Or.inl (List.mem_of_getElem? (i := 3) rfl))).wr W13 (Or.inl (List.mem_of_getElem? (i := 4) rfl))).wr W19 (Or.inl (List.mem_of_getElem? (i := 5) rfl))).wr W25 (Or.inl (List.mem_of_getElem? (i := 0) rfl)))
      exact g_retV X25 hx hlk hret (Jvm.hb hby d11_87) (Nat.zero_le _) (Nat.zero_le _) (by rw [e25]; exact ⟨rfl, N25, KK, ⟨F28, F29, F30, F31, F32, F33, F34⟩, V25.congr (fun i _ => by simp [own_rm, own_rm1, own_rm2, own_up, hc24, hc49]), F35.congr (fun i _ => by simp [own_rm, own_rm1, own_rm2, own_up, hc24, hc49]), F36.congr (fun i _ => by simp [own_rm, own_rm1, own_rm2, own_up, hc24, hc49]), F37.congr (fun i _ => by simp [own_rm, own_rm1, own_rm2, own_up, hc24, hc49]), F38.congr (fun i _ => by simp [own_rm, own_rm1, own_rm2, own_up, hc24, hc49]), F39.congr (fun i _ => by simp [own_rm, own_rm1, own_rm2, own_up, hc24, hc49])⟩)
    · refine g_icY X7.here hx (Jvm.hb hby d11_49) (by decide) (pc' := 62) (by decide) (feq hc49).2 ?_
      refine g_aloadN X7.here hx (Jvm.hb hby d11_62) (pc' := 63) rfl rfl rfl ?_
      have F40 := (FB2_older.other W7 (Or.inl (Nat.ne_of_lt (by omega))))
      refine g_getF X7 hx hZ hown (host := "") (Or.inl w_18) Via.refl e7 F40 (Jvm.hb hby d11_63) (pc' := 66) rfl ?_
      intro T41 X41 e41
      refine g_iload X41.here hx (Jvm.hb hby d11_66) (pc' := 68) rfl rfl ?_
      refine g_iloadN X41.here hx (Jvm.hb hby d11_68) (pc' := 69) rfl rfl ?_
      have F42 := (VP1_1.other W7 (Nat.ne_of_lt (by omega)))
      refine g_iastore X41 hx hZ e41 F42 (hva.resolve_left hc49) (Jvm.hb hby d11_69) (pc' := 70) rfl ?_
      intro T43 hh43 X43 e43 W43 V43
      have N43 := Fr.snoc X43 N7 (by omega)
      have Z44 : n0 ≤ hh43.size := (by rw [W43.size]; exact Z8)
      have z45 : h0.size ≤ hh43.size := (by rw [W43.size]; exact z9)
      refine g_aloadN X43.here hx (Jvm.hb hby d11_70) (pc' := 71) rfl rfl rfl ?_
      have F46 := ((FB2_length.other W7 (Or.inl (Nat.ne_of_lt (by omega)))).other W43 (Or.inl (Nat.ne_of_lt (by omega))))
      refine g_getF X43 hx hZ hown (host := "") (Or.inl w_29) Via.refl e43 F46 (Jvm.hb hby d11_71) (pc' := 74) rfl ?_
      intro T47 X47 e47
      refine g_iloadN X47.here hx (Jvm.hb hby d11_74) (pc' := 75) rfl rfl ?_
      refine g_dup2 X47.here hx (Jvm.hb hby d11_75) (pc' := 76) rfl rfl rfl ?_
      have F48 := ((VP1_5.other W7 (Ne.symm (Nat.ne_of_lt (by omega)))).other W43 (Ne.symm (Nat.ne_of_lt (by omega))))
      refine g_iaload X47 hx hZ e47 F48 ho (v := (st 5 (st 0 x1.toNatClampNeg).toNatClampNeg)) rfl (Jvm.hb hby d11_76) (pc' := 77) rfl ?_
      refine g_iconst X47.here hx (Jvm.hb hby d11_77) (pc' := 78) rfl (z := (1 : Int32)) rfl ?_
      refine g_isub X47.here hx (Jvm.hb hby d11_78) (pc' := 79) rfl ?_
      refine g_iastore X47 hx hZ e47 F48 ho (Jvm.hb hby d11_79) (pc' := 80) rfl ?_
      intro T49 hh49 X49 e49 W49 V49
      have N49 := Fr.snoc X49 N43 (by omega)
      have Z50 : n0 ≤ hh49.size := (by rw [W49.size]; exact Z44)
      have z51 : h0.size ≤ hh49.size := (by rw [W49.size]; exact z45)
      refine g_aloadN X49.here hx (Jvm.hb hby d11_80) (pc' := 81) rfl rfl rfl ?_
      have F52 := (((FB2_list.other W7 (Or.inl (Nat.ne_of_lt (by omega)))).other W43 (Or.inl (Nat.ne_of_lt (by omega)))).other W49 (Or.inl (Nat.ne_of_lt (by omega))))
      refine g_getF X49 hx hZ hown (host := "") (Or.inl w_11) Via.refl e49 F52 (Jvm.hb hby d11_81) (pc' := 84) rfl ?_
      intro T53 X53 e53
      refine g_iloadN X53.here hx (Jvm.hb hby d11_84) (pc' := 85) rfl rfl ?_
      refine g_iconst X53.here hx (Jvm.hb hby d11_85) (pc' := 86) rfl (z := (-1 : Int32)) rfl ?_
      have F54 := (((VP1_0.other W7 (Nat.ne_of_lt (by omega))).other W43 (Nat.ne_of_lt (by omega))).other W49 (Nat.ne_of_lt (by omega)))
      refine g_bastore X53 hx hZ e53 F54 hp (Jvm.hb hby d11_86) (pc' := 87) rfl ?_
      intro T55 hh55 X55 e55 W55 V55
      have N55 := Fr.snoc X55 N49 (by omega)
      have Z56 : n0 ≤ hh55.size := (by rw [W55.size]; exact Z50)
      have z57 : h0.size ≤ hh55.size := (by rw [W55.size]; exact z51)
      have F58 := ((((EB2.wr W7).wr W43).wr W49).wr W55)
      have F59 := (F52.other W55 (Or.inl (Nat.ne_of_lt (by omega))))
      have F60 := (((F40.other W43 (Or.inl (Nat.ne_of_lt (by omega)))).other W49 (Or.inl (Nat.ne_of_lt (by omega)))).other W55 (Or.inl (Nat.ne_of_lt (by omega))))
      have F61 := ((((FB2_newer.other W7 (Or.inl (Nat.ne_of_lt (by omega)))).other W43 (Or.inl (Nat.ne_of_lt (by omega)))).other W49 (Or.inl (Nat.ne_of_lt (by omega)))).other W55 (Or.inl (Nat.ne_of_lt (by omega))))
      have F62 := ((((FB2_oldest.other W7 (Or.inl (Nat.ne_of_lt (by omega)))).other W43 (Or.inl (Nat.ne_of_lt (by omega)))).other W49 (Or.inl (Nat.ne_of_lt (by omega)))).other W55 (Or.inl (Nat.ne_of_lt (by omega))))
      have F63 := ((((FB2_newest.other W7 (Or.inl (Nat.ne_of_lt (by omega)))).other W43 (Or.inl (Nat.ne_of_lt (by omega)))).other W49 (Or.inl (Nat.ne_of_lt (by omega)))).other W55 (Or.inl (Nat.ne_of_lt (by omega))))
      have F64 := ((F46.other W49 (Or.inl (Nat.ne_of_lt (by omega)))).other W55 (Or.inl (Nat.ne_of_lt (by omega))))
      have F65 := ((V43.other W49 (Nat.ne_of_lt (by omega))).other W55 (Ne.symm (Nat.ne_of_lt (by omega))))
      have F66 := ((((VP1_2.other W7 (Nat.ne_of_lt (by omega))).other W43 (Ne.symm (Nat.ne_of_lt (by omega)))).other W49 (Nat.ne_of_lt (by omega))).other W55 (Ne.symm (Nat.ne_of_lt (by omega))))
      have F67 := (((V7.other W43 (Ne.symm (Nat.ne_of_lt (by omega)))).other W49 (Nat.ne_of_lt (by omega))).other W55 (Ne.symm (Nat.ne_of_lt (by omega))))
      have F68 := ((((VP1_4.other W7 (Ne.symm (Nat.ne_of_lt (by omega)))).other W43 (Ne.symm (Nat.ne_of_lt (by omega)))).other W49 (Nat.ne_of_lt (by omega))).other W55 (Ne.symm (Nat.ne_of_lt (by omega))))
      have F69 := (V49.other W55 (Ne.symm (Nat.ne_of_lt (by omega))))
      have KK := (((((Keep.refl h0 [r0, r1, r2, r3, r4, r5]).wr W7 (Or.inl (List.mem_of_getElem? (i := 3) rfl))).wr W43 (Or.inl (List.mem_of_getElem? (i := 1) rfl))).wr W49 (Or.inl (List.mem_of_getElem? (i := 5) rfl))).wr W55 (Or.inl (List.mem_of_getElem? (i := 0) rfl)))
      exact g_retV X55 hx hlk hret (Jvm.hb hby d11_87) (Nat.zero_le _) (Nat.zero_le _) (by rw [e55]; exact ⟨rfl, N55, KK, ⟨F58, F59, F60, F61, F62, F63, F64⟩, V55.congr (fun i _ => by simp [own_rm, own_rm1, own_rm2, own_up, hc24, hc49]), F65.congr (fun i _ => by simp [own_rm, own_rm1, own_rm2, own_up, hc24, hc49]), F66.congr (fun i _ => by simp [own_rm, own_rm1, own_rm2, own_up, hc24, hc49]), F67.congr (fun i _ => by simp [own_rm, own_rm1, own_rm2, own_up, hc24, hc49]), F68.congr (fun i _ => by simp [own_rm, own_rm1, own_rm2, own_up, hc24, hc49]), F69.congr (fun i _ => by simp [own_rm, own_rm1, own_rm2, own_up, hc24, hc49])⟩)
  · refine g_icY X5.here hx (Jvm.hb hby d11_24) (by decide) (pc' := 38) (by decide) (feq hc24).2 ?_
    refine g_aloadN X5.here hx (Jvm.hb hby d11_38) (pc' := 39) rfl rfl rfl ?_
    refine g_getF X5 hx hZ hown (host := "") (Or.inl w_20) Via.refl e5 FB2_newer (Jvm.hb hby d11_39) (pc' := 42) rfl ?_
    intro T70 X70 e70
    refine g_iloadN X70.here hx (Jvm.hb hby d11_42) (pc' := 43) rfl rfl ?_
    refine g_iload X70.here hx (Jvm.hb hby d11_43) (pc' := 45) rfl rfl ?_
    refine g_iastore X70 hx hZ e70 VP1_2 (hvb.resolve_left hc24) (Jvm.hb hby d11_45) (pc' := 46) rfl ?_
    intro T71 hh71 X71 e71 W71 V71
    have N71 := Fr.snoc X71 N0 (by omega)
    have Z72 : n0 ≤ hh71.size := (by rw [W71.size]; exact Z0)
    have z73 : h0.size ≤ hh71.size := (by rw [W71.size]; exact (Nat.le_refl _))
    refine g_iload X71.here hx (Jvm.hb hby d11_46) (pc' := 48) rfl rfl ?_
    refine g_iconst X71.here hx (Jvm.hb hby d11_48) (pc' := 49) rfl (z := (-1 : Int32)) rfl ?_
    by_cases hc49 : (st 2 x1.toNatClampNeg) = (-1 : Int32)
    · refine g_icN X71.here hx (Jvm.hb hby d11_49) (pc' := 52) rfl (teq hc49).2 ?_
      refine g_aloadN X71.here hx (Jvm.hb hby d11_52) (pc' := 53) rfl rfl rfl ?_
      have F74 := (FB2_newest.other W71 (Or.inl (Nat.ne_of_lt (by omega))))
      refine g_getF X71 hx hZ hown (host := "") (Or.inl w_24) Via.refl e71 F74 (Jvm.hb hby d11_53) (pc' := 56) rfl ?_
      intro T75 X75 e75
      refine g_iloadN X75.here hx (Jvm.hb hby d11_56) (pc' := 57) rfl rfl ?_
      refine g_iloadN X75.here hx (Jvm.hb hby d11_57) (pc' := 58) rfl rfl ?_
      have F76 := (VP1_4.other W71 (Ne.symm (Nat.ne_of_lt (by omega))))
      refine g_iastore X75 hx hZ e75 F76 ho (Jvm.hb hby d11_58) (pc' := 59) rfl ?_
      intro T77 hh77 X77 e77 W77 V77
      have N77 := Fr.snoc X77 N71 (by omega)
      have Z78 : n0 ≤ hh77.size := (by rw [W77.size]; exact Z72)
      have z79 : h0.size ≤ hh77.size := (by rw [W77.size]; exact z73)
      refine g_goto X77.here hx (Jvm.hb hby d11_59) (by decide) (pc' := 70) (by decide) ?_
      refine g_aloadN X77.here hx (Jvm.hb hby d11_70) (pc' := 71) rfl rfl rfl ?_
      have F80 := ((FB2_length.other W71 (Or.inl (Nat.ne_of_lt (by omega)))).other W77 (Or.inl (Nat.ne_of_lt (by omega))))
      refine g_getF X77 hx hZ hown (host := "") (Or.inl w_29) Via.refl e77 F80 (Jvm.hb hby d11_71) (pc' := 74) rfl ?_
      intro T81 X81 e81
      refine g_iloadN X81.here hx (Jvm.hb hby d11_74) (pc' := 75) rfl rfl ?_
      refine g_dup2 X81.here hx (Jvm.hb hby d11_75) (pc' := 76) rfl rfl rfl ?_
      have F82 := ((VP1_5.other W71 (Ne.symm (Nat.ne_of_lt (by omega)))).other W77 (Ne.symm (Nat.ne_of_lt (by omega))))
      refine g_iaload X81 hx hZ e81 F82 ho (v := (st 5 (st 0 x1.toNatClampNeg).toNatClampNeg)) rfl (Jvm.hb hby d11_76) (pc' := 77) rfl ?_
      refine g_iconst X81.here hx (Jvm.hb hby d11_77) (pc' := 78) rfl (z := (1 : Int32)) rfl ?_
      refine g_isub X81.here hx (Jvm.hb hby d11_78) (pc' := 79) rfl ?_
      refine g_iastore X81 hx hZ e81 F82 ho (Jvm.hb hby d11_79) (pc' := 80) rfl ?_
      intro T83 hh83 X83 e83 W83 V83
      have N83 := Fr.snoc X83 N77 (by omega)
      have Z84 : n0 ≤ hh83.size := (by rw [W83.size]; exact Z78)
      have z85 : h0.size ≤ hh83.size := (by rw [W83.size]; exact z79)
      refine g_aloadN X83.here hx (Jvm.hb hby d11_80) (pc' := 81) rfl rfl rfl ?_
      have F86 := (((FB2_list.other W71 (Or.inl (Nat.ne_of_lt (by omega)))).other W77 (Or.inl (Nat.ne_of_lt (by omega)))).other W83 (Or.inl (Nat.ne_of_lt (by omega))))
      refine g_getF X83 hx hZ hown (host := "") (Or.inl w_11) Via.refl e83 F86 (Jvm.hb hby d11_81) (pc' := 84) rfl ?_
      intro T87 X87 e87
      refine g_iloadN X87.here hx (Jvm.hb hby d11_84) (pc' := 85) rfl rfl ?_
      refine g_iconst X87.here hx (Jvm.hb hby d11_85) (pc' := 86) rfl (z := (-1 : Int32)) rfl ?_
      have F88 := (((VP1_0.other W71 (Nat.ne_of_lt (by omega))).other W77 (Nat.ne_of_lt (by omega))).other W83 (Nat.ne_of_lt (by omega)))
      refine g_bastore X87 hx hZ e87 F88 hp (Jvm.hb hby d11_86) (pc' := 87) rfl ?_
      intro T89 hh89 X89 e89 W89 V89
      have N89 := Fr.snoc X89 N83 (by omega)
      have Z90 : n0 ≤ hh89.size := (by rw [W89.size]; exact Z84)
      have z91 : h0.size ≤ hh89.size := (by rw [W89.size]; exact z85)
      have F92 := ((((EB2.wr W71).wr W77).wr W83).wr W89)
      have F93 := (F86.other W89 (Or.inl (Nat.ne_of_lt (by omega))))
      have F94 := ((((FB2_older.other W71 (Or.inl (Nat.ne_of_lt (by omega)))).other W77 (Or.inl (Nat.ne_of_lt (by omega)))).other W83 (Or.inl (Nat.ne_of_lt (by omega)))).other W89 (Or.inl (Nat.ne_of_lt (by omega))))
      have F95 := ((((FB2_newer.other W71 (Or.inl (Nat.ne_of_lt (by omega)))).other W77 (Or.inl (Nat.ne_of_lt (by omega)))).other W83 (Or.inl (Nat.ne_of_lt (by omega)))).other W89 (Or.inl (Nat.ne_of_lt (by omega))))
      have F96 := ((((FB2_oldest.other W71 (Or.inl (Nat.ne_of_lt (by omega)))).other W77 (Or.inl (Nat.ne_of_lt (by omega)))).other W83 (Or.inl (Nat.ne_of_lt (by omega)))).other W89 (Or.inl (Nat.ne_of_lt (by omega))))
      have F97 := (((F74.other W77 (Or.inl (Nat.ne_of_lt (by omega)))).other W83 (Or.inl (Nat.ne_of_lt (by omega)))).other W89 (Or.inl (Nat.ne_of_lt (by omega))))
      have F98 := ((F80.other W83 (Or.inl (Nat.ne_of_lt (by omega)))).other W89 (Or.inl (Nat.ne_of_lt (by omega))))
      have F99 := ((((VP1_1.other W71 (Nat.ne_of_lt (by omega))).other W77 (Nat.ne_of_lt (by omega))).other W83 (Nat.ne_of_lt (by omega))).other W89 (Ne.symm (Nat.ne_of_lt (by omega))))
      have F100 := (((V71.other W77 (Nat.ne_of_lt (by omega))).other W83 (Nat.ne_of_lt (by omega))).other W89 (Ne.symm (Nat.ne_of_lt (by omega))))
      have F101 := ((((VP1_3.other W71 (Ne.symm (Nat.ne_of_lt (by omega)))).other W77 (Nat.ne_of_lt (by omega))).other W83 (Nat.ne_of_lt (by omega))).other W89 (Ne.symm (Nat.ne_of_lt (by omega))))
      have F102 := ((V77.other W83 (Nat.ne_of_lt (by omega))).other W89 (Ne.symm (Nat.ne_of_lt (by omega))))
      have F103 := (V83.other W89 (Ne.symm (Nat.ne_of_lt (by omega))))
      have KK := (((((Keep.refl h0 [r0, r1, r2, r3, r4, r5]).wr W71 (Or.inl (List.mem_of_getElem? (i := 2) rfl))).wr W77 (Or.inl (List.mem_of_getElem? (i := 4) rfl))).wr W83 (Or.inl (List.mem_of_getElem? (i := 5) rfl))).wr W89 (Or.inl (List.mem_of_getElem? (i := 0) rfl)))
      exact g_retV X89 hx hlk hret (Jvm.hb hby d11_87) (Nat.zero_le _) (Nat.zero_le _) (by rw [e89]; exact ⟨rfl, N89, KK, ⟨F92, F93, F94, F95, F96, F97, F98⟩, V89.congr (fun i _ => by simp [own_rm, own_rm1, own_rm2, own_up, hc24, hc49]), F99.congr (fun i _ => by simp [own_rm, own_rm1, own_rm2, own_up, hc24, hc49]), F100.congr (fun i _ => by simp [own_rm, own_rm1, own_rm2, own_up, hc24, hc49]), F101.congr (fun i _ => by simp [own_rm, own_rm1, own_rm2, own_up, hc24, hc49]), F102.congr (fun i _ => by simp [own_rm, own_rm1, own_rm2, own_up, hc24, hc49]), F103.congr (fun i _ => by simp [own_rm, own_rm1, own_rm2, own_up, hc24, hc49])⟩)
    · refine g_icY X71.here hx (Jvm.hb hby d11_49) (by decide) (pc' := 62) (by decide) (feq hc49).2 ?_
      refine g_aloadN X71.here hx (Jvm.hb hby d11_62) (pc' := 63) rfl rfl rfl ?_
      have F104 := (FB2_older.other W71 (Or.inl (Nat.ne_of_lt (by omega))))
      refine g_getF X71 hx hZ hown (host := "") (Or.inl w_18) Via.refl e71 F104 (Jvm.hb hby d11_63) (pc' := 66) rfl ?_
      intro T105 X105 e105
      refine g_iload X105.here hx (Jvm.hb hby d11_66) (pc' := 68) rfl rfl ?_
      refine g_iloadN X105.here hx (Jvm.hb hby d11_68) (pc' := 69) rfl rfl ?_
      have F106 := (VP1_1.other W71 (Nat.ne_of_lt (by omega)))
      refine g_iastore X105 hx hZ e105 F106 (hva.resolve_left hc49) (Jvm.hb hby d11_69) (pc' := 70) rfl ?_
      intro T107 hh107 X107 e107 W107 V107
      have N107 := Fr.snoc X107 N71 (by omega)
      have Z108 : n0 ≤ hh107.size := (by rw [W107.size]; exact Z72)
      have z109 : h0.size ≤ hh107.size := (by rw [W107.size]; exact z73)
      refine g_aloadN X107.here hx (Jvm.hb hby d11_70) (pc' := 71) rfl rfl rfl ?_
      have F110 := ((FB2_length.other W71 (Or.inl (Nat.ne_of_lt (by omega)))).other W107 (Or.inl (Nat.ne_of_lt (by omega))))
      refine g_getF X107 hx hZ hown (host := "") (Or.inl w_29) Via.refl e107 F110 (Jvm.hb hby d11_71) (pc' := 74) rfl ?_
      intro T111 X111 e111
      refine g_iloadN X111.here hx (Jvm.hb hby d11_74) (pc' := 75) rfl rfl ?_
      refine g_dup2 X111.here hx (Jvm.hb hby d11_75) (pc' := 76) rfl rfl rfl ?_
      have F112 := ((VP1_5.other W71 (Ne.symm (Nat.ne_of_lt (by omega)))).other W107 (Ne.symm (Nat.ne_of_lt (by omega))))
      refine g_iaload X111 hx hZ e111 F112 ho (v := (st 5 (st 0 x1.toNatClampNeg).toNatClampNeg)) rfl (Jvm.hb hby d11_76) (pc' := 77) rfl ?_
      refine g_iconst X111.here hx (Jvm.hb hby d11_77) (pc' := 78) rfl (z := (1 : Int32)) rfl ?_
      refine g_isub X111.here hx (Jvm.hb hby d11_78) (pc' := 79) rfl ?_
      refine g_iastore X111 hx hZ e111 F112 ho (Jvm.hb hby d11_79) (pc' := 80) rfl ?_
      intro T113 hh113 X113 e113 W113 V113
      have N113 := Fr.snoc X113 N107 (by omega)
      have Z114 : n0 ≤ hh113.size := (by rw [W113.size]; exact Z108)
      have z115 : h0.size ≤ hh113.size := (by rw [W113.size]; exact z109)
      refine g_aloadN X113.here hx (Jvm.hb hby d11_80) (pc' := 81) rfl rfl rfl ?_
      have F116 := (((FB2_list.other W71 (Or.inl (Nat.ne_of_lt (by omega)))).other W107 (Or.inl (Nat.ne_of_lt (by omega)))).other W113 (Or.inl (Nat.ne_of_lt (by omega))))
      refine g_getF X113 hx hZ hown (host := "") (Or.inl w_11) Via.refl e113 F116 (Jvm.hb hby d11_81) (pc' := 84) rfl ?_
      intro T117 X117 e117
      refine g_iloadN X117.here hx (Jvm.hb hby d11_84) (pc' := 85) rfl rfl ?_
      refine g_iconst X117.here hx (Jvm.hb hby d11_85) (pc' := 86) rfl (z := (-1 : Int32)) rfl ?_
      have F118 := (((VP1_0.other W71 (Nat.ne_of_lt (by omega))).other W107 (Nat.ne_of_lt (by omega))).other W113 (Nat.ne_of_lt (by omega)))
      refine g_bastore X117 hx hZ e117 F118 hp (Jvm.hb hby d11_86) (pc' := 87) rfl ?_
      intro T119 hh119 X119 e119 W119 V119
      have N119 := Fr.snoc X119 N113 (by omega)
      have Z120 : n0 ≤ hh119.size := (by rw [W119.size]; exact Z114)
      have z121 : h0.size ≤ hh119.size := (by rw [W119.size]; exact z115)
      have F122 := ((((EB2.wr W71).wr W107).wr W113).wr W119)
      have F123 := (F116.other W119 (Or.inl (Nat.ne_of_lt (by omega))))
      have F124 := (((F104.other W107 (Or.inl (Nat.ne_of_lt (by omega)))).other W113 (Or.inl (Nat.ne_of_lt (by omega)))).other W119 (Or.inl (Nat.ne_of_lt (by omega))))
      have F125 := ((((FB2_newer.other W71 (Or.inl (Nat.ne_of_lt (by omega)))).other W107 (Or.inl (Nat.ne_of_lt (by omega)))).other W113 (Or.inl (Nat.ne_of_lt (by omega)))).other W119 (Or.inl (Nat.ne_of_lt (by omega))))
      have F126 := ((((FB2_oldest.other W71 (Or.inl (Nat.ne_of_lt (by omega)))).other W107 (Or.inl (Nat.ne_of_lt (by omega)))).other W113 (Or.inl (Nat.ne_of_lt (by omega)))).other W119 (Or.inl (Nat.ne_of_lt (by omega))))
      have F127 := ((((FB2_newest.other W71 (Or.inl (Nat.ne_of_lt (by omega)))).other W107 (Or.inl (Nat.ne_of_lt (by omega)))).other W113 (Or.inl (Nat.ne_of_lt (by omega)))).other W119 (Or.inl (Nat.ne_of_lt (by omega))))
      have F128 := ((F110.other W113 (Or.inl (Nat.ne_of_lt (by omega)))).other W119 (Or.inl (Nat.ne_of_lt (by omega))))
      have F129 := ((V107.other W113 (Nat.ne_of_lt (by omega))).other W119 (Ne.symm (Nat.ne_of_lt (by omega))))
      have F130 := (((V71.other W107 (Ne.symm (Nat.ne_of_lt (by omega)))).other W113 (Nat.ne_of_lt (by omega))).other W119 (Ne.symm (Nat.ne_of_lt (by omega))))
      have F131 := ((((VP1_3.other W71 (Ne.symm (Nat.ne_of_lt (by omega)))).other W107 (Ne.symm (Nat.ne_of_lt (by omega)))).other W113 (Nat.ne_of_lt (by omega))).other W119 (Ne.symm (Nat.ne_of_lt (by omega))))
      have F132 := ((((VP1_4.other W71 (Ne.symm (Nat.ne_of_lt (by omega)))).other W107 (Ne.symm (Nat.ne_of_lt (by omega)))).other W113 (Nat.ne_of_lt (by omega))).other W119 (Ne.symm (Nat.ne_of_lt (by omega))))
      have F133 := (V113.other W119 (Ne.symm (Nat.ne_of_lt (by omega))))
      have KK := (((((Keep.refl h0 [r0, r1, r2, r3, r4, r5]).wr W71 (Or.inl (List.mem_of_getElem? (i := 2) rfl))).wr W107 (Or.inl (List.mem_of_getElem? (i := 1) rfl))).wr W113 (Or.inl (List.mem_of_getElem? (i := 5) rfl))).wr W119 (Or.inl (List.mem_of_getElem? (i := 0) rfl)))
      exact g_retV X119 hx hlk hret (Jvm.hb hby d11_87) (Nat.zero_le _) (Nat.zero_le _) (by rw [e119]; exact ⟨rfl, N119, KK, ⟨F122, F123, F124, F125, F126, F127, F128⟩, V119.congr (fun i _ => by simp [own_rm, own_rm1, own_rm2, own_up, hc24, hc49]), F129.congr (fun i _ => by simp [own_rm, own_rm1, own_rm2, own_up, hc24, hc49]), F130.congr (fun i _ => by simp [own_rm, own_rm1, own_rm2, own_up, hc24, hc49]), F131.congr (fun i _ => by simp [own_rm, own_rm1, own_rm2, own_up, hc24, hc49]), F132.congr (fun i _ => by simp [own_rm, own_rm1, own_rm2, own_up, hc24, hc49]), F133.congr (fun i _ => by simp [own_rm, own_rm1, own_rm2, own_up, hc24, hc49])⟩)
theorem d6_0 : decode prog_64_method_2_code 0 = .ok (.aload_n 0, 1) := by decide +kernel
theorem d6_1 : decode prog_64_method_2_code 1 = .ok (.getfield 7, 3) := by decide +kernel
theorem d6_4 : decode prog_64_method_2_code 4 = .ok (.iload_n 1, 1) := by decide +kernel
theorem d6_5 : decode prog_64_method_2_code 5 = .ok (.baload, 1) := by decide +kernel
theorem d6_6 : decode prog_64_method_2_code 6 = .ok (.ireturn, 1) := by decide +kernel
theorem ef_6 (m : MethodId) (x0 : Addr) (x1 : Int32) : entryFrame m #[(.ref x0), (.int x1)] 2 = mkF m 0 #[.val (.ref x0), .val (.int x1)] [] := by first | (simp [entryFrame, mkF, argsToLocals, Value.category]; done) | rfl
set_option maxRecDepth 65536 in
set_option maxHeartbeats 40000000 in
theorem rm6 (l : Launch) (Z : State) (a0 : Array Value) (hw : ∀ d ∈ tables_1, d.before a0 Z = true) (ws : List Jvm.Cond) (x0 r0 r1 r2 r3 r4 r5 : Nat) (x1 : Int32) (st : Nat → Nat → Int32) (h0 : Heap) (PL0 : own_PL Z h0 x0 r0 r1 r2 r3 r4 r5 st) (hp : 0 ≤ x1.toInt ∧ x1.toInt < (8 : Nat)) :
    MetFree l (⟨"com/example/tierstone/tierstone/PageLists", "listOf", "(I)I"⟩ : MethodName) (head1 (Jvm.Cond.code (⟨"com/example/tierstone/tierstone/PageLists", "listOf", "(I)I"⟩ : MethodName) prog_64_method_2_code 2 (some .int) :: ws) ({ frames := 0, cells := 0, slots := 0, locals := 0 } : Room)) (fun a U => a = #[(.ref x0), (.int x1)] ∧ Z.Warmed39 U.vm ∧ U.heap = h0) (fun _ _ _ _ _ => True) (fun _ U o U' => ∃ v L, o = .returned v ∧ (own_Pure (some (.int (st 0 x1.toNatClampNeg))) h0) v U'.heap L ∧ FrameEnd U o U' L ({ frames := 0, cells := 0, slots := 0, locals := 0 } : Room).cells ({ frames := 0, cells := 0, slots := 0, locals := 0 } : Room).slots) := by
  refine own_body (own := "com/example/tierstone/tierstone/PageLists") pn_2 rfl (fun m => ef_6 m x0 x1) ?_
  intro p e s m below meth c T0 hx hby hml hown hnm hlk hret hZ X0 e0
  have w_11 := hw _ (List.mem_of_getElem? (i := 11) rfl)
  obtain ⟨BP1, VP1_0, VP1_1, VP1_2, VP1_3, VP1_4, VP1_5⟩ := PL0
  obtain ⟨EB2, FB2_list, FB2_older, FB2_newer, FB2_oldest, FB2_newest, FB2_length⟩ := BP1
  refine g_aloadN X0.here hx (Jvm.hb hby d6_0) (pc' := 1) rfl rfl rfl ?_
  refine g_getF X0 hx hZ hown (host := "") (Or.inl w_11) Via.refl e0 FB2_list (Jvm.hb hby d6_1) (pc' := 4) rfl ?_
  intro T3 X3 e3
  refine g_iloadN X3.here hx (Jvm.hb hby d6_4) (pc' := 5) rfl rfl ?_
  refine g_baload X3 hx hZ e3 VP1_0 hp (v := (st 0 x1.toNatClampNeg)) rfl (Jvm.hb hby d6_5) (pc' := 6) rfl ?_
  exact g_retI X3 hx hlk hret (Jvm.hb hby d6_6) (Nat.zero_le _) (Nat.zero_le _) ⟨rfl, rfl, e3⟩
theorem d7_0 : decode prog_64_method_5_code 0 = .ok (.aload_n 0, 1) := by decide +kernel
theorem d7_1 : decode prog_64_method_5_code 1 = .ok (.getfield 23, 3) := by decide +kernel
theorem d7_4 : decode prog_64_method_5_code 4 = .ok (.iload_n 1, 1) := by decide +kernel
theorem d7_5 : decode prog_64_method_5_code 5 = .ok (.iaload, 1) := by decide +kernel
theorem d7_6 : decode prog_64_method_5_code 6 = .ok (.ireturn, 1) := by decide +kernel
theorem ef_7 (m : MethodId) (x0 : Addr) (x1 : Int32) : entryFrame m #[(.ref x0), (.int x1)] 2 = mkF m 0 #[.val (.ref x0), .val (.int x1)] [] := by first | (simp [entryFrame, mkF, argsToLocals, Value.category]; done) | rfl
set_option maxRecDepth 65536 in
set_option maxHeartbeats 40000000 in
theorem rm7 (l : Launch) (Z : State) (a0 : Array Value) (hw : ∀ d ∈ tables_1, d.before a0 Z = true) (ws : List Jvm.Cond) (x0 r0 r1 r2 r3 r4 r5 : Nat) (x1 : Int32) (st : Nat → Nat → Int32) (h0 : Heap) (PL0 : own_PL Z h0 x0 r0 r1 r2 r3 r4 r5 st) (hp : 0 ≤ x1.toInt ∧ x1.toInt < (8 : Nat)) :
    MetFree l (⟨"com/example/tierstone/tierstone/PageLists", "newer", "(I)I"⟩ : MethodName) (head1 (Jvm.Cond.code (⟨"com/example/tierstone/tierstone/PageLists", "newer", "(I)I"⟩ : MethodName) prog_64_method_5_code 2 (some .int) :: ws) ({ frames := 0, cells := 0, slots := 0, locals := 0 } : Room)) (fun a U => a = #[(.ref x0), (.int x1)] ∧ Z.Warmed39 U.vm ∧ U.heap = h0) (fun _ _ _ _ _ => True) (fun _ U o U' => ∃ v L, o = .returned v ∧ (own_Pure (some (.int (st 2 x1.toNatClampNeg))) h0) v U'.heap L ∧ FrameEnd U o U' L ({ frames := 0, cells := 0, slots := 0, locals := 0 } : Room).cells ({ frames := 0, cells := 0, slots := 0, locals := 0 } : Room).slots) := by
  refine own_body (own := "com/example/tierstone/tierstone/PageLists") pn_2 rfl (fun m => ef_7 m x0 x1) ?_
  intro p e s m below meth c T0 hx hby hml hown hnm hlk hret hZ X0 e0
  have w_20 := hw _ (List.mem_of_getElem? (i := 20) rfl)
  obtain ⟨BP1, VP1_0, VP1_1, VP1_2, VP1_3, VP1_4, VP1_5⟩ := PL0
  obtain ⟨EB2, FB2_list, FB2_older, FB2_newer, FB2_oldest, FB2_newest, FB2_length⟩ := BP1
  refine g_aloadN X0.here hx (Jvm.hb hby d7_0) (pc' := 1) rfl rfl rfl ?_
  refine g_getF X0 hx hZ hown (host := "") (Or.inl w_20) Via.refl e0 FB2_newer (Jvm.hb hby d7_1) (pc' := 4) rfl ?_
  intro T3 X3 e3
  refine g_iloadN X3.here hx (Jvm.hb hby d7_4) (pc' := 5) rfl rfl ?_
  refine g_iaload X3 hx hZ e3 VP1_2 hp (v := (st 2 x1.toNatClampNeg)) rfl (Jvm.hb hby d7_5) (pc' := 6) rfl ?_
  exact g_retI X3 hx hlk hret (Jvm.hb hby d7_6) (Nat.zero_le _) (Nat.zero_le _) ⟨rfl, rfl, e3⟩
theorem d8_0 : decode prog_64_method_3_code 0 = .ok (.aload_n 0, 1) := by decide +kernel
theorem d8_1 : decode prog_64_method_3_code 1 = .ok (.getfield 35, 3) := by decide +kernel
theorem d8_4 : decode prog_64_method_3_code 4 = .ok (.iload_n 1, 1) := by decide +kernel
theorem d8_5 : decode prog_64_method_3_code 5 = .ok (.iaload, 1) := by decide +kernel
theorem d8_6 : decode prog_64_method_3_code 6 = .ok (.ireturn, 1) := by decide +kernel
theorem ef_8 (m : MethodId) (x0 : Addr) (x1 : Int32) : entryFrame m #[(.ref x0), (.int x1)] 2 = mkF m 0 #[.val (.ref x0), .val (.int x1)] [] := by first | (simp [entryFrame, mkF, argsToLocals, Value.category]; done) | rfl
set_option maxRecDepth 65536 in
set_option maxHeartbeats 40000000 in
theorem rm8 (l : Launch) (Z : State) (a0 : Array Value) (hw : ∀ d ∈ tables_1, d.before a0 Z = true) (ws : List Jvm.Cond) (x0 r0 r1 r2 r3 r4 r5 : Nat) (x1 : Int32) (st : Nat → Nat → Int32) (h0 : Heap) (PL0 : own_PL Z h0 x0 r0 r1 r2 r3 r4 r5 st) (hp : 0 ≤ x1.toInt ∧ x1.toInt < (2 : Nat)) :
    MetFree l (⟨"com/example/tierstone/tierstone/PageLists", "length", "(I)I"⟩ : MethodName) (head1 (Jvm.Cond.code (⟨"com/example/tierstone/tierstone/PageLists", "length", "(I)I"⟩ : MethodName) prog_64_method_3_code 2 (some .int) :: ws) ({ frames := 0, cells := 0, slots := 0, locals := 0 } : Room)) (fun a U => a = #[(.ref x0), (.int x1)] ∧ Z.Warmed39 U.vm ∧ U.heap = h0) (fun _ _ _ _ _ => True) (fun _ U o U' => ∃ v L, o = .returned v ∧ (own_Pure (some (.int (st 5 x1.toNatClampNeg))) h0) v U'.heap L ∧ FrameEnd U o U' L ({ frames := 0, cells := 0, slots := 0, locals := 0 } : Room).cells ({ frames := 0, cells := 0, slots := 0, locals := 0 } : Room).slots) := by
  refine own_body (own := "com/example/tierstone/tierstone/PageLists") pn_2 rfl (fun m => ef_8 m x0 x1) ?_
  intro p e s m below meth c T0 hx hby hml hown hnm hlk hret hZ X0 e0
  have w_29 := hw _ (List.mem_of_getElem? (i := 29) rfl)
  obtain ⟨BP1, VP1_0, VP1_1, VP1_2, VP1_3, VP1_4, VP1_5⟩ := PL0
  obtain ⟨EB2, FB2_list, FB2_older, FB2_newer, FB2_oldest, FB2_newest, FB2_length⟩ := BP1
  refine g_aloadN X0.here hx (Jvm.hb hby d8_0) (pc' := 1) rfl rfl rfl ?_
  refine g_getF X0 hx hZ hown (host := "") (Or.inl w_29) Via.refl e0 FB2_length (Jvm.hb hby d8_1) (pc' := 4) rfl ?_
  intro T3 X3 e3
  refine g_iloadN X3.here hx (Jvm.hb hby d8_4) (pc' := 5) rfl rfl ?_
  refine g_iaload X3 hx hZ e3 VP1_5 hp (v := (st 5 x1.toNatClampNeg)) rfl (Jvm.hb hby d8_5) (pc' := 6) rfl ?_
  exact g_retI X3 hx hlk hret (Jvm.hb hby d8_6) (Nat.zero_le _) (Nat.zero_le _) ⟨rfl, rfl, e3⟩
theorem d9_0 : decode prog_64_method_4_code 0 = .ok (.aload_n 0, 1) := by decide +kernel
theorem d9_1 : decode prog_64_method_4_code 1 = .ok (.getfield 26, 3) := by decide +kernel
theorem d9_4 : decode prog_64_method_4_code 4 = .ok (.iload_n 1, 1) := by decide +kernel
theorem d9_5 : decode prog_64_method_4_code 5 = .ok (.iaload, 1) := by decide +kernel
theorem d9_6 : decode prog_64_method_4_code 6 = .ok (.ireturn, 1) := by decide +kernel
theorem ef_9 (m : MethodId) (x0 : Addr) (x1 : Int32) : entryFrame m #[(.ref x0), (.int x1)] 2 = mkF m 0 #[.val (.ref x0), .val (.int x1)] [] := by first | (simp [entryFrame, mkF, argsToLocals, Value.category]; done) | rfl
set_option maxRecDepth 65536 in
set_option maxHeartbeats 40000000 in
theorem rm9 (l : Launch) (Z : State) (a0 : Array Value) (hw : ∀ d ∈ tables_1, d.before a0 Z = true) (ws : List Jvm.Cond) (x0 r0 r1 r2 r3 r4 r5 : Nat) (x1 : Int32) (st : Nat → Nat → Int32) (h0 : Heap) (PL0 : own_PL Z h0 x0 r0 r1 r2 r3 r4 r5 st) (hp : 0 ≤ x1.toInt ∧ x1.toInt < (2 : Nat)) :
    MetFree l (⟨"com/example/tierstone/tierstone/PageLists", "oldest", "(I)I"⟩ : MethodName) (head1 (Jvm.Cond.code (⟨"com/example/tierstone/tierstone/PageLists", "oldest", "(I)I"⟩ : MethodName) prog_64_method_4_code 2 (some .int) :: ws) ({ frames := 0, cells := 0, slots := 0, locals := 0 } : Room)) (fun a U => a = #[(.ref x0), (.int x1)] ∧ Z.Warmed39 U.vm ∧ U.heap = h0) (fun _ _ _ _ _ => True) (fun _ U o U' => ∃ v L, o = .returned v ∧ (own_Pure (some (.int (st 3 x1.toNatClampNeg))) h0) v U'.heap L ∧ FrameEnd U o U' L ({ frames := 0, cells := 0, slots := 0, locals := 0 } : Room).cells ({ frames := 0, cells := 0, slots := 0, locals := 0 } : Room).slots) := by
  refine own_body (own := "com/example/tierstone/tierstone/PageLists") pn_2 rfl (fun m => ef_9 m x0 x1) ?_
  intro p e s m below meth c T0 hx hby hml hown hnm hlk hret hZ X0 e0
  have w_22 := hw _ (List.mem_of_getElem? (i := 22) rfl)
  obtain ⟨BP1, VP1_0, VP1_1, VP1_2, VP1_3, VP1_4, VP1_5⟩ := PL0
  obtain ⟨EB2, FB2_list, FB2_older, FB2_newer, FB2_oldest, FB2_newest, FB2_length⟩ := BP1
  refine g_aloadN X0.here hx (Jvm.hb hby d9_0) (pc' := 1) rfl rfl rfl ?_
  refine g_getF X0 hx hZ hown (host := "") (Or.inl w_22) Via.refl e0 FB2_oldest (Jvm.hb hby d9_1) (pc' := 4) rfl ?_
  intro T3 X3 e3
  refine g_iloadN X3.here hx (Jvm.hb hby d9_4) (pc' := 5) rfl rfl ?_
  refine g_iaload X3 hx hZ e3 VP1_3 hp (v := (st 3 x1.toNatClampNeg)) rfl (Jvm.hb hby d9_5) (pc' := 6) rfl ?_
  exact g_retI X3 hx hlk hret (Jvm.hb hby d9_6) (Nat.zero_le _) (Nat.zero_le _) ⟨rfl, rfl, e3⟩
theorem own_c0 : (0 : Int32).toNatClampNeg = 0 := rfl
theorem own_c1 : (1 : Int32).toNatClampNeg = 1 := rfl
theorem own_ap0 (st : Nat → Nat → Int32) (p t : Int32) (i : Nat) : own_ap st p t 0 i = if i = p.toNatClampNeg then t.toInt8.toInt32.toInt8.toInt32 else st 0 i := by
  by_cases q : st 4 t.toNatClampNeg = (-1 : Int32) <;> simp [own_ap, own_up, q]
theorem own_ap1 (st : Nat → Nat → Int32) (p t : Int32) (i : Nat) : own_ap st p t 1 i = if i = p.toNatClampNeg then st 4 t.toNatClampNeg else st 1 i := by
  by_cases q : st 4 t.toNatClampNeg = (-1 : Int32) <;> simp [own_ap, own_up, q]
theorem own_ap2 (st : Nat → Nat → Int32) (p t : Int32) (i : Nat) : own_ap st p t 2 i = if st 4 t.toNatClampNeg = (-1 : Int32) then (if i = p.toNatClampNeg then (-1 : Int32) else st 2 i) else (if i = (st 4 t.toNatClampNeg).toNatClampNeg then p else if i = p.toNatClampNeg then (-1 : Int32) else st 2 i) := by
  by_cases q : st 4 t.toNatClampNeg = (-1 : Int32) <;> simp [own_ap, own_up, q]
theorem own_ap3 (st : Nat → Nat → Int32) (p t : Int32) (i : Nat) : own_ap st p t 3 i = if st 4 t.toNatClampNeg = (-1 : Int32) then (if i = t.toNatClampNeg then p else st 3 i) else st 3 i := by
  by_cases q : st 4 t.toNatClampNeg = (-1 : Int32) <;> simp [own_ap, own_up, q]
theorem own_ap4 (st : Nat → Nat → Int32) (p t : Int32) (i : Nat) : own_ap st p t 4 i = if i = t.toNatClampNeg then p else st 4 i := by
  by_cases q : st 4 t.toNatClampNeg = (-1 : Int32) <;> simp [own_ap, own_up, q]
theorem own_ap5 (st : Nat → Nat → Int32) (p t : Int32) (i : Nat) : own_ap st p t 5 i = if i = t.toNatClampNeg then st 5 t.toNatClampNeg + (1 : Int32) else st 5 i := by
  by_cases q : st 4 t.toNatClampNeg = (-1 : Int32) <;> simp [own_ap, own_up, q]
theorem own_rmA2 (st : Nat → Nat → Int32) (p : Int32) (i : Nat) : own_rm st p 2 i = if st 1 p.toNatClampNeg = (-1 : Int32) then st 2 i else (if i = (st 1 p.toNatClampNeg).toNatClampNeg then st 2 p.toNatClampNeg else st 2 i) := by
  by_cases q : st 1 p.toNatClampNeg = (-1 : Int32) <;> by_cases q2 : st 2 p.toNatClampNeg = (-1 : Int32) <;> simp [own_rm, own_rm1, own_rm2, own_up, q, q2]
theorem own_rmA3 (st : Nat → Nat → Int32) (p : Int32) (i : Nat) : own_rm st p 3 i = if st 1 p.toNatClampNeg = (-1 : Int32) then (if i = (st 0 p.toNatClampNeg).toNatClampNeg then st 2 p.toNatClampNeg else st 3 i) else st 3 i := by
  by_cases q : st 1 p.toNatClampNeg = (-1 : Int32) <;> by_cases q2 : st 2 p.toNatClampNeg = (-1 : Int32) <;> simp [own_rm, own_rm1, own_rm2, own_up, q, q2]
theorem own_s0 (k i : Nat) : own_st0 k i = if k = 0 ∨ k = 3 ∨ k = 4 then (-1 : Int32) else (0 : Int32) := rfl
theorem own_m1 (p : Int32) (h : 0 ≤ p.toInt) : ¬ p = (-1 : Int32) := by
  have k : (-1 : Int32).toInt = -1 := by decide
  rw [← Int32.toInt_inj, k]; omega
theorem own_nn (p q : Int32) (h : 0 ≤ p.toInt) (h' : 0 ≤ q.toInt) (hn : p.toInt ≠ q.toInt) : ¬ p.toNatClampNeg = q.toNatClampNeg := by
  rw [own_clamp, own_clamp]; omega
theorem own_f_la (a b c x y z : Int32) (ha : 0 ≤ a.toInt ∧ a.toInt < (8 : Nat)) (hb : 0 ≤ b.toInt ∧ b.toInt < (8 : Nat)) (hc : 0 ≤ c.toInt ∧ c.toInt < (8 : Nat)) (hab : a.toInt ≠ b.toInt) (hac : a.toInt ≠ c.toInt) (hbc : b.toInt ≠ c.toInt) (hx : x = (0 : Int32) ∨ x = (1 : Int32)) (hy : y = (0 : Int32) ∨ y = (1 : Int32)) (hz : z = (0 : Int32) ∨ z = (1 : Int32)) : (own_ap (own_ap (own_ap own_st0 a x) b y) c z) 0 a.toNatClampNeg = x := by
  have a1 := own_m1 a ha.1
  have b1 := own_m1 b hb.1
  have c1 := own_m1 c hc.1
  have n1 := own_nn a b ha.1 hb.1 hab
  have n2 := own_nn a c ha.1 hc.1 hac
  have n3 := own_nn b c hb.1 hc.1 hbc
  have n4 : ¬ b.toNatClampNeg = a.toNatClampNeg := fun q => n1 (Eq.symm q)
  have n5 : ¬ c.toNatClampNeg = a.toNatClampNeg := fun q => n2 (Eq.symm q)
  have n6 : ¬ c.toNatClampNeg = b.toNatClampNeg := fun q => n3 (Eq.symm q)
  rcases hx with rfl | rfl <;> rcases hy with rfl | rfl <;> rcases hz with rfl | rfl <;>
  first | (simp [own_ap0, own_ap1, own_ap2, own_ap3, own_ap4, own_ap5, own_rmA2, own_rmA3, own_s0, own_c0, own_c1, a1, b1, c1, n1, n2, n3, n4, n5, n6]; done) | (simp [own_ap0, own_ap1, own_ap2, own_ap3, own_ap4, own_ap5, own_rmA2, own_rmA3, own_s0, own_c0, own_c1, a1, b1, c1, n1, n2, n3, n4, n5, n6]; decide)
theorem own_f_lb (a b c x y z : Int32) (ha : 0 ≤ a.toInt ∧ a.toInt < (8 : Nat)) (hb : 0 ≤ b.toInt ∧ b.toInt < (8 : Nat)) (hc : 0 ≤ c.toInt ∧ c.toInt < (8 : Nat)) (hab : a.toInt ≠ b.toInt) (hac : a.toInt ≠ c.toInt) (hbc : b.toInt ≠ c.toInt) (hx : x = (0 : Int32) ∨ x = (1 : Int32)) (hy : y = (0 : Int32) ∨ y = (1 : Int32)) (hz : z = (0 : Int32) ∨ z = (1 : Int32)) : (own_ap (own_ap (own_ap own_st0 a x) b y) c z) 0 b.toNatClampNeg = y := by
  have a1 := own_m1 a ha.1
  have b1 := own_m1 b hb.1
  have c1 := own_m1 c hc.1
  have n1 := own_nn a b ha.1 hb.1 hab
  have n2 := own_nn a c ha.1 hc.1 hac
  have n3 := own_nn b c hb.1 hc.1 hbc
  have n4 : ¬ b.toNatClampNeg = a.toNatClampNeg := fun q => n1 (Eq.symm q)
  have n5 : ¬ c.toNatClampNeg = a.toNatClampNeg := fun q => n2 (Eq.symm q)
  have n6 : ¬ c.toNatClampNeg = b.toNatClampNeg := fun q => n3 (Eq.symm q)
  rcases hx with rfl | rfl <;> rcases hy with rfl | rfl <;> rcases hz with rfl | rfl <;>
  first | (simp [own_ap0, own_ap1, own_ap2, own_ap3, own_ap4, own_ap5, own_rmA2, own_rmA3, own_s0, own_c0, own_c1, a1, b1, c1, n1, n2, n3, n4, n5, n6]; done) | (simp [own_ap0, own_ap1, own_ap2, own_ap3, own_ap4, own_ap5, own_rmA2, own_rmA3, own_s0, own_c0, own_c1, a1, b1, c1, n1, n2, n3, n4, n5, n6]; decide)
theorem own_f_lc (a b c x y z : Int32) (ha : 0 ≤ a.toInt ∧ a.toInt < (8 : Nat)) (hb : 0 ≤ b.toInt ∧ b.toInt < (8 : Nat)) (hc : 0 ≤ c.toInt ∧ c.toInt < (8 : Nat)) (hab : a.toInt ≠ b.toInt) (hac : a.toInt ≠ c.toInt) (hbc : b.toInt ≠ c.toInt) (hx : x = (0 : Int32) ∨ x = (1 : Int32)) (hy : y = (0 : Int32) ∨ y = (1 : Int32)) (hz : z = (0 : Int32) ∨ z = (1 : Int32)) : (own_ap (own_ap (own_ap own_st0 a x) b y) c z) 0 c.toNatClampNeg = z := by
  have a1 := own_m1 a ha.1
  have b1 := own_m1 b hb.1
  have c1 := own_m1 c hc.1
  have n1 := own_nn a b ha.1 hb.1 hab
  have n2 := own_nn a c ha.1 hc.1 hac
  have n3 := own_nn b c hb.1 hc.1 hbc
  have n4 : ¬ b.toNatClampNeg = a.toNatClampNeg := fun q => n1 (Eq.symm q)
  have n5 : ¬ c.toNatClampNeg = a.toNatClampNeg := fun q => n2 (Eq.symm q)
  have n6 : ¬ c.toNatClampNeg = b.toNatClampNeg := fun q => n3 (Eq.symm q)
  rcases hx with rfl | rfl <;> rcases hy with rfl | rfl <;> rcases hz with rfl | rfl <;>
  first | (simp [own_ap0, own_ap1, own_ap2, own_ap3, own_ap4, own_ap5, own_rmA2, own_rmA3, own_s0, own_c0, own_c1, a1, b1, c1, n1, n2, n3, n4, n5, n6]; done) | (simp [own_ap0, own_ap1, own_ap2, own_ap3, own_ap4, own_ap5, own_rmA2, own_rmA3, own_s0, own_c0, own_c1, a1, b1, c1, n1, n2, n3, n4, n5, n6]; decide)
theorem own_f_na (a b c x y z : Int32) (ha : 0 ≤ a.toInt ∧ a.toInt < (8 : Nat)) (hb : 0 ≤ b.toInt ∧ b.toInt < (8 : Nat)) (hc : 0 ≤ c.toInt ∧ c.toInt < (8 : Nat)) (hab : a.toInt ≠ b.toInt) (hac : a.toInt ≠ c.toInt) (hbc : b.toInt ≠ c.toInt) (hx : x = (0 : Int32) ∨ x = (1 : Int32)) (hy : y = (0 : Int32) ∨ y = (1 : Int32)) (hz : z = (0 : Int32) ∨ z = (1 : Int32)) : (own_ap (own_ap (own_ap own_st0 a x) b y) c z) 2 a.toNatClampNeg = (if x = y then b else if x = z then c else (-1 : Int32)) := by
  have a1 := own_m1 a ha.1
  have b1 := own_m1 b hb.1
  have c1 := own_m1 c hc.1
  have n1 := own_nn a b ha.1 hb.1 hab
  have n2 := own_nn a c ha.1 hc.1 hac
  have n3 := own_nn b c hb.1 hc.1 hbc
  have n4 : ¬ b.toNatClampNeg = a.toNatClampNeg := fun q => n1 (Eq.symm q)
  have n5 : ¬ c.toNatClampNeg = a.toNatClampNeg := fun q => n2 (Eq.symm q)
  have n6 : ¬ c.toNatClampNeg = b.toNatClampNeg := fun q => n3 (Eq.symm q)
  rcases hx with rfl | rfl <;> rcases hy with rfl | rfl <;> rcases hz with rfl | rfl <;>
  first | (simp [own_ap0, own_ap1, own_ap2, own_ap3, own_ap4, own_ap5, own_rmA2, own_rmA3, own_s0, own_c0, own_c1, a1, b1, c1, n1, n2, n3, n4, n5, n6]; done) | (simp [own_ap0, own_ap1, own_ap2, own_ap3, own_ap4, own_ap5, own_rmA2, own_rmA3, own_s0, own_c0, own_c1, a1, b1, c1, n1, n2, n3, n4, n5, n6]; decide)
theorem own_f_nb (a b c x y z : Int32) (ha : 0 ≤ a.toInt ∧ a.toInt < (8 : Nat)) (hb : 0 ≤ b.toInt ∧ b.toInt < (8 : Nat)) (hc : 0 ≤ c.toInt ∧ c.toInt < (8 : Nat)) (hab : a.toInt ≠ b.toInt) (hac : a.toInt ≠ c.toInt) (hbc : b.toInt ≠ c.toInt) (hx : x = (0 : Int32) ∨ x = (1 : Int32)) (hy : y = (0 : Int32) ∨ y = (1 : Int32)) (hz : z = (0 : Int32) ∨ z = (1 : Int32)) : (own_ap (own_ap (own_ap own_st0 a x) b y) c z) 2 b.toNatClampNeg = (if y = z then c else (-1 : Int32)) := by
  have a1 := own_m1 a ha.1
  have b1 := own_m1 b hb.1
  have c1 := own_m1 c hc.1
  have n1 := own_nn a b ha.1 hb.1 hab
  have n2 := own_nn a c ha.1 hc.1 hac
  have n3 := own_nn b c hb.1 hc.1 hbc
  have n4 : ¬ b.toNatClampNeg = a.toNatClampNeg := fun q => n1 (Eq.symm q)
  have n5 : ¬ c.toNatClampNeg = a.toNatClampNeg := fun q => n2 (Eq.symm q)
  have n6 : ¬ c.toNatClampNeg = b.toNatClampNeg := fun q => n3 (Eq.symm q)
  rcases hx with rfl | rfl <;> rcases hy with rfl | rfl <;> rcases hz with rfl | rfl <;>
  first | (simp [own_ap0, own_ap1, own_ap2, own_ap3, own_ap4, own_ap5, own_rmA2, own_rmA3, own_s0, own_c0, own_c1, a1, b1, c1, n1, n2, n3, n4, n5, n6]; done) | (simp [own_ap0, own_ap1, own_ap2, own_ap3, own_ap4, own_ap5, own_rmA2, own_rmA3, own_s0, own_c0, own_c1, a1, b1, c1, n1, n2, n3, n4, n5, n6]; decide)
theorem own_f_nc (a b c x y z : Int32) (ha : 0 ≤ a.toInt ∧ a.toInt < (8 : Nat)) (hb : 0 ≤ b.toInt ∧ b.toInt < (8 : Nat)) (hc : 0 ≤ c.toInt ∧ c.toInt < (8 : Nat)) (hab : a.toInt ≠ b.toInt) (hac : a.toInt ≠ c.toInt) (hbc : b.toInt ≠ c.toInt) (hx : x = (0 : Int32) ∨ x = (1 : Int32)) (hy : y = (0 : Int32) ∨ y = (1 : Int32)) (hz : z = (0 : Int32) ∨ z = (1 : Int32)) : (own_ap (own_ap (own_ap own_st0 a x) b y) c z) 2 c.toNatClampNeg = (-1 : Int32) := by
  have a1 := own_m1 a ha.1
  have b1 := own_m1 b hb.1
  have c1 := own_m1 c hc.1
  have n1 := own_nn a b ha.1 hb.1 hab
  have n2 := own_nn a c ha.1 hc.1 hac
  have n3 := own_nn b c hb.1 hc.1 hbc
  have n4 : ¬ b.toNatClampNeg = a.toNatClampNeg := fun q => n1 (Eq.symm q)
  have n5 : ¬ c.toNatClampNeg = a.toNatClampNeg := fun q => n2 (Eq.symm q)
  have n6 : ¬ c.toNatClampNeg = b.toNatClampNeg := fun q => n3 (Eq.symm q)
  rcases hx with rfl | rfl <;> rcases hy with rfl | rfl <;> rcases hz with rfl | rfl <;>
  first | (simp [own_ap0, own_ap1, own_ap2, own_ap3, own_ap4, own_ap5, own_rmA2, own_rmA3, own_s0, own_c0, own_c1, a1, b1, c1, n1, n2, n3, n4, n5, n6]; done) | (simp [own_ap0, own_ap1, own_ap2, own_ap3, own_ap4, own_ap5, own_rmA2, own_rmA3, own_s0, own_c0, own_c1, a1, b1, c1, n1, n2, n3, n4, n5, n6]; decide)
theorem own_f_l0 (a b c x y z : Int32) (ha : 0 ≤ a.toInt ∧ a.toInt < (8 : Nat)) (hb : 0 ≤ b.toInt ∧ b.toInt < (8 : Nat)) (hc : 0 ≤ c.toInt ∧ c.toInt < (8 : Nat)) (hab : a.toInt ≠ b.toInt) (hac : a.toInt ≠ c.toInt) (hbc : b.toInt ≠ c.toInt) (hx : x = (0 : Int32) ∨ x = (1 : Int32)) (hy : y = (0 : Int32) ∨ y = (1 : Int32)) (hz : z = (0 : Int32) ∨ z = (1 : Int32)) : (own_ap (own_ap (own_ap own_st0 a x) b y) c z) 5 0 = (((if x = (0 : Int32) then (1 : Int32) else (0 : Int32)) + (if y = (0 : Int32) then (1 : Int32) else (0 : Int32))) + (if z = (0 : Int32) then (1 : Int32) else (0 : Int32))) := by
  have a1 := own_m1 a ha.1
  have b1 := own_m1 b hb.1
  have c1 := own_m1 c hc.1
  have n1 := own_nn a b ha.1 hb.1 hab
  have n2 := own_nn a c ha.1 hc.1 hac
  have n3 := own_nn b c hb.1 hc.1 hbc
  have n4 : ¬ b.toNatClampNeg = a.toNatClampNeg := fun q => n1 (Eq.symm q)
  have n5 : ¬ c.toNatClampNeg = a.toNatClampNeg := fun q => n2 (Eq.symm q)
  have n6 : ¬ c.toNatClampNeg = b.toNatClampNeg := fun q => n3 (Eq.symm q)
  rcases hx with rfl | rfl <;> rcases hy with rfl | rfl <;> rcases hz with rfl | rfl <;>
  first | (simp [own_ap0, own_ap1, own_ap2, own_ap3, own_ap4, own_ap5, own_rmA2, own_rmA3, own_s0, own_c0, own_c1, a1, b1, c1, n1, n2, n3, n4, n5, n6]; done) | (simp [own_ap0, own_ap1, own_ap2, own_ap3, own_ap4, own_ap5, own_rmA2, own_rmA3, own_s0, own_c0, own_c1, a1, b1, c1, n1, n2, n3, n4, n5, n6]; decide)
theorem own_f_l1 (a b c x y z : Int32) (ha : 0 ≤ a.toInt ∧ a.toInt < (8 : Nat)) (hb : 0 ≤ b.toInt ∧ b.toInt < (8 : Nat)) (hc : 0 ≤ c.toInt ∧ c.toInt < (8 : Nat)) (hab : a.toInt ≠ b.toInt) (hac : a.toInt ≠ c.toInt) (hbc : b.toInt ≠ c.toInt) (hx : x = (0 : Int32) ∨ x = (1 : Int32)) (hy : y = (0 : Int32) ∨ y = (1 : Int32)) (hz : z = (0 : Int32) ∨ z = (1 : Int32)) : (own_ap (own_ap (own_ap own_st0 a x) b y) c z) 5 1 = (3 : Int32) - (((if x = (0 : Int32) then (1 : Int32) else (0 : Int32)) + (if y = (0 : Int32) then (1 : Int32) else (0 : Int32))) + (if z = (0 : Int32) then (1 : Int32) else (0 : Int32))) := by
  have a1 := own_m1 a ha.1
  have b1 := own_m1 b hb.1
  have c1 := own_m1 c hc.1
  have n1 := own_nn a b ha.1 hb.1 hab
  have n2 := own_nn a c ha.1 hc.1 hac
  have n3 := own_nn b c hb.1 hc.1 hbc
  have n4 : ¬ b.toNatClampNeg = a.toNatClampNeg := fun q => n1 (Eq.symm q)
  have n5 : ¬ c.toNatClampNeg = a.toNatClampNeg := fun q => n2 (Eq.symm q)
  have n6 : ¬ c.toNatClampNeg = b.toNatClampNeg := fun q => n3 (Eq.symm q)
  rcases hx with rfl | rfl <;> rcases hy with rfl | rfl <;> rcases hz with rfl | rfl <;>
  first | (simp [own_ap0, own_ap1, own_ap2, own_ap3, own_ap4, own_ap5, own_rmA2, own_rmA3, own_s0, own_c0, own_c1, a1, b1, c1, n1, n2, n3, n4, n5, n6]; done) | (simp [own_ap0, own_ap1, own_ap2, own_ap3, own_ap4, own_ap5, own_rmA2, own_rmA3, own_s0, own_c0, own_c1, a1, b1, c1, n1, n2, n3, n4, n5, n6]; decide)
theorem own_f_o0 (a b c x y z : Int32) (ha : 0 ≤ a.toInt ∧ a.toInt < (8 : Nat)) (hb : 0 ≤ b.toInt ∧ b.toInt < (8 : Nat)) (hc : 0 ≤ c.toInt ∧ c.toInt < (8 : Nat)) (hab : a.toInt ≠ b.toInt) (hac : a.toInt ≠ c.toInt) (hbc : b.toInt ≠ c.toInt) (hx : x = (0 : Int32) ∨ x = (1 : Int32)) (hy : y = (0 : Int32) ∨ y = (1 : Int32)) (hz : z = (0 : Int32) ∨ z = (1 : Int32)) : (own_ap (own_ap (own_ap own_st0 a x) b y) c z) 3 0 = f_first (0 : Int32) x y z a b c := by
  have a1 := own_m1 a ha.1
  have b1 := own_m1 b hb.1
  have c1 := own_m1 c hc.1
  have n1 := own_nn a b ha.1 hb.1 hab
  have n2 := own_nn a c ha.1 hc.1 hac
  have n3 := own_nn b c hb.1 hc.1 hbc
  have n4 : ¬ b.toNatClampNeg = a.toNatClampNeg := fun q => n1 (Eq.symm q)
  have n5 : ¬ c.toNatClampNeg = a.toNatClampNeg := fun q => n2 (Eq.symm q)
  have n6 : ¬ c.toNatClampNeg = b.toNatClampNeg := fun q => n3 (Eq.symm q)
  rcases hx with rfl | rfl <;> rcases hy with rfl | rfl <;> rcases hz with rfl | rfl <;>
  first | (simp [own_ap0, own_ap1, own_ap2, own_ap3, own_ap4, own_ap5, own_rmA2, own_rmA3, own_s0, own_c0, own_c1, a1, b1, c1, n1, n2, n3, n4, n5, n6, f_first]; done) | (simp [own_ap0, own_ap1, own_ap2, own_ap3, own_ap4, own_ap5, own_rmA2, own_rmA3, own_s0, own_c0, own_c1, a1, b1, c1, n1, n2, n3, n4, n5, n6, f_first]; decide)
theorem own_f_o1 (a b c x y z : Int32) (ha : 0 ≤ a.toInt ∧ a.toInt < (8 : Nat)) (hb : 0 ≤ b.toInt ∧ b.toInt < (8 : Nat)) (hc : 0 ≤ c.toInt ∧ c.toInt < (8 : Nat)) (hab : a.toInt ≠ b.toInt) (hac : a.toInt ≠ c.toInt) (hbc : b.toInt ≠ c.toInt) (hx : x = (0 : Int32) ∨ x = (1 : Int32)) (hy : y = (0 : Int32) ∨ y = (1 : Int32)) (hz : z = (0 : Int32) ∨ z = (1 : Int32)) : (own_ap (own_ap (own_ap own_st0 a x) b y) c z) 3 1 = f_first (1 : Int32) x y z a b c := by
  have a1 := own_m1 a ha.1
  have b1 := own_m1 b hb.1
  have c1 := own_m1 c hc.1
  have n1 := own_nn a b ha.1 hb.1 hab
  have n2 := own_nn a c ha.1 hc.1 hac
  have n3 := own_nn b c hb.1 hc.1 hbc
  have n4 : ¬ b.toNatClampNeg = a.toNatClampNeg := fun q => n1 (Eq.symm q)
  have n5 : ¬ c.toNatClampNeg = a.toNatClampNeg := fun q => n2 (Eq.symm q)
  have n6 : ¬ c.toNatClampNeg = b.toNatClampNeg := fun q => n3 (Eq.symm q)
  rcases hx with rfl | rfl <;> rcases hy with rfl | rfl <;> rcases hz with rfl | rfl <;>
  first | (simp [own_ap0, own_ap1, own_ap2, own_ap3, own_ap4, own_ap5, own_rmA2, own_rmA3, own_s0, own_c0, own_c1, a1, b1, c1, n1, n2, n3, n4, n5, n6, f_first]; done) | (simp [own_ap0, own_ap1, own_ap2, own_ap3, own_ap4, own_ap5, own_rmA2, own_rmA3, own_s0, own_c0, own_c1, a1, b1, c1, n1, n2, n3, n4, n5, n6, f_first]; decide)
theorem own_f_ra (a b c x y z : Int32) (ha : 0 ≤ a.toInt ∧ a.toInt < (8 : Nat)) (hb : 0 ≤ b.toInt ∧ b.toInt < (8 : Nat)) (hc : 0 ≤ c.toInt ∧ c.toInt < (8 : Nat)) (hab : a.toInt ≠ b.toInt) (hac : a.toInt ≠ c.toInt) (hbc : b.toInt ≠ c.toInt) (hx : x = (0 : Int32) ∨ x = (1 : Int32)) (hy : y = (0 : Int32) ∨ y = (1 : Int32)) (hz : z = (0 : Int32) ∨ z = (1 : Int32)) : own_rm (own_ap (own_ap (own_ap own_st0 a x) b y) c z) c 2 a.toNatClampNeg = (if x = y then b else (-1 : Int32)) := by
  have a1 := own_m1 a ha.1
  have b1 := own_m1 b hb.1
  have c1 := own_m1 c hc.1
  have n1 := own_nn a b ha.1 hb.1 hab
  have n2 := own_nn a c ha.1 hc.1 hac
  have n3 := own_nn b c hb.1 hc.1 hbc
  have n4 : ¬ b.toNatClampNeg = a.toNatClampNeg := fun q => n1 (Eq.symm q)
  have n5 : ¬ c.toNatClampNeg = a.toNatClampNeg := fun q => n2 (Eq.symm q)
  have n6 : ¬ c.toNatClampNeg = b.toNatClampNeg := fun q => n3 (Eq.symm q)
  rcases hx with rfl | rfl <;> rcases hy with rfl | rfl <;> rcases hz with rfl | rfl <;>
  first | (simp [own_ap0, own_ap1, own_ap2, own_ap3, own_ap4, own_ap5, own_rmA2, own_rmA3, own_s0, own_c0, own_c1, a1, b1, c1, n1, n2, n3, n4, n5, n6]; done) | (simp [own_ap0, own_ap1, own_ap2, own_ap3, own_ap4, own_ap5, own_rmA2, own_rmA3, own_s0, own_c0, own_c1, a1, b1, c1, n1, n2, n3, n4, n5, n6]; decide)
theorem own_f_rz (a b c x y z : Int32) (ha : 0 ≤ a.toInt ∧ a.toInt < (8 : Nat)) (hb : 0 ≤ b.toInt ∧ b.toInt < (8 : Nat)) (hc : 0 ≤ c.toInt ∧ c.toInt < (8 : Nat)) (hab : a.toInt ≠ b.toInt) (hac : a.toInt ≠ c.toInt) (hbc : b.toInt ≠ c.toInt) (hx : x = (0 : Int32) ∨ x = (1 : Int32)) (hy : y = (0 : Int32) ∨ y = (1 : Int32)) (hz : z = (0 : Int32) ∨ z = (1 : Int32)) : own_rm (own_ap (own_ap (own_ap own_st0 a x) b y) c z) c 3 z.toNatClampNeg = (if x = z then a else if y = z then b else (-1 : Int32)) := by
  have a1 := own_m1 a ha.1
  have b1 := own_m1 b hb.1
  have c1 := own_m1 c hc.1
  have n1 := own_nn a b ha.1 hb.1 hab
  have n2 := own_nn a c ha.1 hc.1 hac
  have n3 := own_nn b c hb.1 hc.1 hbc
  have n4 : ¬ b.toNatClampNeg = a.toNatClampNeg := fun q => n1 (Eq.symm q)
  have n5 : ¬ c.toNatClampNeg = a.toNatClampNeg := fun q => n2 (Eq.symm q)
  have n6 : ¬ c.toNatClampNeg = b.toNatClampNeg := fun q => n3 (Eq.symm q)
  rcases hx with rfl | rfl <;> rcases hy with rfl | rfl <;> rcases hz with rfl | rfl <;>
  first | (simp [own_ap0, own_ap1, own_ap2, own_ap3, own_ap4, own_ap5, own_rmA2, own_rmA3, own_s0, own_c0, own_c1, a1, b1, c1, n1, n2, n3, n4, n5, n6]; done) | (simp [own_ap0, own_ap1, own_ap2, own_ap3, own_ap4, own_ap5, own_rmA2, own_rmA3, own_s0, own_c0, own_c1, a1, b1, c1, n1, n2, n3, n4, n5, n6]; decide)
theorem own_f_pz (a b c x y z : Int32) (ha : 0 ≤ a.toInt ∧ a.toInt < (8 : Nat)) (hb : 0 ≤ b.toInt ∧ b.toInt < (8 : Nat)) (hc : 0 ≤ c.toInt ∧ c.toInt < (8 : Nat)) (hab : a.toInt ≠ b.toInt) (hac : a.toInt ≠ c.toInt) (hbc : b.toInt ≠ c.toInt) (hx : x = (0 : Int32) ∨ x = (1 : Int32)) (hy : y = (0 : Int32) ∨ y = (1 : Int32)) (hz : z = (0 : Int32) ∨ z = (1 : Int32)) : (0 ≤ ((own_ap (own_ap (own_ap own_st0 a x) b y) c z) 0 c.toNatClampNeg).toInt ∧ ((own_ap (own_ap (own_ap own_st0 a x) b y) c z) 0 c.toNatClampNeg).toInt < (2 : Nat)) := by
  have a1 := own_m1 a ha.1
  have b1 := own_m1 b hb.1
  have c1 := own_m1 c hc.1
  have n1 := own_nn a b ha.1 hb.1 hab
  have n2 := own_nn a c ha.1 hc.1 hac
  have n3 := own_nn b c hb.1 hc.1 hbc
  have n4 : ¬ b.toNatClampNeg = a.toNatClampNeg := fun q => n1 (Eq.symm q)
  have n5 : ¬ c.toNatClampNeg = a.toNatClampNeg := fun q => n2 (Eq.symm q)
  have n6 : ¬ c.toNatClampNeg = b.toNatClampNeg := fun q => n3 (Eq.symm q)
  rcases hx with rfl | rfl <;> rcases hy with rfl | rfl <;> rcases hz with rfl | rfl <;>
  first | (simp [own_ap0, own_ap1, own_ap2, own_ap3, own_ap4, own_ap5, own_rmA2, own_rmA3, own_s0, own_c0, own_c1, a1, b1, c1, n1, n2, n3, n4, n5, n6]; done) | (simp [own_ap0, own_ap1, own_ap2, own_ap3, own_ap4, own_ap5, own_rmA2, own_rmA3, own_s0, own_c0, own_c1, a1, b1, c1, n1, n2, n3, n4, n5, n6]; omega)
theorem own_f_po (a b c x y z : Int32) (ha : 0 ≤ a.toInt ∧ a.toInt < (8 : Nat)) (hb : 0 ≤ b.toInt ∧ b.toInt < (8 : Nat)) (hc : 0 ≤ c.toInt ∧ c.toInt < (8 : Nat)) (hab : a.toInt ≠ b.toInt) (hac : a.toInt ≠ c.toInt) (hbc : b.toInt ≠ c.toInt) (hx : x = (0 : Int32) ∨ x = (1 : Int32)) (hy : y = (0 : Int32) ∨ y = (1 : Int32)) (hz : z = (0 : Int32) ∨ z = (1 : Int32)) : (own_ap (own_ap (own_ap own_st0 a x) b y) c z) 1 c.toNatClampNeg = (-1 : Int32) ∨ (0 ≤ ((own_ap (own_ap (own_ap own_st0 a x) b y) c z) 1 c.toNatClampNeg).toInt ∧ ((own_ap (own_ap (own_ap own_st0 a x) b y) c z) 1 c.toNatClampNeg).toInt < (8 : Nat)) := by
  have a1 := own_m1 a ha.1
  have b1 := own_m1 b hb.1
  have c1 := own_m1 c hc.1
  have n1 := own_nn a b ha.1 hb.1 hab
  have n2 := own_nn a c ha.1 hc.1 hac
  have n3 := own_nn b c hb.1 hc.1 hbc
  have n4 : ¬ b.toNatClampNeg = a.toNatClampNeg := fun q => n1 (Eq.symm q)
  have n5 : ¬ c.toNatClampNeg = a.toNatClampNeg := fun q => n2 (Eq.symm q)
  have n6 : ¬ c.toNatClampNeg = b.toNatClampNeg := fun q => n3 (Eq.symm q)
  rcases hx with rfl | rfl <;> rcases hy with rfl | rfl <;> rcases hz with rfl | rfl <;>
  first | (simp [own_ap0, own_ap1, own_ap2, own_ap3, own_ap4, own_ap5, own_rmA2, own_rmA3, own_s0, own_c0, own_c1, a1, b1, c1, n1, n2, n3, n4, n5, n6]; done) | (simp [own_ap0, own_ap1, own_ap2, own_ap3, own_ap4, own_ap5, own_rmA2, own_rmA3, own_s0, own_c0, own_c1, a1, b1, c1, n1, n2, n3, n4, n5, n6]; omega)
theorem own_f_v1 (a b c x y z : Int32) (ha : 0 ≤ a.toInt ∧ a.toInt < (8 : Nat)) (hb : 0 ≤ b.toInt ∧ b.toInt < (8 : Nat)) (hc : 0 ≤ c.toInt ∧ c.toInt < (8 : Nat)) (hab : a.toInt ≠ b.toInt) (hac : a.toInt ≠ c.toInt) (hbc : b.toInt ≠ c.toInt) (hx : x = (0 : Int32) ∨ x = (1 : Int32)) (hy : y = (0 : Int32) ∨ y = (1 : Int32)) (hz : z = (0 : Int32) ∨ z = (1 : Int32)) : (own_ap own_st0 a x) 4 y.toNatClampNeg = (-1 : Int32) ∨ (0 ≤ ((own_ap own_st0 a x) 4 y.toNatClampNeg).toInt ∧ ((own_ap own_st0 a x) 4 y.toNatClampNeg).toInt < (8 : Nat)) := by
  have a1 := own_m1 a ha.1
  have b1 := own_m1 b hb.1
  have c1 := own_m1 c hc.1
  have n1 := own_nn a b ha.1 hb.1 hab
  have n2 := own_nn a c ha.1 hc.1 hac
  have n3 := own_nn b c hb.1 hc.1 hbc
  have n4 : ¬ b.toNatClampNeg = a.toNatClampNeg := fun q => n1 (Eq.symm q)
  have n5 : ¬ c.toNatClampNeg = a.toNatClampNeg := fun q => n2 (Eq.symm q)
  have n6 : ¬ c.toNatClampNeg = b.toNatClampNeg := fun q => n3 (Eq.symm q)
  rcases hx with rfl | rfl <;> rcases hy with rfl | rfl <;> rcases hz with rfl | rfl <;>
  first | (simp [own_ap0, own_ap1, own_ap2, own_ap3, own_ap4, own_ap5, own_rmA2, own_rmA3, own_s0, own_c0, own_c1, a1, b1, c1, n1, n2, n3, n4, n5, n6]; done) | (simp [own_ap0, own_ap1, own_ap2, own_ap3, own_ap4, own_ap5, own_rmA2, own_rmA3, own_s0, own_c0, own_c1, a1, b1, c1, n1, n2, n3, n4, n5, n6]; omega)
theorem own_f_v2 (a b c x y z : Int32) (ha : 0 ≤ a.toInt ∧ a.toInt < (8 : Nat)) (hb : 0 ≤ b.toInt ∧ b.toInt < (8 : Nat)) (hc : 0 ≤ c.toInt ∧ c.toInt < (8 : Nat)) (hab : a.toInt ≠ b.toInt) (hac : a.toInt ≠ c.toInt) (hbc : b.toInt ≠ c.toInt) (hx : x = (0 : Int32) ∨ x = (1 : Int32)) (hy : y = (0 : Int32) ∨ y = (1 : Int32)) (hz : z = (0 : Int32) ∨ z = (1 : Int32)) : (own_ap (own_ap own_st0 a x) b y) 4 z.toNatClampNeg = (-1 : Int32) ∨ (0 ≤ ((own_ap (own_ap own_st0 a x) b y) 4 z.toNatClampNeg).toInt ∧ ((own_ap (own_ap own_st0 a x) b y) 4 z.toNatClampNeg).toInt < (8 : Nat)) := by
  have a1 := own_m1 a ha.1
  have b1 := own_m1 b hb.1
  have c1 := own_m1 c hc.1
  have n1 := own_nn a b ha.1 hb.1 hab
  have n2 := own_nn a c ha.1 hc.1 hac
  have n3 := own_nn b c hb.1 hc.1 hbc
  have n4 : ¬ b.toNatClampNeg = a.toNatClampNeg := fun q => n1 (Eq.symm q)
  have n5 : ¬ c.toNatClampNeg = a.toNatClampNeg := fun q => n2 (Eq.symm q)
  have n6 : ¬ c.toNatClampNeg = b.toNatClampNeg := fun q => n3 (Eq.symm q)
  rcases hx with rfl | rfl <;> rcases hy with rfl | rfl <;> rcases hz with rfl | rfl <;>
  first | (simp [own_ap0, own_ap1, own_ap2, own_ap3, own_ap4, own_ap5, own_rmA2, own_rmA3, own_s0, own_c0, own_c1, a1, b1, c1, n1, n2, n3, n4, n5, n6]; done) | (simp [own_ap0, own_ap1, own_ap2, own_ap3, own_ap4, own_ap5, own_rmA2, own_rmA3, own_s0, own_c0, own_c1, a1, b1, c1, n1, n2, n3, n4, n5, n6]; omega)
theorem own_pg (a b c : Int32) (p q r : Int32) (hp : (a &&& (7 : Int32)) = p) (hq : (((p + (1 : Int32)) + (b &&& (3 : Int32))) &&& (7 : Int32)) = q) (hr : (((p + (5 : Int32)) + ((c &&& (2147483647 : Int32)) % (3 : Int32))) &&& (7 : Int32)) = r) :
    (0 ≤ p.toInt ∧ p.toInt < (8 : Nat)) ∧ (0 ≤ q.toInt ∧ q.toInt < (8 : Nat)) ∧ (0 ≤ r.toInt ∧ r.toInt < (8 : Nat)) ∧ p.toInt ≠ q.toInt ∧ p.toInt ≠ r.toInt ∧ q.toInt ≠ r.toInt := by
  have e1 := c_mask a 7 3 (by decide) (by decide)
  have e2 := c_mask b 3 2 (by decide) (by decide)
  have e3 := c_mask c 2147483647 31 (by decide) (by decide)
  have e4 := c_irem (c &&& 2147483647) 3 3 (by decide)
  have e5 := c_iadd p 1
  have e6 := c_iadd (p + 1) (b &&& 3)
  have e7 := c_mask ((p + 1) + (b &&& 3)) 7 3 (by decide) (by decide)
  have e8 := c_iadd p 5
  have e9 := c_iadd (p + 5) ((c &&& 2147483647) % 3)
  have e10 := c_mask ((p + 5) + ((c &&& 2147483647) % 3)) 7 3 (by decide) (by decide)
  simp only [Nat.reducePow, Int32.reduceToInt] at *
  rw [hp] at e1
  rw [hq] at e7
  rw [hr] at e10
  have r1 := rng32 (p + 1)
  have r2 := rng32 ((p + 1) + (b &&& 3))
  have r3 := rng32 (p + 5)
  have r4 := rng32 ((p + 5) + ((c &&& 2147483647) % 3))
  omega
theorem own_bit (x : Int32) : (x &&& (1 : Int32)) = (0 : Int32) ∨ (x &&& (1 : Int32)) = (1 : Int32) := and_one x
theorem own_rg (x : Int32) (h : x = (0 : Int32) ∨ x = (1 : Int32)) : 0 ≤ x.toInt ∧ x.toInt < (2 : Nat) := by rcases h with rfl | rfl <;> decide
theorem pd_2 : parseMethodDescriptor "(II)V" = some ⟨[.int, .int], none⟩ := by decide +kernel
theorem pd_3 : parseMethodDescriptor "(I)I" = some ⟨[.int], some .int⟩ := by decide +kernel
theorem pd_4 : parseMethodDescriptor "(IIIIIII)I" = some ⟨[.int, .int, .int, .int, .int, .int, .int], some .int⟩ := by decide +kernel
theorem pd_5 : parseMethodDescriptor "(I)V" = some ⟨[.int], none⟩ := by decide +kernel
theorem ef_0 (m : MethodId) (x0 : Int32) (x1 : Int32) (x2 : Int32) (x3 : Int32) : entryFrame m #[(.int x0), (.int x1), (.int x2), (.int x3)] maxLocals = mkF m 0 #[.val (.int x0), .val (.int x1), .val (.int x2), .val (.int x3), .unset, .unset, .unset, .unset, .unset, .unset, .unset, .unset, .unset, .unset, .unset, .unset, .unset, .unset] [] := by first | (simp [entryFrame, mkF, argsToLocals, Value.category, maxLocals]; done) | rfl
set_option maxRecDepth 65536 in
set_option maxHeartbeats 40000000 in
theorem rm0 (l : Launch) (Z : State) (a0 : Array Value) (hw : ∀ d ∈ tables_1, d.before a0 Z = true) (ws : List Jvm.Cond) (x0 : Int32) (x1 : Int32) (x2 : Int32) (x3 : Int32) (h0 : Heap) (n0 : Nat) (Z0 : n0 ≤ h0.size) :
    MetFree l x (head1 (Jvm.Cond.code x code maxLocals ret :: ws) room_1) (fun a U => a = #[(.int x0), (.int x1), (.int x2), (.int x3)] ∧ Z.Warmed39 U.vm ∧ U.heap = h0) (fun _ _ _ _ _ => True) (fun _ U o U' => ∃ v L, o = .returned v ∧ (own_Q0 n0) v U'.heap L ∧ FrameEnd U o U' L room_1.cells room_1.slots) := by
  refine own_body (own := "com/example/tierstone/tierstone/PageListsAppendPinLaw") pn_0 rfl (fun m => ef_0 m x0 x1 x2 x3) ?_
  intro p e s m below meth c T0 hx hby hml hown hnm hlk hret hZ X0 e0
  have w_0 := hw _ (List.mem_of_getElem? (i := 0) rfl)
  have w_1 := hw _ (List.mem_of_getElem? (i := 1) rfl)
  have w_2 := hw _ (List.mem_of_getElem? (i := 2) rfl)
  have w_3 := hw _ (List.mem_of_getElem? (i := 3) rfl)
  have w_4 := hw _ (List.mem_of_getElem? (i := 4) rfl)
  have w_5 := hw _ (List.mem_of_getElem? (i := 5) rfl)
  have w_6 := hw _ (List.mem_of_getElem? (i := 6) rfl)
  have w_12 := hw _ (List.mem_of_getElem? (i := 12) rfl)
  have w_19 := hw _ (List.mem_of_getElem? (i := 19) rfl)
  have w_21 := hw _ (List.mem_of_getElem? (i := 21) rfl)
  have w_23 := hw _ (List.mem_of_getElem? (i := 23) rfl)
  have w_25 := hw _ (List.mem_of_getElem? (i := 25) rfl)
  have w_30 := hw _ (List.mem_of_getElem? (i := 30) rfl)
  have w_31 := hw _ (List.mem_of_getElem? (i := 31) rfl)
  have w_32 := hw _ (List.mem_of_getElem? (i := 32) rfl)
  have w_33 := hw _ (List.mem_of_getElem? (i := 33) rfl)
  have w_34 := hw _ (List.mem_of_getElem? (i := 34) rfl)
  have w_35 := hw _ (List.mem_of_getElem? (i := 35) rfl)
  have w_36 := hw _ (List.mem_of_getElem? (i := 36) rfl)
  have w_37 := hw _ (List.mem_of_getElem? (i := 37) rfl)
  have w_38 := hw _ (List.mem_of_getElem? (i := 38) rfl)
  have w_39 := hw _ (List.mem_of_getElem? (i := 39) rfl)
  have w_40 := hw _ (List.mem_of_getElem? (i := 40) rfl)
  have w_41 := hw _ (List.mem_of_getElem? (i := 41) rfl)
  have w_42 := hw _ (List.mem_of_getElem? (i := 42) rfl)
  have w_43 := hw _ (List.mem_of_getElem? (i := 43) rfl)
  have w_44 := hw _ (List.mem_of_getElem? (i := 44) rfl)
  have w_45 := hw _ (List.mem_of_getElem? (i := 45) rfl)
  have w_46 := hw _ (List.mem_of_getElem? (i := 46) rfl)
  have w_47 := hw _ (List.mem_of_getElem? (i := 47) rfl)
  have w_48 := hw _ (List.mem_of_getElem? (i := 48) rfl)
  have w_49 := hw _ (List.mem_of_getElem? (i := 49) rfl)
  have w_50 := hw _ (List.mem_of_getElem? (i := 50) rfl)
  have w_51 := hw _ (List.mem_of_getElem? (i := 51) rfl)
  have w_52 := hw _ (List.mem_of_getElem? (i := 52) rfl)
  have w_53 := hw _ (List.mem_of_getElem? (i := 53) rfl)
  have w_54 := hw _ (List.mem_of_getElem? (i := 54) rfl)
  have w_55 := hw _ (List.mem_of_getElem? (i := 55) rfl)
  have w_56 := hw _ (List.mem_of_getElem? (i := 56) rfl)
  have w_57 := hw _ (List.mem_of_getElem? (i := 57) rfl)
  have w_58 := hw _ (List.mem_of_getElem? (i := 58) rfl)
  have w_59 := hw _ (List.mem_of_getElem? (i := 59) rfl)
  have w_60 := hw _ (List.mem_of_getElem? (i := 60) rfl)
  have w_61 := hw _ (List.mem_of_getElem? (i := 61) rfl)
  have w_62 := hw _ (List.mem_of_getElem? (i := 62) rfl)
  have w_63 := hw _ (List.mem_of_getElem? (i := 63) rfl)
  have w_64 := hw _ (List.mem_of_getElem? (i := 64) rfl)
  have N0 := Fr.nil n0
  refine g_iloadN X0.here hx (Jvm.hb hby at_0) (pc' := 1) rfl rfl ?_
  refine g_bipush X0.here hx (Jvm.hb hby at_1) (pc' := 3) rfl (z := (7 : Int32)) rfl ?_
  refine g_iand X0.here hx (Jvm.hb hby at_3) (pc' := 4) rfl ?_
  refine g_istore X0.here hx (Jvm.hb hby at_4) (pc' := 6) rfl (L' := #[.val (.int x0), .val (.int x1), .val (.int x2), .val (.int x3), .val (.int (x0 &&& (7 : Int32))), .unset, .unset, .unset, .unset, .unset, .unset, .unset, .unset, .unset, .unset, .unset, .unset, .unset]) rfl ?_
  generalize hA : (x0 &&& (7 : Int32)) = a
  refine g_iload X0.here hx (Jvm.hb hby at_6) (pc' := 8) rfl rfl ?_
  refine g_iconst X0.here hx (Jvm.hb hby at_8) (pc' := 9) rfl (z := (1 : Int32)) rfl ?_
  refine g_iadd X0.here hx (Jvm.hb hby at_9) (pc' := 10) rfl ?_
  refine g_iloadN X0.here hx (Jvm.hb hby at_10) (pc' := 11) rfl rfl ?_
  refine g_iconst X0.here hx (Jvm.hb hby at_11) (pc' := 12) rfl (z := (3 : Int32)) rfl ?_
  refine g_iand X0.here hx (Jvm.hb hby at_12) (pc' := 13) rfl ?_
  refine g_iadd X0.here hx (Jvm.hb hby at_13) (pc' := 14) rfl ?_
  refine g_bipush X0.here hx (Jvm.hb hby at_14) (pc' := 16) rfl (z := (7 : Int32)) rfl ?_
  refine g_iand X0.here hx (Jvm.hb hby at_16) (pc' := 17) rfl ?_
  refine g_istore X0.here hx (Jvm.hb hby at_17) (pc' := 19) rfl (L' := #[.val (.int x0), .val (.int x1), .val (.int x2), .val (.int x3), .val (.int a), .val (.int (((a + (1 : Int32)) + (x1 &&& (3 : Int32))) &&& (7 : Int32))), .unset, .unset, .unset, .unset, .unset, .unset, .unset, .unset, .unset, .unset, .unset, .unset]) rfl ?_
  generalize hB : (((a + (1 : Int32)) + (x1 &&& (3 : Int32))) &&& (7 : Int32)) = b
  refine g_iload X0.here hx (Jvm.hb hby at_19) (pc' := 21) rfl rfl ?_
  refine g_iconst X0.here hx (Jvm.hb hby at_21) (pc' := 22) rfl (z := (5 : Int32)) rfl ?_
  refine g_iadd X0.here hx (Jvm.hb hby at_22) (pc' := 23) rfl ?_
  refine g_iloadN X0.here hx (Jvm.hb hby at_23) (pc' := 24) rfl rfl ?_
  refine g_ldc X0 hx hZ hown w_0 (Jvm.hb hby at_24) (pc' := 26) rfl ?_
  refine g_iand X0.here hx (Jvm.hb hby at_26) (pc' := 27) rfl ?_
  refine g_iconst X0.here hx (Jvm.hb hby at_27) (pc' := 28) rfl (z := (3 : Int32)) rfl ?_
  refine g_irem X0 hx (Jvm.hb hby at_28) (pc' := 29) rfl (by decide) ?_
  refine g_iadd X0.here hx (Jvm.hb hby at_29) (pc' := 30) rfl ?_
  refine g_bipush X0.here hx (Jvm.hb hby at_30) (pc' := 32) rfl (z := (7 : Int32)) rfl ?_
  refine g_iand X0.here hx (Jvm.hb hby at_32) (pc' := 33) rfl ?_
  refine g_istore X0.here hx (Jvm.hb hby at_33) (pc' := 35) rfl (L' := #[.val (.int x0), .val (.int x1), .val (.int x2), .val (.int x3), .val (.int a), .val (.int b), .val (.int (((a + (5 : Int32)) + ((x2 &&& (2147483647 : Int32)) % (3 : Int32))) &&& (7 : Int32))), .unset, .unset, .unset, .unset, .unset, .unset, .unset, .unset, .unset, .unset, .unset]) rfl ?_
  generalize hC : (((a + (5 : Int32)) + ((x2 &&& (2147483647 : Int32)) % (3 : Int32))) &&& (7 : Int32)) = c2
  obtain ⟨ha, hb, hc, hab, hac, hbc⟩ := own_pg x0 x1 x2 a b c2 hA hB hC
  refine g_iloadN X0.here hx (Jvm.hb hby at_35) (pc' := 36) rfl rfl ?_
  refine g_iconst X0.here hx (Jvm.hb hby at_36) (pc' := 37) rfl (z := (1 : Int32)) rfl ?_
  refine g_iand X0.here hx (Jvm.hb hby at_37) (pc' := 38) rfl ?_
  refine g_istore X0.here hx (Jvm.hb hby at_38) (pc' := 40) rfl (L' := #[.val (.int x0), .val (.int x1), .val (.int x2), .val (.int x3), .val (.int a), .val (.int b), .val (.int c2), .val (.int (x3 &&& (1 : Int32))), .unset, .unset, .unset, .unset, .unset, .unset, .unset, .unset, .unset, .unset]) rfl ?_
  generalize hX : (x3 &&& (1 : Int32)) = x
  have hx' := own_bit x3
  rw [hX] at hx'
  refine g_iloadN X0.here hx (Jvm.hb hby at_40) (pc' := 41) rfl rfl ?_
  refine g_iconst X0.here hx (Jvm.hb hby at_41) (pc' := 42) rfl (z := (1 : Int32)) rfl ?_
  refine g_ishr X0.here hx (Jvm.hb hby at_42) (pc' := 43) rfl ?_
  refine g_iconst X0.here hx (Jvm.hb hby at_43) (pc' := 44) rfl (z := (1 : Int32)) rfl ?_
  refine g_iand X0.here hx (Jvm.hb hby at_44) (pc' := 45) rfl ?_
  refine g_istore X0.here hx (Jvm.hb hby at_45) (pc' := 47) rfl (L' := #[.val (.int x0), .val (.int x1), .val (.int x2), .val (.int x3), .val (.int a), .val (.int b), .val (.int c2), .val (.int x), .val (.int ((x3 >>> ((1 : Int32) &&& 31)) &&& (1 : Int32))), .unset, .unset, .unset, .unset, .unset, .unset, .unset, .unset, .unset]) rfl ?_
  generalize hY : ((x3 >>> ((1 : Int32) &&& 31)) &&& (1 : Int32)) = y
  have hy := own_bit (x3 >>> ((1 : Int32) &&& 31))
  rw [hY] at hy
  refine g_iloadN X0.here hx (Jvm.hb hby at_47) (pc' := 48) rfl rfl ?_
  refine g_iconst X0.here hx (Jvm.hb hby at_48) (pc' := 49) rfl (z := (2 : Int32)) rfl ?_
  refine g_ishr X0.here hx (Jvm.hb hby at_49) (pc' := 50) rfl ?_
  refine g_iconst X0.here hx (Jvm.hb hby at_50) (pc' := 51) rfl (z := (1 : Int32)) rfl ?_
  refine g_iand X0.here hx (Jvm.hb hby at_51) (pc' := 52) rfl ?_
  refine g_istore X0.here hx (Jvm.hb hby at_52) (pc' := 54) rfl (L' := #[.val (.int x0), .val (.int x1), .val (.int x2), .val (.int x3), .val (.int a), .val (.int b), .val (.int c2), .val (.int x), .val (.int y), .val (.int ((x3 >>> ((2 : Int32) &&& 31)) &&& (1 : Int32))), .unset, .unset, .unset, .unset, .unset, .unset, .unset, .unset]) rfl ?_
  generalize hZz : ((x3 >>> ((2 : Int32) &&& 31)) &&& (1 : Int32)) = z
  have hz := own_bit (x3 >>> ((2 : Int32) &&& 31))
  rw [hZz] at hz
  have rx := own_rg x hx'
  have ry := own_rg y hy
  have rz := own_rg z hz
  refine g_new X0 hx hZ hown w_1 w_2 w_3 e0 (Jvm.hb hby at_54) (pc' := 57) rfl (cells' := 1) (slots' := 6) rfl rfl (by decide) (by decide) ?_
  intro T1 hh1 ad1 gb1 X1 e1 E1 A1 D1
  have g_ad1 : n0 ≤ ad1 := by rw [gb1]; exact Z0
  have Z2 : n0 ≤ hh1.size := Nat.le_trans Z0 E1.1
  have F1_list : Fld Z hh1 ad1 "com/example/tierstone/tierstone/PageLists" "list" "[B" .null := D1 (Or.inr w_12) (ty := (.array .byte)) (by decide)
  have F1_older : Fld Z hh1 ad1 "com/example/tierstone/tierstone/PageLists" "older" "[I" .null := D1 (Or.inr w_19) (ty := (.array .int)) (by decide)
  have F1_newer : Fld Z hh1 ad1 "com/example/tierstone/tierstone/PageLists" "newer" "[I" .null := D1 (Or.inr w_21) (ty := (.array .int)) (by decide)
  have F1_oldest : Fld Z hh1 ad1 "com/example/tierstone/tierstone/PageLists" "oldest" "[I" .null := D1 (Or.inr w_23) (ty := (.array .int)) (by decide)
  have F1_newest : Fld Z hh1 ad1 "com/example/tierstone/tierstone/PageLists" "newest" "[I" .null := D1 (Or.inr w_25) (ty := (.array .int)) (by decide)
  have F1_length : Fld Z hh1 ad1 "com/example/tierstone/tierstone/PageLists" "length" "[I" .null := D1 (Or.inr w_30) (ty := (.array .int)) (by decide)
  refine g_dup X1.here hx (Jvm.hb hby at_57) (pc' := 58) rfl rfl ?_
  refine g_iconst X1.here hx (Jvm.hb hby at_58) (pc' := 59) rfl (z := (2 : Int32)) rfl ?_
  refine g_bipush X1.here hx (Jvm.hb hby at_59) (pc' := 61) rfl (z := (8 : Int32)) rfl ?_
  refine g_callI X1 hx hZ rfl hown w_4 w_5 w_3 w_6 (by decide) (rm1 l Z a0 hw [] ad1 (2 : Int32) (8 : Int32) hh1 n0 Z2 g_ad1 A1 F1_list F1_older F1_newer F1_oldest F1_newest F1_length (by decide) (by decide)) 1 (by decide) (by decide) e1 (by rw [hml]; rfl) [(.int (2 : Int32)), (.int (8 : Int32))] [(.ref ad1)] (lenOf pd_2 rfl) rfl rfl (Nat.le_of_eq rfl) (Jvm.hb hby at_61) (pc' := 64) rfl (cells' := 7) (slots' := 36) rfl rfl (by decide) (by decide) ?_
  intro v3 T3 L3 X3 hQ3
  obtain ⟨rfl, Nq3, K3, r0, r1, r2, r3, r4, r5, hord, PL3⟩ := hQ3
  have N3 := Fr.app N0 Nq3
  have Z4 : n0 ≤ T3.heap.size := Nat.le_trans Z2 K3.1
  show own_Gl p e below s (own_Q0 n0) room_1.cells room_1.slots (T3.setTop (mkF m 64 #[.val (.int x0), .val (.int x1), .val (.int x2), .val (.int x3), .val (.int a), .val (.int b), .val (.int c2), .val (.int x), .val (.int y), .val (.int z), .unset, .unset, .unset, .unset, .unset, .unset, .unset, .unset] [(.ref ad1)]))
  refine g_astore X3.here hx (Jvm.hb hby at_64) (pc' := 66) rfl rfl (L' := #[.val (.int x0), .val (.int x1), .val (.int x2), .val (.int x3), .val (.int a), .val (.int b), .val (.int c2), .val (.int x), .val (.int y), .val (.int z), .val (.ref ad1), .unset, .unset, .unset, .unset, .unset, .unset, .unset]) rfl ?_
  refine g_aload X3.here hx (Jvm.hb hby at_66) (pc' := 68) rfl rfl rfl ?_
  refine g_iload X3.here hx (Jvm.hb hby at_68) (pc' := 70) rfl rfl ?_
  refine g_iload X3.here hx (Jvm.hb hby at_70) (pc' := 72) rfl rfl ?_
  refine g_callV X3 hx hZ hown w_31 w_32 (own_nf hZ w_34) w_34 w_33 w_3 w_35 (by decide) (rm5 l Z a0 hw [] ad1 r0 r1 r2 r3 r4 r5 a x own_st0 T3.heap n0 Z4 g_ad1 hord PL3 ha rx (Or.inl rfl)) 0 (by decide) (by decide) rfl PL3.1.1 (by rw [hml]; rfl) [(.int a), (.int x)] [] (lenOf pd_2 rfl) rfl rfl (Nat.le_of_eq rfl) (Jvm.hb hby at_72) (pc' := 75) rfl (cells' := 7) (slots' := 36) rfl rfl (by decide) (by decide) ?_
  intro v5 T5 L5 X5 hQ5
  obtain ⟨rfl, Nq5, K5, PL5⟩ := hQ5
  have N5 := Fr.app N3 Nq5
  have Z6 : n0 ≤ T5.heap.size := Nat.le_trans Z4 K5.1
  show own_Gl p e below s (own_Q0 n0) room_1.cells room_1.slots (T5.setTop (mkF m 75 #[.val (.int x0), .val (.int x1), .val (.int x2), .val (.int x3), .val (.int a), .val (.int b), .val (.int c2), .val (.int x), .val (.int y), .val (.int z), .val (.ref ad1), .unset, .unset, .unset, .unset, .unset, .unset, .unset] []))
  refine g_aload X5.here hx (Jvm.hb hby at_75) (pc' := 77) rfl rfl rfl ?_
  refine g_iload X5.here hx (Jvm.hb hby at_77) (pc' := 79) rfl rfl ?_
  refine g_iload X5.here hx (Jvm.hb hby at_79) (pc' := 81) rfl rfl ?_
  refine g_callV X5 hx hZ hown w_31 w_32 (own_nf hZ w_34) w_34 w_33 w_3 w_35 (by decide) (rm5 l Z a0 hw [] ad1 r0 r1 r2 r3 r4 r5 b y (own_ap own_st0 a x) T5.heap n0 Z6 g_ad1 hord PL5 hb ry (own_f_v1 a b c2 x y z ha hb hc hab hac hbc hx' hy hz)) 0 (by decide) (by decide) rfl PL5.1.1 (by rw [hml]; rfl) [(.int b), (.int y)] [] (lenOf pd_2 rfl) rfl rfl (Nat.le_of_eq rfl) (Jvm.hb hby at_81) (pc' := 84) rfl (cells' := 7) (slots' := 36) rfl rfl (by decide) (by decide) ?_
  intro v7 T7 L7 X7 hQ7
  obtain ⟨rfl, Nq7, K7, PL7⟩ := hQ7
  have N7 := Fr.app N5 Nq7
  have Z8 : n0 ≤ T7.heap.size := Nat.le_trans Z6 K7.1
  show own_Gl p e below s (own_Q0 n0) room_1.cells room_1.slots (T7.setTop (mkF m 84 #[.val (.int x0), .val (.int x1), .val (.int x2), .val (.int x3), .val (.int a), .val (.int b), .val (.int c2), .val (.int x), .val (.int y), .val (.int z), .val (.ref ad1), .unset, .unset, .unset, .unset, .unset, .unset, .unset] []))
  refine g_aload X7.here hx (Jvm.hb hby at_84) (pc' := 86) rfl rfl rfl ?_
  refine g_iload X7.here hx (Jvm.hb hby at_86) (pc' := 88) rfl rfl ?_
  refine g_iload X7.here hx (Jvm.hb hby at_88) (pc' := 90) rfl rfl ?_
  refine g_callV X7 hx hZ hown w_31 w_32 (own_nf hZ w_34) w_34 w_33 w_3 w_35 (by decide) (rm5 l Z a0 hw [] ad1 r0 r1 r2 r3 r4 r5 c2 z (own_ap (own_ap own_st0 a x) b y) T7.heap n0 Z8 g_ad1 hord PL7 hc rz (own_f_v2 a b c2 x y z ha hb hc hab hac hbc hx' hy hz)) 0 (by decide) (by decide) rfl PL7.1.1 (by rw [hml]; rfl) [(.int c2), (.int z)] [] (lenOf pd_2 rfl) rfl rfl (Nat.le_of_eq rfl) (Jvm.hb hby at_90) (pc' := 93) rfl (cells' := 7) (slots' := 36) rfl rfl (by decide) (by decide) ?_
  intro v9 T9 L9 X9 hQ9
  obtain ⟨rfl, Nq9, K9, PL9⟩ := hQ9
  have N9 := Fr.app N7 Nq9
  have Z10 : n0 ≤ T9.heap.size := Nat.le_trans Z8 K9.1
  show own_Gl p e below s (own_Q0 n0) room_1.cells room_1.slots (T9.setTop (mkF m 93 #[.val (.int x0), .val (.int x1), .val (.int x2), .val (.int x3), .val (.int a), .val (.int b), .val (.int c2), .val (.int x), .val (.int y), .val (.int z), .val (.ref ad1), .unset, .unset, .unset, .unset, .unset, .unset, .unset] []))
  have q_la := own_f_la a b c2 x y z ha hb hc hab hac hbc hx' hy hz
  have q_lb := own_f_lb a b c2 x y z ha hb hc hab hac hbc hx' hy hz
  have q_lc := own_f_lc a b c2 x y z ha hb hc hab hac hbc hx' hy hz
  have q_na := own_f_na a b c2 x y z ha hb hc hab hac hbc hx' hy hz
  have q_nb := own_f_nb a b c2 x y z ha hb hc hab hac hbc hx' hy hz
  have q_nc := own_f_nc a b c2 x y z ha hb hc hab hac hbc hx' hy hz
  have q_l0 := own_f_l0 a b c2 x y z ha hb hc hab hac hbc hx' hy hz
  have q_l1 := own_f_l1 a b c2 x y z ha hb hc hab hac hbc hx' hy hz
  have q_o0 := own_f_o0 a b c2 x y z ha hb hc hab hac hbc hx' hy hz
  have q_o1 := own_f_o1 a b c2 x y z ha hb hc hab hac hbc hx' hy hz
  have q_ra := own_f_ra a b c2 x y z ha hb hc hab hac hbc hx' hy hz
  have q_rz := own_f_rz a b c2 x y z ha hb hc hab hac hbc hx' hy hz
  have q_pz := own_f_pz a b c2 x y z ha hb hc hab hac hbc hx' hy hz
  have q_po := own_f_po a b c2 x y z ha hb hc hab hac hbc hx' hy hz
  generalize (own_ap (own_ap (own_ap own_st0 a x) b y) c2 z) = S3 at *
  obtain ⟨lc11, Nlc11, Xlc11⟩ := own_nameL X9 N9
  have k175 : ∀ (v11 : Int32), ∀ (h11 : S3 2 a.toNatClampNeg = v11), ∀ (v12 : Int32), ∀ (h12 : S3 2 b.toNatClampNeg = v12), ∀ (v13 : Int32), ∀ (h13 : S3 5 0 = v13), ∀ (v14 : Int32), ∀ (h14 : S3 5 1 = v14), own_Gl p e below s (own_Q0 n0) room_1.cells room_1.slots (T9.setTop (mkF m 175 #[.val (.int x0), .val (.int x1), .val (.int x2), .val (.int x3), .val (.int a), .val (.int b), .val (.int c2), .val (.int x), .val (.int y), .val (.int z), .val (.ref ad1), .val (.int v11), .val (.int v12), .val (.int v13), .val (.int v14), .unset, .unset, .unset] [])) := by
    intro v11 h11 v12 h12 v13 h13 v14 h14
    refine g_aload Xlc11.here hx (Jvm.hb hby at_175) (pc' := 177) rfl rfl rfl ?_
    refine g_iload Xlc11.here hx (Jvm.hb hby at_177) (pc' := 179) rfl rfl ?_
    refine g_callV Xlc11 hx hZ hown w_36 w_37 (own_nf hZ w_39) w_39 w_38 w_3 w_40 (by decide) (rm6 l Z a0 hw [] ad1 r0 r1 r2 r3 r4 r5 a S3 T9.heap PL9 ha) 0 (by decide) (by decide) rfl PL9.1.1 (by rw [hml]; rfl) [(.int a)] [] (lenOf pd_3 rfl) rfl rfl (Nat.le_of_eq rfl) (Jvm.hb hby at_179) (pc' := 182) rfl (cells' := 7) (slots' := 36) rfl rfl (by decide) (by decide) ?_
    intro v12 T12 L12 X12 hQ12
    obtain ⟨rfl, rfl, e12⟩ := hQ12
    rw [List.append_nil] at X12
    show own_Gl p e below s (own_Q0 n0) room_1.cells room_1.slots (T12.setTop (mkF m 182 #[.val (.int x0), .val (.int x1), .val (.int x2), .val (.int x3), .val (.int a), .val (.int b), .val (.int c2), .val (.int x), .val (.int y), .val (.int z), .val (.ref ad1), .val (.int v11), .val (.int v12), .val (.int v13), .val (.int v14), .unset, .unset, .unset] [(.int (S3 0 a.toNatClampNeg))]))
    refine g_iload X12.here hx (Jvm.hb hby at_182) (pc' := 184) rfl rfl ?_
    refine g_icN X12.here hx (Jvm.hb hby at_184) (pc' := 187) rfl (teq q_la).2 ?_
    refine g_aload X12.here hx (Jvm.hb hby at_187) (pc' := 189) rfl rfl rfl ?_
    refine g_iload X12.here hx (Jvm.hb hby at_189) (pc' := 191) rfl rfl ?_
    refine g_callV X12 hx hZ hown w_36 w_37 (own_nf hZ w_39) w_39 w_38 w_3 w_40 (by decide) (rm6 l Z a0 hw [] ad1 r0 r1 r2 r3 r4 r5 b S3 T9.heap PL9 hb) 0 (by decide) (by decide) e12 PL9.1.1 (by rw [hml]; rfl) [(.int b)] [] (lenOf pd_3 rfl) rfl rfl (Nat.le_of_eq rfl) (Jvm.hb hby at_191) (pc' := 194) rfl (cells' := 7) (slots' := 36) rfl rfl (by decide) (by decide) ?_
    intro v13 T13 L13 X13 hQ13
    obtain ⟨rfl, rfl, e13⟩ := hQ13
    rw [List.append_nil] at X13
    show own_Gl p e below s (own_Q0 n0) room_1.cells room_1.slots (T13.setTop (mkF m 194 #[.val (.int x0), .val (.int x1), .val (.int x2), .val (.int x3), .val (.int a), .val (.int b), .val (.int c2), .val (.int x), .val (.int y), .val (.int z), .val (.ref ad1), .val (.int v11), .val (.int v12), .val (.int v13), .val (.int v14), .unset, .unset, .unset] [(.int (S3 0 b.toNatClampNeg))]))
    refine g_iload X13.here hx (Jvm.hb hby at_194) (pc' := 196) rfl rfl ?_
    refine g_icN X13.here hx (Jvm.hb hby at_196) (pc' := 199) rfl (teq q_lb).2 ?_
    refine g_aload X13.here hx (Jvm.hb hby at_199) (pc' := 201) rfl rfl rfl ?_
    refine g_iload X13.here hx (Jvm.hb hby at_201) (pc' := 203) rfl rfl ?_
    refine g_callV X13 hx hZ hown w_36 w_37 (own_nf hZ w_39) w_39 w_38 w_3 w_40 (by decide) (rm6 l Z a0 hw [] ad1 r0 r1 r2 r3 r4 r5 c2 S3 T9.heap PL9 hc) 0 (by decide) (by decide) e13 PL9.1.1 (by rw [hml]; rfl) [(.int c2)] [] (lenOf pd_3 rfl) rfl rfl (Nat.le_of_eq rfl) (Jvm.hb hby at_203) (pc' := 206) rfl (cells' := 7) (slots' := 36) rfl rfl (by decide) (by decide) ?_
    intro v14 T14 L14 X14 hQ14
    obtain ⟨rfl, rfl, e14⟩ := hQ14
    rw [List.append_nil] at X14
    show own_Gl p e below s (own_Q0 n0) room_1.cells room_1.slots (T14.setTop (mkF m 206 #[.val (.int x0), .val (.int x1), .val (.int x2), .val (.int x3), .val (.int a), .val (.int b), .val (.int c2), .val (.int x), .val (.int y), .val (.int z), .val (.ref ad1), .val (.int v11), .val (.int v12), .val (.int v13), .val (.int v14), .unset, .unset, .unset] [(.int (S3 0 c2.toNatClampNeg))]))
    refine g_iload X14.here hx (Jvm.hb hby at_206) (pc' := 208) rfl rfl ?_
    refine g_icN X14.here hx (Jvm.hb hby at_208) (pc' := 211) rfl (teq q_lc).2 ?_
    refine g_iconst X14.here hx (Jvm.hb hby at_211) (pc' := 212) rfl (z := (1 : Int32)) rfl ?_
    refine g_goto X14.here hx (Jvm.hb hby at_212) (by decide) (pc' := 216) (by decide) ?_
    refine g_istore X14.here hx (Jvm.hb hby at_216) (pc' := 218) rfl (L' := #[.val (.int x0), .val (.int x1), .val (.int x2), .val (.int x3), .val (.int a), .val (.int b), .val (.int c2), .val (.int x), .val (.int y), .val (.int z), .val (.ref ad1), .val (.int v11), .val (.int v12), .val (.int v13), .val (.int v14), .val (.int (1 : Int32)), .unset, .unset]) rfl ?_
    refine g_iload X14.here hx (Jvm.hb hby at_218) (pc' := 220) rfl rfl ?_
    refine g_ifN X14.here hx (Jvm.hb hby at_220) (pc' := 223) rfl ((if0 _ _).trans (feq (by decide)).1) ?_
    refine g_aload X14.here hx (Jvm.hb hby at_223) (pc' := 225) rfl rfl rfl ?_
    refine g_iload X14.here hx (Jvm.hb hby at_225) (pc' := 227) rfl rfl ?_
    refine g_callV X14 hx hZ hown w_41 w_42 (own_nf hZ w_44) w_44 w_43 w_3 w_45 (by decide) (rm7 l Z a0 hw [] ad1 r0 r1 r2 r3 r4 r5 a S3 T9.heap PL9 ha) 0 (by decide) (by decide) e14 PL9.1.1 (by rw [hml]; rfl) [(.int a)] [] (lenOf pd_3 rfl) rfl rfl (Nat.le_of_eq rfl) (Jvm.hb hby at_227) (pc' := 230) rfl (cells' := 7) (slots' := 36) rfl rfl (by decide) (by decide) ?_
    intro v15 T15 L15 X15 hQ15
    obtain ⟨rfl, rfl, e15⟩ := hQ15
    rw [List.append_nil] at X15
    show own_Gl p e below s (own_Q0 n0) room_1.cells room_1.slots (T15.setTop (mkF m 230 #[.val (.int x0), .val (.int x1), .val (.int x2), .val (.int x3), .val (.int a), .val (.int b), .val (.int c2), .val (.int x), .val (.int y), .val (.int z), .val (.ref ad1), .val (.int v11), .val (.int v12), .val (.int v13), .val (.int v14), .val (.int (1 : Int32)), .unset, .unset] [(.int (S3 2 a.toNatClampNeg))]))
    refine g_iload X15.here hx (Jvm.hb hby at_230) (pc' := 232) rfl rfl ?_
    refine g_icN X15.here hx (Jvm.hb hby at_232) (pc' := 235) rfl (teq h11).2 ?_
    refine g_aload X15.here hx (Jvm.hb hby at_235) (pc' := 237) rfl rfl rfl ?_
    refine g_iload X15.here hx (Jvm.hb hby at_237) (pc' := 239) rfl rfl ?_
    refine g_callV X15 hx hZ hown w_41 w_42 (own_nf hZ w_44) w_44 w_43 w_3 w_45 (by decide) (rm7 l Z a0 hw [] ad1 r0 r1 r2 r3 r4 r5 b S3 T9.heap PL9 hb) 0 (by decide) (by decide) e15 PL9.1.1 (by rw [hml]; rfl) [(.int b)] [] (lenOf pd_3 rfl) rfl rfl (Nat.le_of_eq rfl) (Jvm.hb hby at_239) (pc' := 242) rfl (cells' := 7) (slots' := 36) rfl rfl (by decide) (by decide) ?_
    intro v16 T16 L16 X16 hQ16
    obtain ⟨rfl, rfl, e16⟩ := hQ16
    rw [List.append_nil] at X16
    show own_Gl p e below s (own_Q0 n0) room_1.cells room_1.slots (T16.setTop (mkF m 242 #[.val (.int x0), .val (.int x1), .val (.int x2), .val (.int x3), .val (.int a), .val (.int b), .val (.int c2), .val (.int x), .val (.int y), .val (.int z), .val (.ref ad1), .val (.int v11), .val (.int v12), .val (.int v13), .val (.int v14), .val (.int (1 : Int32)), .unset, .unset] [(.int (S3 2 b.toNatClampNeg))]))
    refine g_iload X16.here hx (Jvm.hb hby at_242) (pc' := 244) rfl rfl ?_
    refine g_icN X16.here hx (Jvm.hb hby at_244) (pc' := 247) rfl (teq h12).2 ?_
    refine g_aload X16.here hx (Jvm.hb hby at_247) (pc' := 249) rfl rfl rfl ?_
    refine g_iload X16.here hx (Jvm.hb hby at_249) (pc' := 251) rfl rfl ?_
    refine g_callV X16 hx hZ hown w_41 w_42 (own_nf hZ w_44) w_44 w_43 w_3 w_45 (by decide) (rm7 l Z a0 hw [] ad1 r0 r1 r2 r3 r4 r5 c2 S3 T9.heap PL9 hc) 0 (by decide) (by decide) e16 PL9.1.1 (by rw [hml]; rfl) [(.int c2)] [] (lenOf pd_3 rfl) rfl rfl (Nat.le_of_eq rfl) (Jvm.hb hby at_251) (pc' := 254) rfl (cells' := 7) (slots' := 36) rfl rfl (by decide) (by decide) ?_
    intro v17 T17 L17 X17 hQ17
    obtain ⟨rfl, rfl, e17⟩ := hQ17
    rw [List.append_nil] at X17
    show own_Gl p e below s (own_Q0 n0) room_1.cells room_1.slots (T17.setTop (mkF m 254 #[.val (.int x0), .val (.int x1), .val (.int x2), .val (.int x3), .val (.int a), .val (.int b), .val (.int c2), .val (.int x), .val (.int y), .val (.int z), .val (.ref ad1), .val (.int v11), .val (.int v12), .val (.int v13), .val (.int v14), .val (.int (1 : Int32)), .unset, .unset] [(.int (S3 2 c2.toNatClampNeg))]))
    refine g_iconst X17.here hx (Jvm.hb hby at_254) (pc' := 255) rfl (z := (-1 : Int32)) rfl ?_
    refine g_icN X17.here hx (Jvm.hb hby at_255) (pc' := 258) rfl (teq q_nc).2 ?_
    refine g_iconst X17.here hx (Jvm.hb hby at_258) (pc' := 259) rfl (z := (1 : Int32)) rfl ?_
    refine g_goto X17.here hx (Jvm.hb hby at_259) (by decide) (pc' := 263) (by decide) ?_
    refine g_istore X17.here hx (Jvm.hb hby at_263) (pc' := 265) rfl (L' := #[.val (.int x0), .val (.int x1), .val (.int x2), .val (.int x3), .val (.int a), .val (.int b), .val (.int c2), .val (.int x), .val (.int y), .val (.int z), .val (.ref ad1), .val (.int v11), .val (.int v12), .val (.int v13), .val (.int v14), .val (.int (1 : Int32)), .unset, .unset]) rfl ?_
    refine g_iload X17.here hx (Jvm.hb hby at_265) (pc' := 267) rfl rfl ?_
    refine g_ifN X17.here hx (Jvm.hb hby at_267) (pc' := 270) rfl ((if0 _ _).trans (feq (by decide)).1) ?_
    refine g_aload X17.here hx (Jvm.hb hby at_270) (pc' := 272) rfl rfl rfl ?_
    refine g_iconst X17.here hx (Jvm.hb hby at_272) (pc' := 273) rfl (z := (0 : Int32)) rfl ?_
    refine g_callV X17 hx hZ hown w_46 w_47 (own_nf hZ w_49) w_49 w_48 w_3 w_50 (by decide) (rm8 l Z a0 hw [] ad1 r0 r1 r2 r3 r4 r5 (0 : Int32) S3 T9.heap PL9 (by decide)) 0 (by decide) (by decide) e17 PL9.1.1 (by rw [hml]; rfl) [(.int (0 : Int32))] [] (lenOf pd_3 rfl) rfl rfl (Nat.le_of_eq rfl) (Jvm.hb hby at_273) (pc' := 276) rfl (cells' := 7) (slots' := 36) rfl rfl (by decide) (by decide) ?_
    intro v18 T18 L18 X18 hQ18
    obtain ⟨rfl, rfl, e18⟩ := hQ18
    rw [List.append_nil] at X18
    show own_Gl p e below s (own_Q0 n0) room_1.cells room_1.slots (T18.setTop (mkF m 276 #[.val (.int x0), .val (.int x1), .val (.int x2), .val (.int x3), .val (.int a), .val (.int b), .val (.int c2), .val (.int x), .val (.int y), .val (.int z), .val (.ref ad1), .val (.int v11), .val (.int v12), .val (.int v13), .val (.int v14), .val (.int (1 : Int32)), .unset, .unset] [(.int (S3 5 (0 : Int32).toNatClampNeg))]))
    refine g_iload X18.here hx (Jvm.hb hby at_276) (pc' := 278) rfl rfl ?_
    refine g_icN X18.here hx (Jvm.hb hby at_278) (pc' := 281) rfl (teq h13).2 ?_
    refine g_aload X18.here hx (Jvm.hb hby at_281) (pc' := 283) rfl rfl rfl ?_
    refine g_iconst X18.here hx (Jvm.hb hby at_283) (pc' := 284) rfl (z := (1 : Int32)) rfl ?_
    refine g_callV X18 hx hZ hown w_46 w_47 (own_nf hZ w_49) w_49 w_48 w_3 w_50 (by decide) (rm8 l Z a0 hw [] ad1 r0 r1 r2 r3 r4 r5 (1 : Int32) S3 T9.heap PL9 (by decide)) 0 (by decide) (by decide) e18 PL9.1.1 (by rw [hml]; rfl) [(.int (1 : Int32))] [] (lenOf pd_3 rfl) rfl rfl (Nat.le_of_eq rfl) (Jvm.hb hby at_284) (pc' := 287) rfl (cells' := 7) (slots' := 36) rfl rfl (by decide) (by decide) ?_
    intro v19 T19 L19 X19 hQ19
    obtain ⟨rfl, rfl, e19⟩ := hQ19
    rw [List.append_nil] at X19
    show own_Gl p e below s (own_Q0 n0) room_1.cells room_1.slots (T19.setTop (mkF m 287 #[.val (.int x0), .val (.int x1), .val (.int x2), .val (.int x3), .val (.int a), .val (.int b), .val (.int c2), .val (.int x), .val (.int y), .val (.int z), .val (.ref ad1), .val (.int v11), .val (.int v12), .val (.int v13), .val (.int v14), .val (.int (1 : Int32)), .unset, .unset] [(.int (S3 5 (1 : Int32).toNatClampNeg))]))
    refine g_iload X19.here hx (Jvm.hb hby at_287) (pc' := 289) rfl rfl ?_
    refine g_icN X19.here hx (Jvm.hb hby at_289) (pc' := 292) rfl (teq h14).2 ?_
    refine g_iconst X19.here hx (Jvm.hb hby at_292) (pc' := 293) rfl (z := (1 : Int32)) rfl ?_
    refine g_goto X19.here hx (Jvm.hb hby at_293) (by decide) (pc' := 297) (by decide) ?_
    refine g_istore X19.here hx (Jvm.hb hby at_297) (pc' := 299) rfl (L' := #[.val (.int x0), .val (.int x1), .val (.int x2), .val (.int x3), .val (.int a), .val (.int b), .val (.int c2), .val (.int x), .val (.int y), .val (.int z), .val (.ref ad1), .val (.int v11), .val (.int v12), .val (.int v13), .val (.int v14), .val (.int (1 : Int32)), .unset, .unset]) rfl ?_
    refine g_iload X19.here hx (Jvm.hb hby at_299) (pc' := 301) rfl rfl ?_
    refine g_ifN X19.here hx (Jvm.hb hby at_301) (pc' := 304) rfl ((if0 _ _).trans (feq (by decide)).1) ?_
    refine g_aload X19.here hx (Jvm.hb hby at_304) (pc' := 306) rfl rfl rfl ?_
    refine g_iconst X19.here hx (Jvm.hb hby at_306) (pc' := 307) rfl (z := (0 : Int32)) rfl ?_
    refine g_callV X19 hx hZ hown w_51 w_52 (own_nf hZ w_54) w_54 w_53 w_3 w_55 (by decide) (rm9 l Z a0 hw [] ad1 r0 r1 r2 r3 r4 r5 (0 : Int32) S3 T9.heap PL9 (by decide)) 0 (by decide) (by decide) e19 PL9.1.1 (by rw [hml]; rfl) [(.int (0 : Int32))] [] (lenOf pd_3 rfl) rfl rfl (Nat.le_of_eq rfl) (Jvm.hb hby at_307) (pc' := 310) rfl (cells' := 7) (slots' := 36) rfl rfl (by decide) (by decide) ?_
    intro v20 T20 L20 X20 hQ20
    obtain ⟨rfl, rfl, e20⟩ := hQ20
    rw [List.append_nil] at X20
    show own_Gl p e below s (own_Q0 n0) room_1.cells room_1.slots (T20.setTop (mkF m 310 #[.val (.int x0), .val (.int x1), .val (.int x2), .val (.int x3), .val (.int a), .val (.int b), .val (.int c2), .val (.int x), .val (.int y), .val (.int z), .val (.ref ad1), .val (.int v11), .val (.int v12), .val (.int v13), .val (.int v14), .val (.int (1 : Int32)), .unset, .unset] [(.int (S3 3 (0 : Int32).toNatClampNeg))]))
    refine g_iconst X20.here hx (Jvm.hb hby at_310) (pc' := 311) rfl (z := (0 : Int32)) rfl ?_
    refine g_iload X20.here hx (Jvm.hb hby at_311) (pc' := 313) rfl rfl ?_
    refine g_iload X20.here hx (Jvm.hb hby at_313) (pc' := 315) rfl rfl ?_
    refine g_iload X20.here hx (Jvm.hb hby at_315) (pc' := 317) rfl rfl ?_
    refine g_iload X20.here hx (Jvm.hb hby at_317) (pc' := 319) rfl rfl ?_
    refine g_iload X20.here hx (Jvm.hb hby at_319) (pc' := 321) rfl rfl ?_
    refine g_iload X20.here hx (Jvm.hb hby at_321) (pc' := 323) rfl rfl ?_
    refine g_callP X20 hx hZ hown w_56 w_57 w_58 w_59 (by decide) (rm10 l Z a0 hw [] (0 : Int32) x y z a b c2 T9.heap) 1 (by decide) (by decide) e20 (by rw [hml]; rfl) [(.int (0 : Int32)), (.int x), (.int y), (.int z), (.int a), (.int b), (.int c2)] [(.int (S3 3 (0 : Int32).toNatClampNeg))] (lenOf pd_4 rfl) rfl rfl (Nat.le_of_eq rfl) (Jvm.hb hby at_323) (pc' := 326) rfl (by decide) (by decide) ?_
    intro T21 X21 e21
    show own_Gl p e below s (own_Q0 n0) room_1.cells room_1.slots (T21.setTop (mkF m 326 #[.val (.int x0), .val (.int x1), .val (.int x2), .val (.int x3), .val (.int a), .val (.int b), .val (.int c2), .val (.int x), .val (.int y), .val (.int z), .val (.ref ad1), .val (.int v11), .val (.int v12), .val (.int v13), .val (.int v14), .val (.int (1 : Int32)), .unset, .unset] [(.int (f_first (0 : Int32) x y z a b c2)), (.int (S3 3 (0 : Int32).toNatClampNeg))]))
    refine g_icN X21.here hx (Jvm.hb hby at_326) (pc' := 329) rfl (teq q_o0).2 ?_
    refine g_iconst X21.here hx (Jvm.hb hby at_329) (pc' := 330) rfl (z := (1 : Int32)) rfl ?_
    refine g_goto X21.here hx (Jvm.hb hby at_330) (by decide) (pc' := 334) (by decide) ?_
    refine g_istore X21.here hx (Jvm.hb hby at_334) (pc' := 336) rfl (L' := #[.val (.int x0), .val (.int x1), .val (.int x2), .val (.int x3), .val (.int a), .val (.int b), .val (.int c2), .val (.int x), .val (.int y), .val (.int z), .val (.ref ad1), .val (.int v11), .val (.int v12), .val (.int v13), .val (.int v14), .val (.int (1 : Int32)), .unset, .unset]) rfl ?_
    refine g_iload X21.here hx (Jvm.hb hby at_336) (pc' := 338) rfl rfl ?_
    refine g_ifN X21.here hx (Jvm.hb hby at_338) (pc' := 341) rfl ((if0 _ _).trans (feq (by decide)).1) ?_
    refine g_aload X21.here hx (Jvm.hb hby at_341) (pc' := 343) rfl rfl rfl ?_
    refine g_iconst X21.here hx (Jvm.hb hby at_343) (pc' := 344) rfl (z := (1 : Int32)) rfl ?_
    refine g_callV X21 hx hZ hown w_51 w_52 (own_nf hZ w_54) w_54 w_53 w_3 w_55 (by decide) (rm9 l Z a0 hw [] ad1 r0 r1 r2 r3 r4 r5 (1 : Int32) S3 T9.heap PL9 (by decide)) 0 (by decide) (by decide) e21 PL9.1.1 (by rw [hml]; rfl) [(.int (1 : Int32))] [] (lenOf pd_3 rfl) rfl rfl (Nat.le_of_eq rfl) (Jvm.hb hby at_344) (pc' := 347) rfl (cells' := 7) (slots' := 36) rfl rfl (by decide) (by decide) ?_
    intro v22 T22 L22 X22 hQ22
    obtain ⟨rfl, rfl, e22⟩ := hQ22
    rw [List.append_nil] at X22
    show own_Gl p e below s (own_Q0 n0) room_1.cells room_1.slots (T22.setTop (mkF m 347 #[.val (.int x0), .val (.int x1), .val (.int x2), .val (.int x3), .val (.int a), .val (.int b), .val (.int c2), .val (.int x), .val (.int y), .val (.int z), .val (.ref ad1), .val (.int v11), .val (.int v12), .val (.int v13), .val (.int v14), .val (.int (1 : Int32)), .unset, .unset] [(.int (S3 3 (1 : Int32).toNatClampNeg))]))
    refine g_iconst X22.here hx (Jvm.hb hby at_347) (pc' := 348) rfl (z := (1 : Int32)) rfl ?_
    refine g_iload X22.here hx (Jvm.hb hby at_348) (pc' := 350) rfl rfl ?_
    refine g_iload X22.here hx (Jvm.hb hby at_350) (pc' := 352) rfl rfl ?_
    refine g_iload X22.here hx (Jvm.hb hby at_352) (pc' := 354) rfl rfl ?_
    refine g_iload X22.here hx (Jvm.hb hby at_354) (pc' := 356) rfl rfl ?_
    refine g_iload X22.here hx (Jvm.hb hby at_356) (pc' := 358) rfl rfl ?_
    refine g_iload X22.here hx (Jvm.hb hby at_358) (pc' := 360) rfl rfl ?_
    refine g_callP X22 hx hZ hown w_56 w_57 w_58 w_59 (by decide) (rm10 l Z a0 hw [] (1 : Int32) x y z a b c2 T9.heap) 1 (by decide) (by decide) e22 (by rw [hml]; rfl) [(.int (1 : Int32)), (.int x), (.int y), (.int z), (.int a), (.int b), (.int c2)] [(.int (S3 3 (1 : Int32).toNatClampNeg))] (lenOf pd_4 rfl) rfl rfl (Nat.le_of_eq rfl) (Jvm.hb hby at_360) (pc' := 363) rfl (by decide) (by decide) ?_
    intro T23 X23 e23
    show own_Gl p e below s (own_Q0 n0) room_1.cells room_1.slots (T23.setTop (mkF m 363 #[.val (.int x0), .val (.int x1), .val (.int x2), .val (.int x3), .val (.int a), .val (.int b), .val (.int c2), .val (.int x), .val (.int y), .val (.int z), .val (.ref ad1), .val (.int v11), .val (.int v12), .val (.int v13), .val (.int v14), .val (.int (1 : Int32)), .unset, .unset] [(.int (f_first (1 : Int32) x y z a b c2)), (.int (S3 3 (1 : Int32).toNatClampNeg))]))
    refine g_icN X23.here hx (Jvm.hb hby at_363) (pc' := 366) rfl (teq q_o1).2 ?_
    refine g_iconst X23.here hx (Jvm.hb hby at_366) (pc' := 367) rfl (z := (1 : Int32)) rfl ?_
    refine g_goto X23.here hx (Jvm.hb hby at_367) (by decide) (pc' := 371) (by decide) ?_
    refine g_istore X23.here hx (Jvm.hb hby at_371) (pc' := 373) rfl (L' := #[.val (.int x0), .val (.int x1), .val (.int x2), .val (.int x3), .val (.int a), .val (.int b), .val (.int c2), .val (.int x), .val (.int y), .val (.int z), .val (.ref ad1), .val (.int v11), .val (.int v12), .val (.int v13), .val (.int v14), .val (.int (1 : Int32)), .unset, .unset]) rfl ?_
    refine g_iload X23.here hx (Jvm.hb hby at_373) (pc' := 375) rfl rfl ?_
    refine g_ifY X23.here hx (Jvm.hb hby at_375) (by decide) (pc' := 380) (by decide) ((if0 _ _).trans (feq (by decide)).2) ?_
    refine g_aload X23.here hx (Jvm.hb hby at_380) (pc' := 382) rfl rfl rfl ?_
    refine g_iload X23.here hx (Jvm.hb hby at_382) (pc' := 384) rfl rfl ?_
    refine g_callV X23 hx hZ hown w_60 w_61 (own_nf hZ w_63) w_63 w_62 w_3 w_64 (by decide) (rm11 l Z a0 hw [] ad1 r0 r1 r2 r3 r4 r5 c2 S3 T9.heap n0 Z10 g_ad1 hord PL9 hc q_pz q_po (Or.inl q_nc)) 0 (by decide) (by decide) e23 PL9.1.1 (by rw [hml]; rfl) [(.int c2)] [] (lenOf pd_5 rfl) rfl rfl (Nat.le_of_eq rfl) (Jvm.hb hby at_384) (pc' := 387) rfl (cells' := 7) (slots' := 36) rfl rfl (by decide) (by decide) ?_
    intro v24 T24 L24 X24 hQ24
    obtain ⟨rfl, Nq24, K24, PL24⟩ := hQ24
    have N24 := Fr.app Nlc11 Nq24
    have Z25 : n0 ≤ T24.heap.size := Nat.le_trans Z10 K24.1
    show own_Gl p e below s (own_Q0 n0) room_1.cells room_1.slots (T24.setTop (mkF m 387 #[.val (.int x0), .val (.int x1), .val (.int x2), .val (.int x3), .val (.int a), .val (.int b), .val (.int c2), .val (.int x), .val (.int y), .val (.int z), .val (.ref ad1), .val (.int v11), .val (.int v12), .val (.int v13), .val (.int v14), .val (.int (1 : Int32)), .unset, .unset] []))
    obtain ⟨lc26, Nlc26, Xlc26⟩ := own_nameL X24 N24
    have k429 : ∀ (v16 : Int32), ∀ (h16 : own_rm S3 c2 2 a.toNatClampNeg = v16), ∀ (v17 : Int32), ∀ (h17 : own_rm S3 c2 3 z.toNatClampNeg = v17), own_Gl p e below s (own_Q0 n0) room_1.cells room_1.slots (T24.setTop (mkF m 429 #[.val (.int x0), .val (.int x1), .val (.int x2), .val (.int x3), .val (.int a), .val (.int b), .val (.int c2), .val (.int x), .val (.int y), .val (.int z), .val (.ref ad1), .val (.int v11), .val (.int v12), .val (.int v13), .val (.int v14), .val (.int (1 : Int32)), .val (.int v16), .val (.int v17)] [])) := by
      intro v16 h16 v17 h17
      refine g_aload Xlc26.here hx (Jvm.hb hby at_429) (pc' := 431) rfl rfl rfl ?_
      refine g_iload Xlc26.here hx (Jvm.hb hby at_431) (pc' := 433) rfl rfl ?_
      refine g_callV Xlc26 hx hZ hown w_41 w_42 (own_nf hZ w_44) w_44 w_43 w_3 w_45 (by decide) (rm7 l Z a0 hw [] ad1 r0 r1 r2 r3 r4 r5 a (own_rm S3 c2) T24.heap PL24 ha) 0 (by decide) (by decide) rfl PL24.1.1 (by rw [hml]; rfl) [(.int a)] [] (lenOf pd_3 rfl) rfl rfl (Nat.le_of_eq rfl) (Jvm.hb hby at_433) (pc' := 436) rfl (cells' := 7) (slots' := 36) rfl rfl (by decide) (by decide) ?_
      intro v27 T27 L27 X27 hQ27
      obtain ⟨rfl, rfl, e27⟩ := hQ27
      rw [List.append_nil] at X27
      show own_Gl p e below s (own_Q0 n0) room_1.cells room_1.slots (T27.setTop (mkF m 436 #[.val (.int x0), .val (.int x1), .val (.int x2), .val (.int x3), .val (.int a), .val (.int b), .val (.int c2), .val (.int x), .val (.int y), .val (.int z), .val (.ref ad1), .val (.int v11), .val (.int v12), .val (.int v13), .val (.int v14), .val (.int (1 : Int32)), .val (.int v16), .val (.int v17)] [(.int ((own_rm S3 c2) 2 a.toNatClampNeg))]))
      refine g_iload X27.here hx (Jvm.hb hby at_436) (pc' := 438) rfl rfl ?_
      refine g_icN X27.here hx (Jvm.hb hby at_438) (pc' := 441) rfl (teq h16).2 ?_
      refine g_aload X27.here hx (Jvm.hb hby at_441) (pc' := 443) rfl rfl rfl ?_
      refine g_iload X27.here hx (Jvm.hb hby at_443) (pc' := 445) rfl rfl ?_
      refine g_callV X27 hx hZ hown w_51 w_52 (own_nf hZ w_54) w_54 w_53 w_3 w_55 (by decide) (rm9 l Z a0 hw [] ad1 r0 r1 r2 r3 r4 r5 z (own_rm S3 c2) T24.heap PL24 rz) 0 (by decide) (by decide) e27 PL24.1.1 (by rw [hml]; rfl) [(.int z)] [] (lenOf pd_3 rfl) rfl rfl (Nat.le_of_eq rfl) (Jvm.hb hby at_445) (pc' := 448) rfl (cells' := 7) (slots' := 36) rfl rfl (by decide) (by decide) ?_
      intro v28 T28 L28 X28 hQ28
      obtain ⟨rfl, rfl, e28⟩ := hQ28
      rw [List.append_nil] at X28
      show own_Gl p e below s (own_Q0 n0) room_1.cells room_1.slots (T28.setTop (mkF m 448 #[.val (.int x0), .val (.int x1), .val (.int x2), .val (.int x3), .val (.int a), .val (.int b), .val (.int c2), .val (.int x), .val (.int y), .val (.int z), .val (.ref ad1), .val (.int v11), .val (.int v12), .val (.int v13), .val (.int v14), .val (.int (1 : Int32)), .val (.int v16), .val (.int v17)] [(.int ((own_rm S3 c2) 3 z.toNatClampNeg))]))
      refine g_iload X28.here hx (Jvm.hb hby at_448) (pc' := 450) rfl rfl ?_
      refine g_icN X28.here hx (Jvm.hb hby at_450) (pc' := 453) rfl (teq h17).2 ?_
      refine g_iconst X28.here hx (Jvm.hb hby at_453) (pc' := 454) rfl (z := (1 : Int32)) rfl ?_
      refine g_goto X28.here hx (Jvm.hb hby at_454) (by decide) (pc' := 458) (by decide) ?_
      exact g_retN X28 hx hlk (t := .boolean) hret (by simp) (z' := (1 : Int32)) rfl (Jvm.hb hby at_458) (by decide) (by decide) ⟨rfl, Nlc26⟩
    have k402 : ∀ (v16 : Int32), ∀ (h16 : own_rm S3 c2 2 a.toNatClampNeg = v16), own_Gl p e below s (own_Q0 n0) room_1.cells room_1.slots (T24.setTop (mkF m 402 #[.val (.int x0), .val (.int x1), .val (.int x2), .val (.int x3), .val (.int a), .val (.int b), .val (.int c2), .val (.int x), .val (.int y), .val (.int z), .val (.ref ad1), .val (.int v11), .val (.int v12), .val (.int v13), .val (.int v14), .val (.int (1 : Int32)), .val (.int v16), .unset] [])) := by
      intro v16 h16
      refine g_iload Xlc26.here hx (Jvm.hb hby at_402) (pc' := 404) rfl rfl ?_
      refine g_iload Xlc26.here hx (Jvm.hb hby at_404) (pc' := 406) rfl rfl ?_
      by_cases hc406 : x = z
      · refine g_icN Xlc26.here hx (Jvm.hb hby at_406) (pc' := 409) rfl (teq hc406).2 ?_
        refine g_iload Xlc26.here hx (Jvm.hb hby at_409) (pc' := 411) rfl rfl ?_
        refine g_goto Xlc26.here hx (Jvm.hb hby at_411) (by decide) (pc' := 427) (by decide) ?_
        refine g_istore Xlc26.here hx (Jvm.hb hby at_427) (pc' := 429) rfl (L' := #[.val (.int x0), .val (.int x1), .val (.int x2), .val (.int x3), .val (.int a), .val (.int b), .val (.int c2), .val (.int x), .val (.int y), .val (.int z), .val (.ref ad1), .val (.int v11), .val (.int v12), .val (.int v13), .val (.int v14), .val (.int (1 : Int32)), .val (.int v16), .val (.int a)]) rfl ?_
        exact k429 v16 h16 _ (by rw [q_rz, if_pos hc406])
      · refine g_icY Xlc26.here hx (Jvm.hb hby at_406) (by decide) (pc' := 414) (by decide) (feq hc406).2 ?_
        refine g_iload Xlc26.here hx (Jvm.hb hby at_414) (pc' := 416) rfl rfl ?_
        refine g_iload Xlc26.here hx (Jvm.hb hby at_416) (pc' := 418) rfl rfl ?_
        by_cases hc418 : y = z
        · refine g_icN Xlc26.here hx (Jvm.hb hby at_418) (pc' := 421) rfl (teq hc418).2 ?_
          refine g_iload Xlc26.here hx (Jvm.hb hby at_421) (pc' := 423) rfl rfl ?_
          refine g_goto Xlc26.here hx (Jvm.hb hby at_423) (by decide) (pc' := 427) (by decide) ?_
          refine g_istore Xlc26.here hx (Jvm.hb hby at_427) (pc' := 429) rfl (L' := #[.val (.int x0), .val (.int x1), .val (.int x2), .val (.int x3), .val (.int a), .val (.int b), .val (.int c2), .val (.int x), .val (.int y), .val (.int z), .val (.ref ad1), .val (.int v11), .val (.int v12), .val (.int v13), .val (.int v14), .val (.int (1 : Int32)), .val (.int v16), .val (.int b)]) rfl ?_
          exact k429 v16 h16 _ (by rw [q_rz, if_neg hc406, if_pos hc418])
        · refine g_icY Xlc26.here hx (Jvm.hb hby at_418) (by decide) (pc' := 426) (by decide) (feq hc418).2 ?_
          refine g_iconst Xlc26.here hx (Jvm.hb hby at_426) (pc' := 427) rfl (z := (-1 : Int32)) rfl ?_
          refine g_istore Xlc26.here hx (Jvm.hb hby at_427) (pc' := 429) rfl (L' := #[.val (.int x0), .val (.int x1), .val (.int x2), .val (.int x3), .val (.int a), .val (.int b), .val (.int c2), .val (.int x), .val (.int y), .val (.int z), .val (.ref ad1), .val (.int v11), .val (.int v12), .val (.int v13), .val (.int v14), .val (.int (1 : Int32)), .val (.int v16), .val (.int (-1 : Int32))]) rfl ?_
          exact k429 v16 h16 _ (by rw [q_rz, if_neg hc406, if_neg hc418])
    refine g_iload Xlc26.here hx (Jvm.hb hby at_387) (pc' := 389) rfl rfl ?_
    refine g_iload Xlc26.here hx (Jvm.hb hby at_389) (pc' := 391) rfl rfl ?_
    by_cases hc391 : x = y
    · refine g_icN Xlc26.here hx (Jvm.hb hby at_391) (pc' := 394) rfl (teq hc391).2 ?_
      refine g_iload Xlc26.here hx (Jvm.hb hby at_394) (pc' := 396) rfl rfl ?_
      refine g_goto Xlc26.here hx (Jvm.hb hby at_396) (by decide) (pc' := 400) (by decide) ?_
      refine g_istore Xlc26.here hx (Jvm.hb hby at_400) (pc' := 402) rfl (L' := #[.val (.int x0), .val (.int x1), .val (.int x2), .val (.int x3), .val (.int a), .val (.int b), .val (.int c2), .val (.int x), .val (.int y), .val (.int z), .val (.ref ad1), .val (.int v11), .val (.int v12), .val (.int v13), .val (.int v14), .val (.int (1 : Int32)), .val (.int b), .unset]) rfl ?_
      exact k402 _ (by rw [q_ra, if_pos hc391])
    · refine g_icY Xlc26.here hx (Jvm.hb hby at_391) (by decide) (pc' := 399) (by decide) (feq hc391).2 ?_
      refine g_iconst Xlc26.here hx (Jvm.hb hby at_399) (pc' := 400) rfl (z := (-1 : Int32)) rfl ?_
      refine g_istore Xlc26.here hx (Jvm.hb hby at_400) (pc' := 402) rfl (L' := #[.val (.int x0), .val (.int x1), .val (.int x2), .val (.int x3), .val (.int a), .val (.int b), .val (.int c2), .val (.int x), .val (.int y), .val (.int z), .val (.ref ad1), .val (.int v11), .val (.int v12), .val (.int v13), .val (.int v14), .val (.int (1 : Int32)), .val (.int (-1 : Int32)), .unset]) rfl ?_
      exact k402 _ (by rw [q_ra, if_neg hc391])
  have k156 : ∀ (v11 : Int32), ∀ (h11 : S3 2 a.toNatClampNeg = v11), ∀ (v12 : Int32), ∀ (h12 : S3 2 b.toNatClampNeg = v12), ∀ (u1 : Int32), ∀ (e1 : (if x = (0 : Int32) then (1 : Int32) else (0 : Int32)) = u1), ∀ (u2 : Int32), ∀ (e2 : (if y = (0 : Int32) then (1 : Int32) else (0 : Int32)) = u2), own_Gl p e below s (own_Q0 n0) room_1.cells room_1.slots (T9.setTop (mkF m 156 #[.val (.int x0), .val (.int x1), .val (.int x2), .val (.int x3), .val (.int a), .val (.int b), .val (.int c2), .val (.int x), .val (.int y), .val (.int z), .val (.ref ad1), .val (.int v11), .val (.int v12), .unset, .unset, .unset, .unset, .unset] [(.int (u1 + u2))])) := by
    intro v11 h11 v12 h12 u1 e1 u2 e2
    refine g_iload Xlc11.here hx (Jvm.hb hby at_156) (pc' := 158) rfl rfl ?_
    by_cases hc158 : z = (0 : Int32)
    · refine g_ifN Xlc11.here hx (Jvm.hb hby at_158) (pc' := 161) rfl ((if0 _ _).trans (teq hc158).2) ?_
      refine g_iconst Xlc11.here hx (Jvm.hb hby at_161) (pc' := 162) rfl (z := (1 : Int32)) rfl ?_
      refine g_goto Xlc11.here hx (Jvm.hb hby at_162) (by decide) (pc' := 166) (by decide) ?_
      refine g_iadd Xlc11.here hx (Jvm.hb hby at_166) (pc' := 167) rfl ?_
      refine g_istore Xlc11.here hx (Jvm.hb hby at_167) (pc' := 169) rfl (L' := #[.val (.int x0), .val (.int x1), .val (.int x2), .val (.int x3), .val (.int a), .val (.int b), .val (.int c2), .val (.int x), .val (.int y), .val (.int z), .val (.ref ad1), .val (.int v11), .val (.int v12), .val (.int ((u1 + u2) + (1 : Int32))), .unset, .unset, .unset, .unset]) rfl ?_
      refine g_iconst Xlc11.here hx (Jvm.hb hby at_169) (pc' := 170) rfl (z := (3 : Int32)) rfl ?_
      refine g_iload Xlc11.here hx (Jvm.hb hby at_170) (pc' := 172) rfl rfl ?_
      refine g_isub Xlc11.here hx (Jvm.hb hby at_172) (pc' := 173) rfl ?_
      refine g_istore Xlc11.here hx (Jvm.hb hby at_173) (pc' := 175) rfl (L' := #[.val (.int x0), .val (.int x1), .val (.int x2), .val (.int x3), .val (.int a), .val (.int b), .val (.int c2), .val (.int x), .val (.int y), .val (.int z), .val (.ref ad1), .val (.int v11), .val (.int v12), .val (.int ((u1 + u2) + (1 : Int32))), .val (.int ((3 : Int32) - ((u1 + u2) + (1 : Int32)))), .unset, .unset, .unset]) rfl ?_
      exact k175 v11 h11 v12 h12 _ (by rw [q_l0, e1, e2, if_pos hc158]) _ (by rw [q_l1, e1, e2, if_pos hc158])
    · refine g_ifY Xlc11.here hx (Jvm.hb hby at_158) (by decide) (pc' := 165) (by decide) ((if0 _ _).trans (feq hc158).2) ?_
      refine g_iconst Xlc11.here hx (Jvm.hb hby at_165) (pc' := 166) rfl (z := (0 : Int32)) rfl ?_
      refine g_iadd Xlc11.here hx (Jvm.hb hby at_166) (pc' := 167) rfl ?_
      refine g_istore Xlc11.here hx (Jvm.hb hby at_167) (pc' := 169) rfl (L' := #[.val (.int x0), .val (.int x1), .val (.int x2), .val (.int x3), .val (.int a), .val (.int b), .val (.int c2), .val (.int x), .val (.int y), .val (.int z), .val (.ref ad1), .val (.int v11), .val (.int v12), .val (.int ((u1 + u2) + (0 : Int32))), .unset, .unset, .unset, .unset]) rfl ?_
      refine g_iconst Xlc11.here hx (Jvm.hb hby at_169) (pc' := 170) rfl (z := (3 : Int32)) rfl ?_
      refine g_iload Xlc11.here hx (Jvm.hb hby at_170) (pc' := 172) rfl rfl ?_
      refine g_isub Xlc11.here hx (Jvm.hb hby at_172) (pc' := 173) rfl ?_
      refine g_istore Xlc11.here hx (Jvm.hb hby at_173) (pc' := 175) rfl (L' := #[.val (.int x0), .val (.int x1), .val (.int x2), .val (.int x3), .val (.int a), .val (.int b), .val (.int c2), .val (.int x), .val (.int y), .val (.int z), .val (.ref ad1), .val (.int v11), .val (.int v12), .val (.int ((u1 + u2) + (0 : Int32))), .val (.int ((3 : Int32) - ((u1 + u2) + (0 : Int32)))), .unset, .unset, .unset]) rfl ?_
      exact k175 v11 h11 v12 h12 _ (by rw [q_l0, e1, e2, if_neg hc158]) _ (by rw [q_l1, e1, e2, if_neg hc158])
  have k145 : ∀ (v11 : Int32), ∀ (h11 : S3 2 a.toNatClampNeg = v11), ∀ (v12 : Int32), ∀ (h12 : S3 2 b.toNatClampNeg = v12), ∀ (u1 : Int32), ∀ (e1 : (if x = (0 : Int32) then (1 : Int32) else (0 : Int32)) = u1), own_Gl p e below s (own_Q0 n0) room_1.cells room_1.slots (T9.setTop (mkF m 145 #[.val (.int x0), .val (.int x1), .val (.int x2), .val (.int x3), .val (.int a), .val (.int b), .val (.int c2), .val (.int x), .val (.int y), .val (.int z), .val (.ref ad1), .val (.int v11), .val (.int v12), .unset, .unset, .unset, .unset, .unset] [(.int u1)])) := by
    intro v11 h11 v12 h12 u1 e1
    refine g_iload Xlc11.here hx (Jvm.hb hby at_145) (pc' := 147) rfl rfl ?_
    by_cases hc147 : y = (0 : Int32)
    · refine g_ifN Xlc11.here hx (Jvm.hb hby at_147) (pc' := 150) rfl ((if0 _ _).trans (teq hc147).2) ?_
      refine g_iconst Xlc11.here hx (Jvm.hb hby at_150) (pc' := 151) rfl (z := (1 : Int32)) rfl ?_
      refine g_goto Xlc11.here hx (Jvm.hb hby at_151) (by decide) (pc' := 155) (by decide) ?_
      refine g_iadd Xlc11.here hx (Jvm.hb hby at_155) (pc' := 156) rfl ?_
      exact k156 v11 h11 v12 h12 u1 e1 _ (if_pos hc147)
    · refine g_ifY Xlc11.here hx (Jvm.hb hby at_147) (by decide) (pc' := 154) (by decide) ((if0 _ _).trans (feq hc147).2) ?_
      refine g_iconst Xlc11.here hx (Jvm.hb hby at_154) (pc' := 155) rfl (z := (0 : Int32)) rfl ?_
      refine g_iadd Xlc11.here hx (Jvm.hb hby at_155) (pc' := 156) rfl ?_
      exact k156 v11 h11 v12 h12 u1 e1 _ (if_neg hc147)
  have k135 : ∀ (v11 : Int32), ∀ (h11 : S3 2 a.toNatClampNeg = v11), ∀ (v12 : Int32), ∀ (h12 : S3 2 b.toNatClampNeg = v12), own_Gl p e below s (own_Q0 n0) room_1.cells room_1.slots (T9.setTop (mkF m 135 #[.val (.int x0), .val (.int x1), .val (.int x2), .val (.int x3), .val (.int a), .val (.int b), .val (.int c2), .val (.int x), .val (.int y), .val (.int z), .val (.ref ad1), .val (.int v11), .val (.int v12), .unset, .unset, .unset, .unset, .unset] [])) := by
    intro v11 h11 v12 h12
    refine g_iload Xlc11.here hx (Jvm.hb hby at_135) (pc' := 137) rfl rfl ?_
    by_cases hc137 : x = (0 : Int32)
    · refine g_ifN Xlc11.here hx (Jvm.hb hby at_137) (pc' := 140) rfl ((if0 _ _).trans (teq hc137).2) ?_
      refine g_iconst Xlc11.here hx (Jvm.hb hby at_140) (pc' := 141) rfl (z := (1 : Int32)) rfl ?_
      refine g_goto Xlc11.here hx (Jvm.hb hby at_141) (by decide) (pc' := 145) (by decide) ?_
      exact k145 v11 h11 v12 h12 _ (if_pos hc137)
    · refine g_ifY Xlc11.here hx (Jvm.hb hby at_137) (by decide) (pc' := 144) (by decide) ((if0 _ _).trans (feq hc137).2) ?_
      refine g_iconst Xlc11.here hx (Jvm.hb hby at_144) (pc' := 145) rfl (z := (0 : Int32)) rfl ?_
      exact k145 v11 h11 v12 h12 _ (if_neg hc137)
  have k120 : ∀ (v11 : Int32), ∀ (h11 : S3 2 a.toNatClampNeg = v11), own_Gl p e below s (own_Q0 n0) room_1.cells room_1.slots (T9.setTop (mkF m 120 #[.val (.int x0), .val (.int x1), .val (.int x2), .val (.int x3), .val (.int a), .val (.int b), .val (.int c2), .val (.int x), .val (.int y), .val (.int z), .val (.ref ad1), .val (.int v11), .unset, .unset, .unset, .unset, .unset, .unset] [])) := by
    intro v11 h11
    refine g_iload Xlc11.here hx (Jvm.hb hby at_120) (pc' := 122) rfl rfl ?_
    refine g_iload Xlc11.here hx (Jvm.hb hby at_122) (pc' := 124) rfl rfl ?_
    by_cases hc124 : y = z
    · refine g_icN Xlc11.here hx (Jvm.hb hby at_124) (pc' := 127) rfl (teq hc124).2 ?_
      refine g_iload Xlc11.here hx (Jvm.hb hby at_127) (pc' := 129) rfl rfl ?_
      refine g_goto Xlc11.here hx (Jvm.hb hby at_129) (by decide) (pc' := 133) (by decide) ?_
      refine g_istore Xlc11.here hx (Jvm.hb hby at_133) (pc' := 135) rfl (L' := #[.val (.int x0), .val (.int x1), .val (.int x2), .val (.int x3), .val (.int a), .val (.int b), .val (.int c2), .val (.int x), .val (.int y), .val (.int z), .val (.ref ad1), .val (.int v11), .val (.int c2), .unset, .unset, .unset, .unset, .unset]) rfl ?_
      exact k135 v11 h11 _ (by rw [q_nb, if_pos hc124])
    · refine g_icY Xlc11.here hx (Jvm.hb hby at_124) (by decide) (pc' := 132) (by decide) (feq hc124).2 ?_
      refine g_iconst Xlc11.here hx (Jvm.hb hby at_132) (pc' := 133) rfl (z := (-1 : Int32)) rfl ?_
      refine g_istore Xlc11.here hx (Jvm.hb hby at_133) (pc' := 135) rfl (L' := #[.val (.int x0), .val (.int x1), .val (.int x2), .val (.int x3), .val (.int a), .val (.int b), .val (.int c2), .val (.int x), .val (.int y), .val (.int z), .val (.ref ad1), .val (.int v11), .val (.int (-1 : Int32)), .unset, .unset, .unset, .unset, .unset]) rfl ?_
      exact k135 v11 h11 _ (by rw [q_nb, if_neg hc124])
  refine g_iload Xlc11.here hx (Jvm.hb hby at_93) (pc' := 95) rfl rfl ?_
  refine g_iload Xlc11.here hx (Jvm.hb hby at_95) (pc' := 97) rfl rfl ?_
  by_cases hc97 : x = y
  · refine g_icN Xlc11.here hx (Jvm.hb hby at_97) (pc' := 100) rfl (teq hc97).2 ?_
    refine g_iload Xlc11.here hx (Jvm.hb hby at_100) (pc' := 102) rfl rfl ?_
    refine g_goto Xlc11.here hx (Jvm.hb hby at_102) (by decide) (pc' := 118) (by decide) ?_
    refine g_istore Xlc11.here hx (Jvm.hb hby at_118) (pc' := 120) rfl (L' := #[.val (.int x0), .val (.int x1), .val (.int x2), .val (.int x3), .val (.int a), .val (.int b), .val (.int c2), .val (.int x), .val (.int y), .val (.int z), .val (.ref ad1), .val (.int b), .unset, .unset, .unset, .unset, .unset, .unset]) rfl ?_
    exact k120 _ (by rw [q_na, if_pos hc97])
  · refine g_icY Xlc11.here hx (Jvm.hb hby at_97) (by decide) (pc' := 105) (by decide) (feq hc97).2 ?_
    refine g_iload Xlc11.here hx (Jvm.hb hby at_105) (pc' := 107) rfl rfl ?_
    refine g_iload Xlc11.here hx (Jvm.hb hby at_107) (pc' := 109) rfl rfl ?_
    by_cases hc109 : x = z
    · refine g_icN Xlc11.here hx (Jvm.hb hby at_109) (pc' := 112) rfl (teq hc109).2 ?_
      refine g_iload Xlc11.here hx (Jvm.hb hby at_112) (pc' := 114) rfl rfl ?_
      refine g_goto Xlc11.here hx (Jvm.hb hby at_114) (by decide) (pc' := 118) (by decide) ?_
      refine g_istore Xlc11.here hx (Jvm.hb hby at_118) (pc' := 120) rfl (L' := #[.val (.int x0), .val (.int x1), .val (.int x2), .val (.int x3), .val (.int a), .val (.int b), .val (.int c2), .val (.int x), .val (.int y), .val (.int z), .val (.ref ad1), .val (.int c2), .unset, .unset, .unset, .unset, .unset, .unset]) rfl ?_
      exact k120 _ (by rw [q_na, if_neg hc97, if_pos hc109])
    · refine g_icY Xlc11.here hx (Jvm.hb hby at_109) (by decide) (pc' := 117) (by decide) (feq hc109).2 ?_
      refine g_iconst Xlc11.here hx (Jvm.hb hby at_117) (pc' := 118) rfl (z := (-1 : Int32)) rfl ?_
      refine g_istore Xlc11.here hx (Jvm.hb hby at_118) (pc' := 120) rfl (L' := #[.val (.int x0), .val (.int x1), .val (.int x2), .val (.int x3), .val (.int a), .val (.int b), .val (.int c2), .val (.int x), .val (.int y), .val (.int z), .val (.ref ad1), .val (.int (-1 : Int32)), .unset, .unset, .unset, .unset, .unset, .unset]) rfl ?_
      exact k120 _ (by rw [q_na, if_neg hc97, if_neg hc109])
set_option maxRecDepth 65536 in
set_option maxHeartbeats 40000000 in
theorem comes_1 {Post : Tables → Env → Array Value → State → Outcome → State → Prop} (hpost : ∀ tb e args s v u, (limb_1_1.after args s (.returned v) u = true ∧ limb_1_2.after args s (.returned v) u = true ∧ True) → FrameEnd s (.returned v) u (Jvm.fieldLocs frame_1_writes args s ++ Jvm.arrayLocs frame_1_arrays args s ++ Jvm.staticLocs frame_1_statics s) 24 192 → Post tb e args s (.returned v) u) :
    ArmFor flags0 classFile x code maxLocals ret World_1 tables_1 room_1 Calls_1 rest_1 Pre_1 Post := by
  intro l hfl _ _ p e ha hc hk s m args below hf hA hF happ hP
  obtain ⟨hcalls, hrest, hpre⟩ := hP
  obtain ⟨-, -, -, hnamed, -, -, -, hat⟩ := (Spec.applies_iff hf).mp happ
  obtain ⟨hg, hn⟩ := and_e (Cond.before_iff.mp (show (Jvm.Cond.and given_1 narrow_1).before args s = true from hpre))
  obtain ⟨g1, g2⟩ := and_e hg
  obtain ⟨g3, g4⟩ := and_e g2
  obtain ⟨g5, g6⟩ := and_e g4
  obtain ⟨g7, g8⟩ := and_e g6
  obtain ⟨w0, w1, w2, w3, rfl⟩ : ∃ w0 w1 w2 w3 : Value, args = #[w0, w1, w2, w3] := by
    have hs : args.size = 4 := by simpa [Cond.value, given_1] using g1
    obtain ⟨L⟩ := args
    match L, hs with
    | [w0, w1, w2, w3], _ => exact ⟨w0, w1, w2, w3, rfl⟩
  have hw := fun d (hd : d ∈ tables_1) => atoms_spec (ws := Jvm.Cond.code x code maxLocals ret :: tables_1) hat d (List.mem_cons_of_mem _ hd)
  obtain ⟨i0, ei0⟩ := is_v g3
  obtain rfl : w0 = (.int i0) := Option.some.inj ei0
  obtain ⟨i1, ei1⟩ := is_v g5
  obtain rfl : w1 = (.int i1) := Option.some.inj ei1
  obtain ⟨i2, ei2⟩ := is_v g7
  obtain rfl : w2 = (.int i2) := Option.some.inj ei2
  obtain ⟨i3, ei3⟩ := is_v g8
  obtain rfl : w3 = (.int i3) := Option.some.inj ei3
  obtain ⟨n, o, h1, h2, h3, _, L, rfl, ⟨rfl, N⟩, hq⟩ := rm0 l s _ hw tables_1 i0 i1 i2 i3 s.heap s.heap.size (Nat.le_refl _) p e ha hc hk s m _ below hf ((Spec.applies_iff_loose hf).mp happ).1 ⟨rfl, State.Warmed39.refl s, rfl⟩ trivial
  refine ⟨n, _, h1, h2, h3, hpost _ _ _ _ _ _ ⟨Cond.after_iff.mpr rfl, Cond.after_iff.mpr (eq_i res_at (Term.int_eval (1)) rfl), trivial⟩ ⟨hq.1, hq.2.1, (hq.2.2.sift fun y hy => Or.inr (N y hy)).mono (by decide) (by decide)⟩⟩
theorem main_1_1 : Claimed_1_1 := comes_1 fun _ _ _ _ _ _ h hF => ⟨h.1, hF⟩
theorem main_1_2 : Claimed_1_2 := comes_1 fun _ _ _ _ _ _ h hF => ⟨h.2.1, hF⟩
end Jvm.Pilot.@@N@@
namespace Jvm.Pilot.@@N@@
open Jvm Jvm.ClassFile Sem Op Lib Jvm.Free Jvm.Stand Jvm.Pilot.@@N@@.Jvm.D
/-! MADE BY PROGRAM (witnessworld.py) out of the Statement's table words and the real class files: 10 classes; the members and pool entries that the words name. The judged class is class 1, her method 2. -/
namespace start1
open Jvm.ClassFile
def u (s : String) : CpInfo := .utf8 (stringToUtf16 s)
/-- a pool by its gaps: so many unusable entries, then the entry; so many at the end -/
def gap : Nat → List CpInfo → List CpInfo
  | 0, r => r
  | n + 1, r => .unusable :: gap n r
def poolList (es : List (Nat × CpInfo)) (last : Nat) : List CpInfo := es.foldr (fun e r => gap e.1 (e.2 :: r)) (gap last [])
def pool (es : List (Nat × CpInfo)) (last : Nat) : Array CpInfo := ⟨poolList es last⟩
def fileOf (pool : Array CpInfo) (this : Nat) (attrs : Array Attribute := #[]) (ms : Array MethodInfo := #[]) (fl : Nat := 33) (sup : Nat := 0) (ifs : Array Nat := #[]) (fds : Array FieldInfo := #[]) : ClassFile where
  minorVersion := 0
  majorVersion := 65
  constantPool := pool
  accessFlags := fl
  thisClass := this
  superClass := sup
  interfaces := ifs
  fields := fds
  methods := ms
  attributes := attrs
def plain (name : String) (sup : Option ClassId) : Class where
  name := name
  kind := .ordinary
  loader := none
  accessFlags := 33
  super := sup
  interfaces := #[]
  cf := none
  fields := #[]
  methods := #[]
  instanceTypes := #[]
  staticTypes := #[]
  resolved := #[]
  callSites := []
  init := .initialized
  statics := none
  mirror := none

def pool0 : Array CpInfo := pool [(5, u "<init>"), (0, u "()V"), (1, .class_ 10), (1, u "java/lang/Object")] 113

def k0c0 : Code := { maxStack := 0, maxLocals := 1, code := object_method_1_code, exceptionTable := #[], attributes := #[] }
def k0m0 : Method := { name := "<init>", desc := "()V", sig := { parameters := [], returnType := none }, accessFlags := 1, code := some k0c0 }
/-- java/lang/Object -/
def k0 : Class := { plain "java/lang/Object" none with
  accessFlags := 33
  interfaces := #[]
  cf := some (fileOf pool0 8 #[] #[{ accessFlags := 1, nameIndex := 5, descriptorIndex := 6, attributes := #[] }] 33 0 #[] #[])
  fields := #[]
  methods := #[k0m0]
  instanceTypes := #[]
  staticTypes := #[]
  resolved := Array.replicate 124 none
  statics := none }

def pool1 : Array CpInfo := pool [(2, .class_ 4), (1, u "java/lang/Object"), (0, u "<init>"), (0, u "()V"), (0, .class_ 8), (0, u "com/example/tierstone/tierstone/PageLists"), (0, .integer 2147483647), (0, .methodref 7 11), (0, .nameAndType 5 12), (0, u "(II)V"), (0, .methodref 7 14), (0, .nameAndType 15 12), (0, u "append"), (0, .methodref 7 17), (0, .nameAndType 18 19), (0, u "listOf"), (0, u "(I)I"), (0, .methodref 7 21), (0, .nameAndType 22 19), (0, u "newer"), (0, .methodref 7 24), (0, .nameAndType 25 19), (0, u "length"), (0, .methodref 7 27), (0, .nameAndType 28 19), (0, u "oldest"), (0, .methodref 30 31), (0, .class_ 32), (0, .nameAndType 33 34), (0, u "com/example/tierstone/tierstone/PageListsAppendPinLaw"), (0, u "firstIn"), (0, u "(IIIIIII)I"), (0, .methodref 7 36), (0, .nameAndType 37 38), (0, u "remove"), (0, u "(I)V"), (3, u "law"), (0, u "(IIII)Z")] 2

def k1m0 : Method := { name := "<init>", desc := "()V", sig := { parameters := [], returnType := none }, accessFlags := 1, code := none }
def k1c1 : Code := { maxStack := 2, maxLocals := 7, code := method_2_code, exceptionTable := #[], attributes := #[] }
def k1m1 : Method := { name := "firstIn", desc := "(IIIIIII)I", sig := { parameters := [.int, .int, .int, .int, .int, .int, .int], returnType := some .int }, accessFlags := 10, code := some k1c1 }
def k1c2 : Code := { maxStack := 8, maxLocals := 18, code := code, exceptionTable := #[], attributes := #[] }
def k1m2 : Method := { name := "law", desc := "(IIII)Z", sig := { parameters := [.int, .int, .int, .int], returnType := some .boolean }, accessFlags := 9, code := some k1c2 }
/-- com/example/tierstone/tierstone/PageListsAppendPinLaw -/
def k1 : Class := { plain "com/example/tierstone/tierstone/PageListsAppendPinLaw" (some 0) with
  accessFlags := 49
  interfaces := #[]
  cf := some (fileOf pool1 30 #[] #[{ accessFlags := 1, nameIndex := 5, descriptorIndex := 6, attributes := #[] }, { accessFlags := 10, nameIndex := 33, descriptorIndex := 34, attributes := #[] }, { accessFlags := 9, nameIndex := 42, descriptorIndex := 43, attributes := #[] }] 49 2 #[] #[])
  fields := #[]
  methods := #[k1m0, k1m1, k1m2]
  instanceTypes := #[]
  staticTypes := #[]
  resolved := Array.replicate 46 none
  statics := none }

def pool2 : Array CpInfo := pool [(1, .methodref 2 3), (0, .class_ 4), (0, .nameAndType 5 6), (0, u "java/lang/Object"), (0, u "<init>"), (0, u "()V"), (0, .fieldref 8 9), (0, .class_ 10), (0, .nameAndType 11 12), (0, u "com/example/tierstone/tierstone/PageLists"), (0, u "list"), (0, u "[B"), (0, .methodref 14 15), (0, .class_ 16), (0, .nameAndType 17 18), (0, u "java/util/Arrays"), (0, u "fill"), (0, u "([BB)V"), (0, .fieldref 8 20), (0, .nameAndType 21 22), (0, u "older"), (0, u "[I"), (0, .fieldref 8 24), (0, .nameAndType 25 22), (0, u "newer"), (0, .fieldref 8 27), (0, .nameAndType 28 22), (0, u "oldest"), (0, .fieldref 8 30), (0, .nameAndType 31 22), (0, u "newest"), (0, .methodref 14 33), (0, .nameAndType 17 34), (0, u "([II)V"), (0, .fieldref 8 36), (0, .nameAndType 37 22), (0, u "length"), (8, u "remove"), (0, u "(I)V"), (2, u "append"), (0, u "(II)V"), (0, u "NONE"), (0, u "I"), (4, u "listOf"), (0, u "(I)I")] 10

def k2c0 : Code := { maxStack := 2, maxLocals := 3, code := prog_64_method_1_code, exceptionTable := #[], attributes := #[] }
def k2m0 : Method := { name := "<init>", desc := "(II)V", sig := { parameters := [.int, .int], returnType := none }, accessFlags := 0, code := some k2c0 }
def k2c1 : Code := { maxStack := 2, maxLocals := 2, code := prog_64_method_2_code, exceptionTable := #[], attributes := #[] }
def k2m1 : Method := { name := "listOf", desc := "(I)I", sig := { parameters := [.int], returnType := some .int }, accessFlags := 0, code := some k2c1 }
def k2c2 : Code := { maxStack := 2, maxLocals := 2, code := prog_64_method_3_code, exceptionTable := #[], attributes := #[] }
def k2m2 : Method := { name := "length", desc := "(I)I", sig := { parameters := [.int], returnType := some .int }, accessFlags := 0, code := some k2c2 }
def k2c3 : Code := { maxStack := 2, maxLocals := 2, code := prog_64_method_4_code, exceptionTable := #[], attributes := #[] }
def k2m3 : Method := { name := "oldest", desc := "(I)I", sig := { parameters := [.int], returnType := some .int }, accessFlags := 0, code := some k2c3 }
def k2c4 : Code := { maxStack := 2, maxLocals := 2, code := prog_64_method_5_code, exceptionTable := #[], attributes := #[] }
def k2m4 : Method := { name := "newer", desc := "(I)I", sig := { parameters := [.int], returnType := some .int }, accessFlags := 0, code := some k2c4 }
def k2c5 : Code := { maxStack := 4, maxLocals := 3, code := prog_64_method_7_code, exceptionTable := #[], attributes := #[] }
def k2m5 : Method := { name := "append", desc := "(II)V", sig := { parameters := [.int, .int], returnType := none }, accessFlags := 0, code := some k2c5 }
def k2c6 : Code := { maxStack := 4, maxLocals := 5, code := prog_64_method_9_code, exceptionTable := #[], attributes := #[] }
def k2m6 : Method := { name := "remove", desc := "(I)V", sig := { parameters := [.int], returnType := none }, accessFlags := 0, code := some k2c6 }
/-- com/example/tierstone/tierstone/PageLists -/
def k2 : Class := { plain "com/example/tierstone/tierstone/PageLists" (some 0) with
  accessFlags := 48
  interfaces := #[]
  cf := some (fileOf pool2 8 #[] #[{ accessFlags := 0, nameIndex := 5, descriptorIndex := 51, attributes := #[] }, { accessFlags := 0, nameIndex := 58, descriptorIndex := 59, attributes := #[] }, { accessFlags := 0, nameIndex := 37, descriptorIndex := 59, attributes := #[] }, { accessFlags := 0, nameIndex := 28, descriptorIndex := 59, attributes := #[] }, { accessFlags := 0, nameIndex := 25, descriptorIndex := 59, attributes := #[] }, { accessFlags := 0, nameIndex := 50, descriptorIndex := 51, attributes := #[] }, { accessFlags := 0, nameIndex := 46, descriptorIndex := 47, attributes := #[] }] 48 2 #[] #[{ accessFlags := 24, nameIndex := 52, descriptorIndex := 53, attributes := #[] }, { accessFlags := 18, nameIndex := 11, descriptorIndex := 12, attributes := #[] }, { accessFlags := 18, nameIndex := 21, descriptorIndex := 22, attributes := #[] }, { accessFlags := 18, nameIndex := 25, descriptorIndex := 22, attributes := #[] }, { accessFlags := 18, nameIndex := 28, descriptorIndex := 22, attributes := #[] }, { accessFlags := 18, nameIndex := 31, descriptorIndex := 22, attributes := #[] }, { accessFlags := 18, nameIndex := 37, descriptorIndex := 22, attributes := #[] }])
  fields := #[{ name := "NONE", type := .int, accessFlags := 24, slot := 0, constantValue := 0 }, { name := "list", type := (.array .byte), accessFlags := 18, slot := 0, constantValue := 0 }, { name := "older", type := (.array .int), accessFlags := 18, slot := 1, constantValue := 0 }, { name := "newer", type := (.array .int), accessFlags := 18, slot := 2, constantValue := 0 }, { name := "oldest", type := (.array .int), accessFlags := 18, slot := 3, constantValue := 0 }, { name := "newest", type := (.array .int), accessFlags := 18, slot := 4, constantValue := 0 }, { name := "length", type := (.array .int), accessFlags := 18, slot := 5, constantValue := 0 }]
  methods := #[k2m0, k2m1, k2m2, k2m3, k2m4, k2m5, k2m6]
  instanceTypes := #[(.array .byte), (.array .int), (.array .int), (.array .int), (.array .int), (.array .int)]
  staticTypes := #[.int]
  resolved := Array.replicate 70 none
  statics := none }

def pool3 : Array CpInfo := pool [(2, .class_ 4), (1, u "java/lang/Object"), (0, u "<init>"), (0, u "()V"), (7, .class_ 16), (1, u "java/util/Arrays"), (57, .class_ 76), (1, u "java/util/Arrays$NaturalOrder"), (36, .class_ 115), (1, u "java/util/Arrays$LegacyMergeSort"), (1, u "Z"), (257, .class_ 376), (0, u "java/util/Arrays$ArrayList"), (68, u "$assertionsDisabled"), (269, u "MIN_ARRAY_SORT_GRAN"), (0, u "I"), (2, u "INSERTIONSORT_THRESHOLD"), (120, u "fill"), (4, u "([II)V"), (4, u "([BB)V"), (124, .class_ 976), (0, u "java/util/Arrays$ArrayItr")] 52

def k3m0 : Method := { name := "<init>", desc := "()V", sig := { parameters := [], returnType := none }, accessFlags := 2, code := none }
def k3c1 : Code := { maxStack := 3, maxLocals := 4, code := jdk_65_method_103_code, exceptionTable := #[], attributes := #[] }
def k3m1 : Method := { name := "fill", desc := "([II)V", sig := { parameters := [(.array .int), .int], returnType := none }, accessFlags := 9, code := some k3c1 }
def k3c2 : Code := { maxStack := 3, maxLocals := 4, code := jdk_65_method_109_code, exceptionTable := #[], attributes := #[] }
def k3m2 : Method := { name := "fill", desc := "([BB)V", sig := { parameters := [(.array .byte), .byte], returnType := none }, accessFlags := 9, code := some k3c2 }
/-- java/util/Arrays -/
def k3 : Class := { plain "java/util/Arrays" (some 0) with
  accessFlags := 49
  interfaces := #[]
  cf := some (fileOf pool3 14 #[.nestMembers #[975, 375, 113, 74]] #[{ accessFlags := 2, nameIndex := 5, descriptorIndex := 6, attributes := #[] }, { accessFlags := 9, nameIndex := 840, descriptorIndex := 845, attributes := #[] }, { accessFlags := 9, nameIndex := 840, descriptorIndex := 850, attributes := #[] }] 49 2 #[] #[{ accessFlags := 26, nameIndex := 715, descriptorIndex := 716, attributes := #[] }, { accessFlags := 26, nameIndex := 719, descriptorIndex := 716, attributes := #[] }, { accessFlags := 4120, nameIndex := 445, descriptorIndex := 117, attributes := #[] }])
  fields := #[{ name := "MIN_ARRAY_SORT_GRAN", type := .int, accessFlags := 26, slot := 0, constantValue := 0 }, { name := "INSERTIONSORT_THRESHOLD", type := .int, accessFlags := 26, slot := 1, constantValue := 0 }, { name := "$assertionsDisabled", type := .boolean, accessFlags := 4120, slot := 2, constantValue := 0 }]
  methods := #[k3m0, k3m1, k3m2]
  instanceTypes := #[]
  staticTypes := #[.int, .int, .boolean]
  resolved := Array.replicate 1029 none
  statics := none }

def pool4 : Array CpInfo := pool [(1, u "java/lang/Cloneable"), (0, .class_ 1), (0, u "java/lang/Object"), (0, .class_ 3)] 3

/-- java/lang/Cloneable -/
def k4 : Class := { plain "java/lang/Cloneable" (some 0) with
  accessFlags := 1537
  interfaces := #[]
  cf := some (fileOf pool4 2 #[] #[] 1537 4 #[] #[])
  fields := #[]
  methods := #[]
  instanceTypes := #[]
  staticTypes := #[]
  resolved := Array.replicate 8 none
  statics := none }

def pool5 : Array CpInfo := pool [(1, u "java/io/Serializable"), (0, .class_ 1), (0, u "java/lang/Object"), (0, .class_ 3)] 3

/-- java/io/Serializable -/
def k5 : Class := { plain "java/io/Serializable" (some 0) with
  accessFlags := 1537
  interfaces := #[]
  cf := some (fileOf pool5 2 #[] #[] 1537 4 #[] #[])
  fields := #[]
  methods := #[]
  instanceTypes := #[]
  staticTypes := #[]
  resolved := Array.replicate 8 none
  statics := none }

/-- the primitive byte -/
def k6 : Class := { plain "byte" none with kind := .primitive 'B', accessFlags := 0x411 }
/-- [B -/
def k7 : Class := { plain "[B" (some 0) with kind := .array 6 .byte, interfaces := #[4, 5], accessFlags := 1041 }

/-- the primitive int -/
def k8 : Class := { plain "int" none with kind := .primitive 'I', accessFlags := 0x411 }
/-- [I -/
def k9 : Class := { plain "[I" (some 0) with kind := .array 8 .int, interfaces := #[4, 5], accessFlags := 1041 }

def heap : Heap := #[]
def classes : Array Class := #[k0, k1, k2, k3, k4, k5, k6, k7, k8, k9]
def interned : List (Array UInt16 × Addr) := []
def slotsUsed : Nat := 0
def theMethod : MethodId := ⟨1, 2⟩
def args0 : Array Value := #[.int 5, .int 6, .int 3, .int 1]
def aboutOver (below : List Frame) : State where
  vm := { classes := classes, interned := interned.toArray }
  heap := heap
  slotsUsed := slotsUsed
  threads := #[{ frames := .invoking theMethod args0 :: below }]
def below0 : List Frame := [.native { method := ⟨0, 0⟩, args := #[] }]
def about1 : State := aboutOver below0
def p0 : Program := .bare "" "" ""
def e0 : Env := launch0.env 0 0 0
theorem w_frames : about1.frames = Frame.invoking theMethod args0 :: below0 := rfl
set_option maxRecDepth 65536 in
theorem w_args : argsFit about1.vm theMethod args0 = true := by decide +kernel
set_option maxRecDepth 65536 in
theorem w_heap : heapFits about1 = true := by decide +kernel
set_option maxRecDepth 65536 in
theorem w_runnable : about1.curStatus? = some .runnable := by decide +kernel
set_option maxRecDepth 65536 in
theorem w_alone : about1.alone = true := by decide +kernel
set_option maxRecDepth 65536 in
theorem w_named : about1.methodNamed? x = some theMethod := by decide +kernel
set_option maxRecDepth 65536 in
theorem w_hears : about1.hears theMethod below0 = true := by decide +kernel
set_option maxRecDepth 65536 in
theorem w_ripe : about1.ripe theMethod args0 below0 = true := by decide +kernel
theorem w_running : about1.status = .running := rfl
set_option maxRecDepth 65536 in
theorem w_room : about1.hasRoom e0.platform room_1 = true :=
  launch0.hasRoom_least _ room_1 (by decide +kernel) (by decide +kernel) (by decide +kernel) (by decide +kernel) (by decide +kernel) (by decide +kernel)
theorem allAtoms_all (ts : List Jvm.Cond) (a : Array Jvm.Value) (st : Jvm.State) : (allAtoms ts).before a st = ts.all (fun c => c.before a st) := by
  induction ts with
  | nil => rfl
  | cons c t ih =>
    show (Jvm.Cond.and c (allAtoms t)).before a st = _
    rw [Jvm.Cond.before_and, ih, List.all_cons]
def words1 : List Jvm.Cond := Jvm.Cond.code x code maxLocals ret :: tables_1
/-- a 'code' word, met by the world's own term for the bytes: nothing is compared byte by byte -/
theorem code_word {y : MethodName} {bytes : ByteArray} {mx : Nat} {rt : Option FieldType} {a : Array Value} {s : State} {m : MethodId} {meth : Method} {c : Code} (h1 : s.methodNamed? y = some m) (h2 : s.vm.method? m = some meth) (h3 : meth.code = some c) (h4 : c.code = bytes)
    (h5 : (c.maxLocals == mx && c.exceptionTable.isEmpty && decide (c.maxStack ≤ mostOperands) && decide (meth.sig.returnType = rt) && !meth.locks && decide (parseMethodDescriptor y.desc = some meth.sig)) = true) : (Jvm.Cond.code y bytes mx rt).before a s = true := by
  simp only [Bool.and_eq_true, beq_iff_eq, Bool.not_eq_true', decide_eq_true_eq] at h5
  obtain ⟨⟨⟨⟨⟨g1, g2⟩, g3⟩, g4⟩, g5⟩, g6⟩ := h5
  simp [Cond.before, Cond.holds, Cond.value, h1, h2, h3, h4, g1, g2, g3, g4, g5, g6]
def isCode : Jvm.Cond → Bool
  | .code _ _ _ _ => true
  | _ => false
theorem all_split {L : List Jvm.Cond} {P : Jvm.Cond → Bool} (h1 : L.all (fun c => isCode c || P c) = true) (h2 : ∀ c ∈ L.filter isCode, P c = true) : L.all P = true := by
  refine List.all_eq_true.mpr fun c hc => ?_
  have h := List.all_eq_true.mp h1 c hc
  rcases Bool.eq_false_or_eq_true (isCode c) with hi | hi
  · exact h2 c (List.mem_filter.mpr ⟨hc, hi⟩)
  · simpa [hi] using h
set_option maxRecDepth 65536 in
theorem w_c0 : (Jvm.Cond.code x code maxLocals ret).before args0 about1 = true := code_word (m := ⟨1, 2⟩) (meth := k1m2) (c := k1c2) (by decide +kernel) rfl rfl rfl (by decide +kernel)
set_option maxRecDepth 65536 in
theorem w_c1 : (Jvm.Cond.code ({ cls := "com/example/tierstone/tierstone/PageLists", name := "<init>", desc := "(II)V" } : Jvm.MethodName) prog_64_method_1_code (3 : Nat) (Option.none : Option Jvm.ClassFile.FieldType)).before args0 about1 = true := code_word (m := ⟨2, 0⟩) (meth := k2m0) (c := k2c0) (by decide +kernel) rfl rfl rfl (by decide +kernel)
set_option maxRecDepth 65536 in
theorem w_c2 : (Jvm.Cond.code ({ cls := "java/lang/Object", name := "<init>", desc := "()V" } : Jvm.MethodName) object_method_1_code (1 : Nat) (Option.none : Option Jvm.ClassFile.FieldType)).before args0 about1 = true := code_word (m := ⟨0, 0⟩) (meth := k0m0) (c := k0c0) (by decide +kernel) rfl rfl rfl (by decide +kernel)
set_option maxRecDepth 65536 in
theorem w_c3 : (Jvm.Cond.code ({ cls := "java/util/Arrays", name := "fill", desc := "([BB)V" } : Jvm.MethodName) jdk_65_method_109_code (4 : Nat) (Option.none : Option Jvm.ClassFile.FieldType)).before args0 about1 = true := code_word (m := ⟨3, 2⟩) (meth := k3m2) (c := k3c2) (by decide +kernel) rfl rfl rfl (by decide +kernel)
set_option maxRecDepth 65536 in
theorem w_c4 : (Jvm.Cond.code ({ cls := "java/util/Arrays", name := "fill", desc := "([II)V" } : Jvm.MethodName) jdk_65_method_103_code (4 : Nat) (Option.none : Option Jvm.ClassFile.FieldType)).before args0 about1 = true := code_word (m := ⟨3, 1⟩) (meth := k3m1) (c := k3c1) (by decide +kernel) rfl rfl rfl (by decide +kernel)
set_option maxRecDepth 65536 in
theorem w_c5 : (Jvm.Cond.code ({ cls := "com/example/tierstone/tierstone/PageLists", name := "append", desc := "(II)V" } : Jvm.MethodName) prog_64_method_7_code (3 : Nat) (Option.none : Option Jvm.ClassFile.FieldType)).before args0 about1 = true := code_word (m := ⟨2, 5⟩) (meth := k2m5) (c := k2c5) (by decide +kernel) rfl rfl rfl (by decide +kernel)
set_option maxRecDepth 65536 in
theorem w_c6 : (Jvm.Cond.code ({ cls := "com/example/tierstone/tierstone/PageLists", name := "listOf", desc := "(I)I" } : Jvm.MethodName) prog_64_method_2_code (2 : Nat) (Option.some Jvm.ClassFile.FieldType.int)).before args0 about1 = true := code_word (m := ⟨2, 1⟩) (meth := k2m1) (c := k2c1) (by decide +kernel) rfl rfl rfl (by decide +kernel)
set_option maxRecDepth 65536 in
theorem w_c7 : (Jvm.Cond.code ({ cls := "com/example/tierstone/tierstone/PageLists", name := "newer", desc := "(I)I" } : Jvm.MethodName) prog_64_method_5_code (2 : Nat) (Option.some Jvm.ClassFile.FieldType.int)).before args0 about1 = true := code_word (m := ⟨2, 4⟩) (meth := k2m4) (c := k2c4) (by decide +kernel) rfl rfl rfl (by decide +kernel)
set_option maxRecDepth 65536 in
theorem w_c8 : (Jvm.Cond.code ({ cls := "com/example/tierstone/tierstone/PageLists", name := "length", desc := "(I)I" } : Jvm.MethodName) prog_64_method_3_code (2 : Nat) (Option.some Jvm.ClassFile.FieldType.int)).before args0 about1 = true := code_word (m := ⟨2, 2⟩) (meth := k2m2) (c := k2c2) (by decide +kernel) rfl rfl rfl (by decide +kernel)
set_option maxRecDepth 65536 in
theorem w_c9 : (Jvm.Cond.code ({ cls := "com/example/tierstone/tierstone/PageLists", name := "oldest", desc := "(I)I" } : Jvm.MethodName) prog_64_method_4_code (2 : Nat) (Option.some Jvm.ClassFile.FieldType.int)).before args0 about1 = true := code_word (m := ⟨2, 3⟩) (meth := k2m3) (c := k2c3) (by decide +kernel) rfl rfl rfl (by decide +kernel)
set_option maxRecDepth 65536 in
theorem w_c10 : (Jvm.Cond.code ({ cls := "com/example/tierstone/tierstone/PageListsAppendPinLaw", name := "firstIn", desc := "(IIIIIII)I" } : Jvm.MethodName) method_2_code (7 : Nat) (Option.some Jvm.ClassFile.FieldType.int)).before args0 about1 = true := code_word (m := ⟨1, 1⟩) (meth := k1m1) (c := k1c1) (by decide +kernel) rfl rfl rfl (by decide +kernel)
set_option maxRecDepth 65536 in
theorem w_c11 : (Jvm.Cond.code ({ cls := "com/example/tierstone/tierstone/PageLists", name := "remove", desc := "(I)V" } : Jvm.MethodName) prog_64_method_9_code (5 : Nat) (Option.none : Option Jvm.ClassFile.FieldType)).before args0 about1 = true := code_word (m := ⟨2, 6⟩) (meth := k2m6) (c := k2c6) (by decide +kernel) rfl rfl rfl (by decide +kernel)
def codes1 : List Jvm.Cond := [Jvm.Cond.code x code maxLocals ret, Jvm.Cond.code ({ cls := "com/example/tierstone/tierstone/PageLists", name := "<init>", desc := "(II)V" } : Jvm.MethodName) prog_64_method_1_code (3 : Nat) (Option.none : Option Jvm.ClassFile.FieldType), Jvm.Cond.code ({ cls := "java/lang/Object", name := "<init>", desc := "()V" } : Jvm.MethodName) object_method_1_code (1 : Nat) (Option.none : Option Jvm.ClassFile.FieldType), Jvm.Cond.code ({ cls := "java/util/Arrays", name := "fill", desc := "([BB)V" } : Jvm.MethodName) jdk_65_method_109_code (4 : Nat) (Option.none : Option Jvm.ClassFile.FieldType), Jvm.Cond.code ({ cls := "java/util/Arrays", name := "fill", desc := "([II)V" } : Jvm.MethodName) jdk_65_method_103_code (4 : Nat) (Option.none : Option Jvm.ClassFile.FieldType), Jvm.Cond.code ({ cls := "com/example/tierstone/tierstone/PageLists", name := "append", desc := "(II)V" } : Jvm.MethodName) prog_64_method_7_code (3 : Nat) (Option.none : Option Jvm.ClassFile.FieldType), Jvm.Cond.code ({ cls := "com/example/tierstone/tierstone/PageLists", name := "listOf", desc := "(I)I" } : Jvm.MethodName) prog_64_method_2_code (2 : Nat) (Option.some Jvm.ClassFile.FieldType.int), Jvm.Cond.code ({ cls := "com/example/tierstone/tierstone/PageLists", name := "newer", desc := "(I)I" } : Jvm.MethodName) prog_64_method_5_code (2 : Nat) (Option.some Jvm.ClassFile.FieldType.int), Jvm.Cond.code ({ cls := "com/example/tierstone/tierstone/PageLists", name := "length", desc := "(I)I" } : Jvm.MethodName) prog_64_method_3_code (2 : Nat) (Option.some Jvm.ClassFile.FieldType.int), Jvm.Cond.code ({ cls := "com/example/tierstone/tierstone/PageLists", name := "oldest", desc := "(I)I" } : Jvm.MethodName) prog_64_method_4_code (2 : Nat) (Option.some Jvm.ClassFile.FieldType.int), Jvm.Cond.code ({ cls := "com/example/tierstone/tierstone/PageListsAppendPinLaw", name := "firstIn", desc := "(IIIIIII)I" } : Jvm.MethodName) method_2_code (7 : Nat) (Option.some Jvm.ClassFile.FieldType.int), Jvm.Cond.code ({ cls := "com/example/tierstone/tierstone/PageLists", name := "remove", desc := "(I)V" } : Jvm.MethodName) prog_64_method_9_code (5 : Nat) (Option.none : Option Jvm.ClassFile.FieldType)]
set_option maxRecDepth 65536 in
theorem codes_eq : words1.filter isCode = codes1 := rfl
theorem w_codes : ∀ c ∈ words1.filter isCode, c.before args0 about1 = true := by
  rw [codes_eq]
  intro c hc
  simp only [codes1, List.mem_cons, List.not_mem_nil, or_false] at hc
  rcases hc with rfl | rfl | rfl | rfl | rfl | rfl | rfl | rfl | rfl | rfl | rfl | rfl
  · exact w_c0
  · exact w_c1
  · exact w_c2
  · exact w_c3
  · exact w_c4
  · exact w_c5
  · exact w_c6
  · exact w_c7
  · exact w_c8
  · exact w_c9
  · exact w_c10
  · exact w_c11
set_option maxRecDepth 65536 in
theorem w_t1 : (words1.take 24).all (fun c => isCode c || c.before args0 about1) = true := by decide +kernel
set_option maxRecDepth 65536 in
theorem w_t2 : ((words1.drop 24).take 24).all (fun c => isCode c || c.before args0 about1) = true := by decide +kernel
set_option maxRecDepth 65536 in
theorem w_t3 : ((words1.drop 24).drop 24).all (fun c => isCode c || c.before args0 about1) = true := by decide +kernel
theorem w_tables : (allAtoms (Jvm.Cond.code x code maxLocals ret :: tables_1)).before args0 about1 = true := by
  rw [allAtoms_all]
  show words1.all (fun c => c.before args0 about1) = true
  refine all_split ?_ w_codes
  rw [← List.take_append_drop 24 words1, List.all_append, w_t1, ← List.take_append_drop 24 (words1.drop 24), List.all_append, w_t2, w_t3]
  rfl
set_option maxRecDepth 65536 in
theorem w_case : (Jvm.Cond.and given_1 narrow_1).before args0 about1 = true := by decide +kernel
theorem w_applies : (headSpec (Jvm.Cond.code x code maxLocals ret :: tables_1) room_1).applies x e0.platform about1 = true :=
  (Spec.applies_iff w_frames).mpr ⟨w_running, w_runnable, w_alone, w_named, w_hears, w_ripe, w_room, w_tables⟩
theorem atStart : AtStart classFile x code maxLocals ret World_1 tables_1 room_1 Calls_1 rest_1 Pre_1 launch0 p0 e0 about1 theMethod args0 below0 :=
  ⟨lists_1, trivial, launch0.admits_env _ _ _, launch0.least_env, fairChoices_fair.cas, fairChoices_fair.clock, w_frames, w_args, w_heap, w_applies, trivial, trivial, w_case⟩
end start1
theorem witness_1 : WitnessClaimed_1 := ⟨start1.p0, start1.e0, start1.about1, start1.theMethod, start1.args0, start1.below0, start1.atStart⟩
end Jvm.Pilot.@@N@@
