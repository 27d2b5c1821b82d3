import JvmDerived
import JvmDerived.Pilot.@@N@@Statement
import JvmDerived.Pilot.@@N@@Code
set_option linter.unusedVariables false
set_option linter.unusedSimpArgs false
namespace Jvm.Pilot.@@N@@
open Jvm Jvm.ClassFile Sem Op Lib Jvm.Free Jvm.Stand Jvm.LawKit Jvm.RoadKit Bundle Jvm.Pilot.@@N@@.Jvm.D
set_option maxRecDepth 4000
section OwnKit
/-- the goal of a walk: from S the run comes to a return that Q allows, and nothing old is touched -/
def own_Gl (p : Program) (e : Env) (below : List Frame) (s : State) (Q : Option Value → Heap → List Loc → Prop) (kc ks : Nat) (S : State) : Prop :=
  ∃ s₂ o, Steps p.tables e below S s₂ ∧ s₂.status = .running ∧ Ended s₂ below o ∧ ∃ v L, o = .returned v ∧ Q v s₂.heap L ∧ FrameEnd s o s₂ L kc ks
variable {p : Program} {l : Launch} {e : Env} {R : Room} {s : State} {m : MethodId} {args : Array Value} {below : List Frame} {meth : Method} {c : Code} {T : State} {locs : List Loc} {cells slots : Nat} {Z : State} {a0 : Array Value} {h : Heap} {Q : Option Value → Heap → List Loc → Prop} {kc ks : Nat} {pc pc' : Nat} {L L' : Array Slot} {S : List Value}
theorem own_Gl.go {S S' : State} (h : own_Gl p e below s Q kc ks S') (st : ∀ t, Steps p.tables e below S' t → Steps p.tables e below S t) : own_Gl p e below s Q kc ks S := by
  obtain ⟨s₂, o, h1, h2⟩ := h
  exact ⟨s₂, o, st _ h1, h2⟩
/-- what a method leaves that writes nothing and makes nothing -/
def own_Pure (w : Option Value) (h0 : Heap) (v : Option Value) (h : Heap) (L : List Loc) : Prop := v = w ∧ L = [] ∧ h = h0
theorem own_body {l : Launch} {Z : State} {y : MethodName} {bytes : ByteArray} {maxL : Nat} {ret : Option FieldType} {ws : List Jvm.Cond} {rm : Room} {as' : Array Value} {h0 : Heap} {Q : Option Value → Heap → List Loc → Prop} {L0 : Array Slot} {own : String}
    (hpl : plainName y.cls = true) (hyc : y.cls = own) (hef : ∀ m, entryFrame m as' maxL = mkF m 0 L0 [])
    (body : ∀ p e s m below meth c T, p.tables.exec = Jvm.exec → c.code = bytes → c.maxLocals = maxL → s.vm.findClass own = some m.cls → meth.name = y.name → meth.locks = false → meth.sig.returnType = ret → Z.Warmed39 s.vm → Stand p l e rm s m as' below meth c T [] 0 0 → T.heap = h0 →
      own_Gl p e below s Q rm.cells rm.slots (T.setTop (mkF m 0 L0 []))) :
    MetFree l y (head1 (Jvm.Cond.code y bytes maxL ret :: ws) rm) (fun a U => a = as' ∧ Z.Warmed39 U.vm ∧ U.heap = h0) (fun _ _ _ _ _ => True) (fun _ U o U' => ∃ v L, o = .returned v ∧ Q v U'.heap L ∧ FrameEnd U o U' L rm.cells rm.slots) := by
  refine MetFree.of_bodySF (plainFor_of_name hpl) hisR ?_
  intro p e s m args below meth c s₁ Bd hml0 hP hK
  obtain ⟨rfl, hZ, hh⟩ := hP
  have hown : s.vm.findClass y.cls = some m.cls := findClass_of_methodNamed Bd.named
  have hnm := (name_of_methodNamed Bd.named Bd.method).1
  have X0 : Stand p l e rm s m _ below meth c s₁ [] 0 0 := Stand.of_body Bd
  have e0 : s₁.heap = h0 := by rw [← hh, Bd.state]; rfl
  obtain ⟨s₂, o, h1, h2⟩ := body p e s m below meth c s₁ Bd.exec Bd.bytes hml0 (hyc ▸ hown) hnm Bd.notSynchronized Bd.returns hZ X0 e0
  exact ⟨s₂, o, castTop (hef m) h1, h2⟩
theorem own_ret (X : Stand p l e R s m args below meth c T locs cells slots) (hlk : meth.locks = false) {v : Option Value} (hv : meth.sig.returnType = none → v = none) (hQ : Q v T.heap locs) (hc : cells ≤ kc) (hs : slots ≤ ks) {S : State}
    (st : ∀ fs, (∀ (f : JFrame) (acts : List Action), f.method = m → f.locked = none → f.entered = [] → (doReturn e (T.setTop f) acts v).1 = T.setFrames fs) → Steps p.tables e below S (T.setFrames fs)) : own_Gl p e below s Q kc ks S := by
  obtain ⟨fs, hr, hrun, hended, hW, hsame⟩ := X.leave (v := v) hv hlk
  exact ⟨_, _, st fs hr, hrun, hended, v, locs, rfl, hQ, ⟨_, rfl⟩, hW, hsame.mono hc hs⟩
theorem g_retI (X : Stand p l e R s m args below meth c T locs cells slots) (hx : p.tables.exec = Jvm.exec) (hlk : meth.locks = false) {z : Int32} (hret : meth.sig.returnType = some .int) (hd : decode c.code pc = .ok (.ireturn, 1)) (hc : cells ≤ kc) (hs : slots ≤ ks) (hQ : Q (some (.int z)) T.heap locs) :
    own_Gl p e below s Q kc ks (T.setTop (mkF m pc L (.int z :: S))) :=
  own_ret X hlk (fun h => by rw [hret] at h; cases h) hQ hc hs fun fs hr => retOut X hx hret rfl (Or.inl ⟨rfl, Or.inl rfl, z, rfl⟩) hd hr
theorem g_retN (X : Stand p l e R s m args below meth c T locs cells slots) (hx : p.tables.exec = Jvm.exec) (hlk : meth.locks = false) {z z' : Int32} {t : FieldType} (hret : meth.sig.returnType = some t) (ht : t = .boolean ∨ t = .byte ∨ t = .char ∨ t = .short) (hz : nar t z = z') (hd : decode c.code pc = .ok (.ireturn, 1)) (hc : cells ≤ kc) (hs : slots ≤ ks) (hQ : Q (some (.int z')) T.heap locs) :
    own_Gl p e below s Q kc ks (T.setTop (mkF m pc L (.int z :: S))) := by
  subst hz
  exact own_ret X hlk (fun h => by rw [hret] at h; cases h) hQ hc hs fun fs hr => retN X hx hret ht hd hr
theorem g_retL (X : Stand p l e R s m args below meth c T locs cells slots) (hx : p.tables.exec = Jvm.exec) (hlk : meth.locks = false) {z : Int64} (hret : meth.sig.returnType = some .long) (hd : decode c.code pc = .ok (.lreturn, 1)) (hc : cells ≤ kc) (hs : slots ≤ ks) (hQ : Q (some (.long z)) T.heap locs) :
    own_Gl p e below s Q kc ks (T.setTop (mkF m pc L (.long z :: S))) :=
  own_ret X hlk (fun h => by rw [hret] at h; cases h) hQ hc hs fun fs hr => retOut X hx hret rfl (Or.inr (Or.inl ⟨rfl, rfl, z, rfl⟩)) hd hr
theorem g_retV (X : Stand p l e R s m args below meth c T locs cells slots) (hx : p.tables.exec = Jvm.exec) (hlk : meth.locks = false) (hret : meth.sig.returnType = none) (hd : decode c.code pc = .ok (.return_, 1)) (hc : cells ≤ kc) (hs : slots ≤ ks) (hQ : Q none T.heap locs) :
    own_Gl p e below s Q kc ks (T.setTop (mkF m pc L [])) :=
  own_ret X hlk (fun _ => rfl) hQ hc hs fun fs hr => X.returnOut hx hret hd hr
/-- a static call by the callee's contract -/
theorem g_callS (X : Stand p l e R s m args below meth c T locs cells slots) (hx : p.tables.exec = Jvm.exec) (hZ : Z.Warmed39 s.vm) {own : String} {index : Nat} {y : MethodName} {bytes : ByteArray} {maxL : Nat} {ret : Option FieldType} (hown : s.vm.findClass own = some m.cls)
    (w1 : (Jvm.Cond.methodLink own index y).before a0 Z = true) (w2 : (Jvm.Cond.static y).before a0 Z = true) (w3 : (Jvm.Cond.initialized y.cls).before a0 Z = true) (w4 : (Jvm.Cond.code y bytes maxL ret).before a0 Z = true) (hy : y.cls ≠ "java/lang/invoke/MethodHandle" ∧ y.cls ≠ "java/lang/invoke/VarHandle")
    {rm : Room} {as' : Array Value} {Qc : Option Value → Heap → List Loc → Prop}
    (hM : MetFree l y (head1 [Jvm.Cond.code y bytes maxL ret] rm) (fun a U => a = as' ∧ Z.Warmed39 U.vm ∧ U.heap = h) (fun _ _ _ _ _ => True) (fun _ U o U' => ∃ v L, o = .returned v ∧ Qc v U'.heap L ∧ FrameEnd U o U' L rm.cells rm.slots))
    (W : Nat) (hf : rm.frames + 1 ≤ R.frames) (hl : W + (maxL + 11) + rm.locals ≤ R.locals) (eT : T.heap = h) (hsize : L.size = c.maxLocals) (argsL rest : List Value) (hlen : ∀ sig, parseMethodDescriptor y.desc = some sig → argsL.length = sig.parameters.length)
    (hst : S = argsL.reverse ++ rest) (has : argsL.toArray = as') (hW : (rest.map fun v => v.category).sum ≤ W) (hd : decode c.code pc = .ok (.invokestatic index, 3)) (hp : pc + 3 = pc') {cells' slots' : Nat} (hcc : cells + rm.cells = cells') (hss : slots + rm.slots = slots') (hcl : cells' ≤ R.cells) (hsl : slots' ≤ R.slots)
    (k : ∀ (v : Option Value) (T' : State) (L' : List Loc), Stand p l e R s m args below meth c T' (locs ++ L') cells' slots' → Qc v T'.heap L' → own_Gl p e below s Q kc ks (T'.setTop (mkF m pc' L (v.toList ++ rest)))) :
    own_Gl p e below s Q kc ks (T.setTop (mkF m pc L S)) := by
  subst hp hst hcc hss
  obtain ⟨v, _, ⟨T', L', k', n'⟩, -, X', ⟨Lc, hQ, l', y', z'⟩, st⟩ := Jvm.LawKit.callS X hx (y := y) hown (mvT hZ w1) (mvT hZ w2) (mvT hZ w3) (mvT hZ w4) hy (backOf (W := W) hM hZ w4 w3 hf hl) (g := mkF m pc L (argsL.reverse ++ rest)) rfl hsize (argsL := argsL) (rest := rest) hlen rfl (by show 2 * 0 + _ ≤ _; omega) hd (fun _ _ => ⟨has, eT, hcl, hsl⟩)
  dsimp only [Pt.U, Pt.locs, Pt.cells, Pt.slots] at X' l' y' z' st hQ
  subst l' y' z'
  exact (k v T' Lc X' hQ).go st
/-- the same of a method that writes nothing -/
theorem g_callP (X : Stand p l e R s m args below meth c T locs cells slots) (hx : p.tables.exec = Jvm.exec) (hZ : Z.Warmed39 s.vm) {own : String} {index : Nat} {y : MethodName} {bytes : ByteArray} {maxL : Nat} {ret : Option FieldType} (hown : s.vm.findClass own = some m.cls)
    (w1 : (Jvm.Cond.methodLink own index y).before a0 Z = true) (w2 : (Jvm.Cond.static y).before a0 Z = true) (w3 : (Jvm.Cond.initialized y.cls).before a0 Z = true) (w4 : (Jvm.Cond.code y bytes maxL ret).before a0 Z = true) (hy : y.cls ≠ "java/lang/invoke/MethodHandle" ∧ y.cls ≠ "java/lang/invoke/VarHandle")
    {fr lo : Nat} {as' : Array Value} {w : Option Value}
    (hM : MetFree l y (head1 [Jvm.Cond.code y bytes maxL ret] ({ frames := fr, cells := 0, slots := 0, locals := lo } : Room)) (fun a U => a = as' ∧ Z.Warmed39 U.vm ∧ U.heap = h) (fun _ _ _ _ _ => True) (fun _ U o U' => ∃ v L, o = .returned v ∧ own_Pure w h v U'.heap L ∧ FrameEnd U o U' L ({ frames := fr, cells := 0, slots := 0, locals := lo } : Room).cells ({ frames := fr, cells := 0, slots := 0, locals := lo } : Room).slots))
    (W : Nat) (hf : fr + 1 ≤ R.frames) (hl : W + (maxL + 11) + lo ≤ R.locals) (eT : T.heap = h) (hsize : L.size = c.maxLocals) (argsL rest : List Value) (hlen : ∀ sig, parseMethodDescriptor y.desc = some sig → argsL.length = sig.parameters.length)
    (hst : S = argsL.reverse ++ rest) (has : argsL.toArray = as') (hW : (rest.map fun v => v.category).sum ≤ W) (hd : decode c.code pc = .ok (.invokestatic index, 3)) (hp : pc + 3 = pc') (hcl : cells ≤ R.cells) (hsl : slots ≤ R.slots)
    (k : ∀ (T' : State), Stand p l e R s m args below meth c T' locs cells slots → T'.heap = h → own_Gl p e below s Q kc ks (T'.setTop (mkF m pc' L (w.toList ++ rest)))) :
    own_Gl p e below s Q kc ks (T.setTop (mkF m pc L S)) := by
  refine g_callS X hx hZ hown w1 w2 w3 w4 hy hM W hf hl eT hsize argsL rest hlen hst has hW hd hp (cells' := cells) (slots' := slots) rfl rfl hcl hsl ?_
  intro v T' L' X' hQ
  obtain ⟨rfl, rfl, e'⟩ := hQ
  rw [List.append_nil] at X'
  exact k T' X' e'
theorem own_tltL {x y : Int64} (h : x < y) : ifCond.holds .lt (lcmpW x y) = true ∧ ifCond.holds .ge (lcmpW x y) = false ∧ ifCond.holds .gt (lcmpW y x) = true ∧ ifCond.holds .le (lcmpW y x) = false := by
  have h1 := (lw_lt x y).mpr h
  have h2 := (lw_gt y x).mpr h
  rw [if0, if0, if0, if0]
  exact ⟨(tlt h1).1, (tlt h1).2.1, (tlt h2).2.2.1, (tlt h2).2.2.2⟩
theorem own_fltL {x y : Int64} (h : ¬ x < y) : ifCond.holds .lt (lcmpW x y) = false ∧ ifCond.holds .ge (lcmpW x y) = true ∧ ifCond.holds .gt (lcmpW y x) = false ∧ ifCond.holds .le (lcmpW y x) = true := by
  have h1 := fun q => h ((lw_lt x y).mp q)
  have h2 := fun q => h ((lw_gt y x).mp q)
  rw [if0, if0, if0, if0]
  exact ⟨(flt h1).1, (flt h1).2.1, (flt h2).2.2.1, (flt h2).2.2.2⟩
theorem own_teqL {x y : Int64} (h : x = y) : ifCond.holds .eq (lcmpW x y) = true ∧ ifCond.holds .ne (lcmpW x y) = false := by
  have h1 := (lw_eq x y).mpr h
  rw [if0, if0]
  exact ⟨(teq h1).1, (teq h1).2⟩
theorem own_feqL {x y : Int64} (h : ¬ x = y) : ifCond.holds .eq (lcmpW x y) = false ∧ ifCond.holds .ne (lcmpW x y) = true := by
  have h1 := fun q => h ((lw_eq x y).mp q)
  rw [if0, if0]
  exact ⟨(feq h1).1, (feq h1).2⟩
theorem g_iloadN (h : At T m c below) (hx : p.tables.exec = Jvm.exec) {j : Fin 4} {v : Int32} (hd : decode c.code pc = .ok (.iload_n j, 1)) (hp : pc + 1 = pc') (hl : L[j.val]? = some (.val (.int v))) (hr : own_Gl p e below s Q kc ks (T.setTop (mkF m pc' L (.int v :: S)))) : own_Gl p e below s Q kc ks (T.setTop (mkF m pc L S)) := by
  subst hp; exact hr.go fun t k => XS.iloadN h hx rfl hd hl k
theorem g_lloadN (h : At T m c below) (hx : p.tables.exec = Jvm.exec) {j : Fin 4} {v : Int64} (hd : decode c.code pc = .ok (.lload_n j, 1)) (hp : pc + 1 = pc') (hl : L[j.val]? = some (.val (.long v))) (hr : own_Gl p e below s Q kc ks (T.setTop (mkF m pc' L (.long v :: S)))) : own_Gl p e below s Q kc ks (T.setTop (mkF m pc L S)) := by
  subst hp; exact hr.go fun t k => XS.lloadN h hx rfl hd hl k
theorem g_aloadN (h : At T m c below) (hx : p.tables.exec = Jvm.exec) {j : Fin 4} {v : Value} (hd : decode c.code pc = .ok (.aload_n j, 1)) (hp : pc + 1 = pc') (hl : L[j.val]? = some (.val v)) (hv : v.isRef = true) (hr : own_Gl p e below s Q kc ks (T.setTop (mkF m pc' L (v :: S)))) : own_Gl p e below s Q kc ks (T.setTop (mkF m pc L S)) := by
  subst hp; exact hr.go fun t k => XS.aloadN h hx rfl hd hl hv k
theorem g_istoreN (h : At T m c below) (hx : p.tables.exec = Jvm.exec) {j : Fin 4} {v : Int32} (hd : decode c.code pc = .ok (.istore_n j, 1)) (hp : pc + 1 = pc') (hl : storeLocals L j.val (.int v) = some L') (hr : own_Gl p e below s Q kc ks (T.setTop (mkF m pc' L' S))) : own_Gl p e below s Q kc ks (T.setTop (mkF m pc L (.int v :: S))) := by
  subst hp; exact hr.go fun t k => XS.istoreN h hx rfl hd rfl hl k
theorem g_lstoreN (h : At T m c below) (hx : p.tables.exec = Jvm.exec) {j : Fin 4} {v : Int64} (hd : decode c.code pc = .ok (.lstore_n j, 1)) (hp : pc + 1 = pc') (hl : storeLocals L j.val (.long v) = some L') (hr : own_Gl p e below s Q kc ks (T.setTop (mkF m pc' L' S))) : own_Gl p e below s Q kc ks (T.setTop (mkF m pc L (.long v :: S))) := by
  subst hp; exact hr.go fun t k => XS.lstoreN h hx rfl hd rfl hl k
theorem g_astoreN (h : At T m c below) (hx : p.tables.exec = Jvm.exec) {j : Fin 4} {v : Value} (hd : decode c.code pc = .ok (.astore_n j, 1)) (hp : pc + 1 = pc') (hv : v.isRef = true) (hl : storeLocals L j.val v = some L') (hr : own_Gl p e below s Q kc ks (T.setTop (mkF m pc' L' S))) : own_Gl p e below s Q kc ks (T.setTop (mkF m pc L (v :: S))) := by
  subst hp; exact hr.go fun t k => XS.astoreN h hx rfl hd rfl hv hl k
theorem g_iload (h : At T m c below) (hx : p.tables.exec = Jvm.exec) {j : Nat} {v : Int32} (hd : decode c.code pc = .ok (.iload j, 2)) (hp : pc + 2 = pc') (hl : L[j]? = some (.val (.int v))) (hr : own_Gl p e below s Q kc ks (T.setTop (mkF m pc' L (.int v :: S)))) : own_Gl p e below s Q kc ks (T.setTop (mkF m pc L S)) := by
  subst hp; exact hr.go fun t k => XS.iload h hx rfl hd hl k
theorem g_lload (h : At T m c below) (hx : p.tables.exec = Jvm.exec) {j : Nat} {v : Int64} (hd : decode c.code pc = .ok (.lload j, 2)) (hp : pc + 2 = pc') (hl : L[j]? = some (.val (.long v))) (hr : own_Gl p e below s Q kc ks (T.setTop (mkF m pc' L (.long v :: S)))) : own_Gl p e below s Q kc ks (T.setTop (mkF m pc L S)) := by
  subst hp; exact hr.go fun t k => XS.lload h hx rfl hd hl k
theorem g_aload (h : At T m c below) (hx : p.tables.exec = Jvm.exec) {j : Nat} {v : Value} (hd : decode c.code pc = .ok (.aload j, 2)) (hp : pc + 2 = pc') (hl : L[j]? = some (.val v)) (hv : v.isRef = true) (hr : own_Gl p e below s Q kc ks (T.setTop (mkF m pc' L (v :: S)))) : own_Gl p e below s Q kc ks (T.setTop (mkF m pc L S)) := by
  subst hp; exact hr.go fun t k => XS.aload h hx rfl hd hl hv k
theorem g_istore (h : At T m c below) (hx : p.tables.exec = Jvm.exec) {j : Nat} {v : Int32} (hd : decode c.code pc = .ok (.istore j, 2)) (hp : pc + 2 = pc') (hl : storeLocals L j (.int v) = some L') (hr : own_Gl p e below s Q kc ks (T.setTop (mkF m pc' L' S))) : own_Gl p e below s Q kc ks (T.setTop (mkF m pc L (.int v :: S))) := by
  subst hp; exact hr.go fun t k => XS.istore h hx rfl hd rfl hl k
theorem g_lstore (h : At T m c below) (hx : p.tables.exec = Jvm.exec) {j : Nat} {v : Int64} (hd : decode c.code pc = .ok (.lstore j, 2)) (hp : pc + 2 = pc') (hl : storeLocals L j (.long v) = some L') (hr : own_Gl p e below s Q kc ks (T.setTop (mkF m pc' L' S))) : own_Gl p e below s Q kc ks (T.setTop (mkF m pc L (.long v :: S))) := by
  subst hp; exact hr.go fun t k => XS.lstore h hx rfl hd rfl hl k
theorem g_astore (h : At T m c below) (hx : p.tables.exec = Jvm.exec) {j : Nat} {v : Value} (hd : decode c.code pc = .ok (.astore j, 2)) (hp : pc + 2 = pc') (hv : v.isRef = true) (hl : storeLocals L j v = some L') (hr : own_Gl p e below s Q kc ks (T.setTop (mkF m pc' L' S))) : own_Gl p e below s Q kc ks (T.setTop (mkF m pc L (v :: S))) := by
  subst hp; exact hr.go fun t k => XS.astore h hx rfl hd rfl hv hl k
theorem g_iconst (h : At T m c below) (hx : p.tables.exec = Jvm.exec) {i : Int} {z : Int32} (hd : decode c.code pc = .ok (.iconst i, 1)) (hp : pc + 1 = pc') (hz : Int32.ofInt i = z) (hr : own_Gl p e below s Q kc ks (T.setTop (mkF m pc' L (.int z :: S)))) : own_Gl p e below s Q kc ks (T.setTop (mkF m pc L S)) := by
  subst hp hz; exact hr.go fun t k => XS.iconst h hx rfl hd k
theorem g_bipush (h : At T m c below) (hx : p.tables.exec = Jvm.exec) {i : Int} {z : Int32} (hd : decode c.code pc = .ok (.bipush i, 2)) (hp : pc + 2 = pc') (hz : (Int8.ofInt i).toInt32 = z) (hr : own_Gl p e below s Q kc ks (T.setTop (mkF m pc' L (.int z :: S)))) : own_Gl p e below s Q kc ks (T.setTop (mkF m pc L S)) := by
  subst hp hz; exact hr.go fun t k => XS.bipush h hx rfl hd k
theorem g_sipush (h : At T m c below) (hx : p.tables.exec = Jvm.exec) {i : Int} {z : Int32} (hd : decode c.code pc = .ok (.sipush i, 3)) (hp : pc + 3 = pc') (hz : (Int16.ofInt i).toInt32 = z) (hr : own_Gl p e below s Q kc ks (T.setTop (mkF m pc' L (.int z :: S)))) : own_Gl p e below s Q kc ks (T.setTop (mkF m pc L S)) := by
  subst hp hz; exact hr.go fun t k => XS.sipush h hx rfl hd k
theorem g_lconst (h : At T m c below) (hx : p.tables.exec = Jvm.exec) {i : Fin 2} {z : Int64} (hd : decode c.code pc = .ok (.lconst i, 1)) (hp : pc + 1 = pc') (hz : Int64.ofNat i = z) (hr : own_Gl p e below s Q kc ks (T.setTop (mkF m pc' L (.long z :: S)))) : own_Gl p e below s Q kc ks (T.setTop (mkF m pc L S)) := by
  subst hp hz; exact hr.go fun t k => XS.lconst h hx rfl hd k
theorem g_aconstNull (h : At T m c below) (hx : p.tables.exec = Jvm.exec)  (hd : decode c.code pc = .ok (.aconst_null, 1)) (hp : pc + 1 = pc')  (hr : own_Gl p e below s Q kc ks (T.setTop (mkF m pc' L (.null :: S)))) : own_Gl p e below s Q kc ks (T.setTop (mkF m pc L S)) := by
  subst hp; exact hr.go fun t k => XS.aconstNull h hx rfl hd k
theorem g_iadd (h : At T m c below) (hx : p.tables.exec = Jvm.exec) {u v : Int32} (hd : decode c.code pc = .ok (.iadd, 1)) (hp : pc + 1 = pc')  (hr : own_Gl p e below s Q kc ks (T.setTop (mkF m pc' L (.int (u + v) :: S)))) : own_Gl p e below s Q kc ks (T.setTop (mkF m pc L (.int v :: .int u :: S))) := by
  subst hp; exact hr.go fun t k => XS.iadd h hx rfl hd rfl k
theorem g_ladd (h : At T m c below) (hx : p.tables.exec = Jvm.exec) {u v : Int64} (hd : decode c.code pc = .ok (.ladd, 1)) (hp : pc + 1 = pc')  (hr : own_Gl p e below s Q kc ks (T.setTop (mkF m pc' L (.long (u + v) :: S)))) : own_Gl p e below s Q kc ks (T.setTop (mkF m pc L (.long v :: .long u :: S))) := by
  subst hp; exact hr.go fun t k => XS.ladd h hx rfl hd rfl k
theorem g_isub (h : At T m c below) (hx : p.tables.exec = Jvm.exec) {u v : Int32} (hd : decode c.code pc = .ok (.isub, 1)) (hp : pc + 1 = pc')  (hr : own_Gl p e below s Q kc ks (T.setTop (mkF m pc' L (.int (u - v) :: S)))) : own_Gl p e below s Q kc ks (T.setTop (mkF m pc L (.int v :: .int u :: S))) := by
  subst hp; exact hr.go fun t k => XS.isub h hx rfl hd rfl k
theorem g_lsub (h : At T m c below) (hx : p.tables.exec = Jvm.exec) {u v : Int64} (hd : decode c.code pc = .ok (.lsub, 1)) (hp : pc + 1 = pc')  (hr : own_Gl p e below s Q kc ks (T.setTop (mkF m pc' L (.long (u - v) :: S)))) : own_Gl p e below s Q kc ks (T.setTop (mkF m pc L (.long v :: .long u :: S))) := by
  subst hp; exact hr.go fun t k => XS.lsub h hx rfl hd rfl k
theorem g_imul (h : At T m c below) (hx : p.tables.exec = Jvm.exec) {u v : Int32} (hd : decode c.code pc = .ok (.imul, 1)) (hp : pc + 1 = pc')  (hr : own_Gl p e below s Q kc ks (T.setTop (mkF m pc' L (.int (u * v) :: S)))) : own_Gl p e below s Q kc ks (T.setTop (mkF m pc L (.int v :: .int u :: S))) := by
  subst hp; exact hr.go fun t k => XS.imul h hx rfl hd rfl k
theorem g_lmul (h : At T m c below) (hx : p.tables.exec = Jvm.exec) {u v : Int64} (hd : decode c.code pc = .ok (.lmul, 1)) (hp : pc + 1 = pc')  (hr : own_Gl p e below s Q kc ks (T.setTop (mkF m pc' L (.long (u * v) :: S)))) : own_Gl p e below s Q kc ks (T.setTop (mkF m pc L (.long v :: .long u :: S))) := by
  subst hp; exact hr.go fun t k => XS.lmul h hx rfl hd rfl k
theorem g_iand (h : At T m c below) (hx : p.tables.exec = Jvm.exec) {u v : Int32} (hd : decode c.code pc = .ok (.iand, 1)) (hp : pc + 1 = pc')  (hr : own_Gl p e below s Q kc ks (T.setTop (mkF m pc' L (.int (u &&& v) :: S)))) : own_Gl p e below s Q kc ks (T.setTop (mkF m pc L (.int v :: .int u :: S))) := by
  subst hp; exact hr.go fun t k => XS.iand h hx rfl hd rfl k
theorem g_land (h : At T m c below) (hx : p.tables.exec = Jvm.exec) {u v : Int64} (hd : decode c.code pc = .ok (.land, 1)) (hp : pc + 1 = pc')  (hr : own_Gl p e below s Q kc ks (T.setTop (mkF m pc' L (.long (u &&& v) :: S)))) : own_Gl p e below s Q kc ks (T.setTop (mkF m pc L (.long v :: .long u :: S))) := by
  subst hp; exact hr.go fun t k => XS.land h hx rfl hd rfl k
theorem g_ior (h : At T m c below) (hx : p.tables.exec = Jvm.exec) {u v : Int32} (hd : decode c.code pc = .ok (.ior, 1)) (hp : pc + 1 = pc')  (hr : own_Gl p e below s Q kc ks (T.setTop (mkF m pc' L (.int (u ||| v) :: S)))) : own_Gl p e below s Q kc ks (T.setTop (mkF m pc L (.int v :: .int u :: S))) := by
  subst hp; exact hr.go fun t k => XS.ior h hx rfl hd rfl k
theorem g_lor (h : At T m c below) (hx : p.tables.exec = Jvm.exec) {u v : Int64} (hd : decode c.code pc = .ok (.lor, 1)) (hp : pc + 1 = pc')  (hr : own_Gl p e below s Q kc ks (T.setTop (mkF m pc' L (.long (u ||| v) :: S)))) : own_Gl p e below s Q kc ks (T.setTop (mkF m pc L (.long v :: .long u :: S))) := by
  subst hp; exact hr.go fun t k => XS.lor h hx rfl hd rfl k
theorem g_ixor (h : At T m c below) (hx : p.tables.exec = Jvm.exec) {u v : Int32} (hd : decode c.code pc = .ok (.ixor, 1)) (hp : pc + 1 = pc')  (hr : own_Gl p e below s Q kc ks (T.setTop (mkF m pc' L (.int (u ^^^ v) :: S)))) : own_Gl p e below s Q kc ks (T.setTop (mkF m pc L (.int v :: .int u :: S))) := by
  subst hp; exact hr.go fun t k => XS.ixor h hx rfl hd rfl k
theorem g_lxor (h : At T m c below) (hx : p.tables.exec = Jvm.exec) {u v : Int64} (hd : decode c.code pc = .ok (.lxor, 1)) (hp : pc + 1 = pc')  (hr : own_Gl p e below s Q kc ks (T.setTop (mkF m pc' L (.long (u ^^^ v) :: S)))) : own_Gl p e below s Q kc ks (T.setTop (mkF m pc L (.long v :: .long u :: S))) := by
  subst hp; exact hr.go fun t k => XS.lxor h hx rfl hd rfl k
theorem g_ishl (h : At T m c below) (hx : p.tables.exec = Jvm.exec) {u v : Int32} (hd : decode c.code pc = .ok (.ishl, 1)) (hp : pc + 1 = pc')  (hr : own_Gl p e below s Q kc ks (T.setTop (mkF m pc' L (.int (u <<< (v &&& 31)) :: S)))) : own_Gl p e below s Q kc ks (T.setTop (mkF m pc L (.int v :: .int u :: S))) := by
  subst hp; exact hr.go fun t k => XS.ishl h hx rfl hd rfl k
theorem g_ishr (h : At T m c below) (hx : p.tables.exec = Jvm.exec) {u v : Int32} (hd : decode c.code pc = .ok (.ishr, 1)) (hp : pc + 1 = pc')  (hr : own_Gl p e below s Q kc ks (T.setTop (mkF m pc' L (.int (u >>> (v &&& 31)) :: S)))) : own_Gl p e below s Q kc ks (T.setTop (mkF m pc L (.int v :: .int u :: S))) := by
  subst hp; exact hr.go fun t k => XS.ishr h hx rfl hd rfl k
theorem g_iushr (h : At T m c below) (hx : p.tables.exec = Jvm.exec) {u v : Int32} (hd : decode c.code pc = .ok (.iushr, 1)) (hp : pc + 1 = pc')  (hr : own_Gl p e below s Q kc ks (T.setTop (mkF m pc' L (.int ((u.toUInt32 >>> (v &&& 31).toUInt32).toInt32) :: S)))) : own_Gl p e below s Q kc ks (T.setTop (mkF m pc L (.int v :: .int u :: S))) := by
  subst hp; exact hr.go fun t k => XS.iushr h hx rfl hd rfl k
theorem g_lshl (h : At T m c below) (hx : p.tables.exec = Jvm.exec) {u : Int64} {v : Int32} (hd : decode c.code pc = .ok (.lshl, 1)) (hp : pc + 1 = pc')  (hr : own_Gl p e below s Q kc ks (T.setTop (mkF m pc' L (.long (u <<< (v &&& 0x3f).toInt64) :: S)))) : own_Gl p e below s Q kc ks (T.setTop (mkF m pc L (.int v :: .long u :: S))) := by
  subst hp; exact hr.go fun t k => XS.lshl h hx rfl hd rfl k
theorem g_lshr (h : At T m c below) (hx : p.tables.exec = Jvm.exec) {u : Int64} {v : Int32} (hd : decode c.code pc = .ok (.lshr, 1)) (hp : pc + 1 = pc')  (hr : own_Gl p e below s Q kc ks (T.setTop (mkF m pc' L (.long (u >>> (v &&& 0x3f).toInt64) :: S)))) : own_Gl p e below s Q kc ks (T.setTop (mkF m pc L (.int v :: .long u :: S))) := by
  subst hp; exact hr.go fun t k => XS.lshr h hx rfl hd rfl k
theorem g_lushr (h : At T m c below) (hx : p.tables.exec = Jvm.exec) {u : Int64} {v : Int32} (hd : decode c.code pc = .ok (.lushr, 1)) (hp : pc + 1 = pc')  (hr : own_Gl p e below s Q kc ks (T.setTop (mkF m pc' L (.long ((u.toUInt64 >>> (v &&& 0x3f).toInt64.toUInt64).toInt64) :: S)))) : own_Gl p e below s Q kc ks (T.setTop (mkF m pc L (.int v :: .long u :: S))) := by
  subst hp; exact hr.go fun t k => XS.lushr h hx rfl hd rfl k
theorem g_idiv (h : At T m c below) (hx : p.tables.exec = Jvm.exec) {u v : Int32} (hd : decode c.code pc = .ok (.idiv, 1)) (hp : pc + 1 = pc') (hy : v ≠ 0) (hr : own_Gl p e below s Q kc ks (T.setTop (mkF m pc' L (.int (u / v) :: S)))) : own_Gl p e below s Q kc ks (T.setTop (mkF m pc L (.int v :: .int u :: S))) := by
  subst hp; exact hr.go fun t k => XS.idiv h hx rfl hd rfl hy k
theorem g_ldiv (h : At T m c below) (hx : p.tables.exec = Jvm.exec) {u v : Int64} (hd : decode c.code pc = .ok (.ldiv, 1)) (hp : pc + 1 = pc') (hy : v ≠ 0) (hr : own_Gl p e below s Q kc ks (T.setTop (mkF m pc' L (.long (u / v) :: S)))) : own_Gl p e below s Q kc ks (T.setTop (mkF m pc L (.long v :: .long u :: S))) := by
  subst hp; exact hr.go fun t k => XS.ldiv h hx rfl hd rfl hy k
theorem g_irem (X : Stand p l e R s m args below meth c T locs cells slots) (hx : p.tables.exec = Jvm.exec) {u v : Int32} (hd : decode c.code pc = .ok (.irem, 1)) (hp : pc + 1 = pc') (hy : v ≠ 0) (hr : own_Gl p e below s Q kc ks (T.setTop (mkF m pc' L (.int (u % v) :: S)))) : own_Gl p e below s Q kc ks (T.setTop (mkF m pc L (.int v :: .int u :: S))) := by
  subst hp; exact hr.go fun t k => iremM X hx rfl hd rfl hy k
theorem g_lrem (h : At T m c below) (hx : p.tables.exec = Jvm.exec) {u v : Int64} (hd : decode c.code pc = .ok (.lrem, 1)) (hp : pc + 1 = pc') (hy : v ≠ 0) (hr : own_Gl p e below s Q kc ks (T.setTop (mkF m pc' L (.long (u % v) :: S)))) : own_Gl p e below s Q kc ks (T.setTop (mkF m pc L (.long v :: .long u :: S))) := by
  subst hp; exact hr.go fun t k => XS.lrem h hx rfl hd rfl hy (by rw [lrem_mod]; exact k)
theorem g_ineg (h : At T m c below) (hx : p.tables.exec = Jvm.exec) {u : Int32} (hd : decode c.code pc = .ok (.ineg, 1)) (hp : pc + 1 = pc')  (hr : own_Gl p e below s Q kc ks (T.setTop (mkF m pc' L (.int (-u) :: S)))) : own_Gl p e below s Q kc ks (T.setTop (mkF m pc L (.int u :: S))) := by
  subst hp; exact hr.go fun t k => XS.ineg h hx rfl hd rfl k
theorem g_lneg (h : At T m c below) (hx : p.tables.exec = Jvm.exec) {u : Int64} (hd : decode c.code pc = .ok (.lneg, 1)) (hp : pc + 1 = pc')  (hr : own_Gl p e below s Q kc ks (T.setTop (mkF m pc' L (.long (-u) :: S)))) : own_Gl p e below s Q kc ks (T.setTop (mkF m pc L (.long u :: S))) := by
  subst hp; exact hr.go fun t k => XS.lneg h hx rfl hd rfl k
theorem g_i2l (h : At T m c below) (hx : p.tables.exec = Jvm.exec) {u : Int32} (hd : decode c.code pc = .ok (.i2l, 1)) (hp : pc + 1 = pc')  (hr : own_Gl p e below s Q kc ks (T.setTop (mkF m pc' L (.long u.toInt64 :: S)))) : own_Gl p e below s Q kc ks (T.setTop (mkF m pc L (.int u :: S))) := by
  subst hp; exact hr.go fun t k => XS.i2l h hx rfl hd rfl k
theorem g_l2i (h : At T m c below) (hx : p.tables.exec = Jvm.exec) {u : Int64} (hd : decode c.code pc = .ok (.l2i, 1)) (hp : pc + 1 = pc')  (hr : own_Gl p e below s Q kc ks (T.setTop (mkF m pc' L (.int u.toInt32 :: S)))) : own_Gl p e below s Q kc ks (T.setTop (mkF m pc L (.long u :: S))) := by
  subst hp; exact hr.go fun t k => XS.l2i h hx rfl hd rfl k
theorem g_i2b (h : At T m c below) (hx : p.tables.exec = Jvm.exec) {u : Int32} (hd : decode c.code pc = .ok (.i2b, 1)) (hp : pc + 1 = pc')  (hr : own_Gl p e below s Q kc ks (T.setTop (mkF m pc' L (.int u.toInt8.toInt32 :: S)))) : own_Gl p e below s Q kc ks (T.setTop (mkF m pc L (.int u :: S))) := by
  subst hp; exact hr.go fun t k => XS.i2b h hx rfl hd rfl k
theorem g_i2s (h : At T m c below) (hx : p.tables.exec = Jvm.exec) {u : Int32} (hd : decode c.code pc = .ok (.i2s, 1)) (hp : pc + 1 = pc')  (hr : own_Gl p e below s Q kc ks (T.setTop (mkF m pc' L (.int u.toInt16.toInt32 :: S)))) : own_Gl p e below s Q kc ks (T.setTop (mkF m pc L (.int u :: S))) := by
  subst hp; exact hr.go fun t k => XS.i2s h hx rfl hd rfl k
theorem g_i2c (h : At T m c below) (hx : p.tables.exec = Jvm.exec) {u : Int32} (hd : decode c.code pc = .ok (.i2c, 1)) (hp : pc + 1 = pc')  (hr : own_Gl p e below s Q kc ks (T.setTop (mkF m pc' L (.int u.toUInt32.toUInt16.toUInt32.toInt32 :: S)))) : own_Gl p e below s Q kc ks (T.setTop (mkF m pc L (.int u :: S))) := by
  subst hp; exact hr.go fun t k => XS.i2c h hx rfl hd rfl k
theorem g_lcmp (h : At T m c below) (hx : p.tables.exec = Jvm.exec) {u v : Int64} (hd : decode c.code pc = .ok (.lcmp, 1)) (hp : pc + 1 = pc')  (hr : own_Gl p e below s Q kc ks (T.setTop (mkF m pc' L (.int (lcmpW u v) :: S)))) : own_Gl p e below s Q kc ks (T.setTop (mkF m pc L (.long v :: .long u :: S))) := by
  subst hp; exact hr.go fun t k => XS.lcmp h hx rfl hd rfl k
theorem g_dup (h : At T m c below) (hx : p.tables.exec = Jvm.exec) {v : Value} (hd : decode c.code pc = .ok (.dup, 1)) (hp : pc + 1 = pc') (hc : v.category = 1) (hr : own_Gl p e below s Q kc ks (T.setTop (mkF m pc' L (v :: v :: S)))) : own_Gl p e below s Q kc ks (T.setTop (mkF m pc L (v :: S))) := by
  subst hp; exact hr.go fun t k => XS.dup h hx rfl hd rfl hc k
theorem g_pop (h : At T m c below) (hx : p.tables.exec = Jvm.exec) {v : Value} (hd : decode c.code pc = .ok (.pop, 1)) (hp : pc + 1 = pc') (hc : v.category = 1) (hr : own_Gl p e below s Q kc ks (T.setTop (mkF m pc' L S))) : own_Gl p e below s Q kc ks (T.setTop (mkF m pc L (v :: S))) := by
  subst hp; exact hr.go fun t k => XS.pop h hx rfl hd rfl hc k
theorem g_dupX1 (h : At T m c below) (hx : p.tables.exec = Jvm.exec) {v w : Value} (hd : decode c.code pc = .ok (.dup_x1, 1)) (hp : pc + 1 = pc') (hc : v.category = 1) (hc' : w.category = 1) (hr : own_Gl p e below s Q kc ks (T.setTop (mkF m pc' L (v :: w :: v :: S)))) : own_Gl p e below s Q kc ks (T.setTop (mkF m pc L (v :: w :: S))) := by
  subst hp; exact hr.go fun t k => XS.dupX1 h hx rfl hd rfl hc hc' k
theorem g_dup2 (h : At T m c below) (hx : p.tables.exec = Jvm.exec) {v w : Value} (hd : decode c.code pc = .ok (.dup2, 1)) (hp : pc + 1 = pc') (hc : v.category = 1) (hc' : w.category = 1) (hr : own_Gl p e below s Q kc ks (T.setTop (mkF m pc' L (v :: w :: v :: w :: S)))) : own_Gl p e below s Q kc ks (T.setTop (mkF m pc L (v :: w :: S))) := by
  subst hp; exact hr.go fun t k => XT.dup2 h hx rfl hd rfl hc hc' k
theorem g_dup2L (h : At T m c below) (hx : p.tables.exec = Jvm.exec) {v : Int64} (hd : decode c.code pc = .ok (.dup2, 1)) (hp : pc + 1 = pc')  (hr : own_Gl p e below s Q kc ks (T.setTop (mkF m pc' L (.long v :: .long v :: S)))) : own_Gl p e below s Q kc ks (T.setTop (mkF m pc L (.long v :: S))) := by
  subst hp; exact hr.go fun t k => XT.dup2L h hx rfl hd rfl k
theorem g_pop2L (h : At T m c below) (hx : p.tables.exec = Jvm.exec) {v : Int64} (hd : decode c.code pc = .ok (.pop2, 1)) (hp : pc + 1 = pc') (hr : own_Gl p e below s Q kc ks (T.setTop (mkF m pc' L S))) : own_Gl p e below s Q kc ks (T.setTop (mkF m pc L (.long v :: S))) := by
  subst hp
  refine hr.go fun t k => ?_
  jvm_step h [h.top, hx, hd, Value.category]
  exact k
theorem g_iinc (h : At T m c below) (hx : p.tables.exec = Jvm.exec) {j : Nat} {i : Int} {v z : Int32} (hd : decode c.code pc = .ok (.iinc j i, 3)) (hp : pc + 3 = pc') (hz : Int32.ofInt i = z) (hl : L[j]? = some (.val (.int v))) (hl' : storeLocals L j (.int (v + z)) = some L') (hr : own_Gl p e below s Q kc ks (T.setTop (mkF m pc' L' S))) : own_Gl p e below s Q kc ks (T.setTop (mkF m pc L S)) := by
  subst hp; exact hr.go fun t k => XS.iinc h hx rfl hd hl (by rw [hz]; exact hl') k
theorem g_goto (h : At T m c below) (hx : p.tables.exec = Jvm.exec) {i : Int} (hd : decode c.code pc = .ok (.goto i, 3)) (ho : 0 ≤ (pc : Int) + i) (hp : ((pc : Int) + i).toNat = pc') (hr : own_Gl p e below s Q kc ks (T.setTop (mkF m pc' L S))) : own_Gl p e below s Q kc ks (T.setTop (mkF m pc L S)) := hr.go fun t k => XS.goto h hx rfl (pc0 := pc) rfl hd ho hp k
theorem g_ifY (h : At T m c below) (hx : p.tables.exec = Jvm.exec) {cd : ClassFile.Cond} {i : Int} {x : Int32} (hd : decode c.code pc = .ok (.ifCond cd i, 3)) (ho : 0 ≤ (pc : Int) + i) (hp : ((pc : Int) + i).toNat = pc') (hc : ifCond.holds cd x = true) (hr : own_Gl p e below s Q kc ks (T.setTop (mkF m pc' L S))) : own_Gl p e below s Q kc ks (T.setTop (mkF m pc L (.int x :: S))) := hr.go fun t k => XS.ifYes h hx rfl (pc0 := pc) rfl hd rfl hc ho hp k
theorem g_ifN (h : At T m c below) (hx : p.tables.exec = Jvm.exec) {cd : ClassFile.Cond} {i : Int} {x : Int32} (hd : decode c.code pc = .ok (.ifCond cd i, 3)) (hp : pc + 3 = pc') (hc : ifCond.holds cd x = false) (hr : own_Gl p e below s Q kc ks (T.setTop (mkF m pc' L S))) : own_Gl p e below s Q kc ks (T.setTop (mkF m pc L (.int x :: S))) := by
  subst hp; exact hr.go fun t k => XS.ifNo h hx rfl hd rfl hc k
theorem g_icY (h : At T m c below) (hx : p.tables.exec = Jvm.exec) {cd : ClassFile.Cond} {i : Int} {x y : Int32} (hd : decode c.code pc = .ok (.if_icmp cd i, 3)) (ho : 0 ≤ (pc : Int) + i) (hp : ((pc : Int) + i).toNat = pc') (hc : if_icmp.holds cd x y = true) (hr : own_Gl p e below s Q kc ks (T.setTop (mkF m pc' L S))) : own_Gl p e below s Q kc ks (T.setTop (mkF m pc L (.int y :: .int x :: S))) := hr.go fun t k => XS.icmpYes h hx rfl (pc0 := pc) rfl hd rfl hc ho hp k
theorem g_icN (h : At T m c below) (hx : p.tables.exec = Jvm.exec) {cd : ClassFile.Cond} {i : Int} {x y : Int32} (hd : decode c.code pc = .ok (.if_icmp cd i, 3)) (hp : pc + 3 = pc') (hc : if_icmp.holds cd x y = false) (hr : own_Gl p e below s Q kc ks (T.setTop (mkF m pc' L S))) : own_Gl p e below s Q kc ks (T.setTop (mkF m pc L (.int y :: .int x :: S))) := by
  subst hp; exact hr.go fun t k => XS.icmpNo h hx rfl hd rfl hc k
theorem g_ifnullY (h : At T m c below) (hx : p.tables.exec = Jvm.exec)  {i : Int} (hd : decode c.code pc = .ok (.ifnull i, 3)) (ho : 0 ≤ (pc : Int) + i) (hp : ((pc : Int) + i).toNat = pc') (hr : own_Gl p e below s Q kc ks (T.setTop (mkF m pc' L S))) : own_Gl p e below s Q kc ks (T.setTop (mkF m pc L (.null :: S))) := hr.go fun t k => XS.ifnullYes h hx rfl (pc0 := pc) rfl hd rfl ho hp k
theorem g_ifnullN (h : At T m c below) (hx : p.tables.exec = Jvm.exec) {b : Addr} {i : Int} (hd : decode c.code pc = .ok (.ifnull i, 3)) (hp : pc + 3 = pc') (hr : own_Gl p e below s Q kc ks (T.setTop (mkF m pc' L S))) : own_Gl p e below s Q kc ks (T.setTop (mkF m pc L (.ref b :: S))) := by
  subst hp; exact hr.go fun t k => XS.ifnullNo h hx rfl hd rfl k
theorem g_ifnonnullY (h : At T m c below) (hx : p.tables.exec = Jvm.exec) {b : Addr} {i : Int} (hd : decode c.code pc = .ok (.ifnonnull i, 3)) (ho : 0 ≤ (pc : Int) + i) (hp : ((pc : Int) + i).toNat = pc') (hr : own_Gl p e below s Q kc ks (T.setTop (mkF m pc' L S))) : own_Gl p e below s Q kc ks (T.setTop (mkF m pc L (.ref b :: S))) := hr.go fun t k => XS.ifnonnullYes h hx rfl (pc0 := pc) rfl hd rfl ho hp k
theorem g_ifnonnullN (h : At T m c below) (hx : p.tables.exec = Jvm.exec)  {i : Int} (hd : decode c.code pc = .ok (.ifnonnull i, 3)) (hp : pc + 3 = pc') (hr : own_Gl p e below s Q kc ks (T.setTop (mkF m pc' L S))) : own_Gl p e below s Q kc ks (T.setTop (mkF m pc L (.null :: S))) := by
  subst hp; exact hr.go fun t k => XS.ifnonnullNo h hx rfl hd rfl k
theorem g_ldc (X : Stand p l e R s m args below meth c T locs cells slots) (hx : p.tables.exec = Jvm.exec) (hZ : Z.Warmed39 s.vm) {own : String} {index : Nat} {v : Int32} (hown : s.vm.findClass own = some m.cls) (w : (Jvm.Cond.constant own index v).before a0 Z = true) (hd : decode c.code pc = .ok (.ldc index, 2)) (hp : pc + 2 = pc') (hr : own_Gl p e below s Q kc ks (T.setTop (mkF m pc' L (.int v :: S)))) : own_Gl p e below s Q kc ks (T.setTop (mkF m pc L S)) := by
  subst hp; exact hr.go (X.ldcInt hx hown (mvT hZ w) (g := mkF m pc L S) rfl hd)
theorem g_ldcw (X : Stand p l e R s m args below meth c T locs cells slots) (hx : p.tables.exec = Jvm.exec) (hZ : Z.Warmed39 s.vm) {own : String} {index : Nat} {v : Int32} (hown : s.vm.findClass own = some m.cls) (w : (Jvm.Cond.constant own index v).before a0 Z = true) (hd : decode c.code pc = .ok (.ldc_w index, 3)) (hp : pc + 3 = pc') (hr : own_Gl p e below s Q kc ks (T.setTop (mkF m pc' L (.int v :: S)))) : own_Gl p e below s Q kc ks (T.setTop (mkF m pc L S)) := by
  subst hp; exact hr.go (X.ldcwInt hx hown (mvT hZ w) (g := mkF m pc L S) rfl hd)
theorem g_ldc2 (X : Stand p l e R s m args below meth c T locs cells slots) (hx : p.tables.exec = Jvm.exec) (hZ : Z.Warmed39 s.vm) {own : String} {index : Nat} {v : Int64} (hown : s.vm.findClass own = some m.cls) (w : (Jvm.Cond.constantLong own index v).before a0 Z = true) (hd : decode c.code pc = .ok (.ldc2_w index, 3)) (hp : pc + 3 = pc') (hr : own_Gl p e below s Q kc ks (T.setTop (mkF m pc' L (.long v :: S)))) : own_Gl p e below s Q kc ks (T.setTop (mkF m pc L S)) := by
  subst hp; exact hr.go (X.ldc2Long hx hown (mvT hZ w) (g := mkF m pc L S) rfl hd)
end OwnKit

section OwnHeap
variable {p : Program} {l : Launch} {e : Env} {R : Room} {s : State} {m : MethodId} {args : Array Value} {below : List Frame} {meth : Method} {c : Code} {T : State} {locs : List Loc} {cells slots : Nat} {Z : State} {a0 : Array Value} {h : Heap} {Q : Option Value → Heap → List Loc → Prop} {kc ks : Nat} {pc pc' : Nat} {L L' : Array Slot} {S : List Value}
/-- an array of ints, bytes or booleans by what each place holds -/
def own_IA (Z : State) (h : Heap) (a : Addr) (ty : FieldType) (n : Nat) (f : Nat → Int32) : Prop := ∃ c : Cell, Arr Z h a c ty ∧ c.slots.size = n ∧ ∀ i, i < n → c.slots[i]? = some (.int (f i))
theorem own_IA.lt {a : Addr} {ty : FieldType} {n : Nat} {f : Nat → Int32} (V : own_IA Z h a ty n f) : a < h.size := by obtain ⟨c, A, -⟩ := V; exact A.lt
theorem own_IA.ext {h' : Heap} {a : Addr} {ty : FieldType} {n : Nat} {f : Nat → Int32} (V : own_IA Z h a ty n f) (E : Ext h h') : own_IA Z h' a ty n f := by obtain ⟨c, A, r⟩ := V; exact ⟨c, A.ext E, r⟩
theorem own_IA.other {h' : Heap} {a b : Addr} {ty : FieldType} {n sl : Nat} {v : Value} {f : Nat → Int32} (V : own_IA Z h b ty n f) (W : Wr h h' a sl v) (q : b ≠ a) : own_IA Z h' b ty n f := by obtain ⟨c, A, r⟩ := V; exact ⟨c, A.other W q, r⟩
theorem own_IA.keep {h' : Heap} {ws : List Addr} {a : Addr} {ty : FieldType} {n : Nat} {f : Nat → Int32} (V : own_IA Z h a ty n f) (K : Keep h h' ws) (q : a ∉ ws) : own_IA Z h' a ty n f := by obtain ⟨c, A, r⟩ := V; exact ⟨c, ⟨K.2.1 a c A.1 q, A.2⟩, r⟩
theorem own_IA.congr {a : Addr} {ty : FieldType} {n : Nat} {f g : Nat → Int32} (V : own_IA Z h a ty n f) (q : ∀ i, i < n → f i = g i) : own_IA Z h a ty n g := by obtain ⟨c, A, S, H⟩ := V; exact ⟨c, A, S, fun i hi => by rw [H i hi, q i hi]⟩
theorem own_clamp (j : Int32) : j.toNatClampNeg = j.toInt.toNat := rfl
theorem own_in {c : Cell} {n : Nat} (S : c.slots.size = n) {j : Int32} (hj : 0 ≤ j.toInt ∧ j.toInt < n) : ¬ (j < 0 ∨ c.slots.size ≤ j.toNatClampNeg) := by
  have k : (0 : Int32).toInt = 0 := by decide
  rw [Int32.lt_iff_toInt_lt, own_clamp, S, k]; omega
theorem own_IA.set {h' : Heap} {a : Addr} {ty : FieldType} {n : Nat} {x : Int32} {k : Nat} {f : Nat → Int32} (V : own_IA Z h a ty n f) (W : Wr h h' a k (.int x)) : own_IA Z h' a ty n (fun i => if i = k then x else f i) := by
  obtain ⟨c, A, S, H⟩ := V
  refine ⟨c.setSlot k (.int x), A.same W, by rw [sz_set]; exact S, fun i hi => ?_⟩
  show (c.slots.setIfInBounds k (.int x))[i]? = some (Value.int (if i = k then x else f i))
  by_cases q : i = k
  · subst q
    rw [Array.getElem?_setIfInBounds_self_of_lt (by omega), if_pos rfl]
  · rw [Array.getElem?_setIfInBounds_ne (fun z => q z.symm), H i hi, if_neg q]
theorem g_getF (X : Stand p l e R s m args below meth c T locs cells slots) (hx : p.tables.exec = Jvm.exec) (hZ : Z.Warmed39 s.vm) {own R0 O n d host : String} {index : Nat} (hown : s.vm.findClass own = some m.cls) (w : (Jvm.Cond.fieldLink own index R0 n d).before a0 Z = true ∨ (Jvm.Cond.fieldLinkNest own index R0 n d host).before a0 Z = true) (via : Via Z R0 O n d)
    (eT : T.heap = h) {a : Addr} {v : Value} (F : Fld Z h a O n d v) (hd : decode c.code pc = .ok (.getfield index, 3)) (hp : pc + 3 = pc') (k : ∀ T' : State, Stand p l e R s m args below meth c T' locs cells slots → T'.heap = h → own_Gl p e below s Q kc ks (T'.setTop (mkF m pc' L (v :: S)))) :
    own_Gl p e below s Q kc ks (T.setTop (mkF m pc L (.ref a :: S))) := by
  subst hp
  obtain ⟨T', X', e', st⟩ := getF X hx hZ hown w via eT F (g := mkF m pc L (.ref a :: S)) rfl rfl hd
  exact (k T' X' e').go st
theorem g_putF (X : Stand p l e R s m args below meth c T locs cells slots) (hx : p.tables.exec = Jvm.exec) (hZ : Z.Warmed39 s.vm) {own R0 O n d host C : String} {index kk : Nat} {ty : FieldType} (hown : s.vm.findClass own = some m.cls) (w : (Jvm.Cond.fieldLink own index R0 n d).before a0 Z = true ∨ (Jvm.Cond.fieldLinkNest own index R0 n d host).before a0 Z = true) (via : Via Z R0 O n d)
    (eT : T.heap = h) {a : Addr} {v old : Value} (F : Fld Z h a O n d old) (E : Exa Z h a C) (Ly : (Jvm.Cond.lays C O n d).before a0 Z = true ∨ ((Jvm.Cond.laysFinal C O n d).before a0 Z = true ∧ own = O ∧ meth.name = "<init>")) (wi : (Jvm.Cond.instantiable C kk).before a0 Z = true)
    (hty : parseFieldDescriptor d = some ty) (hn : narrow ty v = v) (hf : fits ty v = true) (hd : decode c.code pc = .ok (.putfield index, 3)) (hp : pc + 3 = pc')
    (k : ∀ (T' : State) (h' : Heap), Stand p l e R s m args below meth c T' (locs ++ [⟨a, Jvm.RoadKit.slotOf Z O n d⟩]) cells slots → T'.heap = h' → Wr h h' a (Jvm.RoadKit.slotOf Z O n d) v → own_Gl p e below s Q kc ks (T'.setTop (mkF m pc' L S))) :
    own_Gl p e below s Q kc ks (T.setTop (mkF m pc L (v :: .ref a :: S))) := by
  subst hp
  obtain ⟨T', h', X', e', W', st⟩ := putF X hx hZ hown w via eT F E Ly wi hty hn hf (g := mkF m pc L (v :: .ref a :: S)) rfl rfl hd
  exact (k T' h' X' e' W').go st
theorem g_putFN (X : Stand p l e R s m args below meth c T locs cells slots) (hx : p.tables.exec = Jvm.exec) (hZ : Z.Warmed39 s.vm) {own R0 O n d C : String} {index kk : Nat} {ty : FieldType} (hown : s.vm.findClass own = some m.cls) (w : (Jvm.Cond.fieldLink own index R0 n d).before a0 Z = true) (via : Via Z R0 O n d)
    (eT : T.heap = h) {a : Addr} {v v' old : Value} (F : Fld Z h a O n d old) (E : Exa Z h a C) (Ly : (Jvm.Cond.lays C O n d).before a0 Z = true ∨ ((Jvm.Cond.laysFinal C O n d).before a0 Z = true ∧ own = O ∧ meth.name = "<init>")) (wi : (Jvm.Cond.instantiable C kk).before a0 Z = true)
    (hty : parseFieldDescriptor d = some ty) (hn : narrow ty v = v') (hf : fits ty v' = true) (hd : decode c.code pc = .ok (.putfield index, 3)) (hp : pc + 3 = pc')
    (k : ∀ (T' : State) (h' : Heap), Stand p l e R s m args below meth c T' (locs ++ [⟨a, Jvm.RoadKit.slotOf Z O n d⟩]) cells slots → T'.heap = h' → Wr h h' a (Jvm.RoadKit.slotOf Z O n d) v' → own_Gl p e below s Q kc ks (T'.setTop (mkF m pc' L S))) :
    own_Gl p e below s Q kc ks (T.setTop (mkF m pc L (v :: .ref a :: S))) := by
  subst hp
  obtain ⟨T', h', X', e', W', st⟩ := putFN X hx hZ hown w via eT F E Ly wi hty hn hf (g := mkF m pc L (v :: .ref a :: S)) rfl rfl hd
  exact (k T' h' X' e' W').go st
theorem g_new (X : Stand p l e R s m args below meth c T locs cells slots) (hx : p.tables.exec = Jvm.exec) (hZ : Z.Warmed39 s.vm) {own C : String} {index n : Nat} (hown : s.vm.findClass own = some m.cls) (w : (Jvm.Cond.classLink own index C).before a0 Z = true) (wi : (Jvm.Cond.instantiable C n).before a0 Z = true) (wz : (Jvm.Cond.initialized C).before a0 Z = true) (eT : T.heap = h)
    (hd : decode c.code pc = .ok (.new index, 3)) (hp : pc + 3 = pc') {cells' slots' : Nat} (hcc : cells + 1 = cells') (hss : slots + n = slots') (hc : cells' ≤ R.cells) (hl : slots' ≤ R.slots)
    (k : ∀ (T' : State) (h' : Heap) (b : Addr), b = h.size → Stand p l e R s m args below meth c T' locs cells' slots' → T'.heap = h' → Ext h h' → Exa Z h' b C → (∀ {O nm d : String} {ty : FieldType}, Laid Z a0 C O nm d → parseFieldDescriptor d = some ty → Fld Z h' b O nm d (defaultValue ty)) → own_Gl p e below s Q kc ks (T'.setTop (mkF m pc' L (.ref b :: S)))) :
    own_Gl p e below s Q kc ks (T.setTop (mkF m pc L S)) := by
  subst hp hcc hss
  obtain ⟨T', h', X', e', E', A', D', -, st⟩ := newO X hx hZ hown w wi wz eT (g := mkF m pc L S) rfl hd hc hl
  exact (k T' h' _ rfl X' e' E' A' D').go st
theorem g_newarr (X : Stand p l e R s m args below meth c T locs cells slots) (hx : p.tables.exec = Jvm.exec) (hZ : Z.Warmed39 s.vm) {aty : ArrayType} {ty : FieldType} (hty : newarray.typeOf aty = ty) (hdv : defaultValue ty = .int 0) (w : (Jvm.Cond.arrayClass ty).before a0 Z = true) (eT : T.heap = h)
    (hd : decode c.code pc = .ok (.newarray aty, 2)) (hp : pc + 2 = pc') {z : Int32} {n : Nat} (hn : z.toInt = n) (cap : Nat) (hcap : n ≤ cap) (hb : cap * 8 ≤ 536870912) {cells' slots' : Nat} (hcc : cells + 1 = cells') (hss : slots + cap = slots') (hc : cells' ≤ R.cells) (hl : slots' ≤ R.slots)
    (k : ∀ (T' : State) (h' : Heap) (b : Addr), b = h.size → Stand p l e R s m args below meth c T' locs cells' slots' → T'.heap = h' → Ext h h' → own_IA Z h' b ty n (fun _ => 0) → own_Gl p e below s Q kc ks (T'.setTop (mkF m pc' L (.ref b :: S)))) :
    own_Gl p e below s Q kc ks (T.setTop (mkF m pc L (.int z :: S))) := by
  subst hp hcc hss hty
  have q : ¬ z < 0 := by
    have k0 : (0 : Int32).toInt = 0 := by decide
    rw [Int32.lt_iff_toInt_lt, k0]; omega
  have zn : z.toNatClampNeg = n := by rw [own_clamp]; omega
  obtain ⟨T', h', cA, X', e', E', A', st⟩ := newP X hx hZ w eT (g := mkF m pc L (.int z :: S)) rfl hd rfl q (cap := cap) (by omega) hb hc hl
  refine (k T' h' _ rfl X' e' E' ⟨_, A', by rw [sz_new, zn], fun i hi => ?_⟩).go st
  show (Array.replicate z.toNatClampNeg (defaultValue (newarray.typeOf aty)))[i]? = _
  rw [zn, hdv, Array.getElem?_replicate, if_pos hi]
theorem g_iastore (X : Stand p l e R s m args below meth c T locs cells slots) (hx : p.tables.exec = Jvm.exec) (hZ : Z.Warmed39 s.vm) (eT : T.heap = h) {a : Addr} {n : Nat} {f : Nat → Int32} {j x : Int32} (V : own_IA Z h a .int n f) (hj : 0 ≤ j.toInt ∧ j.toInt < n) (hd : decode c.code pc = .ok (.iastore, 1)) (hp : pc + 1 = pc')
    (k : ∀ (T' : State) (h' : Heap), Stand p l e R s m args below meth c T' (locs ++ [⟨a, j.toNatClampNeg⟩]) cells slots → T'.heap = h' → Wr h h' a j.toNatClampNeg (.int x) → own_IA Z h' a .int n (fun i => if i = j.toNatClampNeg then x else f i) → own_Gl p e below s Q kc ks (T'.setTop (mkF m pc' L S))) :
    own_Gl p e below s Q kc ks (T.setTop (mkF m pc L (.int x :: .int j :: .ref a :: S))) := by
  subst hp
  have V' := V
  obtain ⟨cl, A, Sz, H⟩ := V
  obtain ⟨T', h', X', e', W', st⟩ := stI X hx hZ eT A (own_in Sz hj) (g := mkF m pc L (.int x :: .int j :: .ref a :: S)) rfl rfl hd
  exact (k T' h' X' e' W' (V'.set W')).go st
theorem g_bastore (X : Stand p l e R s m args below meth c T locs cells slots) (hx : p.tables.exec = Jvm.exec) (hZ : Z.Warmed39 s.vm) (eT : T.heap = h) {a : Addr} {n : Nat} {f : Nat → Int32} {j x : Int32} (V : own_IA Z h a .byte n f) (hj : 0 ≤ j.toInt ∧ j.toInt < n) (hd : decode c.code pc = .ok (.bastore, 1)) (hp : pc + 1 = pc')
    (k : ∀ (T' : State) (h' : Heap), Stand p l e R s m args below meth c T' (locs ++ [⟨a, j.toNatClampNeg⟩]) cells slots → T'.heap = h' → Wr h h' a j.toNatClampNeg (.int x.toInt8.toInt32) → own_IA Z h' a .byte n (fun i => if i = j.toNatClampNeg then x.toInt8.toInt32 else f i) → own_Gl p e below s Q kc ks (T'.setTop (mkF m pc' L S))) :
    own_Gl p e below s Q kc ks (T.setTop (mkF m pc L (.int x :: .int j :: .ref a :: S))) := by
  subst hp
  have V' := V
  obtain ⟨cl, A, Sz, H⟩ := V
  obtain ⟨T', h', X', e', W', st⟩ := stB X hx hZ eT A (own_in Sz hj) (g := mkF m pc L (.int x :: .int j :: .ref a :: S)) rfl rfl hd
  exact (k T' h' X' e' W' (V'.set W')).go st
theorem g_zastore (X : Stand p l e R s m args below meth c T locs cells slots) (hx : p.tables.exec = Jvm.exec) (hZ : Z.Warmed39 s.vm) (eT : T.heap = h) {a : Addr} {n : Nat} {f : Nat → Int32} {j x x' : Int32} (V : own_IA Z h a .boolean n f) (hj : 0 ≤ j.toInt ∧ j.toInt < n) (hv : nar .boolean x = x') (hd : decode c.code pc = .ok (.bastore, 1)) (hp : pc + 1 = pc')
    (k : ∀ (T' : State) (h' : Heap), Stand p l e R s m args below meth c T' (locs ++ [⟨a, j.toNatClampNeg⟩]) cells slots → T'.heap = h' → Wr h h' a j.toNatClampNeg (.int x') → own_IA Z h' a .boolean n (fun i => if i = j.toNatClampNeg then x' else f i) → own_Gl p e below s Q kc ks (T'.setTop (mkF m pc' L S))) :
    own_Gl p e below s Q kc ks (T.setTop (mkF m pc L (.int x :: .int j :: .ref a :: S))) := by
  subst hp hv
  have V' := V
  obtain ⟨cl, A, Sz, H⟩ := V
  obtain ⟨T', h', X', e', W', st⟩ := stZ X hx hZ eT A (own_in Sz hj) (g := mkF m pc L (.int x :: .int j :: .ref a :: S)) rfl rfl hd
  exact (k T' h' X' e' W' (V'.set W')).go st
theorem own_at {a : Addr} {ty : FieldType} {n : Nat} {f : Nat → Int32} {c : Cell} (S : c.slots.size = n) (H : ∀ i, i < n → c.slots[i]? = some (.int (f i))) {j v : Int32} (hj : 0 ≤ j.toInt ∧ j.toInt < n) (hv : f j.toInt.toNat = v) : c.slots[j.toNatClampNeg]? = some (.int v) := by
  rw [own_clamp, H _ (by omega), hv]
theorem g_iaload (X : Stand p l e R s m args below meth c T locs cells slots) (hx : p.tables.exec = Jvm.exec) (hZ : Z.Warmed39 s.vm) (eT : T.heap = h) {a : Addr} {n : Nat} {f : Nat → Int32} {j v : Int32} (V : own_IA Z h a .int n f) (hj : 0 ≤ j.toInt ∧ j.toInt < n) (hv : f j.toInt.toNat = v) (hd : decode c.code pc = .ok (.iaload, 1)) (hp : pc + 1 = pc')
    (hr : own_Gl p e below s Q kc ks (T.setTop (mkF m pc' L (.int v :: S)))) : own_Gl p e below s Q kc ks (T.setTop (mkF m pc L (.int j :: .ref a :: S))) := by
  subst hp
  obtain ⟨cl, A, Sz, H⟩ := V
  exact hr.go fun t k => X.iaload hx (by rw [eT]; exact A.1) (State.isArrayOf_alike hZ.alike A.2.1) A.2.2 (own_in Sz hj) (own_at (a := a) (ty := .int) Sz H hj hv) (g := mkF m pc L (.int j :: .ref a :: S)) rfl rfl hd t k
theorem g_baload (X : Stand p l e R s m args below meth c T locs cells slots) (hx : p.tables.exec = Jvm.exec) (hZ : Z.Warmed39 s.vm) (eT : T.heap = h) {a : Addr} {n : Nat} {f : Nat → Int32} {j v : Int32} (V : own_IA Z h a .byte n f) (hj : 0 ≤ j.toInt ∧ j.toInt < n) (hv : f j.toInt.toNat = v) (hd : decode c.code pc = .ok (.baload, 1)) (hp : pc + 1 = pc')
    (hr : own_Gl p e below s Q kc ks (T.setTop (mkF m pc' L (.int v :: S)))) : own_Gl p e below s Q kc ks (T.setTop (mkF m pc L (.int j :: .ref a :: S))) := by
  subst hp
  obtain ⟨cl, A, Sz, H⟩ := V
  exact hr.go fun t k => X.baloadBytes hx (by rw [eT]; exact A.1) (State.isArrayOf_alike hZ.alike A.2.1) A.2.2 (own_in Sz hj) (own_at (a := a) (ty := .byte) Sz H hj hv) (g := mkF m pc L (.int j :: .ref a :: S)) rfl rfl hd t k
theorem g_zaload (X : Stand p l e R s m args below meth c T locs cells slots) (hx : p.tables.exec = Jvm.exec) (hZ : Z.Warmed39 s.vm) (eT : T.heap = h) {a : Addr} {n : Nat} {f : Nat → Int32} {j v : Int32} (V : own_IA Z h a .boolean n f) (hj : 0 ≤ j.toInt ∧ j.toInt < n) (hv : f j.toInt.toNat = v) (hd : decode c.code pc = .ok (.baload, 1)) (hp : pc + 1 = pc')
    (hr : own_Gl p e below s Q kc ks (T.setTop (mkF m pc' L (.int v :: S)))) : own_Gl p e below s Q kc ks (T.setTop (mkF m pc L (.int j :: .ref a :: S))) := by
  subst hp
  obtain ⟨cl, A, Sz, H⟩ := V
  exact hr.go fun t k => X.baloadBooleans hx (by rw [eT]; exact A.1) (State.isArrayOf_alike hZ.alike A.2.1) A.2.2 (own_in Sz hj) (own_at (a := a) (ty := .boolean) Sz H hj hv) (g := mkF m pc L (.int j :: .ref a :: S)) rfl rfl hd t k
theorem g_arraylength (X : Stand p l e R s m args below meth c T locs cells slots) (hx : p.tables.exec = Jvm.exec) (hZ : Z.Warmed39 s.vm) (eT : T.heap = h) {a : Addr} {ty : FieldType} {n : Nat} {f : Nat → Int32} {z : Int32} (V : own_IA Z h a ty n f) (hz : n.toInt32 = z) (hd : decode c.code pc = .ok (.arraylength, 1)) (hp : pc + 1 = pc')
    (hr : own_Gl p e below s Q kc ks (T.setTop (mkF m pc' L (.int z :: S)))) : own_Gl p e below s Q kc ks (T.setTop (mkF m pc L (.ref a :: S))) := by
  subst hp hz
  obtain ⟨cl, A, Sz, H⟩ := V
  subst Sz
  exact hr.go fun t k => X.arraylength hx (by rw [eT]; exact A.1) (State.isArrayOf_alike hZ.alike A.2.1) (g := mkF m pc L (.ref a :: S)) rfl rfl hd t k
theorem g_initO (X : Stand p l e R s m args below meth c T locs cells slots) (hx : p.tables.exec = Jvm.exec) (hZ : Z.Warmed39 s.vm) {own : String} {idx : Nat} (hown : s.vm.findClass own = some m.cls) (w1 : (Jvm.Cond.methodLink own idx Lib.objectInit).before a0 Z = true) (w2 : (Jvm.Cond.instanceMethod Lib.objectInit).before a0 Z = true)
    (w3 : (Jvm.Cond.code Lib.objectInit ⟨#[0xb1]⟩ 1 none).before a0 Z = true) (eT : T.heap = h) {a : Addr} (hsize : L.size = c.maxLocals) (hd : decode c.code pc = .ok (.invokespecial idx, 3)) (hp : pc + 3 = pc')
    (hf : 1 ≤ R.frames) (W : Nat) (hW : (S.map fun v => v.category).sum ≤ W) (hl : W + 12 ≤ R.locals) (k : ∀ T' : State, Stand p l e R s m args below meth c T' locs cells slots → T'.heap = h → own_Gl p e below s Q kc ks (T'.setTop (mkF m pc' L S))) :
    own_Gl p e below s Q kc ks (T.setTop (mkF m pc L (.ref a :: S))) := by
  subst hp
  obtain ⟨T', X', e', st⟩ := initO X hx hZ hown w1 w2 w3 eT (g := mkF m pc L (.ref a :: S)) rfl hsize rfl hd hf (W := W) (by show 2 * 0 + _ ≤ _; omega) hl
  exact (k T' X' e').go st
/-- a constructor by its contract -/
theorem g_callI (X : Stand p l e R s m args below meth c T locs cells slots) (hx : p.tables.exec = Jvm.exec) (hZ : Z.Warmed39 s.vm) {own : String} {index : Nat} {y : MethodName} {bytes : ByteArray} {maxL : Nat} (hy1 : y.name = "<init>") (hown : s.vm.findClass own = some m.cls)
    (w1 : (Jvm.Cond.methodLink own index y).before a0 Z = true) (w2 : (Jvm.Cond.instanceMethod y).before a0 Z = true) (w3 : (Jvm.Cond.initialized y.cls).before a0 Z = true) (w4 : (Jvm.Cond.code y bytes maxL none).before a0 Z = true) (hy : y.cls ≠ "java/lang/invoke/MethodHandle" ∧ y.cls ≠ "java/lang/invoke/VarHandle")
    {rm : Room} {as' : Array Value} {Qc : Option Value → Heap → List Loc → Prop}
    (hM : MetFree l y (head1 [Jvm.Cond.code y bytes maxL none] rm) (fun a U => a = as' ∧ Z.Warmed39 U.vm ∧ U.heap = h) (fun _ _ _ _ _ => True) (fun _ U o U' => ∃ v L, o = .returned v ∧ Qc v U'.heap L ∧ FrameEnd U o U' L rm.cells rm.slots))
    (W : Nat) (hf : rm.frames + 1 ≤ R.frames) (hl : W + (maxL + 11) + rm.locals ≤ R.locals) (eT : T.heap = h) (hsize : L.size = c.maxLocals) {a : Addr} (argsL rest : List Value) (hlen : ∀ sig, parseMethodDescriptor y.desc = some sig → argsL.length = sig.parameters.length)
    (hst : S = argsL.reverse ++ .ref a :: rest) (has : (Value.ref a :: argsL).toArray = as') (hW : (rest.map fun v => v.category).sum ≤ W) (hd : decode c.code pc = .ok (.invokespecial index, 3)) (hp : pc + 3 = pc') {cells' slots' : Nat} (hcc : cells + rm.cells = cells') (hss : slots + rm.slots = slots') (hcl : cells' ≤ R.cells) (hsl : slots' ≤ R.slots)
    (k : ∀ (v : Option Value) (T' : State) (L' : List Loc), Stand p l e R s m args below meth c T' (locs ++ L') cells' slots' → Qc v T'.heap L' → own_Gl p e below s Q kc ks (T'.setTop (mkF m pc' L (v.toList ++ rest)))) :
    own_Gl p e below s Q kc ks (T.setTop (mkF m pc L S)) := by
  subst hp hst hcc hss
  obtain ⟨v, _, ⟨T', L', k', n'⟩, -, X', ⟨Lc, hQ, l', y', z'⟩, st⟩ := X.specialBack hx (y := y) hy1 hown (mvT hZ w1) (mvT hZ w2) (mvT hZ w4) hy (backOf (W := W) hM hZ w4 w3 hf hl) (g := mkF m pc L (argsL.reverse ++ .ref a :: rest)) rfl hsize (Steps.refl _) (a := a) (argsL := argsL) (rest := rest) hlen rfl (by show 2 * 0 + _ ≤ _; omega) hd (fun _ _ => ⟨has, eT, hcl, hsl⟩)
  dsimp only [Pt.U, Pt.locs, Pt.cells, Pt.slots] at X' l' y' z' st hQ
  subst l' y' z'
  exact (k v T' Lc X' hQ).go fun t q => st.trans q
/-- an instance method by its contract -/
theorem g_callV (X : Stand p l e R s m args below meth c T locs cells slots) (hx : p.tables.exec = Jvm.exec) (hZ : Z.Warmed39 s.vm) {own C : String} {index : Nat} {y z : MethodName} {bytes : ByteArray} {maxL : Nat} {ret : Option FieldType} (hown : s.vm.findClass own = some m.cls)
    (w1 : (Jvm.Cond.methodLink own index y).before a0 Z = true) (w2 : (Jvm.Cond.declares y).before a0 Z = true) (nf : NotFace s y) (w5 : (Jvm.Cond.selects C y z).before a0 Z = true) (w6 : (Jvm.Cond.instanceMethod z).before a0 Z = true) (w3 : (Jvm.Cond.initialized z.cls).before a0 Z = true) (w4 : (Jvm.Cond.code z bytes maxL ret).before a0 Z = true) (hy : y.cls ≠ "java/lang/invoke/MethodHandle" ∧ y.cls ≠ "java/lang/invoke/VarHandle")
    {rm : Room} {as' : Array Value} {Qc : Option Value → Heap → List Loc → Prop}
    (hM : MetFree l z (head1 [Jvm.Cond.code z bytes maxL ret] rm) (fun a U => a = as' ∧ Z.Warmed39 U.vm ∧ U.heap = h) (fun _ _ _ _ _ => True) (fun _ U o U' => ∃ v L, o = .returned v ∧ Qc v U'.heap L ∧ FrameEnd U o U' L rm.cells rm.slots))
    (W : Nat) (hf : rm.frames + 1 ≤ R.frames) (hl : W + (maxL + 11) + rm.locals ≤ R.locals) (eT : T.heap = h) {a : Addr} (E : Exa Z h a C) (hsize : L.size = c.maxLocals) (argsL rest : List Value) (hlen : ∀ sig, parseMethodDescriptor y.desc = some sig → argsL.length = sig.parameters.length)
    (hst : S = argsL.reverse ++ .ref a :: rest) (has : (Value.ref a :: argsL).toArray = as') (hW : (rest.map fun v => v.category).sum ≤ W) (hd : decode c.code pc = .ok (.invokevirtual index, 3)) (hp : pc + 3 = pc') {cells' slots' : Nat} (hcc : cells + rm.cells = cells') (hss : slots + rm.slots = slots') (hcl : cells' ≤ R.cells) (hsl : slots' ≤ R.slots)
    (k : ∀ (v : Option Value) (T' : State) (L' : List Loc), Stand p l e R s m args below meth c T' (locs ++ L') cells' slots' → Qc v T'.heap L' → own_Gl p e below s Q kc ks (T'.setTop (mkF m pc' L (v.toList ++ rest)))) :
    own_Gl p e below s Q kc ks (T.setTop (mkF m pc L S)) := by
  subst hp hst hcc hss
  obtain ⟨cq, kq, qa, qb, qc⟩ := isOf hZ eT E
  obtain ⟨v, _, ⟨T', L', k', n'⟩, -, X', ⟨Lc, hQ, l', y', z'⟩, st⟩ := X.virtualBack hx (y := y) (z := z) hown (mvT hZ w1) (mvT hZ w2) nf (mvT hZ w5) (mvT hZ w6) hy (backOf (W := W) hM hZ w4 w3 hf hl) qa qc (g := mkF m pc L (argsL.reverse ++ .ref a :: rest)) rfl hsize (Steps.refl _) (argsL := argsL) (rest := rest) hlen rfl (by show 2 * 0 + _ ≤ _; omega) hd (fun _ _ => ⟨has, eT, hcl, hsl⟩)
  dsimp only [Pt.U, Pt.locs, Pt.cells, Pt.slots] at X' l' y' z' st hQ
  subst l' y' z'
  exact (k v T' Lc X' hQ).go fun t q => st.trans q
theorem own_nameL {n0 : Nat} (X : Stand p l e R s m args below meth c T locs cells slots) (N : Fr n0 locs) : ∃ lc, Fr n0 lc ∧ Stand p l e R s m args below meth c T lc cells slots := ⟨locs, N, X⟩
theorem own_nf {y : MethodName} {C : String} (hZ : Z.Warmed39 s.vm) (w5 : (Jvm.Cond.selects C y y).before a0 Z = true) : NotFace s y := notFace_of_selects (args := #[]) (mvT hZ w5)
end OwnHeap
def own_Q0 (n0 : Nat) (v : Option Value) (h : Heap) (L : List Loc) : Prop := v = some (.int 1) ∧ Fr n0 L
theorem d2_0 : decode jdk_30_method_1_code 0 = .ok (.aload_n 0, 1) := by decide +kernel
theorem d2_1 : decode jdk_30_method_1_code 1 = .ok (.invokespecial 1, 3) := by decide +kernel
theorem d2_4 : decode jdk_30_method_1_code 4 = .ok (.return_, 1) := by decide +kernel
theorem pn_0 : plainName "java/lang/Record" = true := by first | (simp [plainName, overriddenIn]; done) | decide +kernel
theorem ef_2 (m : MethodId) (x0 : Addr) : entryFrame m #[(.ref x0)] 1 = mkF m 0 #[.val (.ref x0)] [] := by first | (simp [entryFrame, mkF, argsToLocals, Value.category]; done) | rfl
set_option maxRecDepth 65536 in
set_option maxHeartbeats 40000000 in
theorem rm2 (l : Launch) (Z : State) (a0 : Array Value) (hw : ∀ d ∈ tables_1, d.before a0 Z = true) (ws : List Jvm.Cond) (x0 : Addr) (h0 : Heap) :
    MetFree l (⟨"java/lang/Record", "<init>", "()V"⟩ : MethodName) (head1 (Jvm.Cond.code (⟨"java/lang/Record", "<init>", "()V"⟩ : MethodName) jdk_30_method_1_code 1 none :: ws) ({ frames := 1, cells := 0, slots := 0, locals := 12 } : Room)) (fun a U => a = #[(.ref x0)] ∧ Z.Warmed39 U.vm ∧ U.heap = h0) (fun _ _ _ _ _ => True) (fun _ U o U' => ∃ v L, o = .returned v ∧ (own_Pure none h0) v U'.heap L ∧ FrameEnd U o U' L ({ frames := 1, cells := 0, slots := 0, locals := 12 } : Room).cells ({ frames := 1, cells := 0, slots := 0, locals := 12 } : Room).slots) := by
  refine own_body (own := "java/lang/Record") pn_0 rfl (fun m => ef_2 m x0) ?_
  intro p e s m below meth c T0 hx hby hml hown hnm hlk hret hZ X0 e0
  have w_12 := hw _ (List.mem_of_getElem? (i := 12) rfl)
  have w_13 := hw _ (List.mem_of_getElem? (i := 13) rfl)
  have w_14 := hw _ (List.mem_of_getElem? (i := 14) rfl)
  refine g_aloadN X0.here hx (hb hby d2_0) (pc' := 1) rfl rfl rfl ?_
  refine g_initO X0 hx hZ hown w_12 w_13 w_14 e0 (by rw [hml]; rfl) (hb hby d2_1) (pc' := 4) rfl (by decide) 0 (by decide) (by decide) ?_
  intro T1 X1 e1
  exact g_retV X1 hx hlk hret (hb hby d2_4) (Nat.zero_le _) (Nat.zero_le _) ⟨rfl, rfl, e1⟩
theorem d4_0 : decode prog_67_method_3_code 0 = .ok (.aload_n 0, 1) := by decide +kernel
theorem d4_1 : decode prog_67_method_3_code 1 = .ok (.getfield 17, 3) := by decide +kernel
theorem d4_4 : decode prog_67_method_3_code 4 = .ok (.ifCond .ne 14, 3) := by decide +kernel
theorem d4_7 : decode prog_67_method_3_code 7 = .ok (.aload_n 0, 1) := by decide +kernel
theorem d4_8 : decode prog_67_method_3_code 8 = .ok (.getfield 21, 3) := by decide +kernel
theorem d4_11 : decode prog_67_method_3_code 11 = .ok (.ifCond .ne 7, 3) := by decide +kernel
theorem d4_14 : decode prog_67_method_3_code 14 = .ok (.iconst 1, 1) := by decide +kernel
theorem d4_15 : decode prog_67_method_3_code 15 = .ok (.goto 4, 3) := by decide +kernel
theorem d4_19 : decode prog_67_method_3_code 19 = .ok (.ireturn, 1) := by decide +kernel
theorem d4_18 : decode prog_67_method_3_code 18 = .ok (.iconst 0, 1) := by decide +kernel
def f_ipd (w_data : Int32) (w_negated : Int32) : Int32 := (if w_data = (0 : Int32) then (if w_negated = (0 : Int32) then (1 : Int32) else (0 : Int32)) else (0 : Int32))
theorem pn_1 : plainName "com/example/entail/entail/rules/Program$Literal" = true := by first | (simp [plainName, overriddenIn]; done) | decide +kernel
theorem ef_4 (m : MethodId) (x0 : Addr) : entryFrame m #[(.ref x0)] 1 = mkF m 0 #[.val (.ref x0)] [] := by first | (simp [entryFrame, mkF, argsToLocals, Value.category]; done) | rfl
set_option maxRecDepth 65536 in
set_option maxHeartbeats 40000000 in
theorem rm4 (l : Launch) (Z : State) (a0 : Array Value) (hw : ∀ d ∈ tables_1, d.before a0 Z = true) (ws : List Jvm.Cond) (x0 : Addr) (w_data : Int32) (w_negated : Int32) (h0 : Heap) (F_data : Fld Z h0 x0 "com/example/entail/entail/rules/Program$Literal" "data" "Z" (.int w_data)) (F_negated : Fld Z h0 x0 "com/example/entail/entail/rules/Program$Literal" "negated" "Z" (.int w_negated)) :
    MetFree l (⟨"com/example/entail/entail/rules/Program$Literal", "isPositiveDerived", "()Z"⟩ : MethodName) (head1 (Jvm.Cond.code (⟨"com/example/entail/entail/rules/Program$Literal", "isPositiveDerived", "()Z"⟩ : MethodName) prog_67_method_3_code 1 (some .boolean) :: ws) ({ frames := 0, cells := 0, slots := 0, locals := 0 } : Room)) (fun a U => a = #[(.ref x0)] ∧ Z.Warmed39 U.vm ∧ U.heap = h0) (fun _ _ _ _ _ => True) (fun _ U o U' => ∃ v L, o = .returned v ∧ (own_Pure (some (.int (f_ipd w_data w_negated))) h0) v U'.heap L ∧ FrameEnd U o U' L ({ frames := 0, cells := 0, slots := 0, locals := 0 } : Room).cells ({ frames := 0, cells := 0, slots := 0, locals := 0 } : Room).slots) := by
  refine own_body (own := "com/example/entail/entail/rules/Program$Literal") pn_1 rfl (fun m => ef_4 m x0) ?_
  intro p e s m below meth c T0 hx hby hml hown hnm hlk hret hZ X0 e0
  have w_19 := hw _ (List.mem_of_getElem? (i := 19) rfl)
  have w_21 := hw _ (List.mem_of_getElem? (i := 21) rfl)
  refine g_aloadN X0.here hx (hb hby d4_0) (pc' := 1) rfl rfl rfl ?_
  refine g_getF X0 hx hZ hown (host := "") (Or.inl w_19) Via.refl e0 F_data (hb hby d4_1) (pc' := 4) rfl ?_
  intro T1 X1 e1
  by_cases hc4_0 : w_data = (0 : Int32)
  · refine g_ifN X1.here hx (hb hby d4_4) (pc' := 7) rfl ((if0 _ _).trans (teq hc4_0).2) ?_
    refine g_aloadN X1.here hx (hb hby d4_7) (pc' := 8) rfl rfl rfl ?_
    refine g_getF X1 hx hZ hown (host := "") (Or.inl w_21) Via.refl e1 F_negated (hb hby d4_8) (pc' := 11) rfl ?_
    intro T2 X2 e2
    by_cases hc11_1 : w_negated = (0 : Int32)
    · refine g_ifN X2.here hx (hb hby d4_11) (pc' := 14) rfl ((if0 _ _).trans (teq hc11_1).2) ?_
      refine g_iconst X2.here hx (hb hby d4_14) (pc' := 15) rfl (z := (1 : Int32)) rfl ?_
      refine g_goto X2.here hx (hb hby d4_15) (by decide) (pc' := 19) (by decide) ?_
      exact g_retN X2 hx hlk (t := .boolean) hret (by simp) (z' := (1 : Int32)) rfl (hb hby d4_19) (Nat.zero_le _) (Nat.zero_le _) ⟨by simp only [f_ipd, if_pos hc4_0, if_pos hc11_1], rfl, e2⟩
    · refine g_ifY X2.here hx (hb hby d4_11) (by decide) (pc' := 18) (by decide) ((if0 _ _).trans (feq hc11_1).2) ?_
      refine g_iconst X2.here hx (hb hby d4_18) (pc' := 19) rfl (z := (0 : Int32)) rfl ?_
      exact g_retN X2 hx hlk (t := .boolean) hret (by simp) (z' := (0 : Int32)) rfl (hb hby d4_19) (Nat.zero_le _) (Nat.zero_le _) ⟨by simp only [f_ipd, if_pos hc4_0, if_neg hc11_1], rfl, e2⟩
  · refine g_ifY X1.here hx (hb hby d4_4) (by decide) (pc' := 18) (by decide) ((if0 _ _).trans (feq hc4_0).2) ?_
    refine g_iconst X1.here hx (hb hby d4_18) (pc' := 19) rfl (z := (0 : Int32)) rfl ?_
    exact g_retN X1 hx hlk (t := .boolean) hret (by simp) (z' := (0 : Int32)) rfl (hb hby d4_19) (Nat.zero_le _) (Nat.zero_le _) ⟨by simp only [f_ipd, if_neg hc4_0], rfl, e1⟩
def own_Q1 (Z : State) (n0 : Nat) (x0 : Addr) (x3 x4 : Int32) (h0 : Heap) (v : Option Value) (h : Heap) (L : List Loc) : Prop := v = none ∧ Fr n0 L ∧ Keep h0 h [x0] ∧ Exa Z h x0 "com/example/entail/entail/rules/Program$Literal" ∧ Fld Z h x0 "com/example/entail/entail/rules/Program$Literal" "data" "Z" (.int (nar .boolean x3)) ∧ Fld Z h x0 "com/example/entail/entail/rules/Program$Literal" "negated" "Z" (.int (nar .boolean x4))
theorem d1_0 : decode prog_67_method_1_code 0 = .ok (.aload_n 0, 1) := by decide +kernel
theorem d1_1 : decode prog_67_method_1_code 1 = .ok (.invokespecial 1, 3) := by decide +kernel
theorem pd_0 : parseMethodDescriptor "()V" = some ⟨[], none⟩ := by decide +kernel
theorem d1_4 : decode prog_67_method_1_code 4 = .ok (.aload_n 0, 1) := by decide +kernel
theorem d1_5 : decode prog_67_method_1_code 5 = .ok (.iload_n 1, 1) := by decide +kernel
theorem d1_6 : decode prog_67_method_1_code 6 = .ok (.putfield 7, 3) := by decide +kernel
theorem d1_9 : decode prog_67_method_1_code 9 = .ok (.aload_n 0, 1) := by decide +kernel
theorem d1_10 : decode prog_67_method_1_code 10 = .ok (.aload_n 2, 1) := by decide +kernel
theorem d1_11 : decode prog_67_method_1_code 11 = .ok (.putfield 13, 3) := by decide +kernel
theorem d1_14 : decode prog_67_method_1_code 14 = .ok (.aload_n 0, 1) := by decide +kernel
theorem d1_15 : decode prog_67_method_1_code 15 = .ok (.iload_n 3, 1) := by decide +kernel
theorem d1_16 : decode prog_67_method_1_code 16 = .ok (.putfield 17, 3) := by decide +kernel
theorem d1_19 : decode prog_67_method_1_code 19 = .ok (.aload_n 0, 1) := by decide +kernel
theorem d1_20 : decode prog_67_method_1_code 20 = .ok (.iload 4, 2) := by decide +kernel
theorem d1_22 : decode prog_67_method_1_code 22 = .ok (.putfield 21, 3) := by decide +kernel
theorem d1_25 : decode prog_67_method_1_code 25 = .ok (.return_, 1) := by decide +kernel
theorem ef_1 (m : MethodId) (x0 : Addr) (x1 : Int32) (x2 : Addr) (x3 : Int32) (x4 : Int32) : entryFrame m #[(.ref x0), (.int x1), (.ref x2), (.int x3), (.int x4)] 5 = mkF m 0 #[.val (.ref x0), .val (.int x1), .val (.ref x2), .val (.int x3), .val (.int x4)] [] := by first | (simp [entryFrame, mkF, argsToLocals, Value.category]; done) | rfl
set_option maxRecDepth 65536 in
set_option maxHeartbeats 40000000 in
theorem rm1 (l : Launch) (Z : State) (a0 : Array Value) (hw : ∀ d ∈ tables_1, d.before a0 Z = true) (ws : List Jvm.Cond) (x0 : Addr) (x1 : Int32) (x2 : Addr) (x3 : Int32) (x4 : Int32) (h0 : Heap) (n0 : Nat) (Z0 : n0 ≤ h0.size) (g0 : n0 ≤ x0) (E0 : Exa Z h0 x0 "com/example/entail/entail/rules/Program$Literal") (F_relation : Fld Z h0 x0 "com/example/entail/entail/rules/Program$Literal" "relation" "I" (.int (0 : Int32))) (F_arguments : Fld Z h0 x0 "com/example/entail/entail/rules/Program$Literal" "arguments" "[I" .null) (F_data : Fld Z h0 x0 "com/example/entail/entail/rules/Program$Literal" "data" "Z" (.int (0 : Int32))) (F_negated : Fld Z h0 x0 "com/example/entail/entail/rules/Program$Literal" "negated" "Z" (.int (0 : Int32))) :
    MetFree l (⟨"com/example/entail/entail/rules/Program$Literal", "<init>", "(I[IZZ)V"⟩ : MethodName) (head1 (Jvm.Cond.code (⟨"com/example/entail/entail/rules/Program$Literal", "<init>", "(I[IZZ)V"⟩ : MethodName) prog_67_method_1_code 5 none :: ws) ({ frames := 2, cells := 0, slots := 0, locals := 24 } : Room)) (fun a U => a = #[(.ref x0), (.int x1), (.ref x2), (.int x3), (.int x4)] ∧ Z.Warmed39 U.vm ∧ U.heap = h0) (fun _ _ _ _ _ => True) (fun _ U o U' => ∃ v L, o = .returned v ∧ (own_Q1 Z n0 x0 x3 x4 h0) v U'.heap L ∧ FrameEnd U o U' L ({ frames := 2, cells := 0, slots := 0, locals := 24 } : Room).cells ({ frames := 2, cells := 0, slots := 0, locals := 24 } : Room).slots) := by
  refine own_body (own := "com/example/entail/entail/rules/Program$Literal") pn_1 rfl (fun m => ef_1 m x0 x1 x2 x3 x4) ?_
  intro p e s m below meth c T0 hx hby hml hown hnm hlk hret hZ X0 e0
  have w_2 := hw _ (List.mem_of_getElem? (i := 2) rfl)
  have w_7 := hw _ (List.mem_of_getElem? (i := 7) rfl)
  have w_8 := hw _ (List.mem_of_getElem? (i := 8) rfl)
  have w_10 := hw _ (List.mem_of_getElem? (i := 10) rfl)
  have w_11 := hw _ (List.mem_of_getElem? (i := 11) rfl)
  have w_15 := hw _ (List.mem_of_getElem? (i := 15) rfl)
  have w_16 := hw _ (List.mem_of_getElem? (i := 16) rfl)
  have w_17 := hw _ (List.mem_of_getElem? (i := 17) rfl)
  have w_18 := hw _ (List.mem_of_getElem? (i := 18) rfl)
  have w_19 := hw _ (List.mem_of_getElem? (i := 19) rfl)
  have w_20 := hw _ (List.mem_of_getElem? (i := 20) rfl)
  have w_21 := hw _ (List.mem_of_getElem? (i := 21) rfl)
  have w_22 := hw _ (List.mem_of_getElem? (i := 22) rfl)
  have N0 := Fr.nil n0
  refine g_aloadN X0.here hx (hb hby d1_0) (pc' := 1) rfl rfl rfl ?_
  refine g_callI X0 hx hZ rfl hown w_7 w_8 w_10 w_11 (by decide) (rm2 l Z a0 hw [] x0 h0) 0 (by decide) (by decide) e0 (by rw [hml]; rfl) [] [] (lenOf pd_0 rfl) rfl rfl (Nat.le_of_eq rfl) (hb hby d1_1) (pc' := 4) rfl (cells' := 0) (slots' := 0) rfl rfl (by decide) (by decide) ?_
  intro v1 T1 L1 X1 hQ1
  obtain ⟨rfl, rfl, e1⟩ := hQ1
  rw [List.append_nil] at X1
  show own_Gl p e below s (own_Q1 Z n0 x0 x3 x4 h0) ({ frames := 2, cells := 0, slots := 0, locals := 24 } : Room).cells ({ frames := 2, cells := 0, slots := 0, locals := 24 } : Room).slots (T1.setTop (mkF m 4 #[.val (.ref x0), .val (.int x1), .val (.ref x2), .val (.int x3), .val (.int x4)] []))
  refine g_aloadN X1.here hx (hb hby d1_4) (pc' := 5) rfl rfl rfl ?_
  refine g_iloadN X1.here hx (hb hby d1_5) (pc' := 6) rfl rfl ?_
  refine g_putF X1 hx hZ hown (host := "") (Or.inl w_15) Via.refl e1 F_relation E0 (Or.inr ⟨w_16, rfl, hnm⟩) w_2 (ty := .int) (by decide) rfl rfl (hb hby d1_6) (pc' := 9) rfl ?_
  intro T2 h2 X2 e2 W2
  have Fw2 := F_relation.same W2
  have N2 := Fr.snoc X2 N0 g0
  have Z3 : n0 ≤ h2.size := (by rw [W2.size]; exact Z0)
  have z4 : h0.size ≤ h2.size := (by rw [W2.size]; exact (Nat.le_refl _))
  refine g_aloadN X2.here hx (hb hby d1_9) (pc' := 10) rfl rfl rfl ?_
  refine g_aloadN X2.here hx (hb hby d1_10) (pc' := 11) rfl rfl rfl ?_
  have F5 := (F_arguments.other W2 (Or.inr (slot_ne (Or.inr w_18) (Or.inr w_16) (by decide) (t := (.array .int)) (t' := .int) (by decide) (by decide))))
  have F6 := (E0.wr W2)
  refine g_putF X2 hx hZ hown (host := "") (Or.inl w_17) Via.refl e2 F5 F6 (Or.inr ⟨w_18, rfl, hnm⟩) w_2 (ty := (.array .int)) (by decide) rfl rfl (hb hby d1_11) (pc' := 14) rfl ?_
  intro T7 h7 X7 e7 W7
  have Fw7 := F5.same W7
  have N7 := Fr.snoc X7 N2 g0
  have Z8 : n0 ≤ h7.size := (by rw [W7.size]; exact Z3)
  have z9 : h0.size ≤ h7.size := (by rw [W7.size]; exact z4)
  refine g_aloadN X7.here hx (hb hby d1_14) (pc' := 15) rfl rfl rfl ?_
  refine g_iloadN X7.here hx (hb hby d1_15) (pc' := 16) rfl rfl ?_
  have F10 := ((F_data.other W2 (Or.inr (slot_ne (Or.inr w_20) (Or.inr w_16) (by decide) (t := .boolean) (t' := .int) (by decide) (by decide)))).other W7 (Or.inr (slot_ne (Or.inr w_20) (Or.inr w_18) (by decide) (t := .boolean) (t' := (.array .int)) (by decide) (by decide))))
  have F11 := (F6.wr W7)
  refine g_putFN X7 hx hZ hown w_19 Via.refl e7 F10 F11 (Or.inr ⟨w_20, rfl, hnm⟩) w_2 (ty := .boolean) (v' := (.int (nar .boolean x3))) (by decide) rfl (fits_nar_bool x3) (hb hby d1_16) (pc' := 19) rfl ?_
  intro T12 h12 X12 e12 W12
  have Fw12 := F10.same W12
  have N12 := Fr.snoc X12 N7 g0
  have Z13 : n0 ≤ h12.size := (by rw [W12.size]; exact Z8)
  have z14 : h0.size ≤ h12.size := (by rw [W12.size]; exact z9)
  refine g_aloadN X12.here hx (hb hby d1_19) (pc' := 20) rfl rfl rfl ?_
  refine g_iload X12.here hx (hb hby d1_20) (pc' := 22) rfl rfl ?_
  have F15 := (((F_negated.other W2 (Or.inr (slot_ne (Or.inr w_22) (Or.inr w_16) (by decide) (t := .boolean) (t' := .int) (by decide) (by decide)))).other W7 (Or.inr (slot_ne (Or.inr w_22) (Or.inr w_18) (by decide) (t := .boolean) (t' := (.array .int)) (by decide) (by decide)))).other W12 (Or.inr (slot_ne (Or.inr w_22) (Or.inr w_20) (by decide) (t := .boolean) (t' := .boolean) (by decide) (by decide))))
  have F16 := (F11.wr W12)
  refine g_putFN X12 hx hZ hown w_21 Via.refl e12 F15 F16 (Or.inr ⟨w_22, rfl, hnm⟩) w_2 (ty := .boolean) (v' := (.int (nar .boolean x4))) (by decide) rfl (fits_nar_bool x4) (hb hby d1_22) (pc' := 25) rfl ?_
  intro T17 h17 X17 e17 W17
  have Fw17 := F15.same W17
  have N17 := Fr.snoc X17 N12 g0
  have Z18 : n0 ≤ h17.size := (by rw [W17.size]; exact Z13)
  have z19 : h0.size ≤ h17.size := (by rw [W17.size]; exact z14)
  have F20 := (Fw12.other W17 (Or.inr (slot_ne (Or.inr w_20) (Or.inr w_22) (by decide) (t := .boolean) (t' := .boolean) (by decide) (by decide))))
  have F21 := (F16.wr W17)
  have KK := (((((Keep.refl h0 [x0]).wr W2 (Or.inl (List.mem_of_getElem? (i := 0) rfl))).wr W7 (Or.inl (List.mem_of_getElem? (i := 0) rfl))).wr W12 (Or.inl (List.mem_of_getElem? (i := 0) rfl))).wr W17 (Or.inl (List.mem_of_getElem? (i := 0) rfl)))
  exact g_retV X17 hx hlk hret (hb hby d1_25) (Nat.zero_le _) (Nat.zero_le _) (by rw [e17]; exact ⟨rfl, N17, KK, F21, F20, Fw17⟩)
theorem own_fin (a b : Int32) (ha : a = (0 : Int32) ∨ a = (1 : Int32)) (hb : b = (0 : Int32) ∨ b = (1 : Int32)) : (¬ a = (0 : Int32) → f_ipd (nar .boolean a) (nar .boolean b) = (0 : Int32)) ∧ (¬ b = (0 : Int32) → f_ipd (nar .boolean a) (nar .boolean b) = (0 : Int32)) ∧ (a = (0 : Int32) → b = (0 : Int32) → f_ipd (nar .boolean a) (nar .boolean b) = (1 : Int32)) := by
  rcases ha with rfl | rfl <;> rcases hb with rfl | rfl <;> decide
theorem pd_1 : parseMethodDescriptor "(I[IZZ)V" = some ⟨[.int, (.array .int), .boolean, .boolean], none⟩ := by decide +kernel
theorem pd_2 : parseMethodDescriptor "()Z" = some ⟨[], some .boolean⟩ := by decide +kernel
theorem pn_2 : plainName "com/example/entail/entail/rules/LiteralIsPositiveDerivedPinLaw" = true := by first | (simp [plainName, overriddenIn]; done) | decide +kernel
theorem ef_0 (m : MethodId) (x0 : Int32) (x1 : Int32) (x2 : Int32) (x3 : Int32) : entryFrame m #[(.int x0), (.int x1), (.int x2), (.int x3)] maxLocals = mkF m 0 #[.val (.int x0), .val (.int x1), .val (.int x2), .val (.int x3), .unset, .unset, .unset, .unset, .unset] [] := by first | (simp [entryFrame, mkF, argsToLocals, Value.category, maxLocals]; done) | rfl
set_option maxRecDepth 65536 in
set_option maxHeartbeats 40000000 in
theorem rm0 (l : Launch) (Z : State) (a0 : Array Value) (hw : ∀ d ∈ tables_1, d.before a0 Z = true) (ws : List Jvm.Cond) (x0 : Int32) (x1 : Int32) (x2 : Int32) (x3 : Int32) (h0 : Heap) (n0 : Nat) (Z0 : n0 ≤ h0.size) :
    MetFree l x (head1 (Jvm.Cond.code x code maxLocals ret :: ws) room_1) (fun a U => a = #[(.int x0), (.int x1), (.int x2), (.int x3)] ∧ Z.Warmed39 U.vm ∧ U.heap = h0) (fun _ _ _ _ _ => True) (fun _ U o U' => ∃ v L, o = .returned v ∧ (own_Q0 n0) v U'.heap L ∧ FrameEnd U o U' L room_1.cells room_1.slots) := by
  refine own_body (own := "com/example/entail/entail/rules/LiteralIsPositiveDerivedPinLaw") pn_2 rfl (fun m => ef_0 m x0 x1 x2 x3) ?_
  intro p e s m below meth c T0 hx hby hml hown hnm hlk hret hZ X0 e0
  have w_0 := hw _ (List.mem_of_getElem? (i := 0) rfl)
  have w_1 := hw _ (List.mem_of_getElem? (i := 1) rfl)
  have w_2 := hw _ (List.mem_of_getElem? (i := 2) rfl)
  have w_3 := hw _ (List.mem_of_getElem? (i := 3) rfl)
  have w_4 := hw _ (List.mem_of_getElem? (i := 4) rfl)
  have w_5 := hw _ (List.mem_of_getElem? (i := 5) rfl)
  have w_6 := hw _ (List.mem_of_getElem? (i := 6) rfl)
  have w_16 := hw _ (List.mem_of_getElem? (i := 16) rfl)
  have w_18 := hw _ (List.mem_of_getElem? (i := 18) rfl)
  have w_20 := hw _ (List.mem_of_getElem? (i := 20) rfl)
  have w_22 := hw _ (List.mem_of_getElem? (i := 22) rfl)
  have w_23 := hw _ (List.mem_of_getElem? (i := 23) rfl)
  have w_24 := hw _ (List.mem_of_getElem? (i := 24) rfl)
  have w_25 := hw _ (List.mem_of_getElem? (i := 25) rfl)
  have w_26 := hw _ (List.mem_of_getElem? (i := 26) rfl)
  have w_27 := hw _ (List.mem_of_getElem? (i := 27) rfl)
  have N0 := Fr.nil n0
  have k26 : ∀ (b4 : Int32), ∀ (hb4 : b4 = (0 : Int32) ∨ b4 = (1 : Int32)), ∀ (b5 : Int32), ∀ (hb5 : b5 = (0 : Int32) ∨ b5 = (1 : Int32)), own_Gl p e below s (own_Q0 n0) room_1.cells room_1.slots (T0.setTop (mkF m 26 #[.val (.int x0), .val (.int x1), .val (.int x2), .val (.int x3), .val (.int b4), .val (.int b5), .unset, .unset, .unset] [])) := by
    intro b4 hb4 b5 hb5
    refine g_iconst X0.here hx (hb hby at_26) (pc' := 27) rfl (z := (2 : Int32)) rfl ?_
    refine g_newarr X0 hx hZ (ty := .int) rfl rfl w_0 e0 (hb hby at_27) (pc' := 29) rfl (n := 2) (by decide) 2 (by decide) (by decide) (cells' := 1) (slots' := 2) rfl rfl (by decide) (by decide) ?_
    intro T1 h1 b1 gb1 X1 e1 E1 V1
    have g_b1 : n0 ≤ b1 := by rw [gb1]; exact Z0
    have Z2 : n0 ≤ h1.size := Nat.le_trans Z0 E1.1
    refine g_astore X1.here hx (hb hby at_29) (pc' := 31) rfl rfl (L' := #[.val (.int x0), .val (.int x1), .val (.int x2), .val (.int x3), .val (.int b4), .val (.int b5), .val (.ref b1), .unset, .unset]) rfl ?_
    refine g_aload X1.here hx (hb hby at_31) (pc' := 33) rfl rfl rfl ?_
    refine g_iconst X1.here hx (hb hby at_33) (pc' := 34) rfl (z := (0 : Int32)) rfl ?_
    refine g_iloadN X1.here hx (hb hby at_34) (pc' := 35) rfl rfl ?_
    refine g_iastore X1 hx hZ e1 V1 ⟨by decide, by decide⟩ (hb hby at_35) (pc' := 36) rfl ?_
    intro T3 h3 X3 e3 W3 V3
    have N3 := Fr.snoc X3 N0 g_b1
    have Z4 : n0 ≤ h3.size := (by rw [W3.size]; exact Z2)
    refine g_aload X3.here hx (hb hby at_36) (pc' := 38) rfl rfl rfl ?_
    refine g_iconst X3.here hx (hb hby at_38) (pc' := 39) rfl (z := (1 : Int32)) rfl ?_
    refine g_iloadN X3.here hx (hb hby at_39) (pc' := 40) rfl rfl ?_
    refine g_iastore X3 hx hZ e3 V3 ⟨by decide, by decide⟩ (hb hby at_40) (pc' := 41) rfl ?_
    intro T5 h5 X5 e5 W5 V5
    have N5 := Fr.snoc X5 N3 g_b1
    have Z6 : n0 ≤ h5.size := (by rw [W5.size]; exact Z4)
    refine g_new X5 hx hZ hown w_1 w_2 w_3 e5 (hb hby at_41) (pc' := 44) rfl (cells' := 2) (slots' := 6) rfl rfl (by decide) (by decide) ?_
    intro T7 h7 b7 gb7 X7 e7 E7 A7 D7
    have g_b7 : n0 ≤ b7 := by rw [gb7]; exact Z6
    have lt_b1_b7 : b1 < b7 := by rw [gb7]; exact V5.lt
    have ne_b1_b7 : b1 ≠ b7 := Nat.ne_of_lt lt_b1_b7
    have Z8 : n0 ≤ h7.size := Nat.le_trans Z6 E7.1
    have F7_relation : Fld Z h7 b7 "com/example/entail/entail/rules/Program$Literal" "relation" "I" (.int (0 : Int32)) := D7 (Or.inr w_16) (ty := .int) (by decide)
    have F7_arguments : Fld Z h7 b7 "com/example/entail/entail/rules/Program$Literal" "arguments" "[I" .null := D7 (Or.inr w_18) (ty := (.array .int)) (by decide)
    have F7_data : Fld Z h7 b7 "com/example/entail/entail/rules/Program$Literal" "data" "Z" (.int (0 : Int32)) := D7 (Or.inr w_20) (ty := .boolean) (by decide)
    have F7_negated : Fld Z h7 b7 "com/example/entail/entail/rules/Program$Literal" "negated" "Z" (.int (0 : Int32)) := D7 (Or.inr w_22) (ty := .boolean) (by decide)
    refine g_dup X7.here hx (hb hby at_44) (pc' := 45) rfl rfl ?_
    refine g_iloadN X7.here hx (hb hby at_45) (pc' := 46) rfl rfl ?_
    refine g_aload X7.here hx (hb hby at_46) (pc' := 48) rfl rfl rfl ?_
    refine g_iload X7.here hx (hb hby at_48) (pc' := 50) rfl rfl ?_
    refine g_iload X7.here hx (hb hby at_50) (pc' := 52) rfl rfl ?_
    refine g_callI X7 hx hZ rfl hown w_4 w_5 w_3 w_6 (by decide) (rm1 l Z a0 hw [] b7 x0 b1 b4 b5 h7 n0 Z8 g_b7 A7 F7_relation F7_arguments F7_data F7_negated) 1 (by decide) (by decide) e7 (by rw [hml]; rfl) [(.int x0), (.ref b1), (.int b4), (.int b5)] [(.ref b7)] (lenOf pd_1 rfl) rfl rfl (Nat.le_of_eq rfl) (hb hby at_52) (pc' := 55) rfl (cells' := 2) (slots' := 6) rfl rfl (by decide) (by decide) ?_
    intro v9 T9 L9 X9 hQ9
    obtain ⟨rfl, Nq9, K9, E9, Fd9, Fn9⟩ := hQ9
    have N9 := Fr.app N5 Nq9
    have Z10 : n0 ≤ T9.heap.size := Nat.le_trans Z8 K9.1
    show own_Gl p e below s (own_Q0 n0) room_1.cells room_1.slots (T9.setTop (mkF m 55 #[.val (.int x0), .val (.int x1), .val (.int x2), .val (.int x3), .val (.int b4), .val (.int b5), .val (.ref b1), .unset, .unset] [(.ref b7)]))
    refine g_astore X9.here hx (hb hby at_55) (pc' := 57) rfl rfl (L' := #[.val (.int x0), .val (.int x1), .val (.int x2), .val (.int x3), .val (.int b4), .val (.int b5), .val (.ref b1), .val (.ref b7), .unset]) rfl ?_
    refine g_iload X9.here hx (hb hby at_57) (pc' := 59) rfl rfl ?_
    by_cases hc59 : b4 = (0 : Int32)
    · refine g_ifY X9.here hx (hb hby at_59) (by decide) (pc' := 68) (by decide) ((if0 _ _).trans (teq hc59).1) ?_
      refine g_iload X9.here hx (hb hby at_68) (pc' := 70) rfl rfl ?_
      by_cases hc70 : b5 = (0 : Int32)
      · refine g_ifY X9.here hx (hb hby at_70) (by decide) (pc' := 79) (by decide) ((if0 _ _).trans (teq hc70).1) ?_
        refine g_iconst X9.here hx (hb hby at_79) (pc' := 80) rfl (z := (1 : Int32)) rfl ?_
        refine g_istore X9.here hx (hb hby at_80) (pc' := 82) rfl (L' := #[.val (.int x0), .val (.int x1), .val (.int x2), .val (.int x3), .val (.int b4), .val (.int b5), .val (.ref b1), .val (.ref b7), .val (.int (1 : Int32))]) rfl ?_
        refine g_aload X9.here hx (hb hby at_82) (pc' := 84) rfl rfl rfl ?_
        refine g_callV X9 hx hZ hown w_23 w_24 (own_nf hZ w_26) w_26 w_25 w_3 w_27 (by decide) (rm4 l Z a0 hw [] b7 _ _ T9.heap Fd9 Fn9) 0 (by decide) (by decide) rfl E9 (by rw [hml]; rfl) [] [] (lenOf pd_2 rfl) rfl rfl (Nat.le_of_eq rfl) (hb hby at_84) (pc' := 87) rfl (cells' := 2) (slots' := 6) rfl rfl (by decide) (by decide) ?_
        intro v11 T11 L11 X11 hQ11
        obtain ⟨rfl, rfl, e11⟩ := hQ11
        rw [List.append_nil] at X11
        show own_Gl p e below s (own_Q0 n0) room_1.cells room_1.slots (T11.setTop (mkF m 87 #[.val (.int x0), .val (.int x1), .val (.int x2), .val (.int x3), .val (.int b4), .val (.int b5), .val (.ref b1), .val (.ref b7), .val (.int (1 : Int32))] [(.int (f_ipd (nar .boolean b4) (nar .boolean b5)))]))
        refine g_iload X11.here hx (hb hby at_87) (pc' := 89) rfl rfl ?_
        refine g_icN X11.here hx (hb hby at_89) (pc' := 92) rfl (teq ((own_fin b4 b5 hb4 hb5).2.2 hc59 hc70)).2 ?_
        refine g_iconst X11.here hx (hb hby at_92) (pc' := 93) rfl (z := (1 : Int32)) rfl ?_
        refine g_goto X11.here hx (hb hby at_93) (by decide) (pc' := 97) (by decide) ?_
        exact g_retN X11 hx hlk (t := .boolean) hret (by simp) (z' := (1 : Int32)) rfl (hb hby at_97) (by decide) (by decide) ⟨rfl, N9⟩
      · refine g_ifN X9.here hx (hb hby at_70) (pc' := 73) rfl ((if0 _ _).trans (feq hc70).1) ?_
        refine g_iconst X9.here hx (hb hby at_73) (pc' := 74) rfl (z := (0 : Int32)) rfl ?_
        refine g_istore X9.here hx (hb hby at_74) (pc' := 76) rfl (L' := #[.val (.int x0), .val (.int x1), .val (.int x2), .val (.int x3), .val (.int b4), .val (.int b5), .val (.ref b1), .val (.ref b7), .val (.int (0 : Int32))]) rfl ?_
        refine g_goto X9.here hx (hb hby at_76) (by decide) (pc' := 82) (by decide) ?_
        refine g_aload X9.here hx (hb hby at_82) (pc' := 84) rfl rfl rfl ?_
        refine g_callV X9 hx hZ hown w_23 w_24 (own_nf hZ w_26) w_26 w_25 w_3 w_27 (by decide) (rm4 l Z a0 hw [] b7 _ _ T9.heap Fd9 Fn9) 0 (by decide) (by decide) rfl E9 (by rw [hml]; rfl) [] [] (lenOf pd_2 rfl) rfl rfl (Nat.le_of_eq rfl) (hb hby at_84) (pc' := 87) rfl (cells' := 2) (slots' := 6) rfl rfl (by decide) (by decide) ?_
        intro v12 T12 L12 X12 hQ12
        obtain ⟨rfl, rfl, e12⟩ := hQ12
        rw [List.append_nil] at X12
        show own_Gl p e below s (own_Q0 n0) room_1.cells room_1.slots (T12.setTop (mkF m 87 #[.val (.int x0), .val (.int x1), .val (.int x2), .val (.int x3), .val (.int b4), .val (.int b5), .val (.ref b1), .val (.ref b7), .val (.int (0 : Int32))] [(.int (f_ipd (nar .boolean b4) (nar .boolean b5)))]))
        refine g_iload X12.here hx (hb hby at_87) (pc' := 89) rfl rfl ?_
        refine g_icN X12.here hx (hb hby at_89) (pc' := 92) rfl (teq ((own_fin b4 b5 hb4 hb5).2.1 hc70)).2 ?_
        refine g_iconst X12.here hx (hb hby at_92) (pc' := 93) rfl (z := (1 : Int32)) rfl ?_
        refine g_goto X12.here hx (hb hby at_93) (by decide) (pc' := 97) (by decide) ?_
        exact g_retN X12 hx hlk (t := .boolean) hret (by simp) (z' := (1 : Int32)) rfl (hb hby at_97) (by decide) (by decide) ⟨rfl, N9⟩
    · refine g_ifN X9.here hx (hb hby at_59) (pc' := 62) rfl ((if0 _ _).trans (feq hc59).1) ?_
      refine g_iconst X9.here hx (hb hby at_62) (pc' := 63) rfl (z := (0 : Int32)) rfl ?_
      refine g_istore X9.here hx (hb hby at_63) (pc' := 65) rfl (L' := #[.val (.int x0), .val (.int x1), .val (.int x2), .val (.int x3), .val (.int b4), .val (.int b5), .val (.ref b1), .val (.ref b7), .val (.int (0 : Int32))]) rfl ?_
      refine g_goto X9.here hx (hb hby at_65) (by decide) (pc' := 82) (by decide) ?_
      refine g_aload X9.here hx (hb hby at_82) (pc' := 84) rfl rfl rfl ?_
      refine g_callV X9 hx hZ hown w_23 w_24 (own_nf hZ w_26) w_26 w_25 w_3 w_27 (by decide) (rm4 l Z a0 hw [] b7 _ _ T9.heap Fd9 Fn9) 0 (by decide) (by decide) rfl E9 (by rw [hml]; rfl) [] [] (lenOf pd_2 rfl) rfl rfl (Nat.le_of_eq rfl) (hb hby at_84) (pc' := 87) rfl (cells' := 2) (slots' := 6) rfl rfl (by decide) (by decide) ?_
      intro v13 T13 L13 X13 hQ13
      obtain ⟨rfl, rfl, e13⟩ := hQ13
      rw [List.append_nil] at X13
      show own_Gl p e below s (own_Q0 n0) room_1.cells room_1.slots (T13.setTop (mkF m 87 #[.val (.int x0), .val (.int x1), .val (.int x2), .val (.int x3), .val (.int b4), .val (.int b5), .val (.ref b1), .val (.ref b7), .val (.int (0 : Int32))] [(.int (f_ipd (nar .boolean b4) (nar .boolean b5)))]))
      refine g_iload X13.here hx (hb hby at_87) (pc' := 89) rfl rfl ?_
      refine g_icN X13.here hx (hb hby at_89) (pc' := 92) rfl (teq ((own_fin b4 b5 hb4 hb5).1 hc59)).2 ?_
      refine g_iconst X13.here hx (hb hby at_92) (pc' := 93) rfl (z := (1 : Int32)) rfl ?_
      refine g_goto X13.here hx (hb hby at_93) (by decide) (pc' := 97) (by decide) ?_
      exact g_retN X13 hx hlk (t := .boolean) hret (by simp) (z' := (1 : Int32)) rfl (hb hby at_97) (by decide) (by decide) ⟨rfl, N9⟩
  have k13 : ∀ (b4 : Int32), ∀ (hb4 : b4 = (0 : Int32) ∨ b4 = (1 : Int32)), own_Gl p e below s (own_Q0 n0) room_1.cells room_1.slots (T0.setTop (mkF m 13 #[.val (.int x0), .val (.int x1), .val (.int x2), .val (.int x3), .val (.int b4), .unset, .unset, .unset, .unset] [])) := by
    intro b4 hb4
    refine g_iloadN X0.here hx (hb hby at_13) (pc' := 14) rfl rfl ?_
    refine g_iconst X0.here hx (hb hby at_14) (pc' := 15) rfl (z := (2 : Int32)) rfl ?_
    refine g_iand X0.here hx (hb hby at_15) (pc' := 16) rfl ?_
    by_cases hc16 : (x3 &&& (2 : Int32)) = (0 : Int32)
    · refine g_ifY X0.here hx (hb hby at_16) (by decide) (pc' := 23) (by decide) ((if0 _ _).trans (teq hc16).1) ?_
      refine g_iconst X0.here hx (hb hby at_23) (pc' := 24) rfl (z := (0 : Int32)) rfl ?_
      refine g_istore X0.here hx (hb hby at_24) (pc' := 26) rfl (L' := #[.val (.int x0), .val (.int x1), .val (.int x2), .val (.int x3), .val (.int b4), .val (.int (0 : Int32)), .unset, .unset, .unset]) rfl ?_
      exact k26 b4 hb4 _ (Or.inl rfl)
    · refine g_ifN X0.here hx (hb hby at_16) (pc' := 19) rfl ((if0 _ _).trans (feq hc16).1) ?_
      refine g_iconst X0.here hx (hb hby at_19) (pc' := 20) rfl (z := (1 : Int32)) rfl ?_
      refine g_goto X0.here hx (hb hby at_20) (by decide) (pc' := 24) (by decide) ?_
      refine g_istore X0.here hx (hb hby at_24) (pc' := 26) rfl (L' := #[.val (.int x0), .val (.int x1), .val (.int x2), .val (.int x3), .val (.int b4), .val (.int (1 : Int32)), .unset, .unset, .unset]) rfl ?_
      exact k26 b4 hb4 _ (Or.inr rfl)
  refine g_iloadN X0.here hx (hb hby at_0) (pc' := 1) rfl rfl ?_
  refine g_iconst X0.here hx (hb hby at_1) (pc' := 2) rfl (z := (1 : Int32)) rfl ?_
  refine g_iand X0.here hx (hb hby at_2) (pc' := 3) rfl ?_
  by_cases hc3 : (x3 &&& (1 : Int32)) = (0 : Int32)
  · refine g_ifY X0.here hx (hb hby at_3) (by decide) (pc' := 10) (by decide) ((if0 _ _).trans (teq hc3).1) ?_
    refine g_iconst X0.here hx (hb hby at_10) (pc' := 11) rfl (z := (0 : Int32)) rfl ?_
    refine g_istore X0.here hx (hb hby at_11) (pc' := 13) rfl (L' := #[.val (.int x0), .val (.int x1), .val (.int x2), .val (.int x3), .val (.int (0 : Int32)), .unset, .unset, .unset, .unset]) rfl ?_
    exact k13 _ (Or.inl rfl)
  · refine g_ifN X0.here hx (hb hby at_3) (pc' := 6) rfl ((if0 _ _).trans (feq hc3).1) ?_
    refine g_iconst X0.here hx (hb hby at_6) (pc' := 7) rfl (z := (1 : Int32)) rfl ?_
    refine g_goto X0.here hx (hb hby at_7) (by decide) (pc' := 11) (by decide) ?_
    refine g_istore X0.here hx (hb hby at_11) (pc' := 13) rfl (L' := #[.val (.int x0), .val (.int x1), .val (.int x2), .val (.int x3), .val (.int (1 : Int32)), .unset, .unset, .unset, .unset]) rfl ?_
    exact k13 _ (Or.inr rfl)
set_option maxRecDepth 65536 in
set_option maxHeartbeats 40000000 in
theorem comes_1 {Post : Tables → Env → Array Value → State → Outcome → State → Prop} (hpost : ∀ tb e args s v u, (limb_1_1.after args s (.returned v) u = true ∧ limb_1_2.after args s (.returned v) u = true ∧ True) → FrameEnd s (.returned v) u (Jvm.fieldLocs frame_1_writes args s ++ Jvm.arrayLocs frame_1_arrays args s ++ Jvm.staticLocs frame_1_statics s) 16 128 → Post tb e args s (.returned v) u) :
    ArmFor flags0 classFile x code maxLocals ret World_1 tables_1 room_1 Calls_1 rest_1 Pre_1 Post := by
  intro l hfl _ _ p e ha hc hk s m args below hf hA hF happ hP
  obtain ⟨hcalls, hrest, hpre⟩ := hP
  obtain ⟨-, -, -, hnamed, -, -, -, hat⟩ := (Spec.applies_iff hf).mp happ
  obtain ⟨hg, hn⟩ := and_e (Cond.before_iff.mp (show (Jvm.Cond.and given_1 narrow_1).before args s = true from hpre))
  obtain ⟨g1, g2⟩ := and_e hg
  obtain ⟨g3, g4⟩ := and_e g2
  obtain ⟨g5, g6⟩ := and_e g4
  obtain ⟨g7, g8⟩ := and_e g6
  obtain ⟨w0, w1, w2, w3, rfl⟩ : ∃ w0 w1 w2 w3 : Value, args = #[w0, w1, w2, w3] := by
    have hs : args.size = 4 := by simpa [Cond.value, given_1] using g1
    obtain ⟨L⟩ := args
    match L, hs with
    | [w0, w1, w2, w3], _ => exact ⟨w0, w1, w2, w3, rfl⟩
  have hw := fun d (hd : d ∈ tables_1) => atoms_spec (ws := Jvm.Cond.code x code maxLocals ret :: tables_1) hat d (List.mem_cons_of_mem _ hd)
  obtain ⟨i0, ei0⟩ := is_v g3
  obtain rfl : w0 = (.int i0) := Option.some.inj ei0
  obtain ⟨i1, ei1⟩ := is_v g5
  obtain rfl : w1 = (.int i1) := Option.some.inj ei1
  obtain ⟨i2, ei2⟩ := is_v g7
  obtain rfl : w2 = (.int i2) := Option.some.inj ei2
  obtain ⟨i3, ei3⟩ := is_v g8
  obtain rfl : w3 = (.int i3) := Option.some.inj ei3
  obtain ⟨n, o, h1, h2, h3, _, L, rfl, ⟨rfl, N⟩, hq⟩ := rm0 l s _ hw tables_1 i0 i1 i2 i3 s.heap s.heap.size (Nat.le_refl _) p e ha hc hk s m _ below hf ((Spec.applies_iff_loose hf).mp happ).1 ⟨rfl, State.Warmed39.refl s, rfl⟩ trivial
  refine ⟨n, _, h1, h2, h3, hpost _ _ _ _ _ _ ⟨Cond.after_iff.mpr rfl, Cond.after_iff.mpr (eq_i res_at (Term.int_eval (1)) rfl), trivial⟩ ⟨hq.1, hq.2.1, (hq.2.2.sift fun y hy => Or.inr (N y hy)).mono (by decide) (by decide)⟩⟩
theorem main_1_1 : Claimed_1_1 := comes_1 fun _ _ _ _ _ _ h hF => ⟨h.1, hF⟩
theorem main_1_2 : Claimed_1_2 := comes_1 fun _ _ _ _ _ _ h hF => ⟨h.2.1, hF⟩
end Jvm.Pilot.@@N@@
namespace Jvm.Pilot.@@N@@
open Jvm Jvm.ClassFile Sem Op Lib Jvm.Free Jvm.Stand Jvm.Pilot.@@N@@.Jvm.D
/-! MADE BY PROGRAM (witnessworld.py) out of the Statement's table words and the real class files: 10 classes; the members and pool entries that the words name. The judged class is class 1, her method 1. -/
namespace start1
open Jvm.ClassFile
def u (s : String) : CpInfo := .utf8 (stringToUtf16 s)
/-- a pool by its gaps: so many unusable entries, then the entry; so many at the end -/
def gap : Nat → List CpInfo → List CpInfo
  | 0, r => r
  | n + 1, r => .unusable :: gap n r
def poolList (es : List (Nat × CpInfo)) (last : Nat) : List CpInfo := es.foldr (fun e r => gap e.1 (e.2 :: r)) (gap last [])
def pool (es : List (Nat × CpInfo)) (last : Nat) : Array CpInfo := ⟨poolList es last⟩
def fileOf (pool : Array CpInfo) (this : Nat) (attrs : Array Attribute := #[]) (ms : Array MethodInfo := #[]) (fl : Nat := 33) (sup : Nat := 0) (ifs : Array Nat := #[]) (fds : Array FieldInfo := #[]) : ClassFile where
  minorVersion := 0
  majorVersion := 65
  constantPool := pool
  accessFlags := fl
  thisClass := this
  superClass := sup
  interfaces := ifs
  fields := fds
  methods := ms
  attributes := attrs
def plain (name : String) (sup : Option ClassId) : Class where
  name := name
  kind := .ordinary
  loader := none
  accessFlags := 33
  super := sup
  interfaces := #[]
  cf := none
  fields := #[]
  methods := #[]
  instanceTypes := #[]
  staticTypes := #[]
  resolved := #[]
  callSites := []
  init := .initialized
  statics := none
  mirror := none

def pool0 : Array CpInfo := pool [(5, u "<init>"), (0, u "()V"), (1, .class_ 10), (1, u "java/lang/Object")] 113

def k0c0 : Code := { maxStack := 0, maxLocals := 1, code := object_method_1_code, exceptionTable := #[], attributes := #[] }
def k0m0 : Method := { name := "<init>", desc := "()V", sig := { parameters := [], returnType := none }, accessFlags := 1, code := some k0c0 }
/-- java/lang/Object -/
def k0 : Class := { plain "java/lang/Object" none with
  accessFlags := 33
  interfaces := #[]
  cf := some (fileOf pool0 8 #[] #[{ accessFlags := 1, nameIndex := 5, descriptorIndex := 6, attributes := #[] }] 33 0 #[] #[])
  fields := #[]
  methods := #[k0m0]
  instanceTypes := #[]
  staticTypes := #[]
  resolved := Array.replicate 124 none
  statics := none }

def pool1 : Array CpInfo := pool [(2, .class_ 4), (1, u "java/lang/Object"), (0, u "<init>"), (0, u "()V"), (0, .class_ 8), (0, u "com/example/entail/entail/rules/Program$Literal"), (0, .methodref 7 10), (0, .nameAndType 5 11), (0, u "(I[IZZ)V"), (0, .methodref 7 13), (0, .nameAndType 14 15), (0, u "isPositiveDerived"), (0, u "()Z"), (0, .class_ 17), (0, u "com/example/entail/entail/rules/LiteralIsPositiveDerivedPinLaw"), (2, u "law"), (0, u "(IIII)Z")] 9

def k1m0 : Method := { name := "<init>", desc := "()V", sig := { parameters := [], returnType := none }, accessFlags := 1, code := none }
def k1c1 : Code := { maxStack := 6, maxLocals := 9, code := code, exceptionTable := #[], attributes := #[] }
def k1m1 : Method := { name := "law", desc := "(IIII)Z", sig := { parameters := [.int, .int, .int, .int], returnType := some .boolean }, accessFlags := 9, code := some k1c1 }
/-- com/example/entail/entail/rules/LiteralIsPositiveDerivedPinLaw -/
def k1 : Class := { plain "com/example/entail/entail/rules/LiteralIsPositiveDerivedPinLaw" (some 0) with
  accessFlags := 49
  interfaces := #[]
  cf := some (fileOf pool1 16 #[] #[{ accessFlags := 1, nameIndex := 5, descriptorIndex := 6, attributes := #[] }, { accessFlags := 9, nameIndex := 20, descriptorIndex := 21, attributes := #[] }] 49 2 #[] #[])
  fields := #[]
  methods := #[k1m0, k1m1]
  instanceTypes := #[]
  staticTypes := #[]
  resolved := Array.replicate 31 none
  statics := none }

def pool2 : Array CpInfo := pool [(1, .methodref 2 3), (0, .class_ 4), (0, .nameAndType 5 6), (0, u "java/lang/Object"), (0, u "<init>"), (0, u "()V"), (0, .class_ 8), (0, u "java/lang/Record")] 13

def k2c0 : Code := { maxStack := 1, maxLocals := 1, code := jdk_30_method_1_code, exceptionTable := #[], attributes := #[] }
def k2m0 : Method := { name := "<init>", desc := "()V", sig := { parameters := [], returnType := none }, accessFlags := 4, code := some k2c0 }
/-- java/lang/Record -/
def k2 : Class := { plain "java/lang/Record" (some 0) with
  accessFlags := 1057
  interfaces := #[]
  cf := some (fileOf pool2 7 #[] #[{ accessFlags := 4, nameIndex := 5, descriptorIndex := 6, attributes := #[] }] 1057 2 #[] #[])
  fields := #[]
  methods := #[k2m0]
  instanceTypes := #[]
  staticTypes := #[]
  resolved := Array.replicate 22 none
  statics := none }

def pool3 : Array CpInfo := pool [(1, .methodref 2 3), (0, .class_ 4), (0, .nameAndType 5 6), (0, u "java/lang/Record"), (0, u "<init>"), (0, u "()V"), (0, .fieldref 8 9), (0, .class_ 10), (0, .nameAndType 11 12), (0, u "com/example/entail/entail/rules/Program$Literal"), (0, u "relation"), (0, u "I"), (0, .fieldref 8 14), (0, .nameAndType 15 16), (0, u "arguments"), (0, u "[I"), (0, .fieldref 8 18), (0, .nameAndType 19 20), (0, u "data"), (0, u "Z"), (0, .fieldref 8 22), (0, .nameAndType 23 20), (0, u "negated"), (12, u "(I[IZZ)V"), (5, u "isPositiveDerived"), (0, u "()Z"), (8, .class_ 53), (0, u "com/example/entail/entail/rules/Program")] 22

def k3c0 : Code := { maxStack := 2, maxLocals := 5, code := prog_67_method_1_code, exceptionTable := #[], attributes := #[] }
def k3m0 : Method := { name := "<init>", desc := "(I[IZZ)V", sig := { parameters := [.int, (.array .int), .boolean, .boolean], returnType := none }, accessFlags := 0, code := some k3c0 }
def k3c1 : Code := { maxStack := 1, maxLocals := 1, code := prog_67_method_3_code, exceptionTable := #[], attributes := #[] }
def k3m1 : Method := { name := "isPositiveDerived", desc := "()Z", sig := { parameters := [], returnType := some .boolean }, accessFlags := 0, code := some k3c1 }
/-- com/example/entail/entail/rules/Program$Literal -/
def k3 : Class := { plain "com/example/entail/entail/rules/Program$Literal" (some 2) with
  accessFlags := 48
  interfaces := #[]
  cf := some (fileOf pool3 8 #[.nestHost 52] #[{ accessFlags := 0, nameIndex := 5, descriptorIndex := 36, attributes := #[] }, { accessFlags := 0, nameIndex := 42, descriptorIndex := 43, attributes := #[] }] 48 2 #[] #[{ accessFlags := 18, nameIndex := 11, descriptorIndex := 12, attributes := #[] }, { accessFlags := 18, nameIndex := 15, descriptorIndex := 16, attributes := #[] }, { accessFlags := 18, nameIndex := 19, descriptorIndex := 20, attributes := #[] }, { accessFlags := 18, nameIndex := 23, descriptorIndex := 20, attributes := #[] }])
  fields := #[{ name := "relation", type := .int, accessFlags := 18, slot := 0, constantValue := 0 }, { name := "arguments", type := (.array .int), accessFlags := 18, slot := 1, constantValue := 0 }, { name := "data", type := .boolean, accessFlags := 18, slot := 2, constantValue := 0 }, { name := "negated", type := .boolean, accessFlags := 18, slot := 3, constantValue := 0 }]
  methods := #[k3m0, k3m1]
  instanceTypes := #[.int, (.array .int), .boolean, .boolean]
  staticTypes := #[]
  resolved := Array.replicate 76 none
  statics := none }

def pool4 : Array CpInfo := pool [(1, u "java/lang/Cloneable"), (0, .class_ 1), (0, u "java/lang/Object"), (0, .class_ 3)] 3

/-- java/lang/Cloneable -/
def k4 : Class := { plain "java/lang/Cloneable" (some 0) with
  accessFlags := 1537
  interfaces := #[]
  cf := some (fileOf pool4 2 #[] #[] 1537 4 #[] #[])
  fields := #[]
  methods := #[]
  instanceTypes := #[]
  staticTypes := #[]
  resolved := Array.replicate 8 none
  statics := none }

def pool5 : Array CpInfo := pool [(1, u "java/io/Serializable"), (0, .class_ 1), (0, u "java/lang/Object"), (0, .class_ 3)] 3

/-- java/io/Serializable -/
def k5 : Class := { plain "java/io/Serializable" (some 0) with
  accessFlags := 1537
  interfaces := #[]
  cf := some (fileOf pool5 2 #[] #[] 1537 4 #[] #[])
  fields := #[]
  methods := #[]
  instanceTypes := #[]
  staticTypes := #[]
  resolved := Array.replicate 8 none
  statics := none }

/-- the primitive byte -/
def k6 : Class := { plain "byte" none with kind := .primitive 'B', accessFlags := 0x411 }
/-- [B -/
def k7 : Class := { plain "[B" (some 0) with kind := .array 6 .byte, interfaces := #[4, 5], accessFlags := 1041 }

/-- the primitive int -/
def k8 : Class := { plain "int" none with kind := .primitive 'I', accessFlags := 0x411 }
/-- [I -/
def k9 : Class := { plain "[I" (some 0) with kind := .array 8 .int, interfaces := #[4, 5], accessFlags := 1041 }

def heap : Heap := #[]
def classes : Array Class := #[k0, k1, k2, k3, k4, k5, k6, k7, k8, k9]
def interned : List (Array UInt16 × Addr) := []
def slotsUsed : Nat := 0
def theMethod : MethodId := ⟨1, 1⟩
def args0 : Array Value := #[.int 5, .int 6, .int 3, .int 1]
def aboutOver (below : List Frame) : State where
  vm := { classes := classes, interned := interned.toArray }
  heap := heap
  slotsUsed := slotsUsed
  threads := #[{ frames := .invoking theMethod args0 :: below }]
def below0 : List Frame := [.native { method := ⟨0, 0⟩, args := #[] }]
def about1 : State := aboutOver below0
def p0 : Program := .bare "" "" ""
def e0 : Env := launch0.env 0 0 0
theorem w_frames : about1.frames = Frame.invoking theMethod args0 :: below0 := rfl
set_option maxRecDepth 65536 in
theorem w_args : argsFit about1.vm theMethod args0 = true := by decide +kernel
set_option maxRecDepth 65536 in
theorem w_heap : heapFits about1 = true := by decide +kernel
set_option maxRecDepth 65536 in
theorem w_runnable : about1.curStatus? = some .runnable := by decide +kernel
set_option maxRecDepth 65536 in
theorem w_alone : about1.alone = true := by decide +kernel
set_option maxRecDepth 65536 in
theorem w_named : about1.methodNamed? x = some theMethod := by decide +kernel
set_option maxRecDepth 65536 in
theorem w_hears : about1.hears theMethod below0 = true := by decide +kernel
set_option maxRecDepth 65536 in
theorem w_ripe : about1.ripe theMethod args0 below0 = true := by decide +kernel
theorem w_running : about1.status = .running := rfl
set_option maxRecDepth 65536 in
theorem w_room : about1.hasRoom e0.platform room_1 = true :=
  launch0.hasRoom_least _ room_1 (by decide +kernel) (by decide +kernel) (by decide +kernel) (by decide +kernel) (by decide +kernel) (by decide +kernel)
theorem allAtoms_all (ts : List Jvm.Cond) (a : Array Jvm.Value) (st : Jvm.State) : (allAtoms ts).before a st = ts.all (fun c => c.before a st) := by
  induction ts with
  | nil => rfl
  | cons c t ih =>
    show (Jvm.Cond.and c (allAtoms t)).before a st = _
    rw [Jvm.Cond.before_and, ih, List.all_cons]
def words1 : List Jvm.Cond := Jvm.Cond.code x code maxLocals ret :: tables_1
/-- a 'code' word, met by the world's own term for the bytes: nothing is compared byte by byte -/
theorem code_word {y : MethodName} {bytes : ByteArray} {mx : Nat} {rt : Option FieldType} {a : Array Value} {s : State} {m : MethodId} {meth : Method} {c : Code} (h1 : s.methodNamed? y = some m) (h2 : s.vm.method? m = some meth) (h3 : meth.code = some c) (h4 : c.code = bytes)
    (h5 : (c.maxLocals == mx && c.exceptionTable.isEmpty && decide (c.maxStack ≤ mostOperands) && decide (meth.sig.returnType = rt) && !meth.locks && decide (parseMethodDescriptor y.desc = some meth.sig)) = true) : (Jvm.Cond.code y bytes mx rt).before a s = true := by
  simp only [Bool.and_eq_true, beq_iff_eq, Bool.not_eq_true', decide_eq_true_eq] at h5
  obtain ⟨⟨⟨⟨⟨g1, g2⟩, g3⟩, g4⟩, g5⟩, g6⟩ := h5
  simp [Cond.before, Cond.holds, Cond.value, h1, h2, h3, h4, g1, g2, g3, g4, g5, g6]
def isCode : Jvm.Cond → Bool
  | .code _ _ _ _ => true
  | _ => false
theorem all_split {L : List Jvm.Cond} {P : Jvm.Cond → Bool} (h1 : L.all (fun c => isCode c || P c) = true) (h2 : ∀ c ∈ L.filter isCode, P c = true) : L.all P = true := by
  refine List.all_eq_true.mpr fun c hc => ?_
  have h := List.all_eq_true.mp h1 c hc
  rcases Bool.eq_false_or_eq_true (isCode c) with hi | hi
  · exact h2 c (List.mem_filter.mpr ⟨hc, hi⟩)
  · simpa [hi] using h
set_option maxRecDepth 65536 in
theorem w_c0 : (Jvm.Cond.code x code maxLocals ret).before args0 about1 = true := code_word (m := ⟨1, 1⟩) (meth := k1m1) (c := k1c1) (by decide +kernel) rfl rfl rfl (by decide +kernel)
set_option maxRecDepth 65536 in
theorem w_c1 : (Jvm.Cond.code ({ cls := "com/example/entail/entail/rules/Program$Literal", name := "<init>", desc := "(I[IZZ)V" } : Jvm.MethodName) prog_67_method_1_code (5 : Nat) (Option.none : Option Jvm.ClassFile.FieldType)).before args0 about1 = true := code_word (m := ⟨3, 0⟩) (meth := k3m0) (c := k3c0) (by decide +kernel) rfl rfl rfl (by decide +kernel)
set_option maxRecDepth 65536 in
theorem w_c2 : (Jvm.Cond.code ({ cls := "java/lang/Record", name := "<init>", desc := "()V" } : Jvm.MethodName) jdk_30_method_1_code (1 : Nat) (Option.none : Option Jvm.ClassFile.FieldType)).before args0 about1 = true := code_word (m := ⟨2, 0⟩) (meth := k2m0) (c := k2c0) (by decide +kernel) rfl rfl rfl (by decide +kernel)
set_option maxRecDepth 65536 in
theorem w_c3 : (Jvm.Cond.code ({ cls := "java/lang/Object", name := "<init>", desc := "()V" } : Jvm.MethodName) object_method_1_code (1 : Nat) (Option.none : Option Jvm.ClassFile.FieldType)).before args0 about1 = true := code_word (m := ⟨0, 0⟩) (meth := k0m0) (c := k0c0) (by decide +kernel) rfl rfl rfl (by decide +kernel)
set_option maxRecDepth 65536 in
theorem w_c4 : (Jvm.Cond.code ({ cls := "com/example/entail/entail/rules/Program$Literal", name := "isPositiveDerived", desc := "()Z" } : Jvm.MethodName) prog_67_method_3_code (1 : Nat) (Option.some Jvm.ClassFile.FieldType.boolean)).before args0 about1 = true := code_word (m := ⟨3, 1⟩) (meth := k3m1) (c := k3c1) (by decide +kernel) rfl rfl rfl (by decide +kernel)
def codes1 : List Jvm.Cond := [Jvm.Cond.code x code maxLocals ret, Jvm.Cond.code ({ cls := "com/example/entail/entail/rules/Program$Literal", name := "<init>", desc := "(I[IZZ)V" } : Jvm.MethodName) prog_67_method_1_code (5 : Nat) (Option.none : Option Jvm.ClassFile.FieldType), Jvm.Cond.code ({ cls := "java/lang/Record", name := "<init>", desc := "()V" } : Jvm.MethodName) jdk_30_method_1_code (1 : Nat) (Option.none : Option Jvm.ClassFile.FieldType), Jvm.Cond.code ({ cls := "java/lang/Object", name := "<init>", desc := "()V" } : Jvm.MethodName) object_method_1_code (1 : Nat) (Option.none : Option Jvm.ClassFile.FieldType), Jvm.Cond.code ({ cls := "com/example/entail/entail/rules/Program$Literal", name := "isPositiveDerived", desc := "()Z" } : Jvm.MethodName) prog_67_method_3_code (1 : Nat) (Option.some Jvm.ClassFile.FieldType.boolean)]
set_option maxRecDepth 65536 in
theorem codes_eq : words1.filter isCode = codes1 := rfl
theorem w_codes : ∀ c ∈ words1.filter isCode, c.before args0 about1 = true := by
  rw [codes_eq]
  intro c hc
  simp only [codes1, List.mem_cons, List.not_mem_nil, or_false] at hc
  rcases hc with rfl | rfl | rfl | rfl | rfl
  · exact w_c0
  · exact w_c1
  · exact w_c2
  · exact w_c3
  · exact w_c4
set_option maxRecDepth 65536 in
theorem w_t1 : (words1.take 24).all (fun c => isCode c || c.before args0 about1) = true := by decide +kernel
set_option maxRecDepth 65536 in
theorem w_t2 : (words1.drop 24).all (fun c => isCode c || c.before args0 about1) = true := by decide +kernel
theorem w_tables : (allAtoms (Jvm.Cond.code x code maxLocals ret :: tables_1)).before args0 about1 = true := by
  rw [allAtoms_all]
  show words1.all (fun c => c.before args0 about1) = true
  refine all_split ?_ w_codes
  rw [← List.take_append_drop 24 words1, List.all_append, w_t1, w_t2]
  rfl
set_option maxRecDepth 65536 in
theorem w_case : (Jvm.Cond.and given_1 narrow_1).before args0 about1 = true := by decide +kernel
theorem w_applies : (headSpec (Jvm.Cond.code x code maxLocals ret :: tables_1) room_1).applies x e0.platform about1 = true :=
  (Spec.applies_iff w_frames).mpr ⟨w_running, w_runnable, w_alone, w_named, w_hears, w_ripe, w_room, w_tables⟩
theorem atStart : AtStart classFile x code maxLocals ret World_1 tables_1 room_1 Calls_1 rest_1 Pre_1 launch0 p0 e0 about1 theMethod args0 below0 :=
  ⟨lists_1, trivial, launch0.admits_env _ _ _, launch0.least_env, fairChoices_fair.cas, fairChoices_fair.clock, w_frames, w_args, w_heap, w_applies, trivial, trivial, w_case⟩
end start1
theorem witness_1 : WitnessClaimed_1 := ⟨start1.p0, start1.e0, start1.about1, start1.theMethod, start1.args0, start1.below0, start1.atStart⟩
end Jvm.Pilot.@@N@@
