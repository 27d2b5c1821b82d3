import JvmDerived
import JvmDerived.Pilot.@@N@@Statement
import JvmDerived.Pilot.@@N@@Code
set_option linter.unusedVariables false
set_option linter.unusedSimpArgs false
namespace Jvm.Pilot.@@N@@
open Jvm Jvm.ClassFile Sem Op Lib Jvm.Free Jvm.Stand Jvm.LawKit Jvm.RoadKit Bundle Jvm.Pilot.@@N@@.Jvm.D
set_option maxRecDepth 4000
section OwnKit
/-- the goal of a walk: from S the run comes to a return that Q allows, and nothing old is touched -/
def own_Gl (p : Program) (e : Env) (below : List Frame) (s : State) (Q : Option Value → Heap → List Loc → Prop) (kc ks : Nat) (S : State) : Prop :=
  ∃ s₂ o, Steps p.tables e below S s₂ ∧ s₂.status = .running ∧ Ended s₂ below o ∧ ∃ v L, o = .returned v ∧ Q v s₂.heap L ∧ FrameEnd s o s₂ L kc ks
variable {p : Program} {l : Launch} {e : Env} {R : Room} {s : State} {m : MethodId} {args : Array Value} {below : List Frame} {meth : Method} {c : Code} {T : State} {locs : List Loc} {cells slots : Nat} {Z : State} {a0 : Array Value} {h : Heap} {Q : Option Value → Heap → List Loc → Prop} {kc ks : Nat} {pc pc' : Nat} {L L' : Array Slot} {S : List Value}
theorem own_Gl.go {S S' : State} (h : own_Gl p e below s Q kc ks S') (st : ∀ t, Steps p.tables e below S' t → Steps p.tables e below S t) : own_Gl p e below s Q kc ks S := by
  obtain ⟨s₂, o, h1, h2⟩ := h
  exact ⟨s₂, o, st _ h1, h2⟩
/-- what a method leaves that writes nothing and makes nothing -/
def own_Pure (w : Option Value) (h0 : Heap) (v : Option Value) (h : Heap) (L : List Loc) : Prop := v = w ∧ L = [] ∧ h = h0
theorem own_body {l : Launch} {Z : State} {y : MethodName} {bytes : ByteArray} {maxL : Nat} {ret : Option FieldType} {ws : List Jvm.Cond} {rm : Room} {as' : Array Value} {h0 : Heap} {Q : Option Value → Heap → List Loc → Prop} {L0 : Array Slot} {own : String}
    (hpl : plainName y.cls = true) (hyc : y.cls = own) (hef : ∀ m, entryFrame m as' maxL = mkF m 0 L0 [])
    (body : ∀ p e s m below meth c T, p.tables.exec = Jvm.exec → c.code = bytes → c.maxLocals = maxL → s.vm.findClass own = some m.cls → meth.name = y.name → meth.locks = false → meth.sig.returnType = ret → Z.Warmed39 s.vm → Stand p l e rm s m as' below meth c T [] 0 0 → T.heap = h0 →
      own_Gl p e below s Q rm.cells rm.slots (T.setTop (mkF m 0 L0 []))) :
    MetFree l y (head1 (Jvm.Cond.code y bytes maxL ret :: ws) rm) (fun a U => a = as' ∧ Z.Warmed39 U.vm ∧ U.heap = h0) (fun _ _ _ _ _ => True) (fun _ U o U' => ∃ v L, o = .returned v ∧ Q v U'.heap L ∧ FrameEnd U o U' L rm.cells rm.slots) := by
  refine MetFree.of_bodySF (plainFor_of_name hpl) hisR ?_
  intro p e s m args below meth c s₁ Bd hml0 hP hK
  obtain ⟨rfl, hZ, hh⟩ := hP
  have hown : s.vm.findClass y.cls = some m.cls := findClass_of_methodNamed Bd.named
  have hnm := (name_of_methodNamed Bd.named Bd.method).1
  have X0 : Stand p l e rm s m _ below meth c s₁ [] 0 0 := Stand.of_body Bd
  have e0 : s₁.heap = h0 := by rw [← hh, Bd.state]; rfl
  obtain ⟨s₂, o, h1, h2⟩ := body p e s m below meth c s₁ Bd.exec Bd.bytes hml0 (hyc ▸ hown) hnm Bd.notSynchronized Bd.returns hZ X0 e0
  exact ⟨s₂, o, castTop (hef m) h1, h2⟩
theorem own_ret (X : Stand p l e R s m args below meth c T locs cells slots) (hlk : meth.locks = false) {v : Option Value} (hv : meth.sig.returnType = none → v = none) (hQ : Q v T.heap locs) (hc : cells ≤ kc) (hs : slots ≤ ks) {S : State}
    (st : ∀ fs, (∀ (f : JFrame) (acts : List Action), f.method = m → f.locked = none → f.entered = [] → (doReturn e (T.setTop f) acts v).1 = T.setFrames fs) → Steps p.tables e below S (T.setFrames fs)) : own_Gl p e below s Q kc ks S := by
  obtain ⟨fs, hr, hrun, hended, hW, hsame⟩ := X.leave (v := v) hv hlk
  exact ⟨_, _, st fs hr, hrun, hended, v, locs, rfl, hQ, ⟨_, rfl⟩, hW, hsame.mono hc hs⟩
theorem g_retI (X : Stand p l e R s m args below meth c T locs cells slots) (hx : p.tables.exec = Jvm.exec) (hlk : meth.locks = false) {z : Int32} (hret : meth.sig.returnType = some .int) (hd : decode c.code pc = .ok (.ireturn, 1)) (hc : cells ≤ kc) (hs : slots ≤ ks) (hQ : Q (some (.int z)) T.heap locs) :
    own_Gl p e below s Q kc ks (T.setTop (mkF m pc L (.int z :: S))) :=
  own_ret X hlk (fun h => by rw [hret] at h; cases h) hQ hc hs fun fs hr => retOut X hx hret rfl (Or.inl ⟨rfl, Or.inl rfl, z, rfl⟩) hd hr
theorem g_retN (X : Stand p l e R s m args below meth c T locs cells slots) (hx : p.tables.exec = Jvm.exec) (hlk : meth.locks = false) {z z' : Int32} {t : FieldType} (hret : meth.sig.returnType = some t) (ht : t = .boolean ∨ t = .byte ∨ t = .char ∨ t = .short) (hz : nar t z = z') (hd : decode c.code pc = .ok (.ireturn, 1)) (hc : cells ≤ kc) (hs : slots ≤ ks) (hQ : Q (some (.int z')) T.heap locs) :
    own_Gl p e below s Q kc ks (T.setTop (mkF m pc L (.int z :: S))) := by
  subst hz
  exact own_ret X hlk (fun h => by rw [hret] at h; cases h) hQ hc hs fun fs hr => retN X hx hret ht hd hr
theorem g_retL (X : Stand p l e R s m args below meth c T locs cells slots) (hx : p.tables.exec = Jvm.exec) (hlk : meth.locks = false) {z : Int64} (hret : meth.sig.returnType = some .long) (hd : decode c.code pc = .ok (.lreturn, 1)) (hc : cells ≤ kc) (hs : slots ≤ ks) (hQ : Q (some (.long z)) T.heap locs) :
    own_Gl p e below s Q kc ks (T.setTop (mkF m pc L (.long z :: S))) :=
  own_ret X hlk (fun h => by rw [hret] at h; cases h) hQ hc hs fun fs hr => retOut X hx hret rfl (Or.inr (Or.inl ⟨rfl, rfl, z, rfl⟩)) hd hr
theorem g_retV (X : Stand p l e R s m args below meth c T locs cells slots) (hx : p.tables.exec = Jvm.exec) (hlk : meth.locks = false) (hret : meth.sig.returnType = none) (hd : decode c.code pc = .ok (.return_, 1)) (hc : cells ≤ kc) (hs : slots ≤ ks) (hQ : Q none T.heap locs) :
    own_Gl p e below s Q kc ks (T.setTop (mkF m pc L [])) :=
  own_ret X hlk (fun _ => rfl) hQ hc hs fun fs hr => X.returnOut hx hret hd hr
/-- a static call by the callee's contract -/
theorem g_callS (X : Stand p l e R s m args below meth c T locs cells slots) (hx : p.tables.exec = Jvm.exec) (hZ : Z.Warmed39 s.vm) {own : String} {index : Nat} {y : MethodName} {bytes : ByteArray} {maxL : Nat} {ret : Option FieldType} (hown : s.vm.findClass own = some m.cls)
    (w1 : (Jvm.Cond.methodLink own index y).before a0 Z = true) (w2 : (Jvm.Cond.static y).before a0 Z = true) (w3 : (Jvm.Cond.initialized y.cls).before a0 Z = true) (w4 : (Jvm.Cond.code y bytes maxL ret).before a0 Z = true) (hy : y.cls ≠ "java/lang/invoke/MethodHandle" ∧ y.cls ≠ "java/lang/invoke/VarHandle")
    {rm : Room} {as' : Array Value} {Qc : Option Value → Heap → List Loc → Prop}
    (hM : MetFree l y (head1 [Jvm.Cond.code y bytes maxL ret] rm) (fun a U => a = as' ∧ Z.Warmed39 U.vm ∧ U.heap = h) (fun _ _ _ _ _ => True) (fun _ U o U' => ∃ v L, o = .returned v ∧ Qc v U'.heap L ∧ FrameEnd U o U' L rm.cells rm.slots))
    (W : Nat) (hf : rm.frames + 1 ≤ R.frames) (hl : W + (maxL + 11) + rm.locals ≤ R.locals) (eT : T.heap = h) (hsize : L.size = c.maxLocals) (argsL rest : List Value) (hlen : ∀ sig, parseMethodDescriptor y.desc = some sig → argsL.length = sig.parameters.length)
    (hst : S = argsL.reverse ++ rest) (has : argsL.toArray = as') (hW : (rest.map fun v => v.category).sum ≤ W) (hd : decode c.code pc = .ok (.invokestatic index, 3)) (hp : pc + 3 = pc') {cells' slots' : Nat} (hcc : cells + rm.cells = cells') (hss : slots + rm.slots = slots') (hcl : cells' ≤ R.cells) (hsl : slots' ≤ R.slots)
    (k : ∀ (v : Option Value) (T' : State) (L' : List Loc), Stand p l e R s m args below meth c T' (locs ++ L') cells' slots' → Qc v T'.heap L' → own_Gl p e below s Q kc ks (T'.setTop (mkF m pc' L (v.toList ++ rest)))) :
    own_Gl p e below s Q kc ks (T.setTop (mkF m pc L S)) := by
  subst hp hst hcc hss
  obtain ⟨v, _, ⟨T', L', k', n'⟩, -, X', ⟨Lc, hQ, l', y', z'⟩, st⟩ := Jvm.LawKit.callS X hx (y := y) hown (mvT hZ w1) (mvT hZ w2) (mvT hZ w3) (mvT hZ w4) hy (backOf (W := W) hM hZ w4 w3 hf hl) (g := mkF m pc L (argsL.reverse ++ rest)) rfl hsize (argsL := argsL) (rest := rest) hlen rfl (by show 2 * 0 + _ ≤ _; omega) hd (fun _ _ => ⟨has, eT, hcl, hsl⟩)
  dsimp only [Pt.U, Pt.locs, Pt.cells, Pt.slots] at X' l' y' z' st hQ
  subst l' y' z'
  exact (k v T' Lc X' hQ).go st
/-- the same of a method that writes nothing -/
theorem g_callP (X : Stand p l e R s m args below meth c T locs cells slots) (hx : p.tables.exec = Jvm.exec) (hZ : Z.Warmed39 s.vm) {own : String} {index : Nat} {y : MethodName} {bytes : ByteArray} {maxL : Nat} {ret : Option FieldType} (hown : s.vm.findClass own = some m.cls)
    (w1 : (Jvm.Cond.methodLink own index y).before a0 Z = true) (w2 : (Jvm.Cond.static y).before a0 Z = true) (w3 : (Jvm.Cond.initialized y.cls).before a0 Z = true) (w4 : (Jvm.Cond.code y bytes maxL ret).before a0 Z = true) (hy : y.cls ≠ "java/lang/invoke/MethodHandle" ∧ y.cls ≠ "java/lang/invoke/VarHandle")
    {fr lo : Nat} {as' : Array Value} {w : Option Value}
    (hM : MetFree l y (head1 [Jvm.Cond.code y bytes maxL ret] ({ frames := fr, cells := 0, slots := 0, locals := lo } : Room)) (fun a U => a = as' ∧ Z.Warmed39 U.vm ∧ U.heap = h) (fun _ _ _ _ _ => True) (fun _ U o U' => ∃ v L, o = .returned v ∧ own_Pure w h v U'.heap L ∧ FrameEnd U o U' L ({ frames := fr, cells := 0, slots := 0, locals := lo } : Room).cells ({ frames := fr, cells := 0, slots := 0, locals := lo } : Room).slots))
    (W : Nat) (hf : fr + 1 ≤ R.frames) (hl : W + (maxL + 11) + lo ≤ R.locals) (eT : T.heap = h) (hsize : L.size = c.maxLocals) (argsL rest : List Value) (hlen : ∀ sig, parseMethodDescriptor y.desc = some sig → argsL.length = sig.parameters.length)
    (hst : S = argsL.reverse ++ rest) (has : argsL.toArray = as') (hW : (rest.map fun v => v.category).sum ≤ W) (hd : decode c.code pc = .ok (.invokestatic index, 3)) (hp : pc + 3 = pc') (hcl : cells ≤ R.cells) (hsl : slots ≤ R.slots)
    (k : ∀ (T' : State), Stand p l e R s m args below meth c T' locs cells slots → T'.heap = h → own_Gl p e below s Q kc ks (T'.setTop (mkF m pc' L (w.toList ++ rest)))) :
    own_Gl p e below s Q kc ks (T.setTop (mkF m pc L S)) := by
  refine g_callS X hx hZ hown w1 w2 w3 w4 hy hM W hf hl eT hsize argsL rest hlen hst has hW hd hp (cells' := cells) (slots' := slots) rfl rfl hcl hsl ?_
  intro v T' L' X' hQ
  obtain ⟨rfl, rfl, e'⟩ := hQ
  rw [List.append_nil] at X'
  exact k T' X' e'
theorem own_tltL {x y : Int64} (h : x < y) : ifCond.holds .lt (lcmpW x y) = true ∧ ifCond.holds .ge (lcmpW x y) = false ∧ ifCond.holds .gt (lcmpW y x) = true ∧ ifCond.holds .le (lcmpW y x) = false := by
  have h1 := (lw_lt x y).mpr h
  have h2 := (lw_gt y x).mpr h
  rw [if0, if0, if0, if0]
  exact ⟨(tlt h1).1, (tlt h1).2.1, (tlt h2).2.2.1, (tlt h2).2.2.2⟩
theorem own_fltL {x y : Int64} (h : ¬ x < y) : ifCond.holds .lt (lcmpW x y) = false ∧ ifCond.holds .ge (lcmpW x y) = true ∧ ifCond.holds .gt (lcmpW y x) = false ∧ ifCond.holds .le (lcmpW y x) = true := by
  have h1 := fun q => h ((lw_lt x y).mp q)
  have h2 := fun q => h ((lw_gt y x).mp q)
  rw [if0, if0, if0, if0]
  exact ⟨(flt h1).1, (flt h1).2.1, (flt h2).2.2.1, (flt h2).2.2.2⟩
theorem own_teqL {x y : Int64} (h : x = y) : ifCond.holds .eq (lcmpW x y) = true ∧ ifCond.holds .ne (lcmpW x y) = false := by
  have h1 := (lw_eq x y).mpr h
  rw [if0, if0]
  exact ⟨(teq h1).1, (teq h1).2⟩
theorem own_feqL {x y : Int64} (h : ¬ x = y) : ifCond.holds .eq (lcmpW x y) = false ∧ ifCond.holds .ne (lcmpW x y) = true := by
  have h1 := fun q => h ((lw_eq x y).mp q)
  rw [if0, if0]
  exact ⟨(feq h1).1, (feq h1).2⟩
theorem g_iloadN (h : At T m c below) (hx : p.tables.exec = Jvm.exec) {j : Fin 4} {v : Int32} (hd : decode c.code pc = .ok (.iload_n j, 1)) (hp : pc + 1 = pc') (hl : L[j.val]? = some (.val (.int v))) (hr : own_Gl p e below s Q kc ks (T.setTop (mkF m pc' L (.int v :: S)))) : own_Gl p e below s Q kc ks (T.setTop (mkF m pc L S)) := by
  subst hp; exact hr.go fun t k => XS.iloadN h hx rfl hd hl k
theorem g_lloadN (h : At T m c below) (hx : p.tables.exec = Jvm.exec) {j : Fin 4} {v : Int64} (hd : decode c.code pc = .ok (.lload_n j, 1)) (hp : pc + 1 = pc') (hl : L[j.val]? = some (.val (.long v))) (hr : own_Gl p e below s Q kc ks (T.setTop (mkF m pc' L (.long v :: S)))) : own_Gl p e below s Q kc ks (T.setTop (mkF m pc L S)) := by
  subst hp; exact hr.go fun t k => XS.lloadN h hx rfl hd hl k
theorem g_aloadN (h : At T m c below) (hx : p.tables.exec = Jvm.exec) {j : Fin 4} {v : Value} (hd : decode c.code pc = .ok (.aload_n j, 1)) (hp : pc + 1 = pc') (hl : L[j.val]? = some (.val v)) (hv : v.isRef = true) (hr : own_Gl p e below s Q kc ks (T.setTop (mkF m pc' L (v :: S)))) : own_Gl p e below s Q kc ks (T.setTop (mkF m pc L S)) := by
  subst hp; exact hr.go fun t k => XS.aloadN h hx rfl hd hl hv k
theorem g_istoreN (h : At T m c below) (hx : p.tables.exec = Jvm.exec) {j : Fin 4} {v : Int32} (hd : decode c.code pc = .ok (.istore_n j, 1)) (hp : pc + 1 = pc') (hl : storeLocals L j.val (.int v) = some L') (hr : own_Gl p e below s Q kc ks (T.setTop (mkF m pc' L' S))) : own_Gl p e below s Q kc ks (T.setTop (mkF m pc L (.int v :: S))) := by
  subst hp; exact hr.go fun t k => XS.istoreN h hx rfl hd rfl hl k
theorem g_lstoreN (h : At T m c below) (hx : p.tables.exec = Jvm.exec) {j : Fin 4} {v : Int64} (hd : decode c.code pc = .ok (.lstore_n j, 1)) (hp : pc + 1 = pc') (hl : storeLocals L j.val (.long v) = some L') (hr : own_Gl p e below s Q kc ks (T.setTop (mkF m pc' L' S))) : own_Gl p e below s Q kc ks (T.setTop (mkF m pc L (.long v :: S))) := by
  subst hp; exact hr.go fun t k => XS.lstoreN h hx rfl hd rfl hl k
theorem g_astoreN (h : At T m c below) (hx : p.tables.exec = Jvm.exec) {j : Fin 4} {v : Value} (hd : decode c.code pc = .ok (.astore_n j, 1)) (hp : pc + 1 = pc') (hv : v.isRef = true) (hl : storeLocals L j.val v = some L') (hr : own_Gl p e below s Q kc ks (T.setTop (mkF m pc' L' S))) : own_Gl p e below s Q kc ks (T.setTop (mkF m pc L (v :: S))) := by
  subst hp; exact hr.go fun t k => XS.astoreN h hx rfl hd rfl hv hl k
theorem g_iload (h : At T m c below) (hx : p.tables.exec = Jvm.exec) {j : Nat} {v : Int32} (hd : decode c.code pc = .ok (.iload j, 2)) (hp : pc + 2 = pc') (hl : L[j]? = some (.val (.int v))) (hr : own_Gl p e below s Q kc ks (T.setTop (mkF m pc' L (.int v :: S)))) : own_Gl p e below s Q kc ks (T.setTop (mkF m pc L S)) := by
  subst hp; exact hr.go fun t k => XS.iload h hx rfl hd hl k
theorem g_lload (h : At T m c below) (hx : p.tables.exec = Jvm.exec) {j : Nat} {v : Int64} (hd : decode c.code pc = .ok (.lload j, 2)) (hp : pc + 2 = pc') (hl : L[j]? = some (.val (.long v))) (hr : own_Gl p e below s Q kc ks (T.setTop (mkF m pc' L (.long v :: S)))) : own_Gl p e below s Q kc ks (T.setTop (mkF m pc L S)) := by
  subst hp; exact hr.go fun t k => XS.lload h hx rfl hd hl k
theorem g_aload (h : At T m c below) (hx : p.tables.exec = Jvm.exec) {j : Nat} {v : Value} (hd : decode c.code pc = .ok (.aload j, 2)) (hp : pc + 2 = pc') (hl : L[j]? = some (.val v)) (hv : v.isRef = true) (hr : own_Gl p e below s Q kc ks (T.setTop (mkF m pc' L (v :: S)))) : own_Gl p e below s Q kc ks (T.setTop (mkF m pc L S)) := by
  subst hp; exact hr.go fun t k => XS.aload h hx rfl hd hl hv k
theorem g_istore (h : At T m c below) (hx : p.tables.exec = Jvm.exec) {j : Nat} {v : Int32} (hd : decode c.code pc = .ok (.istore j, 2)) (hp : pc + 2 = pc') (hl : storeLocals L j (.int v) = some L') (hr : own_Gl p e below s Q kc ks (T.setTop (mkF m pc' L' S))) : own_Gl p e below s Q kc ks (T.setTop (mkF m pc L (.int v :: S))) := by
  subst hp; exact hr.go fun t k => XS.istore h hx rfl hd rfl hl k
theorem g_lstore (h : At T m c below) (hx : p.tables.exec = Jvm.exec) {j : Nat} {v : Int64} (hd : decode c.code pc = .ok (.lstore j, 2)) (hp : pc + 2 = pc') (hl : storeLocals L j (.long v) = some L') (hr : own_Gl p e below s Q kc ks (T.setTop (mkF m pc' L' S))) : own_Gl p e below s Q kc ks (T.setTop (mkF m pc L (.long v :: S))) := by
  subst hp; exact hr.go fun t k => XS.lstore h hx rfl hd rfl hl k
theorem g_astore (h : At T m c below) (hx : p.tables.exec = Jvm.exec) {j : Nat} {v : Value} (hd : decode c.code pc = .ok (.astore j, 2)) (hp : pc + 2 = pc') (hv : v.isRef = true) (hl : storeLocals L j v = some L') (hr : own_Gl p e below s Q kc ks (T.setTop (mkF m pc' L' S))) : own_Gl p e below s Q kc ks (T.setTop (mkF m pc L (v :: S))) := by
  subst hp; exact hr.go fun t k => XS.astore h hx rfl hd rfl hv hl k
theorem g_iconst (h : At T m c below) (hx : p.tables.exec = Jvm.exec) {i : Int} {z : Int32} (hd : decode c.code pc = .ok (.iconst i, 1)) (hp : pc + 1 = pc') (hz : Int32.ofInt i = z) (hr : own_Gl p e below s Q kc ks (T.setTop (mkF m pc' L (.int z :: S)))) : own_Gl p e below s Q kc ks (T.setTop (mkF m pc L S)) := by
  subst hp hz; exact hr.go fun t k => XS.iconst h hx rfl hd k
theorem g_bipush (h : At T m c below) (hx : p.tables.exec = Jvm.exec) {i : Int} {z : Int32} (hd : decode c.code pc = .ok (.bipush i, 2)) (hp : pc + 2 = pc') (hz : (Int8.ofInt i).toInt32 = z) (hr : own_Gl p e below s Q kc ks (T.setTop (mkF m pc' L (.int z :: S)))) : own_Gl p e below s Q kc ks (T.setTop (mkF m pc L S)) := by
  subst hp hz; exact hr.go fun t k => XS.bipush h hx rfl hd k
theorem g_sipush (h : At T m c below) (hx : p.tables.exec = Jvm.exec) {i : Int} {z : Int32} (hd : decode c.code pc = .ok (.sipush i, 3)) (hp : pc + 3 = pc') (hz : (Int16.ofInt i).toInt32 = z) (hr : own_Gl p e below s Q kc ks (T.setTop (mkF m pc' L (.int z :: S)))) : own_Gl p e below s Q kc ks (T.setTop (mkF m pc L S)) := by
  subst hp hz; exact hr.go fun t k => XS.sipush h hx rfl hd k
theorem g_lconst (h : At T m c below) (hx : p.tables.exec = Jvm.exec) {i : Fin 2} {z : Int64} (hd : decode c.code pc = .ok (.lconst i, 1)) (hp : pc + 1 = pc') (hz : Int64.ofNat i = z) (hr : own_Gl p e below s Q kc ks (T.setTop (mkF m pc' L (.long z :: S)))) : own_Gl p e below s Q kc ks (T.setTop (mkF m pc L S)) := by
  subst hp hz; exact hr.go fun t k => XS.lconst h hx rfl hd k
theorem g_aconstNull (h : At T m c below) (hx : p.tables.exec = Jvm.exec)  (hd : decode c.code pc = .ok (.aconst_null, 1)) (hp : pc + 1 = pc')  (hr : own_Gl p e below s Q kc ks (T.setTop (mkF m pc' L (.null :: S)))) : own_Gl p e below s Q kc ks (T.setTop (mkF m pc L S)) := by
  subst hp; exact hr.go fun t k => XS.aconstNull h hx rfl hd k
theorem g_iadd (h : At T m c below) (hx : p.tables.exec = Jvm.exec) {u v : Int32} (hd : decode c.code pc = .ok (.iadd, 1)) (hp : pc + 1 = pc')  (hr : own_Gl p e below s Q kc ks (T.setTop (mkF m pc' L (.int (u + v) :: S)))) : own_Gl p e below s Q kc ks (T.setTop (mkF m pc L (.int v :: .int u :: S))) := by
  subst hp; exact hr.go fun t k => XS.iadd h hx rfl hd rfl k
theorem g_ladd (h : At T m c below) (hx : p.tables.exec = Jvm.exec) {u v : Int64} (hd : decode c.code pc = .ok (.ladd, 1)) (hp : pc + 1 = pc')  (hr : own_Gl p e below s Q kc ks (T.setTop (mkF m pc' L (.long (u + v) :: S)))) : own_Gl p e below s Q kc ks (T.setTop (mkF m pc L (.long v :: .long u :: S))) := by
  subst hp; exact hr.go fun t k => XS.ladd h hx rfl hd rfl k
theorem g_isub (h : At T m c below) (hx : p.tables.exec = Jvm.exec) {u v : Int32} (hd : decode c.code pc = .ok (.isub, 1)) (hp : pc + 1 = pc')  (hr : own_Gl p e below s Q kc ks (T.setTop (mkF m pc' L (.int (u - v) :: S)))) : own_Gl p e below s Q kc ks (T.setTop (mkF m pc L (.int v :: .int u :: S))) := by
  subst hp; exact hr.go fun t k => XS.isub h hx rfl hd rfl k
theorem g_lsub (h : At T m c below) (hx : p.tables.exec = Jvm.exec) {u v : Int64} (hd : decode c.code pc = .ok (.lsub, 1)) (hp : pc + 1 = pc')  (hr : own_Gl p e below s Q kc ks (T.setTop (mkF m pc' L (.long (u - v) :: S)))) : own_Gl p e below s Q kc ks (T.setTop (mkF m pc L (.long v :: .long u :: S))) := by
  subst hp; exact hr.go fun t k => XS.lsub h hx rfl hd rfl k
theorem g_imul (h : At T m c below) (hx : p.tables.exec = Jvm.exec) {u v : Int32} (hd : decode c.code pc = .ok (.imul, 1)) (hp : pc + 1 = pc')  (hr : own_Gl p e below s Q kc ks (T.setTop (mkF m pc' L (.int (u * v) :: S)))) : own_Gl p e below s Q kc ks (T.setTop (mkF m pc L (.int v :: .int u :: S))) := by
  subst hp; exact hr.go fun t k => XS.imul h hx rfl hd rfl k
theorem g_lmul (h : At T m c below) (hx : p.tables.exec = Jvm.exec) {u v : Int64} (hd : decode c.code pc = .ok (.lmul, 1)) (hp : pc + 1 = pc')  (hr : own_Gl p e below s Q kc ks (T.setTop (mkF m pc' L (.long (u * v) :: S)))) : own_Gl p e below s Q kc ks (T.setTop (mkF m pc L (.long v :: .long u :: S))) := by
  subst hp; exact hr.go fun t k => XS.lmul h hx rfl hd rfl k
theorem g_iand (h : At T m c below) (hx : p.tables.exec = Jvm.exec) {u v : Int32} (hd : decode c.code pc = .ok (.iand, 1)) (hp : pc + 1 = pc')  (hr : own_Gl p e below s Q kc ks (T.setTop (mkF m pc' L (.int (u &&& v) :: S)))) : own_Gl p e below s Q kc ks (T.setTop (mkF m pc L (.int v :: .int u :: S))) := by
  subst hp; exact hr.go fun t k => XS.iand h hx rfl hd rfl k
theorem g_land (h : At T m c below) (hx : p.tables.exec = Jvm.exec) {u v : Int64} (hd : decode c.code pc = .ok (.land, 1)) (hp : pc + 1 = pc')  (hr : own_Gl p e below s Q kc ks (T.setTop (mkF m pc' L (.long (u &&& v) :: S)))) : own_Gl p e below s Q kc ks (T.setTop (mkF m pc L (.long v :: .long u :: S))) := by
  subst hp; exact hr.go fun t k => XS.land h hx rfl hd rfl k
theorem g_ior (h : At T m c below) (hx : p.tables.exec = Jvm.exec) {u v : Int32} (hd : decode c.code pc = .ok (.ior, 1)) (hp : pc + 1 = pc')  (hr : own_Gl p e below s Q kc ks (T.setTop (mkF m pc' L (.int (u ||| v) :: S)))) : own_Gl p e below s Q kc ks (T.setTop (mkF m pc L (.int v :: .int u :: S))) := by
  subst hp; exact hr.go fun t k => XS.ior h hx rfl hd rfl k
theorem g_lor (h : At T m c below) (hx : p.tables.exec = Jvm.exec) {u v : Int64} (hd : decode c.code pc = .ok (.lor, 1)) (hp : pc + 1 = pc')  (hr : own_Gl p e below s Q kc ks (T.setTop (mkF m pc' L (.long (u ||| v) :: S)))) : own_Gl p e below s Q kc ks (T.setTop (mkF m pc L (.long v :: .long u :: S))) := by
  subst hp; exact hr.go fun t k => XS.lor h hx rfl hd rfl k
theorem g_ixor (h : At T m c below) (hx : p.tables.exec = Jvm.exec) {u v : Int32} (hd : decode c.code pc = .ok (.ixor, 1)) (hp : pc + 1 = pc')  (hr : own_Gl p e below s Q kc ks (T.setTop (mkF m pc' L (.int (u ^^^ v) :: S)))) : own_Gl p e below s Q kc ks (T.setTop (mkF m pc L (.int v :: .int u :: S))) := by
  subst hp; exact hr.go fun t k => XS.ixor h hx rfl hd rfl k
theorem g_lxor (h : At T m c below) (hx : p.tables.exec = Jvm.exec) {u v : Int64} (hd : decode c.code pc = .ok (.lxor, 1)) (hp : pc + 1 = pc')  (hr : own_Gl p e below s Q kc ks (T.setTop (mkF m pc' L (.long (u ^^^ v) :: S)))) : own_Gl p e below s Q kc ks (T.setTop (mkF m pc L (.long v :: .long u :: S))) := by
  subst hp; exact hr.go fun t k => XS.lxor h hx rfl hd rfl k
theorem g_ishl (h : At T m c below) (hx : p.tables.exec = Jvm.exec) {u v : Int32} (hd : decode c.code pc = .ok (.ishl, 1)) (hp : pc + 1 = pc')  (hr : own_Gl p e below s Q kc ks (T.setTop (mkF m pc' L (.int (u <<< (v &&& 31)) :: S)))) : own_Gl p e below s Q kc ks (T.setTop (mkF m pc L (.int v :: .int u :: S))) := by
  subst hp; exact hr.go fun t k => XS.ishl h hx rfl hd rfl k
theorem g_ishr (h : At T m c below) (hx : p.tables.exec = Jvm.exec) {u v : Int32} (hd : decode c.code pc = .ok (.ishr, 1)) (hp : pc + 1 = pc')  (hr : own_Gl p e below s Q kc ks (T.setTop (mkF m pc' L (.int (u >>> (v &&& 31)) :: S)))) : own_Gl p e below s Q kc ks (T.setTop (mkF m pc L (.int v :: .int u :: S))) := by
  subst hp; exact hr.go fun t k => XS.ishr h hx rfl hd rfl k
theorem g_iushr (h : At T m c below) (hx : p.tables.exec = Jvm.exec) {u v : Int32} (hd : decode c.code pc = .ok (.iushr, 1)) (hp : pc + 1 = pc')  (hr : own_Gl p e below s Q kc ks (T.setTop (mkF m pc' L (.int ((u.toUInt32 >>> (v &&& 31).toUInt32).toInt32) :: S)))) : own_Gl p e below s Q kc ks (T.setTop (mkF m pc L (.int v :: .int u :: S))) := by
  subst hp; exact hr.go fun t k => XS.iushr h hx rfl hd rfl k
theorem g_lshl (h : At T m c below) (hx : p.tables.exec = Jvm.exec) {u : Int64} {v : Int32} (hd : decode c.code pc = .ok (.lshl, 1)) (hp : pc + 1 = pc')  (hr : own_Gl p e below s Q kc ks (T.setTop (mkF m pc' L (.long (u <<< (v &&& 0x3f).toInt64) :: S)))) : own_Gl p e below s Q kc ks (T.setTop (mkF m pc L (.int v :: .long u :: S))) := by
  subst hp; exact hr.go fun t k => XS.lshl h hx rfl hd rfl k
theorem g_lshr (h : At T m c below) (hx : p.tables.exec = Jvm.exec) {u : Int64} {v : Int32} (hd : decode c.code pc = .ok (.lshr, 1)) (hp : pc + 1 = pc')  (hr : own_Gl p e below s Q kc ks (T.setTop (mkF m pc' L (.long (u >>> (v &&& 0x3f).toInt64) :: S)))) : own_Gl p e below s Q kc ks (T.setTop (mkF m pc L (.int v :: .long u :: S))) := by
  subst hp; exact hr.go fun t k => XS.lshr h hx rfl hd rfl k
theorem g_lushr (h : At T m c below) (hx : p.tables.exec = Jvm.exec) {u : Int64} {v : Int32} (hd : decode c.code pc = .ok (.lushr, 1)) (hp : pc + 1 = pc')  (hr : own_Gl p e below s Q kc ks (T.setTop (mkF m pc' L (.long ((u.toUInt64 >>> (v &&& 0x3f).toInt64.toUInt64).toInt64) :: S)))) : own_Gl p e below s Q kc ks (T.setTop (mkF m pc L (.int v :: .long u :: S))) := by
  subst hp; exact hr.go fun t k => XS.lushr h hx rfl hd rfl k
theorem g_idiv (h : At T m c below) (hx : p.tables.exec = Jvm.exec) {u v : Int32} (hd : decode c.code pc = .ok (.idiv, 1)) (hp : pc + 1 = pc') (hy : v ≠ 0) (hr : own_Gl p e below s Q kc ks (T.setTop (mkF m pc' L (.int (u / v) :: S)))) : own_Gl p e below s Q kc ks (T.setTop (mkF m pc L (.int v :: .int u :: S))) := by
  subst hp; exact hr.go fun t k => XS.idiv h hx rfl hd rfl hy k
theorem g_ldiv (h : At T m c below) (hx : p.tables.exec = Jvm.exec) {u v : Int64} (hd : decode c.code pc = .ok (.ldiv, 1)) (hp : pc + 1 = pc') (hy : v ≠ 0) (hr : own_Gl p e below s Q kc ks (T.setTop (mkF m pc' L (.long (u / v) :: S)))) : own_Gl p e below s Q kc ks (T.setTop (mkF m pc L (.long v :: .long u :: S))) := by
  subst hp; exact hr.go fun t k => XS.ldiv h hx rfl hd rfl hy k
theorem g_irem (X : Stand p l e R s m args below meth c T locs cells slots) (hx : p.tables.exec = Jvm.exec) {u v : Int32} (hd : decode c.code pc = .ok (.irem, 1)) (hp : pc + 1 = pc') (hy : v ≠ 0) (hr : own_Gl p e below s Q kc ks (T.setTop (mkF m pc' L (.int (u % v) :: S)))) : own_Gl p e below s Q kc ks (T.setTop (mkF m pc L (.int v :: .int u :: S))) := by
  subst hp; exact hr.go fun t k => iremM X hx rfl hd rfl hy k
theorem g_lrem (h : At T m c below) (hx : p.tables.exec = Jvm.exec) {u v : Int64} (hd : decode c.code pc = .ok (.lrem, 1)) (hp : pc + 1 = pc') (hy : v ≠ 0) (hr : own_Gl p e below s Q kc ks (T.setTop (mkF m pc' L (.long (u % v) :: S)))) : own_Gl p e below s Q kc ks (T.setTop (mkF m pc L (.long v :: .long u :: S))) := by
  subst hp; exact hr.go fun t k => XS.lrem h hx rfl hd rfl hy (by rw [lrem_mod]; exact k)
theorem g_ineg (h : At T m c below) (hx : p.tables.exec = Jvm.exec) {u : Int32} (hd : decode c.code pc = .ok (.ineg, 1)) (hp : pc + 1 = pc')  (hr : own_Gl p e below s Q kc ks (T.setTop (mkF m pc' L (.int (-u) :: S)))) : own_Gl p e below s Q kc ks (T.setTop (mkF m pc L (.int u :: S))) := by
  subst hp; exact hr.go fun t k => XS.ineg h hx rfl hd rfl k
theorem g_lneg (h : At T m c below) (hx : p.tables.exec = Jvm.exec) {u : Int64} (hd : decode c.code pc = .ok (.lneg, 1)) (hp : pc + 1 = pc')  (hr : own_Gl p e below s Q kc ks (T.setTop (mkF m pc' L (.long (-u) :: S)))) : own_Gl p e below s Q kc ks (T.setTop (mkF m pc L (.long u :: S))) := by
  subst hp; exact hr.go fun t k => XS.lneg h hx rfl hd rfl k
theorem g_i2l (h : At T m c below) (hx : p.tables.exec = Jvm.exec) {u : Int32} (hd : decode c.code pc = .ok (.i2l, 1)) (hp : pc + 1 = pc')  (hr : own_Gl p e below s Q kc ks (T.setTop (mkF m pc' L (.long u.toInt64 :: S)))) : own_Gl p e below s Q kc ks (T.setTop (mkF m pc L (.int u :: S))) := by
  subst hp; exact hr.go fun t k => XS.i2l h hx rfl hd rfl k
theorem g_l2i (h : At T m c below) (hx : p.tables.exec = Jvm.exec) {u : Int64} (hd : decode c.code pc = .ok (.l2i, 1)) (hp : pc + 1 = pc')  (hr : own_Gl p e below s Q kc ks (T.setTop (mkF m pc' L (.int u.toInt32 :: S)))) : own_Gl p e below s Q kc ks (T.setTop (mkF m pc L (.long u :: S))) := by
  subst hp; exact hr.go fun t k => XS.l2i h hx rfl hd rfl k
theorem g_i2b (h : At T m c below) (hx : p.tables.exec = Jvm.exec) {u : Int32} (hd : decode c.code pc = .ok (.i2b, 1)) (hp : pc + 1 = pc')  (hr : own_Gl p e below s Q kc ks (T.setTop (mkF m pc' L (.int u.toInt8.toInt32 :: S)))) : own_Gl p e below s Q kc ks (T.setTop (mkF m pc L (.int u :: S))) := by
  subst hp; exact hr.go fun t k => XS.i2b h hx rfl hd rfl k
theorem g_i2s (h : At T m c below) (hx : p.tables.exec = Jvm.exec) {u : Int32} (hd : decode c.code pc = .ok (.i2s, 1)) (hp : pc + 1 = pc')  (hr : own_Gl p e below s Q kc ks (T.setTop (mkF m pc' L (.int u.toInt16.toInt32 :: S)))) : own_Gl p e below s Q kc ks (T.setTop (mkF m pc L (.int u :: S))) := by
  subst hp; exact hr.go fun t k => XS.i2s h hx rfl hd rfl k
theorem g_i2c (h : At T m c below) (hx : p.tables.exec = Jvm.exec) {u : Int32} (hd : decode c.code pc = .ok (.i2c, 1)) (hp : pc + 1 = pc')  (hr : own_Gl p e below s Q kc ks (T.setTop (mkF m pc' L (.int u.toUInt32.toUInt16.toUInt32.toInt32 :: S)))) : own_Gl p e below s Q kc ks (T.setTop (mkF m pc L (.int u :: S))) := by
  subst hp; exact hr.go fun t k => XS.i2c h hx rfl hd rfl k
theorem g_lcmp (h : At T m c below) (hx : p.tables.exec = Jvm.exec) {u v : Int64} (hd : decode c.code pc = .ok (.lcmp, 1)) (hp : pc + 1 = pc')  (hr : own_Gl p e below s Q kc ks (T.setTop (mkF m pc' L (.int (lcmpW u v) :: S)))) : own_Gl p e below s Q kc ks (T.setTop (mkF m pc L (.long v :: .long u :: S))) := by
  subst hp; exact hr.go fun t k => XS.lcmp h hx rfl hd rfl k
theorem g_dup (h : At T m c below) (hx : p.tables.exec = Jvm.exec) {v : Value} (hd : decode c.code pc = .ok (.dup, 1)) (hp : pc + 1 = pc') (hc : v.category = 1) (hr : own_Gl p e below s Q kc ks (T.setTop (mkF m pc' L (v :: v :: S)))) : own_Gl p e below s Q kc ks (T.setTop (mkF m pc L (v :: S))) := by
  subst hp; exact hr.go fun t k => XS.dup h hx rfl hd rfl hc k
theorem g_pop (h : At T m c below) (hx : p.tables.exec = Jvm.exec) {v : Value} (hd : decode c.code pc = .ok (.pop, 1)) (hp : pc + 1 = pc') (hc : v.category = 1) (hr : own_Gl p e below s Q kc ks (T.setTop (mkF m pc' L S))) : own_Gl p e below s Q kc ks (T.setTop (mkF m pc L (v :: S))) := by
  subst hp; exact hr.go fun t k => XS.pop h hx rfl hd rfl hc k
theorem g_dupX1 (h : At T m c below) (hx : p.tables.exec = Jvm.exec) {v w : Value} (hd : decode c.code pc = .ok (.dup_x1, 1)) (hp : pc + 1 = pc') (hc : v.category = 1) (hc' : w.category = 1) (hr : own_Gl p e below s Q kc ks (T.setTop (mkF m pc' L (v :: w :: v :: S)))) : own_Gl p e below s Q kc ks (T.setTop (mkF m pc L (v :: w :: S))) := by
  subst hp; exact hr.go fun t k => XS.dupX1 h hx rfl hd rfl hc hc' k
theorem g_dup2 (h : At T m c below) (hx : p.tables.exec = Jvm.exec) {v w : Value} (hd : decode c.code pc = .ok (.dup2, 1)) (hp : pc + 1 = pc') (hc : v.category = 1) (hc' : w.category = 1) (hr : own_Gl p e below s Q kc ks (T.setTop (mkF m pc' L (v :: w :: v :: w :: S)))) : own_Gl p e below s Q kc ks (T.setTop (mkF m pc L (v :: w :: S))) := by
  subst hp; exact hr.go fun t k => XT.dup2 h hx rfl hd rfl hc hc' k
theorem g_dup2L (h : At T m c below) (hx : p.tables.exec = Jvm.exec) {v : Int64} (hd : decode c.code pc = .ok (.dup2, 1)) (hp : pc + 1 = pc')  (hr : own_Gl p e below s Q kc ks (T.setTop (mkF m pc' L (.long v :: .long v :: S)))) : own_Gl p e below s Q kc ks (T.setTop (mkF m pc L (.long v :: S))) := by
  subst hp; exact hr.go fun t k => XT.dup2L h hx rfl hd rfl k
theorem g_pop2L (h : At T m c below) (hx : p.tables.exec = Jvm.exec) {v : Int64} (hd : decode c.code pc = .ok (.pop2, 1)) (hp : pc + 1 = pc') (hr : own_Gl p e below s Q kc ks (T.setTop (mkF m pc' L S))) : own_Gl p e below s Q kc ks (T.setTop (mkF m pc L (.long v :: S))) := by
  subst hp
  refine hr.go fun t k => ?_
  jvm_step h [h.top, hx, hd, Value.category]
  exact k
theorem g_iinc (h : At T m c below) (hx : p.tables.exec = Jvm.exec) {j : Nat} {i : Int} {v z : Int32} (hd : decode c.code pc = .ok (.iinc j i, 3)) (hp : pc + 3 = pc') (hz : Int32.ofInt i = z) (hl : L[j]? = some (.val (.int v))) (hl' : storeLocals L j (.int (v + z)) = some L') (hr : own_Gl p e below s Q kc ks (T.setTop (mkF m pc' L' S))) : own_Gl p e below s Q kc ks (T.setTop (mkF m pc L S)) := by
  subst hp; exact hr.go fun t k => XS.iinc h hx rfl hd hl (by rw [hz]; exact hl') k
theorem g_goto (h : At T m c below) (hx : p.tables.exec = Jvm.exec) {i : Int} (hd : decode c.code pc = .ok (.goto i, 3)) (ho : 0 ≤ (pc : Int) + i) (hp : ((pc : Int) + i).toNat = pc') (hr : own_Gl p e below s Q kc ks (T.setTop (mkF m pc' L S))) : own_Gl p e below s Q kc ks (T.setTop (mkF m pc L S)) := hr.go fun t k => XS.goto h hx rfl (pc0 := pc) rfl hd ho hp k
theorem g_ifY (h : At T m c below) (hx : p.tables.exec = Jvm.exec) {cd : ClassFile.Cond} {i : Int} {x : Int32} (hd : decode c.code pc = .ok (.ifCond cd i, 3)) (ho : 0 ≤ (pc : Int) + i) (hp : ((pc : Int) + i).toNat = pc') (hc : ifCond.holds cd x = true) (hr : own_Gl p e below s Q kc ks (T.setTop (mkF m pc' L S))) : own_Gl p e below s Q kc ks (T.setTop (mkF m pc L (.int x :: S))) := hr.go fun t k => XS.ifYes h hx rfl (pc0 := pc) rfl hd rfl hc ho hp k
theorem g_ifN (h : At T m c below) (hx : p.tables.exec = Jvm.exec) {cd : ClassFile.Cond} {i : Int} {x : Int32} (hd : decode c.code pc = .ok (.ifCond cd i, 3)) (hp : pc + 3 = pc') (hc : ifCond.holds cd x = false) (hr : own_Gl p e below s Q kc ks (T.setTop (mkF m pc' L S))) : own_Gl p e below s Q kc ks (T.setTop (mkF m pc L (.int x :: S))) := by
  subst hp; exact hr.go fun t k => XS.ifNo h hx rfl hd rfl hc k
theorem g_icY (h : At T m c below) (hx : p.tables.exec = Jvm.exec) {cd : ClassFile.Cond} {i : Int} {x y : Int32} (hd : decode c.code pc = .ok (.if_icmp cd i, 3)) (ho : 0 ≤ (pc : Int) + i) (hp : ((pc : Int) + i).toNat = pc') (hc : if_icmp.holds cd x y = true) (hr : own_Gl p e below s Q kc ks (T.setTop (mkF m pc' L S))) : own_Gl p e below s Q kc ks (T.setTop (mkF m pc L (.int y :: .int x :: S))) := hr.go fun t k => XS.icmpYes h hx rfl (pc0 := pc) rfl hd rfl hc ho hp k
theorem g_icN (h : At T m c below) (hx : p.tables.exec = Jvm.exec) {cd : ClassFile.Cond} {i : Int} {x y : Int32} (hd : decode c.code pc = .ok (.if_icmp cd i, 3)) (hp : pc + 3 = pc') (hc : if_icmp.holds cd x y = false) (hr : own_Gl p e below s Q kc ks (T.setTop (mkF m pc' L S))) : own_Gl p e below s Q kc ks (T.setTop (mkF m pc L (.int y :: .int x :: S))) := by
  subst hp; exact hr.go fun t k => XS.icmpNo h hx rfl hd rfl hc k
theorem g_ifnullY (h : At T m c below) (hx : p.tables.exec = Jvm.exec)  {i : Int} (hd : decode c.code pc = .ok (.ifnull i, 3)) (ho : 0 ≤ (pc : Int) + i) (hp : ((pc : Int) + i).toNat = pc') (hr : own_Gl p e below s Q kc ks (T.setTop (mkF m pc' L S))) : own_Gl p e below s Q kc ks (T.setTop (mkF m pc L (.null :: S))) := hr.go fun t k => XS.ifnullYes h hx rfl (pc0 := pc) rfl hd rfl ho hp k
theorem g_ifnullN (h : At T m c below) (hx : p.tables.exec = Jvm.exec) {b : Addr} {i : Int} (hd : decode c.code pc = .ok (.ifnull i, 3)) (hp : pc + 3 = pc') (hr : own_Gl p e below s Q kc ks (T.setTop (mkF m pc' L S))) : own_Gl p e below s Q kc ks (T.setTop (mkF m pc L (.ref b :: S))) := by
  subst hp; exact hr.go fun t k => XS.ifnullNo h hx rfl hd rfl k
theorem g_ifnonnullY (h : At T m c below) (hx : p.tables.exec = Jvm.exec) {b : Addr} {i : Int} (hd : decode c.code pc = .ok (.ifnonnull i, 3)) (ho : 0 ≤ (pc : Int) + i) (hp : ((pc : Int) + i).toNat = pc') (hr : own_Gl p e below s Q kc ks (T.setTop (mkF m pc' L S))) : own_Gl p e below s Q kc ks (T.setTop (mkF m pc L (.ref b :: S))) := hr.go fun t k => XS.ifnonnullYes h hx rfl (pc0 := pc) rfl hd rfl ho hp k
theorem g_ifnonnullN (h : At T m c below) (hx : p.tables.exec = Jvm.exec)  {i : Int} (hd : decode c.code pc = .ok (.ifnonnull i, 3)) (hp : pc + 3 = pc') (hr : own_Gl p e below s Q kc ks (T.setTop (mkF m pc' L S))) : own_Gl p e below s Q kc ks (T.setTop (mkF m pc L (.null :: S))) := by
  subst hp; exact hr.go fun t k => XS.ifnonnullNo h hx rfl hd rfl k
theorem g_ldc (X : Stand p l e R s m args below meth c T locs cells slots) (hx : p.tables.exec = Jvm.exec) (hZ : Z.Warmed39 s.vm) {own : String} {index : Nat} {v : Int32} (hown : s.vm.findClass own = some m.cls) (w : (Jvm.Cond.constant own index v).before a0 Z = true) (hd : decode c.code pc = .ok (.ldc index, 2)) (hp : pc + 2 = pc') (hr : own_Gl p e below s Q kc ks (T.setTop (mkF m pc' L (.int v :: S)))) : own_Gl p e below s Q kc ks (T.setTop (mkF m pc L S)) := by
  subst hp; exact hr.go (X.ldcInt hx hown (mvT hZ w) (g := mkF m pc L S) rfl hd)
theorem g_ldcw (X : Stand p l e R s m args below meth c T locs cells slots) (hx : p.tables.exec = Jvm.exec) (hZ : Z.Warmed39 s.vm) {own : String} {index : Nat} {v : Int32} (hown : s.vm.findClass own = some m.cls) (w : (Jvm.Cond.constant own index v).before a0 Z = true) (hd : decode c.code pc = .ok (.ldc_w index, 3)) (hp : pc + 3 = pc') (hr : own_Gl p e below s Q kc ks (T.setTop (mkF m pc' L (.int v :: S)))) : own_Gl p e below s Q kc ks (T.setTop (mkF m pc L S)) := by
  subst hp; exact hr.go (X.ldcwInt hx hown (mvT hZ w) (g := mkF m pc L S) rfl hd)
theorem g_ldc2 (X : Stand p l e R s m args below meth c T locs cells slots) (hx : p.tables.exec = Jvm.exec) (hZ : Z.Warmed39 s.vm) {own : String} {index : Nat} {v : Int64} (hown : s.vm.findClass own = some m.cls) (w : (Jvm.Cond.constantLong own index v).before a0 Z = true) (hd : decode c.code pc = .ok (.ldc2_w index, 3)) (hp : pc + 3 = pc') (hr : own_Gl p e below s Q kc ks (T.setTop (mkF m pc' L (.long v :: S)))) : own_Gl p e below s Q kc ks (T.setTop (mkF m pc L S)) := by
  subst hp; exact hr.go (X.ldc2Long hx hown (mvT hZ w) (g := mkF m pc L S) rfl hd)
end OwnKit

section OwnHeap
variable {p : Program} {l : Launch} {e : Env} {R : Room} {s : State} {m : MethodId} {args : Array Value} {below : List Frame} {meth : Method} {c : Code} {T : State} {locs : List Loc} {cells slots : Nat} {Z : State} {a0 : Array Value} {h : Heap} {Q : Option Value → Heap → List Loc → Prop} {kc ks : Nat} {pc pc' : Nat} {L L' : Array Slot} {S : List Value}
/-- an array of ints, bytes or booleans by what each place holds -/
def own_IA (Z : State) (h : Heap) (a : Addr) (ty : FieldType) (n : Nat) (f : Nat → Int32) : Prop := ∃ c : Cell, Arr Z h a c ty ∧ c.slots.size = n ∧ ∀ i, i < n → c.slots[i]? = some (.int (f i))
theorem own_IA.lt {a : Addr} {ty : FieldType} {n : Nat} {f : Nat → Int32} (V : own_IA Z h a ty n f) : a < h.size := by obtain ⟨c, A, -⟩ := V; exact A.lt
theorem own_IA.ext {h' : Heap} {a : Addr} {ty : FieldType} {n : Nat} {f : Nat → Int32} (V : own_IA Z h a ty n f) (E : Ext h h') : own_IA Z h' a ty n f := by obtain ⟨c, A, r⟩ := V; exact ⟨c, A.ext E, r⟩
theorem own_IA.other {h' : Heap} {a b : Addr} {ty : FieldType} {n sl : Nat} {v : Value} {f : Nat → Int32} (V : own_IA Z h b ty n f) (W : Wr h h' a sl v) (q : b ≠ a) : own_IA Z h' b ty n f := by obtain ⟨c, A, r⟩ := V; exact ⟨c, A.other W q, r⟩
theorem own_IA.keep {h' : Heap} {ws : List Addr} {a : Addr} {ty : FieldType} {n : Nat} {f : Nat → Int32} (V : own_IA Z h a ty n f) (K : Keep h h' ws) (q : a ∉ ws) : own_IA Z h' a ty n f := by obtain ⟨c, A, r⟩ := V; exact ⟨c, ⟨K.2.1 a c A.1 q, A.2⟩, r⟩
theorem own_IA.congr {a : Addr} {ty : FieldType} {n : Nat} {f g : Nat → Int32} (V : own_IA Z h a ty n f) (q : ∀ i, i < n → f i = g i) : own_IA Z h a ty n g := by obtain ⟨c, A, S, H⟩ := V; exact ⟨c, A, S, fun i hi => by rw [H i hi, q i hi]⟩
theorem own_clamp (j : Int32) : j.toNatClampNeg = j.toInt.toNat := rfl
theorem own_in {c : Cell} {n : Nat} (S : c.slots.size = n) {j : Int32} (hj : 0 ≤ j.toInt ∧ j.toInt < n) : ¬ (j < 0 ∨ c.slots.size ≤ j.toNatClampNeg) := by
  have k : (0 : Int32).toInt = 0 := by decide
  rw [Int32.lt_iff_toInt_lt, own_clamp, S, k]; omega
theorem own_IA.set {h' : Heap} {a : Addr} {ty : FieldType} {n : Nat} {x : Int32} {k : Nat} {f : Nat → Int32} (V : own_IA Z h a ty n f) (W : Wr h h' a k (.int x)) : own_IA Z h' a ty n (fun i => if i = k then x else f i) := by
  obtain ⟨c, A, S, H⟩ := V
  refine ⟨c.setSlot k (.int x), A.same W, by rw [sz_set]; exact S, fun i hi => ?_⟩
  show (c.slots.setIfInBounds k (.int x))[i]? = some (Value.int (if i = k then x else f i))
  by_cases q : i = k
  · subst q
    rw [Array.getElem?_setIfInBounds_self_of_lt (by omega), if_pos rfl]
  · rw [Array.getElem?_setIfInBounds_ne (fun z => q z.symm), H i hi, if_neg q]
theorem g_getF (X : Stand p l e R s m args below meth c T locs cells slots) (hx : p.tables.exec = Jvm.exec) (hZ : Z.Warmed39 s.vm) {own R0 O n d host : String} {index : Nat} (hown : s.vm.findClass own = some m.cls) (w : (Jvm.Cond.fieldLink own index R0 n d).before a0 Z = true ∨ (Jvm.Cond.fieldLinkNest own index R0 n d host).before a0 Z = true) (via : Via Z R0 O n d)
    (eT : T.heap = h) {a : Addr} {v : Value} (F : Fld Z h a O n d v) (hd : decode c.code pc = .ok (.getfield index, 3)) (hp : pc + 3 = pc') (k : ∀ T' : State, Stand p l e R s m args below meth c T' locs cells slots → T'.heap = h → own_Gl p e below s Q kc ks (T'.setTop (mkF m pc' L (v :: S)))) :
    own_Gl p e below s Q kc ks (T.setTop (mkF m pc L (.ref a :: S))) := by
  subst hp
  obtain ⟨T', X', e', st⟩ := getF X hx hZ hown w via eT F (g := mkF m pc L (.ref a :: S)) rfl rfl hd
  exact (k T' X' e').go st
theorem g_putF (X : Stand p l e R s m args below meth c T locs cells slots) (hx : p.tables.exec = Jvm.exec) (hZ : Z.Warmed39 s.vm) {own R0 O n d host C : String} {index kk : Nat} {ty : FieldType} (hown : s.vm.findClass own = some m.cls) (w : (Jvm.Cond.fieldLink own index R0 n d).before a0 Z = true ∨ (Jvm.Cond.fieldLinkNest own index R0 n d host).before a0 Z = true) (via : Via Z R0 O n d)
    (eT : T.heap = h) {a : Addr} {v old : Value} (F : Fld Z h a O n d old) (E : Exa Z h a C) (Ly : (Jvm.Cond.lays C O n d).before a0 Z = true ∨ ((Jvm.Cond.laysFinal C O n d).before a0 Z = true ∧ own = O ∧ meth.name = "<init>")) (wi : (Jvm.Cond.instantiable C kk).before a0 Z = true)
    (hty : parseFieldDescriptor d = some ty) (hn : narrow ty v = v) (hf : fits ty v = true) (hd : decode c.code pc = .ok (.putfield index, 3)) (hp : pc + 3 = pc')
    (k : ∀ (T' : State) (h' : Heap), Stand p l e R s m args below meth c T' (locs ++ [⟨a, Jvm.RoadKit.slotOf Z O n d⟩]) cells slots → T'.heap = h' → Wr h h' a (Jvm.RoadKit.slotOf Z O n d) v → own_Gl p e below s Q kc ks (T'.setTop (mkF m pc' L S))) :
    own_Gl p e below s Q kc ks (T.setTop (mkF m pc L (v :: .ref a :: S))) := by
  subst hp
  obtain ⟨T', h', X', e', W', st⟩ := putF X hx hZ hown w via eT F E Ly wi hty hn hf (g := mkF m pc L (v :: .ref a :: S)) rfl rfl hd
  exact (k T' h' X' e' W').go st
theorem g_putFN (X : Stand p l e R s m args below meth c T locs cells slots) (hx : p.tables.exec = Jvm.exec) (hZ : Z.Warmed39 s.vm) {own R0 O n d C : String} {index kk : Nat} {ty : FieldType} (hown : s.vm.findClass own = some m.cls) (w : (Jvm.Cond.fieldLink own index R0 n d).before a0 Z = true) (via : Via Z R0 O n d)
    (eT : T.heap = h) {a : Addr} {v v' old : Value} (F : Fld Z h a O n d old) (E : Exa Z h a C) (Ly : (Jvm.Cond.lays C O n d).before a0 Z = true ∨ ((Jvm.Cond.laysFinal C O n d).before a0 Z = true ∧ own = O ∧ meth.name = "<init>")) (wi : (Jvm.Cond.instantiable C kk).before a0 Z = true)
    (hty : parseFieldDescriptor d = some ty) (hn : narrow ty v = v') (hf : fits ty v' = true) (hd : decode c.code pc = .ok (.putfield index, 3)) (hp : pc + 3 = pc')
    (k : ∀ (T' : State) (h' : Heap), Stand p l e R s m args below meth c T' (locs ++ [⟨a, Jvm.RoadKit.slotOf Z O n d⟩]) cells slots → T'.heap = h' → Wr h h' a (Jvm.RoadKit.slotOf Z O n d) v' → own_Gl p e below s Q kc ks (T'.setTop (mkF m pc' L S))) :
    own_Gl p e below s Q kc ks (T.setTop (mkF m pc L (v :: .ref a :: S))) := by
  subst hp
  obtain ⟨T', h', X', e', W', st⟩ := putFN X hx hZ hown w via eT F E Ly wi hty hn hf (g := mkF m pc L (v :: .ref a :: S)) rfl rfl hd
  exact (k T' h' X' e' W').go st
theorem g_new (X : Stand p l e R s m args below meth c T locs cells slots) (hx : p.tables.exec = Jvm.exec) (hZ : Z.Warmed39 s.vm) {own C : String} {index n : Nat} (hown : s.vm.findClass own = some m.cls) (w : (Jvm.Cond.classLink own index C).before a0 Z = true) (wi : (Jvm.Cond.instantiable C n).before a0 Z = true) (wz : (Jvm.Cond.initialized C).before a0 Z = true) (eT : T.heap = h)
    (hd : decode c.code pc = .ok (.new index, 3)) (hp : pc + 3 = pc') {cells' slots' : Nat} (hcc : cells + 1 = cells') (hss : slots + n = slots') (hc : cells' ≤ R.cells) (hl : slots' ≤ R.slots)
    (k : ∀ (T' : State) (h' : Heap) (b : Addr), b = h.size → Stand p l e R s m args below meth c T' locs cells' slots' → T'.heap = h' → Ext h h' → Exa Z h' b C → (∀ {O nm d : String} {ty : FieldType}, Laid Z a0 C O nm d → parseFieldDescriptor d = some ty → Fld Z h' b O nm d (defaultValue ty)) → own_Gl p e below s Q kc ks (T'.setTop (mkF m pc' L (.ref b :: S)))) :
    own_Gl p e below s Q kc ks (T.setTop (mkF m pc L S)) := by
  subst hp hcc hss
  obtain ⟨T', h', X', e', E', A', D', -, st⟩ := newO X hx hZ hown w wi wz eT (g := mkF m pc L S) rfl hd hc hl
  exact (k T' h' _ rfl X' e' E' A' D').go st
theorem g_newarr (X : Stand p l e R s m args below meth c T locs cells slots) (hx : p.tables.exec = Jvm.exec) (hZ : Z.Warmed39 s.vm) {aty : ArrayType} {ty : FieldType} (hty : newarray.typeOf aty = ty) (hdv : defaultValue ty = .int 0) (w : (Jvm.Cond.arrayClass ty).before a0 Z = true) (eT : T.heap = h)
    (hd : decode c.code pc = .ok (.newarray aty, 2)) (hp : pc + 2 = pc') {z : Int32} {n : Nat} (hn : z.toInt = n) (cap : Nat) (hcap : n ≤ cap) (hb : cap * 8 ≤ 536870912) {cells' slots' : Nat} (hcc : cells + 1 = cells') (hss : slots + cap = slots') (hc : cells' ≤ R.cells) (hl : slots' ≤ R.slots)
    (k : ∀ (T' : State) (h' : Heap) (b : Addr), b = h.size → Stand p l e R s m args below meth c T' locs cells' slots' → T'.heap = h' → Ext h h' → own_IA Z h' b ty n (fun _ => 0) → own_Gl p e below s Q kc ks (T'.setTop (mkF m pc' L (.ref b :: S)))) :
    own_Gl p e below s Q kc ks (T.setTop (mkF m pc L (.int z :: S))) := by
  subst hp hcc hss hty
  have q : ¬ z < 0 := by
    have k0 : (0 : Int32).toInt = 0 := by decide
    rw [Int32.lt_iff_toInt_lt, k0]; omega
  have zn : z.toNatClampNeg = n := by rw [own_clamp]; omega
  obtain ⟨T', h', cA, X', e', E', A', st⟩ := newP X hx hZ w eT (g := mkF m pc L (.int z :: S)) rfl hd rfl q (cap := cap) (by omega) hb hc hl
  refine (k T' h' _ rfl X' e' E' ⟨_, A', by rw [sz_new, zn], fun i hi => ?_⟩).go st
  show (Array.replicate z.toNatClampNeg (defaultValue (newarray.typeOf aty)))[i]? = _
  rw [zn, hdv, Array.getElem?_replicate, if_pos hi]
theorem g_iastore (X : Stand p l e R s m args below meth c T locs cells slots) (hx : p.tables.exec = Jvm.exec) (hZ : Z.Warmed39 s.vm) (eT : T.heap = h) {a : Addr} {n : Nat} {f : Nat → Int32} {j x : Int32} (V : own_IA Z h a .int n f) (hj : 0 ≤ j.toInt ∧ j.toInt < n) (hd : decode c.code pc = .ok (.iastore, 1)) (hp : pc + 1 = pc')
    (k : ∀ (T' : State) (h' : Heap), Stand p l e R s m args below meth c T' (locs ++ [⟨a, j.toNatClampNeg⟩]) cells slots → T'.heap = h' → Wr h h' a j.toNatClampNeg (.int x) → own_IA Z h' a .int n (fun i => if i = j.toNatClampNeg then x else f i) → own_Gl p e below s Q kc ks (T'.setTop (mkF m pc' L S))) :
    own_Gl p e below s Q kc ks (T.setTop (mkF m pc L (.int x :: .int j :: .ref a :: S))) := by
  subst hp
  have V' := V
  obtain ⟨cl, A, Sz, H⟩ := V
  obtain ⟨T', h', X', e', W', st⟩ := stI X hx hZ eT A (own_in Sz hj) (g := mkF m pc L (.int x :: .int j :: .ref a :: S)) rfl rfl hd
  exact (k T' h' X' e' W' (V'.set W')).go st
theorem g_bastore (X : Stand p l e R s m args below meth c T locs cells slots) (hx : p.tables.exec = Jvm.exec) (hZ : Z.Warmed39 s.vm) (eT : T.heap = h) {a : Addr} {n : Nat} {f : Nat → Int32} {j x : Int32} (V : own_IA Z h a .byte n f) (hj : 0 ≤ j.toInt ∧ j.toInt < n) (hd : decode c.code pc = .ok (.bastore, 1)) (hp : pc + 1 = pc')
    (k : ∀ (T' : State) (h' : Heap), Stand p l e R s m args below meth c T' (locs ++ [⟨a, j.toNatClampNeg⟩]) cells slots → T'.heap = h' → Wr h h' a j.toNatClampNeg (.int x.toInt8.toInt32) → own_IA Z h' a .byte n (fun i => if i = j.toNatClampNeg then x.toInt8.toInt32 else f i) → own_Gl p e below s Q kc ks (T'.setTop (mkF m pc' L S))) :
    own_Gl p e below s Q kc ks (T.setTop (mkF m pc L (.int x :: .int j :: .ref a :: S))) := by
  subst hp
  have V' := V
  obtain ⟨cl, A, Sz, H⟩ := V
  obtain ⟨T', h', X', e', W', st⟩ := stB X hx hZ eT A (own_in Sz hj) (g := mkF m pc L (.int x :: .int j :: .ref a :: S)) rfl rfl hd
  exact (k T' h' X' e' W' (V'.set W')).go st
theorem g_zastore (X : Stand p l e R s m args below meth c T locs cells slots) (hx : p.tables.exec = Jvm.exec) (hZ : Z.Warmed39 s.vm) (eT : T.heap = h) {a : Addr} {n : Nat} {f : Nat → Int32} {j x x' : Int32} (V : own_IA Z h a .boolean n f) (hj : 0 ≤ j.toInt ∧ j.toInt < n) (hv : nar .boolean x = x') (hd : decode c.code pc = .ok (.bastore, 1)) (hp : pc + 1 = pc')
    (k : ∀ (T' : State) (h' : Heap), Stand p l e R s m args below meth c T' (locs ++ [⟨a, j.toNatClampNeg⟩]) cells slots → T'.heap = h' → Wr h h' a j.toNatClampNeg (.int x') → own_IA Z h' a .boolean n (fun i => if i = j.toNatClampNeg then x' else f i) → own_Gl p e below s Q kc ks (T'.setTop (mkF m pc' L S))) :
    own_Gl p e below s Q kc ks (T.setTop (mkF m pc L (.int x :: .int j :: .ref a :: S))) := by
  subst hp hv
  have V' := V
  obtain ⟨cl, A, Sz, H⟩ := V
  obtain ⟨T', h', X', e', W', st⟩ := stZ X hx hZ eT A (own_in Sz hj) (g := mkF m pc L (.int x :: .int j :: .ref a :: S)) rfl rfl hd
  exact (k T' h' X' e' W' (V'.set W')).go st
theorem own_at {a : Addr} {ty : FieldType} {n : Nat} {f : Nat → Int32} {c : Cell} (S : c.slots.size = n) (H : ∀ i, i < n → c.slots[i]? = some (.int (f i))) {j v : Int32} (hj : 0 ≤ j.toInt ∧ j.toInt < n) (hv : f j.toInt.toNat = v) : c.slots[j.toNatClampNeg]? = some (.int v) := by
  rw [own_clamp, H _ (by omega), hv]
theorem g_iaload (X : Stand p l e R s m args below meth c T locs cells slots) (hx : p.tables.exec = Jvm.exec) (hZ : Z.Warmed39 s.vm) (eT : T.heap = h) {a : Addr} {n : Nat} {f : Nat → Int32} {j v : Int32} (V : own_IA Z h a .int n f) (hj : 0 ≤ j.toInt ∧ j.toInt < n) (hv : f j.toInt.toNat = v) (hd : decode c.code pc = .ok (.iaload, 1)) (hp : pc + 1 = pc')
    (hr : own_Gl p e below s Q kc ks (T.setTop (mkF m pc' L (.int v :: S)))) : own_Gl p e below s Q kc ks (T.setTop (mkF m pc L (.int j :: .ref a :: S))) := by
  subst hp
  obtain ⟨cl, A, Sz, H⟩ := V
  exact hr.go fun t k => X.iaload hx (by rw [eT]; exact A.1) (State.isArrayOf_alike hZ.alike A.2.1) A.2.2 (own_in Sz hj) (own_at (a := a) (ty := .int) Sz H hj hv) (g := mkF m pc L (.int j :: .ref a :: S)) rfl rfl hd t k
theorem g_baload (X : Stand p l e R s m args below meth c T locs cells slots) (hx : p.tables.exec = Jvm.exec) (hZ : Z.Warmed39 s.vm) (eT : T.heap = h) {a : Addr} {n : Nat} {f : Nat → Int32} {j v : Int32} (V : own_IA Z h a .byte n f) (hj : 0 ≤ j.toInt ∧ j.toInt < n) (hv : f j.toInt.toNat = v) (hd : decode c.code pc = .ok (.baload, 1)) (hp : pc + 1 = pc')
    (hr : own_Gl p e below s Q kc ks (T.setTop (mkF m pc' L (.int v :: S)))) : own_Gl p e below s Q kc ks (T.setTop (mkF m pc L (.int j :: .ref a :: S))) := by
  subst hp
  obtain ⟨cl, A, Sz, H⟩ := V
  exact hr.go fun t k => X.baloadBytes hx (by rw [eT]; exact A.1) (State.isArrayOf_alike hZ.alike A.2.1) A.2.2 (own_in Sz hj) (own_at (a := a) (ty := .byte) Sz H hj hv) (g := mkF m pc L (.int j :: .ref a :: S)) rfl rfl hd t k
theorem g_zaload (X : Stand p l e R s m args below meth c T locs cells slots) (hx : p.tables.exec = Jvm.exec) (hZ : Z.Warmed39 s.vm) (eT : T.heap = h) {a : Addr} {n : Nat} {f : Nat → Int32} {j v : Int32} (V : own_IA Z h a .boolean n f) (hj : 0 ≤ j.toInt ∧ j.toInt < n) (hv : f j.toInt.toNat = v) (hd : decode c.code pc = .ok (.baload, 1)) (hp : pc + 1 = pc')
    (hr : own_Gl p e below s Q kc ks (T.setTop (mkF m pc' L (.int v :: S)))) : own_Gl p e below s Q kc ks (T.setTop (mkF m pc L (.int j :: .ref a :: S))) := by
  subst hp
  obtain ⟨cl, A, Sz, H⟩ := V
  exact hr.go fun t k => X.baloadBooleans hx (by rw [eT]; exact A.1) (State.isArrayOf_alike hZ.alike A.2.1) A.2.2 (own_in Sz hj) (own_at (a := a) (ty := .boolean) Sz H hj hv) (g := mkF m pc L (.int j :: .ref a :: S)) rfl rfl hd t k
theorem g_arraylength (X : Stand p l e R s m args below meth c T locs cells slots) (hx : p.tables.exec = Jvm.exec) (hZ : Z.Warmed39 s.vm) (eT : T.heap = h) {a : Addr} {ty : FieldType} {n : Nat} {f : Nat → Int32} {z : Int32} (V : own_IA Z h a ty n f) (hz : n.toInt32 = z) (hd : decode c.code pc = .ok (.arraylength, 1)) (hp : pc + 1 = pc')
    (hr : own_Gl p e below s Q kc ks (T.setTop (mkF m pc' L (.int z :: S)))) : own_Gl p e below s Q kc ks (T.setTop (mkF m pc L (.ref a :: S))) := by
  subst hp hz
  obtain ⟨cl, A, Sz, H⟩ := V
  subst Sz
  exact hr.go fun t k => X.arraylength hx (by rw [eT]; exact A.1) (State.isArrayOf_alike hZ.alike A.2.1) (g := mkF m pc L (.ref a :: S)) rfl rfl hd t k
theorem g_initO (X : Stand p l e R s m args below meth c T locs cells slots) (hx : p.tables.exec = Jvm.exec) (hZ : Z.Warmed39 s.vm) {own : String} {idx : Nat} (hown : s.vm.findClass own = some m.cls) (w1 : (Jvm.Cond.methodLink own idx Lib.objectInit).before a0 Z = true) (w2 : (Jvm.Cond.instanceMethod Lib.objectInit).before a0 Z = true)
    (w3 : (Jvm.Cond.code Lib.objectInit ⟨#[0xb1]⟩ 1 none).before a0 Z = true) (eT : T.heap = h) {a : Addr} (hsize : L.size = c.maxLocals) (hd : decode c.code pc = .ok (.invokespecial idx, 3)) (hp : pc + 3 = pc')
    (hf : 1 ≤ R.frames) (W : Nat) (hW : (S.map fun v => v.category).sum ≤ W) (hl : W + 12 ≤ R.locals) (k : ∀ T' : State, Stand p l e R s m args below meth c T' locs cells slots → T'.heap = h → own_Gl p e below s Q kc ks (T'.setTop (mkF m pc' L S))) :
    own_Gl p e below s Q kc ks (T.setTop (mkF m pc L (.ref a :: S))) := by
  subst hp
  obtain ⟨T', X', e', st⟩ := initO X hx hZ hown w1 w2 w3 eT (g := mkF m pc L (.ref a :: S)) rfl hsize rfl hd hf (W := W) (by show 2 * 0 + _ ≤ _; omega) hl
  exact (k T' X' e').go st
/-- a constructor by its contract -/
theorem g_callI (X : Stand p l e R s m args below meth c T locs cells slots) (hx : p.tables.exec = Jvm.exec) (hZ : Z.Warmed39 s.vm) {own : String} {index : Nat} {y : MethodName} {bytes : ByteArray} {maxL : Nat} (hy1 : y.name = "<init>") (hown : s.vm.findClass own = some m.cls)
    (w1 : (Jvm.Cond.methodLink own index y).before a0 Z = true) (w2 : (Jvm.Cond.instanceMethod y).before a0 Z = true) (w3 : (Jvm.Cond.initialized y.cls).before a0 Z = true) (w4 : (Jvm.Cond.code y bytes maxL none).before a0 Z = true) (hy : y.cls ≠ "java/lang/invoke/MethodHandle" ∧ y.cls ≠ "java/lang/invoke/VarHandle")
    {rm : Room} {as' : Array Value} {Qc : Option Value → Heap → List Loc → Prop}
    (hM : MetFree l y (head1 [Jvm.Cond.code y bytes maxL none] rm) (fun a U => a = as' ∧ Z.Warmed39 U.vm ∧ U.heap = h) (fun _ _ _ _ _ => True) (fun _ U o U' => ∃ v L, o = .returned v ∧ Qc v U'.heap L ∧ FrameEnd U o U' L rm.cells rm.slots))
    (W : Nat) (hf : rm.frames + 1 ≤ R.frames) (hl : W + (maxL + 11) + rm.locals ≤ R.locals) (eT : T.heap = h) (hsize : L.size = c.maxLocals) {a : Addr} (argsL rest : List Value) (hlen : ∀ sig, parseMethodDescriptor y.desc = some sig → argsL.length = sig.parameters.length)
    (hst : S = argsL.reverse ++ .ref a :: rest) (has : (Value.ref a :: argsL).toArray = as') (hW : (rest.map fun v => v.category).sum ≤ W) (hd : decode c.code pc = .ok (.invokespecial index, 3)) (hp : pc + 3 = pc') {cells' slots' : Nat} (hcc : cells + rm.cells = cells') (hss : slots + rm.slots = slots') (hcl : cells' ≤ R.cells) (hsl : slots' ≤ R.slots)
    (k : ∀ (v : Option Value) (T' : State) (L' : List Loc), Stand p l e R s m args below meth c T' (locs ++ L') cells' slots' → Qc v T'.heap L' → own_Gl p e below s Q kc ks (T'.setTop (mkF m pc' L (v.toList ++ rest)))) :
    own_Gl p e below s Q kc ks (T.setTop (mkF m pc L S)) := by
  subst hp hst hcc hss
  obtain ⟨v, _, ⟨T', L', k', n'⟩, -, X', ⟨Lc, hQ, l', y', z'⟩, st⟩ := X.specialBack hx (y := y) hy1 hown (mvT hZ w1) (mvT hZ w2) (mvT hZ w4) hy (backOf (W := W) hM hZ w4 w3 hf hl) (g := mkF m pc L (argsL.reverse ++ .ref a :: rest)) rfl hsize (Steps.refl _) (a := a) (argsL := argsL) (rest := rest) hlen rfl (by show 2 * 0 + _ ≤ _; omega) hd (fun _ _ => ⟨has, eT, hcl, hsl⟩)
  dsimp only [Pt.U, Pt.locs, Pt.cells, Pt.slots] at X' l' y' z' st hQ
  subst l' y' z'
  exact (k v T' Lc X' hQ).go fun t q => st.trans q
/-- an instance method by its contract -/
theorem g_callV (X : Stand p l e R s m args below meth c T locs cells slots) (hx : p.tables.exec = Jvm.exec) (hZ : Z.Warmed39 s.vm) {own C : String} {index : Nat} {y z : MethodName} {bytes : ByteArray} {maxL : Nat} {ret : Option FieldType} (hown : s.vm.findClass own = some m.cls)
    (w1 : (Jvm.Cond.methodLink own index y).before a0 Z = true) (w2 : (Jvm.Cond.declares y).before a0 Z = true) (nf : NotFace s y) (w5 : (Jvm.Cond.selects C y z).before a0 Z = true) (w6 : (Jvm.Cond.instanceMethod z).before a0 Z = true) (w3 : (Jvm.Cond.initialized z.cls).before a0 Z = true) (w4 : (Jvm.Cond.code z bytes maxL ret).before a0 Z = true) (hy : y.cls ≠ "java/lang/invoke/MethodHandle" ∧ y.cls ≠ "java/lang/invoke/VarHandle")
    {rm : Room} {as' : Array Value} {Qc : Option Value → Heap → List Loc → Prop}
    (hM : MetFree l z (head1 [Jvm.Cond.code z bytes maxL ret] rm) (fun a U => a = as' ∧ Z.Warmed39 U.vm ∧ U.heap = h) (fun _ _ _ _ _ => True) (fun _ U o U' => ∃ v L, o = .returned v ∧ Qc v U'.heap L ∧ FrameEnd U o U' L rm.cells rm.slots))
    (W : Nat) (hf : rm.frames + 1 ≤ R.frames) (hl : W + (maxL + 11) + rm.locals ≤ R.locals) (eT : T.heap = h) {a : Addr} (E : Exa Z h a C) (hsize : L.size = c.maxLocals) (argsL rest : List Value) (hlen : ∀ sig, parseMethodDescriptor y.desc = some sig → argsL.length = sig.parameters.length)
    (hst : S = argsL.reverse ++ .ref a :: rest) (has : (Value.ref a :: argsL).toArray = as') (hW : (rest.map fun v => v.category).sum ≤ W) (hd : decode c.code pc = .ok (.invokevirtual index, 3)) (hp : pc + 3 = pc') {cells' slots' : Nat} (hcc : cells + rm.cells = cells') (hss : slots + rm.slots = slots') (hcl : cells' ≤ R.cells) (hsl : slots' ≤ R.slots)
    (k : ∀ (v : Option Value) (T' : State) (L' : List Loc), Stand p l e R s m args below meth c T' (locs ++ L') cells' slots' → Qc v T'.heap L' → own_Gl p e below s Q kc ks (T'.setTop (mkF m pc' L (v.toList ++ rest)))) :
    own_Gl p e below s Q kc ks (T.setTop (mkF m pc L S)) := by
  subst hp hst hcc hss
  obtain ⟨cq, kq, qa, qb, qc⟩ := isOf hZ eT E
  obtain ⟨v, _, ⟨T', L', k', n'⟩, -, X', ⟨Lc, hQ, l', y', z'⟩, st⟩ := X.virtualBack hx (y := y) (z := z) hown (mvT hZ w1) (mvT hZ w2) nf (mvT hZ w5) (mvT hZ w6) hy (backOf (W := W) hM hZ w4 w3 hf hl) qa qc (g := mkF m pc L (argsL.reverse ++ .ref a :: rest)) rfl hsize (Steps.refl _) (argsL := argsL) (rest := rest) hlen rfl (by show 2 * 0 + _ ≤ _; omega) hd (fun _ _ => ⟨has, eT, hcl, hsl⟩)
  dsimp only [Pt.U, Pt.locs, Pt.cells, Pt.slots] at X' l' y' z' st hQ
  subst l' y' z'
  exact (k v T' Lc X' hQ).go fun t q => st.trans q
theorem own_nameL {n0 : Nat} (X : Stand p l e R s m args below meth c T locs cells slots) (N : Fr n0 locs) : ∃ lc, Fr n0 lc ∧ Stand p l e R s m args below meth c T lc cells slots := ⟨locs, N, X⟩
theorem own_nf {y : MethodName} {C : String} (hZ : Z.Warmed39 s.vm) (w5 : (Jvm.Cond.selects C y y).before a0 Z = true) : NotFace s y := notFace_of_selects (args := #[]) (mvT hZ w5)
end OwnHeap
def own_Q0 (n0 : Nat) (v : Option Value) (h : Heap) (L : List Loc) : Prop := v = some (.int 1) ∧ Fr n0 L
theorem d1_0 : decode method_2_code 0 = .ok (.iload 4, 2) := by decide +kernel
theorem d1_2 : decode method_2_code 2 = .ok (.bipush 8, 2) := by decide +kernel
theorem d1_4 : decode method_2_code 4 = .ok (.if_icmp .ge 15, 3) := by decide +kernel
theorem d1_7 : decode method_2_code 7 = .ok (.lload_n 0, 1) := by decide +kernel
theorem d1_8 : decode method_2_code 8 = .ok (.bipush 8, 2) := by decide +kernel
theorem d1_10 : decode method_2_code 10 = .ok (.iload 4, 2) := by decide +kernel
theorem d1_12 : decode method_2_code 12 = .ok (.imul, 1) := by decide +kernel
theorem d1_13 : decode method_2_code 13 = .ok (.lushr, 1) := by decide +kernel
theorem d1_14 : decode method_2_code 14 = .ok (.l2i, 1) := by decide +kernel
theorem d1_15 : decode method_2_code 15 = .ok (.i2b, 1) := by decide +kernel
theorem d1_16 : decode method_2_code 16 = .ok (.goto 15, 3) := by decide +kernel
theorem d1_31 : decode method_2_code 31 = .ok (.istore 6, 2) := by decide +kernel
theorem d1_33 : decode method_2_code 33 = .ok (.iload 5, 2) := by decide +kernel
theorem d1_35 : decode method_2_code 35 = .ok (.ifCond .eq 13, 3) := by decide +kernel
theorem d1_48 : decode method_2_code 48 = .ok (.iload 6, 2) := by decide +kernel
theorem d1_50 : decode method_2_code 50 = .ok (.ireturn, 1) := by decide +kernel
theorem d1_38 : decode method_2_code 38 = .ok (.bipush 45, 2) := by decide +kernel
theorem d1_40 : decode method_2_code 40 = .ok (.iload 6, 2) := by decide +kernel
theorem d1_42 : decode method_2_code 42 = .ok (.bipush 15, 2) := by decide +kernel
theorem d1_44 : decode method_2_code 44 = .ok (.iand, 1) := by decide +kernel
theorem d1_45 : decode method_2_code 45 = .ok (.iadd, 1) := by decide +kernel
theorem d1_46 : decode method_2_code 46 = .ok (.i2b, 1) := by decide +kernel
theorem d1_47 : decode method_2_code 47 = .ok (.ireturn, 1) := by decide +kernel
theorem d1_19 : decode method_2_code 19 = .ok (.lload_n 2, 1) := by decide +kernel
theorem d1_20 : decode method_2_code 20 = .ok (.bipush 8, 2) := by decide +kernel
theorem d1_22 : decode method_2_code 22 = .ok (.iload 4, 2) := by decide +kernel
theorem d1_24 : decode method_2_code 24 = .ok (.bipush 8, 2) := by decide +kernel
theorem d1_26 : decode method_2_code 26 = .ok (.isub, 1) := by decide +kernel
theorem d1_27 : decode method_2_code 27 = .ok (.imul, 1) := by decide +kernel
theorem d1_28 : decode method_2_code 28 = .ok (.lushr, 1) := by decide +kernel
theorem d1_29 : decode method_2_code 29 = .ok (.l2i, 1) := by decide +kernel
theorem d1_30 : decode method_2_code 30 = .ok (.i2b, 1) := by decide +kernel
def f_pick (x0 : Int64) (x1 : Int64) (x2 : Int32) (x3 : Int32) : Int32 := (if x2 < (8 : Int32) then (if x3 = (0 : Int32) then (((((x0.toUInt64 >>> (((8 : Int32) * x2) &&& 0x3f).toInt64.toUInt64).toInt64).toInt32).toInt8.toInt32).toInt8.toInt32) else ((((45 : Int32) + (((((x0.toUInt64 >>> (((8 : Int32) * x2) &&& 0x3f).toInt64.toUInt64).toInt64).toInt32).toInt8.toInt32) &&& (15 : Int32))).toInt8.toInt32).toInt8.toInt32)) else (if x3 = (0 : Int32) then (((((x1.toUInt64 >>> (((8 : Int32) * (x2 - (8 : Int32))) &&& 0x3f).toInt64.toUInt64).toInt64).toInt32).toInt8.toInt32).toInt8.toInt32) else ((((45 : Int32) + (((((x1.toUInt64 >>> (((8 : Int32) * (x2 - (8 : Int32))) &&& 0x3f).toInt64.toUInt64).toInt64).toInt32).toInt8.toInt32) &&& (15 : Int32))).toInt8.toInt32).toInt8.toInt32)))
theorem pn_0 : plainName "com/example/leaderline/leaderline/Iso2709DigitsPinLaw" = true := by first | (simp [plainName, overriddenIn]; done) | decide +kernel
theorem ef_1 (m : MethodId) (x0 : Int64) (x1 : Int64) (x2 : Int32) (x3 : Int32) : entryFrame m #[(.long x0), (.long x1), (.int x2), (.int x3)] 7 = mkF m 0 #[.val (.long x0), .second, .val (.long x1), .second, .val (.int x2), .val (.int x3), .unset] [] := by first | (simp [entryFrame, mkF, argsToLocals, Value.category]; done) | rfl
set_option maxRecDepth 65536 in
set_option maxHeartbeats 40000000 in
theorem rm1 (l : Launch) (Z : State) (a0 : Array Value) (hw : ∀ d ∈ tables_1, d.before a0 Z = true) (ws : List Jvm.Cond) (x0 : Int64) (x1 : Int64) (x2 : Int32) (x3 : Int32) (h0 : Heap) :
    MetFree l (⟨"com/example/leaderline/leaderline/Iso2709DigitsPinLaw", "pick", "(JJIZ)B"⟩ : MethodName) (head1 (Jvm.Cond.code (⟨"com/example/leaderline/leaderline/Iso2709DigitsPinLaw", "pick", "(JJIZ)B"⟩ : MethodName) method_2_code 7 (some .byte) :: ws) ({ frames := 0, cells := 0, slots := 0, locals := 0 } : Room)) (fun a U => a = #[(.long x0), (.long x1), (.int x2), (.int x3)] ∧ Z.Warmed39 U.vm ∧ U.heap = h0) (fun _ _ _ _ _ => True) (fun _ U o U' => ∃ v L, o = .returned v ∧ (own_Pure (some (.int (f_pick x0 x1 x2 x3))) h0) v U'.heap L ∧ FrameEnd U o U' L ({ frames := 0, cells := 0, slots := 0, locals := 0 } : Room).cells ({ frames := 0, cells := 0, slots := 0, locals := 0 } : Room).slots) := by
  refine own_body (own := "com/example/leaderline/leaderline/Iso2709DigitsPinLaw") pn_0 rfl (fun m => ef_1 m x0 x1 x2 x3) ?_
  intro p e s m below meth c T0 hx hby hml hown hnm hlk hret hZ X0 e0
  refine g_iload X0.here hx (Jvm.hb hby d1_0) (pc' := 2) rfl rfl ?_
  refine g_bipush X0.here hx (Jvm.hb hby d1_2) (pc' := 4) rfl (z := (8 : Int32)) rfl ?_
  by_cases hc4_0 : x2 < (8 : Int32)
  · refine g_icN X0.here hx (Jvm.hb hby d1_4) (pc' := 7) rfl (tlt hc4_0).2.1 ?_
    refine g_lloadN X0.here hx (Jvm.hb hby d1_7) (pc' := 8) rfl rfl ?_
    refine g_bipush X0.here hx (Jvm.hb hby d1_8) (pc' := 10) rfl (z := (8 : Int32)) rfl ?_
    refine g_iload X0.here hx (Jvm.hb hby d1_10) (pc' := 12) rfl rfl ?_
    refine g_imul X0.here hx (Jvm.hb hby d1_12) (pc' := 13) rfl ?_
    refine g_lushr X0.here hx (Jvm.hb hby d1_13) (pc' := 14) rfl ?_
    refine g_l2i X0.here hx (Jvm.hb hby d1_14) (pc' := 15) rfl ?_
    refine g_i2b X0.here hx (Jvm.hb hby d1_15) (pc' := 16) rfl ?_
    refine g_goto X0.here hx (Jvm.hb hby d1_16) (by decide) (pc' := 31) (by decide) ?_
    refine g_istore X0.here hx (Jvm.hb hby d1_31) (pc' := 33) rfl (L' := #[.val (.long x0), .second, .val (.long x1), .second, .val (.int x2), .val (.int x3), .val (.int ((((x0.toUInt64 >>> (((8 : Int32) * x2) &&& 0x3f).toInt64.toUInt64).toInt64).toInt32).toInt8.toInt32))]) rfl ?_
    refine g_iload X0.here hx (Jvm.hb hby d1_33) (pc' := 35) rfl rfl ?_
    by_cases hc35_1 : x3 = (0 : Int32)
    · refine g_ifY X0.here hx (Jvm.hb hby d1_35) (by decide) (pc' := 48) (by decide) ((if0 _ _).trans (teq hc35_1).1) ?_
      refine g_iload X0.here hx (Jvm.hb hby d1_48) (pc' := 50) rfl rfl ?_
      exact g_retN X0 hx hlk (t := .byte) hret (by simp) (z' := (((((x0.toUInt64 >>> (((8 : Int32) * x2) &&& 0x3f).toInt64.toUInt64).toInt64).toInt32).toInt8.toInt32).toInt8.toInt32)) rfl (Jvm.hb hby d1_50) (Nat.zero_le _) (Nat.zero_le _) ⟨by simp only [f_pick, if_pos hc4_0, if_pos hc35_1], rfl, e0⟩
    · refine g_ifN X0.here hx (Jvm.hb hby d1_35) (pc' := 38) rfl ((if0 _ _).trans (feq hc35_1).1) ?_
      refine g_bipush X0.here hx (Jvm.hb hby d1_38) (pc' := 40) rfl (z := (45 : Int32)) rfl ?_
      refine g_iload X0.here hx (Jvm.hb hby d1_40) (pc' := 42) rfl rfl ?_
      refine g_bipush X0.here hx (Jvm.hb hby d1_42) (pc' := 44) rfl (z := (15 : Int32)) rfl ?_
      refine g_iand X0.here hx (Jvm.hb hby d1_44) (pc' := 45) rfl ?_
      refine g_iadd X0.here hx (Jvm.hb hby d1_45) (pc' := 46) rfl ?_
      refine g_i2b X0.here hx (Jvm.hb hby d1_46) (pc' := 47) rfl ?_
      exact g_retN X0 hx hlk (t := .byte) hret (by simp) (z' := ((((45 : Int32) + (((((x0.toUInt64 >>> (((8 : Int32) * x2) &&& 0x3f).toInt64.toUInt64).toInt64).toInt32).toInt8.toInt32) &&& (15 : Int32))).toInt8.toInt32).toInt8.toInt32)) rfl (Jvm.hb hby d1_47) (Nat.zero_le _) (Nat.zero_le _) ⟨by simp only [f_pick, if_pos hc4_0, if_neg hc35_1], rfl, e0⟩
  · refine g_icY X0.here hx (Jvm.hb hby d1_4) (by decide) (pc' := 19) (by decide) (flt hc4_0).2.1 ?_
    refine g_lloadN X0.here hx (Jvm.hb hby d1_19) (pc' := 20) rfl rfl ?_
    refine g_bipush X0.here hx (Jvm.hb hby d1_20) (pc' := 22) rfl (z := (8 : Int32)) rfl ?_
    refine g_iload X0.here hx (Jvm.hb hby d1_22) (pc' := 24) rfl rfl ?_
    refine g_bipush X0.here hx (Jvm.hb hby d1_24) (pc' := 26) rfl (z := (8 : Int32)) rfl ?_
    refine g_isub X0.here hx (Jvm.hb hby d1_26) (pc' := 27) rfl ?_
    refine g_imul X0.here hx (Jvm.hb hby d1_27) (pc' := 28) rfl ?_
    refine g_lushr X0.here hx (Jvm.hb hby d1_28) (pc' := 29) rfl ?_
    refine g_l2i X0.here hx (Jvm.hb hby d1_29) (pc' := 30) rfl ?_
    refine g_i2b X0.here hx (Jvm.hb hby d1_30) (pc' := 31) rfl ?_
    refine g_istore X0.here hx (Jvm.hb hby d1_31) (pc' := 33) rfl (L' := #[.val (.long x0), .second, .val (.long x1), .second, .val (.int x2), .val (.int x3), .val (.int ((((x1.toUInt64 >>> (((8 : Int32) * (x2 - (8 : Int32))) &&& 0x3f).toInt64.toUInt64).toInt64).toInt32).toInt8.toInt32))]) rfl ?_
    refine g_iload X0.here hx (Jvm.hb hby d1_33) (pc' := 35) rfl rfl ?_
    by_cases hc35_1 : x3 = (0 : Int32)
    · refine g_ifY X0.here hx (Jvm.hb hby d1_35) (by decide) (pc' := 48) (by decide) ((if0 _ _).trans (teq hc35_1).1) ?_
      refine g_iload X0.here hx (Jvm.hb hby d1_48) (pc' := 50) rfl rfl ?_
      exact g_retN X0 hx hlk (t := .byte) hret (by simp) (z' := (((((x1.toUInt64 >>> (((8 : Int32) * (x2 - (8 : Int32))) &&& 0x3f).toInt64.toUInt64).toInt64).toInt32).toInt8.toInt32).toInt8.toInt32)) rfl (Jvm.hb hby d1_50) (Nat.zero_le _) (Nat.zero_le _) ⟨by simp only [f_pick, if_neg hc4_0, if_pos hc35_1], rfl, e0⟩
    · refine g_ifN X0.here hx (Jvm.hb hby d1_35) (pc' := 38) rfl ((if0 _ _).trans (feq hc35_1).1) ?_
      refine g_bipush X0.here hx (Jvm.hb hby d1_38) (pc' := 40) rfl (z := (45 : Int32)) rfl ?_
      refine g_iload X0.here hx (Jvm.hb hby d1_40) (pc' := 42) rfl rfl ?_
      refine g_bipush X0.here hx (Jvm.hb hby d1_42) (pc' := 44) rfl (z := (15 : Int32)) rfl ?_
      refine g_iand X0.here hx (Jvm.hb hby d1_44) (pc' := 45) rfl ?_
      refine g_iadd X0.here hx (Jvm.hb hby d1_45) (pc' := 46) rfl ?_
      refine g_i2b X0.here hx (Jvm.hb hby d1_46) (pc' := 47) rfl ?_
      exact g_retN X0 hx hlk (t := .byte) hret (by simp) (z' := ((((45 : Int32) + (((((x1.toUInt64 >>> (((8 : Int32) * (x2 - (8 : Int32))) &&& 0x3f).toInt64.toUInt64).toInt64).toInt32).toInt8.toInt32) &&& (15 : Int32))).toInt8.toInt32).toInt8.toInt32)) rfl (Jvm.hb hby d1_47) (Nat.zero_le _) (Nat.zero_le _) ⟨by simp only [f_pick, if_neg hc4_0, if_neg hc35_1], rfl, e0⟩
theorem d5_0 : decode method_3_code 0 = .ok (.iload_n 0, 1) := by decide +kernel
theorem d5_1 : decode method_3_code 1 = .ok (.bipush 48, 2) := by decide +kernel
theorem d5_3 : decode method_3_code 3 = .ok (.if_icmp .lt 13, 3) := by decide +kernel
theorem d5_16 : decode method_3_code 16 = .ok (.iconst 0, 1) := by decide +kernel
theorem d5_17 : decode method_3_code 17 = .ok (.ireturn, 1) := by decide +kernel
theorem d5_6 : decode method_3_code 6 = .ok (.iload_n 0, 1) := by decide +kernel
theorem d5_7 : decode method_3_code 7 = .ok (.bipush 57, 2) := by decide +kernel
theorem d5_9 : decode method_3_code 9 = .ok (.if_icmp .gt 7, 3) := by decide +kernel
theorem d5_12 : decode method_3_code 12 = .ok (.iconst 1, 1) := by decide +kernel
theorem d5_13 : decode method_3_code 13 = .ok (.goto 4, 3) := by decide +kernel
def f_dig (x0 : Int32) : Int32 := (if x0 < (48 : Int32) then (0 : Int32) else (if (57 : Int32) < x0 then (0 : Int32) else (1 : Int32)))
theorem ef_5 (m : MethodId) (x0 : Int32) : entryFrame m #[(.int x0)] 1 = mkF m 0 #[.val (.int x0)] [] := by first | (simp [entryFrame, mkF, argsToLocals, Value.category]; done) | rfl
set_option maxRecDepth 65536 in
set_option maxHeartbeats 40000000 in
theorem rm5 (l : Launch) (Z : State) (a0 : Array Value) (hw : ∀ d ∈ tables_1, d.before a0 Z = true) (ws : List Jvm.Cond) (x0 : Int32) (h0 : Heap) :
    MetFree l (⟨"com/example/leaderline/leaderline/Iso2709DigitsPinLaw", "isDigit", "(B)Z"⟩ : MethodName) (head1 (Jvm.Cond.code (⟨"com/example/leaderline/leaderline/Iso2709DigitsPinLaw", "isDigit", "(B)Z"⟩ : MethodName) method_3_code 1 (some .boolean) :: ws) ({ frames := 0, cells := 0, slots := 0, locals := 0 } : Room)) (fun a U => a = #[(.int x0)] ∧ Z.Warmed39 U.vm ∧ U.heap = h0) (fun _ _ _ _ _ => True) (fun _ U o U' => ∃ v L, o = .returned v ∧ (own_Pure (some (.int (f_dig x0))) h0) v U'.heap L ∧ FrameEnd U o U' L ({ frames := 0, cells := 0, slots := 0, locals := 0 } : Room).cells ({ frames := 0, cells := 0, slots := 0, locals := 0 } : Room).slots) := by
  refine own_body (own := "com/example/leaderline/leaderline/Iso2709DigitsPinLaw") pn_0 rfl (fun m => ef_5 m x0) ?_
  intro p e s m below meth c T0 hx hby hml hown hnm hlk hret hZ X0 e0
  refine g_iloadN X0.here hx (Jvm.hb hby d5_0) (pc' := 1) rfl rfl ?_
  refine g_bipush X0.here hx (Jvm.hb hby d5_1) (pc' := 3) rfl (z := (48 : Int32)) rfl ?_
  by_cases hc3_0 : x0 < (48 : Int32)
  · refine g_icY X0.here hx (Jvm.hb hby d5_3) (by decide) (pc' := 16) (by decide) (tlt hc3_0).1 ?_
    refine g_iconst X0.here hx (Jvm.hb hby d5_16) (pc' := 17) rfl (z := (0 : Int32)) rfl ?_
    exact g_retN X0 hx hlk (t := .boolean) hret (by simp) (z' := (0 : Int32)) rfl (Jvm.hb hby d5_17) (Nat.zero_le _) (Nat.zero_le _) ⟨by simp only [f_dig, if_pos hc3_0], rfl, e0⟩
  · refine g_icN X0.here hx (Jvm.hb hby d5_3) (pc' := 6) rfl (flt hc3_0).1 ?_
    refine g_iloadN X0.here hx (Jvm.hb hby d5_6) (pc' := 7) rfl rfl ?_
    refine g_bipush X0.here hx (Jvm.hb hby d5_7) (pc' := 9) rfl (z := (57 : Int32)) rfl ?_
    by_cases hc9_1 : (57 : Int32) < x0
    · refine g_icY X0.here hx (Jvm.hb hby d5_9) (by decide) (pc' := 16) (by decide) (tlt hc9_1).2.2.1 ?_
      refine g_iconst X0.here hx (Jvm.hb hby d5_16) (pc' := 17) rfl (z := (0 : Int32)) rfl ?_
      exact g_retN X0 hx hlk (t := .boolean) hret (by simp) (z' := (0 : Int32)) rfl (Jvm.hb hby d5_17) (Nat.zero_le _) (Nat.zero_le _) ⟨by simp only [f_dig, if_neg hc3_0, if_pos hc9_1], rfl, e0⟩
    · refine g_icN X0.here hx (Jvm.hb hby d5_9) (pc' := 12) rfl (flt hc9_1).2.2.1 ?_
      refine g_iconst X0.here hx (Jvm.hb hby d5_12) (pc' := 13) rfl (z := (1 : Int32)) rfl ?_
      refine g_goto X0.here hx (Jvm.hb hby d5_13) (by decide) (pc' := 17) (by decide) ?_
      exact g_retN X0 hx hlk (t := .boolean) hret (by simp) (z' := (1 : Int32)) rfl (Jvm.hb hby d5_17) (Nat.zero_le _) (Nat.zero_le _) ⟨by simp only [f_dig, if_neg hc3_0, if_neg hc9_1], rfl, e0⟩
theorem d6_0 : decode method_4_code 0 = .ok (.iload_n 0, 1) := by decide +kernel
theorem d6_1 : decode method_4_code 1 = .ok (.ifCond .ne 5, 3) := by decide +kernel
theorem d6_4 : decode method_4_code 4 = .ok (.iconst 1, 1) := by decide +kernel
theorem d6_5 : decode method_4_code 5 = .ok (.ireturn, 1) := by decide +kernel
theorem d6_6 : decode method_4_code 6 = .ok (.iload_n 0, 1) := by decide +kernel
theorem d6_7 : decode method_4_code 7 = .ok (.iconst 1, 1) := by decide +kernel
theorem d6_8 : decode method_4_code 8 = .ok (.if_icmp .ne 6, 3) := by decide +kernel
theorem d6_11 : decode method_4_code 11 = .ok (.bipush 10, 2) := by decide +kernel
theorem d6_13 : decode method_4_code 13 = .ok (.ireturn, 1) := by decide +kernel
theorem d6_14 : decode method_4_code 14 = .ok (.iload_n 0, 1) := by decide +kernel
theorem d6_15 : decode method_4_code 15 = .ok (.iconst 2, 1) := by decide +kernel
theorem d6_16 : decode method_4_code 16 = .ok (.if_icmp .ne 6, 3) := by decide +kernel
theorem d6_19 : decode method_4_code 19 = .ok (.bipush 100, 2) := by decide +kernel
theorem d6_21 : decode method_4_code 21 = .ok (.ireturn, 1) := by decide +kernel
theorem d6_22 : decode method_4_code 22 = .ok (.iload_n 0, 1) := by decide +kernel
theorem d6_23 : decode method_4_code 23 = .ok (.iconst 3, 1) := by decide +kernel
theorem d6_24 : decode method_4_code 24 = .ok (.if_icmp .ne 7, 3) := by decide +kernel
theorem d6_27 : decode method_4_code 27 = .ok (.sipush 1000, 3) := by decide +kernel
theorem d6_30 : decode method_4_code 30 = .ok (.ireturn, 1) := by decide +kernel
theorem d6_31 : decode method_4_code 31 = .ok (.iload_n 0, 1) := by decide +kernel
theorem d6_32 : decode method_4_code 32 = .ok (.iconst 4, 1) := by decide +kernel
theorem d6_33 : decode method_4_code 33 = .ok (.if_icmp .ne 7, 3) := by decide +kernel
theorem d6_36 : decode method_4_code 36 = .ok (.sipush 10000, 3) := by decide +kernel
theorem d6_39 : decode method_4_code 39 = .ok (.ireturn, 1) := by decide +kernel
theorem d6_40 : decode method_4_code 40 = .ok (.iload_n 0, 1) := by decide +kernel
theorem d6_41 : decode method_4_code 41 = .ok (.iconst 5, 1) := by decide +kernel
theorem d6_42 : decode method_4_code 42 = .ok (.if_icmp .ne 6, 3) := by decide +kernel
theorem d6_45 : decode method_4_code 45 = .ok (.ldc 7, 2) := by decide +kernel
theorem d6_47 : decode method_4_code 47 = .ok (.ireturn, 1) := by decide +kernel
theorem d6_48 : decode method_4_code 48 = .ok (.iload_n 0, 1) := by decide +kernel
theorem d6_49 : decode method_4_code 49 = .ok (.bipush 6, 2) := by decide +kernel
theorem d6_51 : decode method_4_code 51 = .ok (.if_icmp .ne 6, 3) := by decide +kernel
theorem d6_54 : decode method_4_code 54 = .ok (.ldc 8, 2) := by decide +kernel
theorem d6_56 : decode method_4_code 56 = .ok (.ireturn, 1) := by decide +kernel
theorem d6_57 : decode method_4_code 57 = .ok (.iload_n 0, 1) := by decide +kernel
theorem d6_58 : decode method_4_code 58 = .ok (.bipush 7, 2) := by decide +kernel
theorem d6_60 : decode method_4_code 60 = .ok (.if_icmp .ne 6, 3) := by decide +kernel
theorem d6_63 : decode method_4_code 63 = .ok (.ldc 9, 2) := by decide +kernel
theorem d6_65 : decode method_4_code 65 = .ok (.ireturn, 1) := by decide +kernel
theorem d6_66 : decode method_4_code 66 = .ok (.ldc 10, 2) := by decide +kernel
theorem d6_68 : decode method_4_code 68 = .ok (.ireturn, 1) := by decide +kernel
def f_p10 (x0 : Int32) : Int32 := (if x0 = (0 : Int32) then (1 : Int32) else (if x0 = (1 : Int32) then (10 : Int32) else (if x0 = (2 : Int32) then (100 : Int32) else (if x0 = (3 : Int32) then (1000 : Int32) else (if x0 = (4 : Int32) then (10000 : Int32) else (if x0 = (5 : Int32) then (100000 : Int32) else (if x0 = (6 : Int32) then (1000000 : Int32) else (if x0 = (7 : Int32) then (10000000 : Int32) else (100000000 : Int32)))))))))
theorem ef_6 (m : MethodId) (x0 : Int32) : entryFrame m #[(.int x0)] 1 = mkF m 0 #[.val (.int x0)] [] := by first | (simp [entryFrame, mkF, argsToLocals, Value.category]; done) | rfl
set_option maxRecDepth 65536 in
set_option maxHeartbeats 40000000 in
theorem rm6 (l : Launch) (Z : State) (a0 : Array Value) (hw : ∀ d ∈ tables_1, d.before a0 Z = true) (ws : List Jvm.Cond) (x0 : Int32) (h0 : Heap) :
    MetFree l (⟨"com/example/leaderline/leaderline/Iso2709DigitsPinLaw", "pow10", "(I)I"⟩ : MethodName) (head1 (Jvm.Cond.code (⟨"com/example/leaderline/leaderline/Iso2709DigitsPinLaw", "pow10", "(I)I"⟩ : MethodName) method_4_code 1 (some .int) :: ws) ({ frames := 0, cells := 0, slots := 0, locals := 0 } : Room)) (fun a U => a = #[(.int x0)] ∧ Z.Warmed39 U.vm ∧ U.heap = h0) (fun _ _ _ _ _ => True) (fun _ U o U' => ∃ v L, o = .returned v ∧ (own_Pure (some (.int (f_p10 x0))) h0) v U'.heap L ∧ FrameEnd U o U' L ({ frames := 0, cells := 0, slots := 0, locals := 0 } : Room).cells ({ frames := 0, cells := 0, slots := 0, locals := 0 } : Room).slots) := by
  refine own_body (own := "com/example/leaderline/leaderline/Iso2709DigitsPinLaw") pn_0 rfl (fun m => ef_6 m x0) ?_
  intro p e s m below meth c T0 hx hby hml hown hnm hlk hret hZ X0 e0
  have w_21 := hw _ (List.mem_of_getElem? (i := 21) rfl)
  have w_22 := hw _ (List.mem_of_getElem? (i := 22) rfl)
  have w_23 := hw _ (List.mem_of_getElem? (i := 23) rfl)
  have w_24 := hw _ (List.mem_of_getElem? (i := 24) rfl)
  refine g_iloadN X0.here hx (Jvm.hb hby d6_0) (pc' := 1) rfl rfl ?_
  by_cases hc1_0 : x0 = (0 : Int32)
  · refine g_ifN X0.here hx (Jvm.hb hby d6_1) (pc' := 4) rfl ((if0 _ _).trans (teq hc1_0).2) ?_
    refine g_iconst X0.here hx (Jvm.hb hby d6_4) (pc' := 5) rfl (z := (1 : Int32)) rfl ?_
    exact g_retI X0 hx hlk hret (Jvm.hb hby d6_5) (Nat.zero_le _) (Nat.zero_le _) ⟨by simp only [f_p10, if_pos hc1_0], rfl, e0⟩
  · refine g_ifY X0.here hx (Jvm.hb hby d6_1) (by decide) (pc' := 6) (by decide) ((if0 _ _).trans (feq hc1_0).2) ?_
    refine g_iloadN X0.here hx (Jvm.hb hby d6_6) (pc' := 7) rfl rfl ?_
    refine g_iconst X0.here hx (Jvm.hb hby d6_7) (pc' := 8) rfl (z := (1 : Int32)) rfl ?_
    by_cases hc8_1 : x0 = (1 : Int32)
    · refine g_icN X0.here hx (Jvm.hb hby d6_8) (pc' := 11) rfl (teq hc8_1).2 ?_
      refine g_bipush X0.here hx (Jvm.hb hby d6_11) (pc' := 13) rfl (z := (10 : Int32)) rfl ?_
      exact g_retI X0 hx hlk hret (Jvm.hb hby d6_13) (Nat.zero_le _) (Nat.zero_le _) ⟨by simp only [f_p10, if_neg hc1_0, if_pos hc8_1], rfl, e0⟩
    · refine g_icY X0.here hx (Jvm.hb hby d6_8) (by decide) (pc' := 14) (by decide) (feq hc8_1).2 ?_
      refine g_iloadN X0.here hx (Jvm.hb hby d6_14) (pc' := 15) rfl rfl ?_
      refine g_iconst X0.here hx (Jvm.hb hby d6_15) (pc' := 16) rfl (z := (2 : Int32)) rfl ?_
      by_cases hc16_2 : x0 = (2 : Int32)
      · refine g_icN X0.here hx (Jvm.hb hby d6_16) (pc' := 19) rfl (teq hc16_2).2 ?_
        refine g_bipush X0.here hx (Jvm.hb hby d6_19) (pc' := 21) rfl (z := (100 : Int32)) rfl ?_
        exact g_retI X0 hx hlk hret (Jvm.hb hby d6_21) (Nat.zero_le _) (Nat.zero_le _) ⟨by simp only [f_p10, if_neg hc1_0, if_neg hc8_1, if_pos hc16_2], rfl, e0⟩
      · refine g_icY X0.here hx (Jvm.hb hby d6_16) (by decide) (pc' := 22) (by decide) (feq hc16_2).2 ?_
        refine g_iloadN X0.here hx (Jvm.hb hby d6_22) (pc' := 23) rfl rfl ?_
        refine g_iconst X0.here hx (Jvm.hb hby d6_23) (pc' := 24) rfl (z := (3 : Int32)) rfl ?_
        by_cases hc24_3 : x0 = (3 : Int32)
        · refine g_icN X0.here hx (Jvm.hb hby d6_24) (pc' := 27) rfl (teq hc24_3).2 ?_
          refine g_sipush X0.here hx (Jvm.hb hby d6_27) (pc' := 30) rfl (z := (1000 : Int32)) rfl ?_
          exact g_retI X0 hx hlk hret (Jvm.hb hby d6_30) (Nat.zero_le _) (Nat.zero_le _) ⟨by simp only [f_p10, if_neg hc1_0, if_neg hc8_1, if_neg hc16_2, if_pos hc24_3], rfl, e0⟩
        · refine g_icY X0.here hx (Jvm.hb hby d6_24) (by decide) (pc' := 31) (by decide) (feq hc24_3).2 ?_
          refine g_iloadN X0.here hx (Jvm.hb hby d6_31) (pc' := 32) rfl rfl ?_
          refine g_iconst X0.here hx (Jvm.hb hby d6_32) (pc' := 33) rfl (z := (4 : Int32)) rfl ?_
          by_cases hc33_4 : x0 = (4 : Int32)
          · refine g_icN X0.here hx (Jvm.hb hby d6_33) (pc' := 36) rfl (teq hc33_4).2 ?_
            refine g_sipush X0.here hx (Jvm.hb hby d6_36) (pc' := 39) rfl (z := (10000 : Int32)) rfl ?_
            exact g_retI X0 hx hlk hret (Jvm.hb hby d6_39) (Nat.zero_le _) (Nat.zero_le _) ⟨by simp only [f_p10, if_neg hc1_0, if_neg hc8_1, if_neg hc16_2, if_neg hc24_3, if_pos hc33_4], rfl, e0⟩
          · refine g_icY X0.here hx (Jvm.hb hby d6_33) (by decide) (pc' := 40) (by decide) (feq hc33_4).2 ?_
            refine g_iloadN X0.here hx (Jvm.hb hby d6_40) (pc' := 41) rfl rfl ?_
            refine g_iconst X0.here hx (Jvm.hb hby d6_41) (pc' := 42) rfl (z := (5 : Int32)) rfl ?_
            by_cases hc42_5 : x0 = (5 : Int32)
            · refine g_icN X0.here hx (Jvm.hb hby d6_42) (pc' := 45) rfl (teq hc42_5).2 ?_
              refine g_ldc X0 hx hZ hown w_21 (Jvm.hb hby d6_45) (pc' := 47) rfl ?_
              exact g_retI X0 hx hlk hret (Jvm.hb hby d6_47) (Nat.zero_le _) (Nat.zero_le _) ⟨by simp only [f_p10, if_neg hc1_0, if_neg hc8_1, if_neg hc16_2, if_neg hc24_3, if_neg hc33_4, if_pos hc42_5], rfl, e0⟩
            · refine g_icY X0.here hx (Jvm.hb hby d6_42) (by decide) (pc' := 48) (by decide) (feq hc42_5).2 ?_
              refine g_iloadN X0.here hx (Jvm.hb hby d6_48) (pc' := 49) rfl rfl ?_
              refine g_bipush X0.here hx (Jvm.hb hby d6_49) (pc' := 51) rfl (z := (6 : Int32)) rfl ?_
              by_cases hc51_6 : x0 = (6 : Int32)
              · refine g_icN X0.here hx (Jvm.hb hby d6_51) (pc' := 54) rfl (teq hc51_6).2 ?_
                refine g_ldc X0 hx hZ hown w_22 (Jvm.hb hby d6_54) (pc' := 56) rfl ?_
                exact g_retI X0 hx hlk hret (Jvm.hb hby d6_56) (Nat.zero_le _) (Nat.zero_le _) ⟨by simp only [f_p10, if_neg hc1_0, if_neg hc8_1, if_neg hc16_2, if_neg hc24_3, if_neg hc33_4, if_neg hc42_5, if_pos hc51_6], rfl, e0⟩
              · refine g_icY X0.here hx (Jvm.hb hby d6_51) (by decide) (pc' := 57) (by decide) (feq hc51_6).2 ?_
                refine g_iloadN X0.here hx (Jvm.hb hby d6_57) (pc' := 58) rfl rfl ?_
                refine g_bipush X0.here hx (Jvm.hb hby d6_58) (pc' := 60) rfl (z := (7 : Int32)) rfl ?_
                by_cases hc60_7 : x0 = (7 : Int32)
                · refine g_icN X0.here hx (Jvm.hb hby d6_60) (pc' := 63) rfl (teq hc60_7).2 ?_
                  refine g_ldc X0 hx hZ hown w_23 (Jvm.hb hby d6_63) (pc' := 65) rfl ?_
                  exact g_retI X0 hx hlk hret (Jvm.hb hby d6_65) (Nat.zero_le _) (Nat.zero_le _) ⟨by simp only [f_p10, if_neg hc1_0, if_neg hc8_1, if_neg hc16_2, if_neg hc24_3, if_neg hc33_4, if_neg hc42_5, if_neg hc51_6, if_pos hc60_7], rfl, e0⟩
                · refine g_icY X0.here hx (Jvm.hb hby d6_60) (by decide) (pc' := 66) (by decide) (feq hc60_7).2 ?_
                  refine g_ldc X0 hx hZ hown w_24 (Jvm.hb hby d6_66) (pc' := 68) rfl ?_
                  exact g_retI X0 hx hlk hret (Jvm.hb hby d6_68) (Nat.zero_le _) (Nat.zero_le _) ⟨by simp only [f_p10, if_neg hc1_0, if_neg hc8_1, if_neg hc16_2, if_neg hc24_3, if_neg hc33_4, if_neg hc42_5, if_neg hc51_6, if_neg hc60_7], rfl, e0⟩
def f_go (f : Nat → Int32) (a : Nat) : Nat → Nat → Int32 → Int32
  | 0, _, r => r
  | k + 1, i, r => if (f (a + i) - (48 : Int32)) < (0 : Int32) then (-1 : Int32) else if (9 : Int32) < (f (a + i) - (48 : Int32)) then (-1 : Int32) else f_go f a k (i + 1) ((r * (10 : Int32)) + (f (a + i) - (48 : Int32)))
theorem d2_5 : decode prog_10_method_2_code 5 = .ok (.iload 4, 2) := by decide +kernel
theorem d2_7 : decode prog_10_method_2_code 7 = .ok (.iload_n 1, 1) := by decide +kernel
theorem d2_8 : decode prog_10_method_2_code 8 = .ok (.iload_n 2, 1) := by decide +kernel
theorem d2_9 : decode prog_10_method_2_code 9 = .ok (.iadd, 1) := by decide +kernel
theorem d2_10 : decode prog_10_method_2_code 10 = .ok (.if_icmp .ge 40, 3) := by decide +kernel
theorem d2_50 : decode prog_10_method_2_code 50 = .ok (.iload_n 3, 1) := by decide +kernel
theorem d2_51 : decode prog_10_method_2_code 51 = .ok (.ireturn, 1) := by decide +kernel
theorem d2_13 : decode prog_10_method_2_code 13 = .ok (.aload_n 0, 1) := by decide +kernel
theorem d2_14 : decode prog_10_method_2_code 14 = .ok (.iload 4, 2) := by decide +kernel
theorem d2_16 : decode prog_10_method_2_code 16 = .ok (.baload, 1) := by decide +kernel
theorem d2_17 : decode prog_10_method_2_code 17 = .ok (.bipush 48, 2) := by decide +kernel
theorem d2_19 : decode prog_10_method_2_code 19 = .ok (.isub, 1) := by decide +kernel
theorem d2_20 : decode prog_10_method_2_code 20 = .ok (.istore 5, 2) := by decide +kernel
theorem d2_22 : decode prog_10_method_2_code 22 = .ok (.iload 5, 2) := by decide +kernel
theorem d2_24 : decode prog_10_method_2_code 24 = .ok (.ifCond .lt 10, 3) := by decide +kernel
theorem d2_34 : decode prog_10_method_2_code 34 = .ok (.iconst (-1), 1) := by decide +kernel
theorem d2_35 : decode prog_10_method_2_code 35 = .ok (.ireturn, 1) := by decide +kernel
theorem d2_27 : decode prog_10_method_2_code 27 = .ok (.iload 5, 2) := by decide +kernel
theorem d2_29 : decode prog_10_method_2_code 29 = .ok (.bipush 9, 2) := by decide +kernel
theorem d2_31 : decode prog_10_method_2_code 31 = .ok (.if_icmp .le 5, 3) := by decide +kernel
theorem d2_36 : decode prog_10_method_2_code 36 = .ok (.iload_n 3, 1) := by decide +kernel
theorem d2_37 : decode prog_10_method_2_code 37 = .ok (.bipush 10, 2) := by decide +kernel
theorem d2_39 : decode prog_10_method_2_code 39 = .ok (.imul, 1) := by decide +kernel
theorem d2_40 : decode prog_10_method_2_code 40 = .ok (.iload 5, 2) := by decide +kernel
theorem d2_42 : decode prog_10_method_2_code 42 = .ok (.iadd, 1) := by decide +kernel
theorem d2_43 : decode prog_10_method_2_code 43 = .ok (.istore_n 3, 1) := by decide +kernel
theorem d2_44 : decode prog_10_method_2_code 44 = .ok (.iinc 4 1, 3) := by decide +kernel
theorem d2_47 : decode prog_10_method_2_code 47 = .ok (.goto (-42), 3) := by decide +kernel
theorem d2_0 : decode prog_10_method_2_code 0 = .ok (.iconst 0, 1) := by decide +kernel
theorem d2_1 : decode prog_10_method_2_code 1 = .ok (.istore_n 3, 1) := by decide +kernel
theorem d2_2 : decode prog_10_method_2_code 2 = .ok (.iload_n 1, 1) := by decide +kernel
theorem d2_3 : decode prog_10_method_2_code 3 = .ok (.istore 4, 2) := by decide +kernel
theorem pn_1 : plainName "com/example/leaderline/leaderline/Iso2709" = true := by first | (simp [plainName, overriddenIn]; done) | decide +kernel
theorem ef_2 (m : MethodId) (x0 : Addr) (x1 : Int32) (x2 : Int32) : entryFrame m #[(.ref x0), (.int x1), (.int x2)] 6 = mkF m 0 #[.val (.ref x0), .val (.int x1), .val (.int x2), .unset, .unset, .unset] [] := by first | (simp [entryFrame, mkF, argsToLocals, Value.category]; done) | rfl
set_option maxRecDepth 65536 in
set_option maxHeartbeats 40000000 in
theorem rm2 (l : Launch) (Z : State) (a0 : Array Value) (hw : ∀ d ∈ tables_1, d.before a0 Z = true) (ws : List Jvm.Cond) (x0 : Addr) (x1 x2 : Int32) (n : Nat) (f : Nat → Int32) (h0 : Heap) (V0 : own_IA Z h0 x0 .byte n f) (h1 : 0 ≤ x1.toInt) (h2 : 0 ≤ x2.toInt) (h3 : x1.toInt + x2.toInt ≤ n) (h4 : n ≤ 1000000) :
    MetFree l (⟨"com/example/leaderline/leaderline/Iso2709", "digits", "([BII)I"⟩ : MethodName) (head1 (Jvm.Cond.code (⟨"com/example/leaderline/leaderline/Iso2709", "digits", "([BII)I"⟩ : MethodName) prog_10_method_2_code 6 (some .int) :: ws) ({ frames := 0, cells := 0, slots := 0, locals := 0 } : Room)) (fun a U => a = #[(.ref x0), (.int x1), (.int x2)] ∧ Z.Warmed39 U.vm ∧ U.heap = h0) (fun _ _ _ _ _ => True) (fun _ U o U' => ∃ v L, o = .returned v ∧ (own_Pure (some (.int (f_go f x1.toInt.toNat x2.toInt.toNat 0 (0 : Int32)))) h0) v U'.heap L ∧ FrameEnd U o U' L ({ frames := 0, cells := 0, slots := 0, locals := 0 } : Room).cells ({ frames := 0, cells := 0, slots := 0, locals := 0 } : Room).slots) := by
  refine own_body (own := "com/example/leaderline/leaderline/Iso2709") pn_1 rfl (fun m => ef_2 m x0 x1 x2) ?_
  intro p e s m below meth c T0 hx hby hml hown hnm hlk hret hZ X0 e0
  have hsum : (x1 + x2).toInt = x1.toInt + x2.toInt := by
    have e := c_iadd x1 x2
    have r := rng32 (x1 + x2)
    omega
  have lp : ∀ (k : Nat), ∀ (i : Nat), ∀ (iv : Int32), ∀ (r : Int32), ∀ (s5 : Slot), ∀ (hone : One s5), ∀ (hiv : iv.toInt = x1.toInt + i), ∀ (hik : i + k = x2.toInt.toNat), ∀ (hres : f_go f x1.toInt.toNat k i r = (f_go f x1.toInt.toNat x2.toInt.toNat 0 (0 : Int32))), own_Gl p e below s (own_Pure (some (.int (f_go f x1.toInt.toNat x2.toInt.toNat 0 (0 : Int32)))) h0) ({ frames := 0, cells := 0, slots := 0, locals := 0 } : Room).cells ({ frames := 0, cells := 0, slots := 0, locals := 0 } : Room).slots (T0.setTop (mkF m 5 #[.val (.ref x0), .val (.int x1), .val (.int x2), .val (.int r), .val (.int iv), s5] [])) := by
    intro k
    induction k with
    | zero =>
      intro i iv r s5 hone hiv hik hres
      refine g_iload X0.here hx (Jvm.hb hby d2_5) (pc' := 7) rfl rfl ?_
      refine g_iloadN X0.here hx (Jvm.hb hby d2_7) (pc' := 8) rfl rfl ?_
      refine g_iloadN X0.here hx (Jvm.hb hby d2_8) (pc' := 9) rfl rfl ?_
      refine g_iadd X0.here hx (Jvm.hb hby d2_9) (pc' := 10) rfl ?_
      refine g_icY X0.here hx (Jvm.hb hby d2_10) (by decide) (pc' := 50) (by decide) (flt (by rw [Int32.lt_iff_toInt_lt, hsum]; omega)).2.1 ?_
      refine g_iloadN X0.here hx (Jvm.hb hby d2_50) (pc' := 51) rfl rfl ?_
      exact g_retI X0 hx hlk hret (Jvm.hb hby d2_51) (Nat.zero_le _) (Nat.zero_le _) ⟨congrArg (fun z => some (Value.int z)) hres, rfl, e0⟩
    | succ k ih =>
      intro i iv r s5 hone hiv hik hres
      refine g_iload X0.here hx (Jvm.hb hby d2_5) (pc' := 7) rfl rfl ?_
      refine g_iloadN X0.here hx (Jvm.hb hby d2_7) (pc' := 8) rfl rfl ?_
      refine g_iloadN X0.here hx (Jvm.hb hby d2_8) (pc' := 9) rfl rfl ?_
      refine g_iadd X0.here hx (Jvm.hb hby d2_9) (pc' := 10) rfl ?_
      refine g_icN X0.here hx (Jvm.hb hby d2_10) (pc' := 13) rfl (tlt (by rw [Int32.lt_iff_toInt_lt, hsum]; omega)).2.1 ?_
      refine g_aloadN X0.here hx (Jvm.hb hby d2_13) (pc' := 14) rfl rfl rfl ?_
      refine g_iload X0.here hx (Jvm.hb hby d2_14) (pc' := 16) rfl rfl ?_
      refine g_baload X0 hx hZ e0 V0 (by omega) (v := (f (x1.toInt.toNat + i))) (congrArg f (by omega)) (Jvm.hb hby d2_16) (pc' := 17) rfl ?_
      refine g_bipush X0.here hx (Jvm.hb hby d2_17) (pc' := 19) rfl (z := (48 : Int32)) rfl ?_
      refine g_isub X0.here hx (Jvm.hb hby d2_19) (pc' := 20) rfl ?_
      refine g_istore X0.here hx (Jvm.hb hby d2_20) (pc' := 22) rfl (L' := #[.val (.ref x0), .val (.int x1), .val (.int x2), .val (.int r), .val (.int iv), .val (.int ((f (x1.toInt.toNat + i)) - (48 : Int32)))]) (XS.store1 rfl hone rfl) ?_
      refine g_iload X0.here hx (Jvm.hb hby d2_22) (pc' := 24) rfl rfl ?_
      by_cases hc24 : ((f (x1.toInt.toNat + i)) - (48 : Int32)) < (0 : Int32)
      · refine g_ifY X0.here hx (Jvm.hb hby d2_24) (by decide) (pc' := 34) (by decide) ((if0 _ _).trans (tlt hc24).1) ?_
        refine g_iconst X0.here hx (Jvm.hb hby d2_34) (pc' := 35) rfl (z := (-1 : Int32)) rfl ?_
        exact g_retI X0 hx hlk hret (Jvm.hb hby d2_35) (Nat.zero_le _) (Nat.zero_le _) ⟨congrArg (fun z => some (Value.int z)) (by rw [← hres, f_go, if_pos hc24]), rfl, e0⟩
      · refine g_ifN X0.here hx (Jvm.hb hby d2_24) (pc' := 27) rfl ((if0 _ _).trans (flt hc24).1) ?_
        refine g_iload X0.here hx (Jvm.hb hby d2_27) (pc' := 29) rfl rfl ?_
        refine g_bipush X0.here hx (Jvm.hb hby d2_29) (pc' := 31) rfl (z := (9 : Int32)) rfl ?_
        by_cases hc31 : (9 : Int32) < ((f (x1.toInt.toNat + i)) - (48 : Int32))
        · refine g_icN X0.here hx (Jvm.hb hby d2_31) (pc' := 34) rfl (tlt hc31).2.2.2 ?_
          refine g_iconst X0.here hx (Jvm.hb hby d2_34) (pc' := 35) rfl (z := (-1 : Int32)) rfl ?_
          exact g_retI X0 hx hlk hret (Jvm.hb hby d2_35) (Nat.zero_le _) (Nat.zero_le _) ⟨congrArg (fun z => some (Value.int z)) (by rw [← hres, f_go, if_neg hc24, if_pos hc31]), rfl, e0⟩
        · refine g_icY X0.here hx (Jvm.hb hby d2_31) (by decide) (pc' := 36) (by decide) (flt hc31).2.2.2 ?_
          refine g_iloadN X0.here hx (Jvm.hb hby d2_36) (pc' := 37) rfl rfl ?_
          refine g_bipush X0.here hx (Jvm.hb hby d2_37) (pc' := 39) rfl (z := (10 : Int32)) rfl ?_
          refine g_imul X0.here hx (Jvm.hb hby d2_39) (pc' := 40) rfl ?_
          refine g_iload X0.here hx (Jvm.hb hby d2_40) (pc' := 42) rfl rfl ?_
          refine g_iadd X0.here hx (Jvm.hb hby d2_42) (pc' := 43) rfl ?_
          refine g_istoreN X0.here hx (Jvm.hb hby d2_43) (pc' := 44) rfl (L' := #[.val (.ref x0), .val (.int x1), .val (.int x2), .val (.int ((r * (10 : Int32)) + ((f (x1.toInt.toNat + i)) - (48 : Int32)))), .val (.int iv), .val (.int ((f (x1.toInt.toNat + i)) - (48 : Int32)))]) rfl ?_
          refine g_iinc X0.here hx (Jvm.hb hby d2_44) (pc' := 47) rfl (z := (1 : Int32)) rfl rfl (L' := #[.val (.ref x0), .val (.int x1), .val (.int x2), .val (.int ((r * (10 : Int32)) + ((f (x1.toInt.toNat + i)) - (48 : Int32)))), .val (.int (iv + (1 : Int32))), .val (.int ((f (x1.toInt.toNat + i)) - (48 : Int32)))]) rfl ?_
          refine g_goto X0.here hx (Jvm.hb hby d2_47) (by decide) (pc' := 5) (by decide) ?_
          refine ih (i + 1) _ _ _ (One.val rfl) ?_ (by omega) (by rw [f_go, if_neg hc24, if_neg hc31] at hres; exact hres)
          have e := c_iadd iv 1
          have r := rng32 (iv + 1)
          simp only [Int32.reduceToInt] at e
          omega
  refine g_iconst X0.here hx (Jvm.hb hby d2_0) (pc' := 1) rfl (z := (0 : Int32)) rfl ?_
  refine g_istoreN X0.here hx (Jvm.hb hby d2_1) (pc' := 2) rfl (L' := #[.val (.ref x0), .val (.int x1), .val (.int x2), .val (.int (0 : Int32)), .unset, .unset]) rfl ?_
  refine g_iloadN X0.here hx (Jvm.hb hby d2_2) (pc' := 3) rfl rfl ?_
  refine g_istore X0.here hx (Jvm.hb hby d2_3) (pc' := 5) rfl (L' := #[.val (.ref x0), .val (.int x1), .val (.int x2), .val (.int (0 : Int32)), .val (.int x1), .unset]) rfl ?_
  exact lp x2.toInt.toNat 0 x1 (0 : Int32) .unset One.u (by omega) (by omega) rfl
def f_ok (f : Nat → Int32) (x1 x2 x3 : Int32) : Int32 := if x3 < x2 then (if f_dig (f (x1 + x3).toNatClampNeg) = (0 : Int32) then (0 : Int32) else (1 : Int32)) else (1 : Int32)
def f_tm (f : Nat → Int32) (x1 x2 x3 : Int32) : Int32 := if x3 < x2 then (((f (x1 + x3).toNatClampNeg) - (48 : Int32)) * f_p10 ((x2 - (1 : Int32)) - x3)) else (0 : Int32)
theorem d3_0 : decode method_5_code 0 = .ok (.iload_n 3, 1) := by decide +kernel
theorem d3_1 : decode method_5_code 1 = .ok (.iload_n 2, 1) := by decide +kernel
theorem d3_2 : decode method_5_code 2 = .ok (.if_icmp .ge 14, 3) := by decide +kernel
theorem d3_5 : decode method_5_code 5 = .ok (.aload_n 0, 1) := by decide +kernel
theorem d3_6 : decode method_5_code 6 = .ok (.iload_n 1, 1) := by decide +kernel
theorem d3_7 : decode method_5_code 7 = .ok (.iload_n 3, 1) := by decide +kernel
theorem d3_8 : decode method_5_code 8 = .ok (.iadd, 1) := by decide +kernel
theorem d3_9 : decode method_5_code 9 = .ok (.baload, 1) := by decide +kernel
theorem d3_10 : decode method_5_code 10 = .ok (.invokestatic 11, 3) := by decide +kernel
theorem pd_0 : parseMethodDescriptor "(B)Z" = some ⟨[.byte], some .boolean⟩ := by decide +kernel
theorem d3_13 : decode method_5_code 13 = .ok (.ifCond .eq 7, 3) := by decide +kernel
theorem d3_20 : decode method_5_code 20 = .ok (.iconst 0, 1) := by decide +kernel
theorem d3_21 : decode method_5_code 21 = .ok (.ireturn, 1) := by decide +kernel
theorem d3_16 : decode method_5_code 16 = .ok (.iconst 1, 1) := by decide +kernel
theorem d3_17 : decode method_5_code 17 = .ok (.goto 4, 3) := by decide +kernel
theorem ef_3 (m : MethodId) (x0 : Addr) (x1 : Int32) (x2 : Int32) (x3 : Int32) : entryFrame m #[(.ref x0), (.int x1), (.int x2), (.int x3)] 4 = mkF m 0 #[.val (.ref x0), .val (.int x1), .val (.int x2), .val (.int x3)] [] := by first | (simp [entryFrame, mkF, argsToLocals, Value.category]; done) | rfl
set_option maxRecDepth 65536 in
set_option maxHeartbeats 40000000 in
theorem rm3 (l : Launch) (Z : State) (a0 : Array Value) (hw : ∀ d ∈ tables_1, d.before a0 Z = true) (ws : List Jvm.Cond) (x0 : Addr) (x1 x2 x3 : Int32) (n : Nat) (f : Nat → Int32) (h0 : Heap) (V0 : own_IA Z h0 x0 .byte n f) (hin : 0 ≤ (x1 + x3).toInt ∧ (x1 + x3).toInt < n) :
    MetFree l (⟨"com/example/leaderline/leaderline/Iso2709DigitsPinLaw", "ok", "([BIII)Z"⟩ : MethodName) (head1 (Jvm.Cond.code (⟨"com/example/leaderline/leaderline/Iso2709DigitsPinLaw", "ok", "([BIII)Z"⟩ : MethodName) method_5_code 4 (some .boolean) :: ws) ({ frames := 1, cells := 0, slots := 0, locals := 12 } : Room)) (fun a U => a = #[(.ref x0), (.int x1), (.int x2), (.int x3)] ∧ Z.Warmed39 U.vm ∧ U.heap = h0) (fun _ _ _ _ _ => True) (fun _ U o U' => ∃ v L, o = .returned v ∧ (own_Pure (some (.int (f_ok f x1 x2 x3))) h0) v U'.heap L ∧ FrameEnd U o U' L ({ frames := 1, cells := 0, slots := 0, locals := 12 } : Room).cells ({ frames := 1, cells := 0, slots := 0, locals := 12 } : Room).slots) := by
  refine own_body (own := "com/example/leaderline/leaderline/Iso2709DigitsPinLaw") pn_0 rfl (fun m => ef_3 m x0 x1 x2 x3) ?_
  intro p e s m below meth c T0 hx hby hml hown hnm hlk hret hZ X0 e0
  have w_3 := hw _ (List.mem_of_getElem? (i := 3) rfl)
  have w_15 := hw _ (List.mem_of_getElem? (i := 15) rfl)
  have w_16 := hw _ (List.mem_of_getElem? (i := 16) rfl)
  have w_17 := hw _ (List.mem_of_getElem? (i := 17) rfl)
  refine g_iloadN X0.here hx (Jvm.hb hby d3_0) (pc' := 1) rfl rfl ?_
  refine g_iloadN X0.here hx (Jvm.hb hby d3_1) (pc' := 2) rfl rfl ?_
  by_cases hc2 : x3 < x2
  · refine g_icN X0.here hx (Jvm.hb hby d3_2) (pc' := 5) rfl (tlt hc2).2.1 ?_
    refine g_aloadN X0.here hx (Jvm.hb hby d3_5) (pc' := 6) rfl rfl rfl ?_
    refine g_iloadN X0.here hx (Jvm.hb hby d3_6) (pc' := 7) rfl rfl ?_
    refine g_iloadN X0.here hx (Jvm.hb hby d3_7) (pc' := 8) rfl rfl ?_
    refine g_iadd X0.here hx (Jvm.hb hby d3_8) (pc' := 9) rfl ?_
    refine g_baload X0 hx hZ e0 V0 hin (v := (f (x1 + x3).toNatClampNeg)) rfl (Jvm.hb hby d3_9) (pc' := 10) rfl ?_
    refine g_callP X0 hx hZ hown w_15 w_16 w_3 w_17 (by decide) (rm5 l Z a0 hw [] (f (x1 + x3).toNatClampNeg) h0) 0 (by decide) (by decide) e0 (by rw [hml]; rfl) [(.int (f (x1 + x3).toNatClampNeg))] [] (lenOf pd_0 rfl) rfl rfl (Nat.le_of_eq rfl) (Jvm.hb hby d3_10) (pc' := 13) rfl (Nat.zero_le _) (Nat.zero_le _) ?_
    intro T1 X1 e1
    show own_Gl p e below s (own_Pure (some (.int (f_ok f x1 x2 x3))) h0) ({ frames := 1, cells := 0, slots := 0, locals := 12 } : Room).cells ({ frames := 1, cells := 0, slots := 0, locals := 12 } : Room).slots (T1.setTop (mkF m 13 #[.val (.ref x0), .val (.int x1), .val (.int x2), .val (.int x3)] [(.int (f_dig (f (x1 + x3).toNatClampNeg)))]))
    by_cases hc13 : (f_dig (f (x1 + x3).toNatClampNeg)) = (0 : Int32)
    · refine g_ifY X1.here hx (Jvm.hb hby d3_13) (by decide) (pc' := 20) (by decide) ((if0 _ _).trans (teq hc13).1) ?_
      refine g_iconst X1.here hx (Jvm.hb hby d3_20) (pc' := 21) rfl (z := (0 : Int32)) rfl ?_
      exact g_retN X1 hx hlk (t := .boolean) hret (by simp) (z' := (0 : Int32)) rfl (Jvm.hb hby d3_21) (Nat.zero_le _) (Nat.zero_le _) ⟨congrArg (fun z => some (Value.int z)) (by simp only [f_ok, if_pos hc2, if_pos hc13]), rfl, e1⟩
    · refine g_ifN X1.here hx (Jvm.hb hby d3_13) (pc' := 16) rfl ((if0 _ _).trans (feq hc13).1) ?_
      refine g_iconst X1.here hx (Jvm.hb hby d3_16) (pc' := 17) rfl (z := (1 : Int32)) rfl ?_
      refine g_goto X1.here hx (Jvm.hb hby d3_17) (by decide) (pc' := 21) (by decide) ?_
      exact g_retN X1 hx hlk (t := .boolean) hret (by simp) (z' := (1 : Int32)) rfl (Jvm.hb hby d3_21) (Nat.zero_le _) (Nat.zero_le _) ⟨congrArg (fun z => some (Value.int z)) (by simp only [f_ok, if_pos hc2, if_neg hc13]), rfl, e1⟩
  · refine g_icY X0.here hx (Jvm.hb hby d3_2) (by decide) (pc' := 16) (by decide) (flt hc2).2.1 ?_
    refine g_iconst X0.here hx (Jvm.hb hby d3_16) (pc' := 17) rfl (z := (1 : Int32)) rfl ?_
    refine g_goto X0.here hx (Jvm.hb hby d3_17) (by decide) (pc' := 21) (by decide) ?_
    exact g_retN X0 hx hlk (t := .boolean) hret (by simp) (z' := (1 : Int32)) rfl (Jvm.hb hby d3_21) (Nat.zero_le _) (Nat.zero_le _) ⟨congrArg (fun z => some (Value.int z)) (by simp only [f_ok, if_neg hc2]), rfl, e0⟩
theorem d4_0 : decode method_6_code 0 = .ok (.iload_n 3, 1) := by decide +kernel
theorem d4_1 : decode method_6_code 1 = .ok (.iload_n 2, 1) := by decide +kernel
theorem d4_2 : decode method_6_code 2 = .ok (.if_icmp .lt 5, 3) := by decide +kernel
theorem d4_7 : decode method_6_code 7 = .ok (.aload_n 0, 1) := by decide +kernel
theorem d4_8 : decode method_6_code 8 = .ok (.iload_n 1, 1) := by decide +kernel
theorem d4_9 : decode method_6_code 9 = .ok (.iload_n 3, 1) := by decide +kernel
theorem d4_10 : decode method_6_code 10 = .ok (.iadd, 1) := by decide +kernel
theorem d4_11 : decode method_6_code 11 = .ok (.baload, 1) := by decide +kernel
theorem d4_12 : decode method_6_code 12 = .ok (.bipush 48, 2) := by decide +kernel
theorem d4_14 : decode method_6_code 14 = .ok (.isub, 1) := by decide +kernel
theorem d4_15 : decode method_6_code 15 = .ok (.iload_n 2, 1) := by decide +kernel
theorem d4_16 : decode method_6_code 16 = .ok (.iconst 1, 1) := by decide +kernel
theorem d4_17 : decode method_6_code 17 = .ok (.isub, 1) := by decide +kernel
theorem d4_18 : decode method_6_code 18 = .ok (.iload_n 3, 1) := by decide +kernel
theorem d4_19 : decode method_6_code 19 = .ok (.isub, 1) := by decide +kernel
theorem d4_20 : decode method_6_code 20 = .ok (.invokestatic 17, 3) := by decide +kernel
theorem pd_1 : parseMethodDescriptor "(I)I" = some ⟨[.int], some .int⟩ := by decide +kernel
theorem d4_23 : decode method_6_code 23 = .ok (.imul, 1) := by decide +kernel
theorem d4_24 : decode method_6_code 24 = .ok (.ireturn, 1) := by decide +kernel
theorem d4_5 : decode method_6_code 5 = .ok (.iconst 0, 1) := by decide +kernel
theorem d4_6 : decode method_6_code 6 = .ok (.ireturn, 1) := by decide +kernel
theorem ef_4 (m : MethodId) (x0 : Addr) (x1 : Int32) (x2 : Int32) (x3 : Int32) : entryFrame m #[(.ref x0), (.int x1), (.int x2), (.int x3)] 4 = mkF m 0 #[.val (.ref x0), .val (.int x1), .val (.int x2), .val (.int x3)] [] := by first | (simp [entryFrame, mkF, argsToLocals, Value.category]; done) | rfl
set_option maxRecDepth 65536 in
set_option maxHeartbeats 40000000 in
theorem rm4 (l : Launch) (Z : State) (a0 : Array Value) (hw : ∀ d ∈ tables_1, d.before a0 Z = true) (ws : List Jvm.Cond) (x0 : Addr) (x1 x2 x3 : Int32) (n : Nat) (f : Nat → Int32) (h0 : Heap) (V0 : own_IA Z h0 x0 .byte n f) (hin : 0 ≤ (x1 + x3).toInt ∧ (x1 + x3).toInt < n) :
    MetFree l (⟨"com/example/leaderline/leaderline/Iso2709DigitsPinLaw", "term", "([BIII)I"⟩ : MethodName) (head1 (Jvm.Cond.code (⟨"com/example/leaderline/leaderline/Iso2709DigitsPinLaw", "term", "([BIII)I"⟩ : MethodName) method_6_code 4 (some .int) :: ws) ({ frames := 1, cells := 0, slots := 0, locals := 13 } : Room)) (fun a U => a = #[(.ref x0), (.int x1), (.int x2), (.int x3)] ∧ Z.Warmed39 U.vm ∧ U.heap = h0) (fun _ _ _ _ _ => True) (fun _ U o U' => ∃ v L, o = .returned v ∧ (own_Pure (some (.int (f_tm f x1 x2 x3))) h0) v U'.heap L ∧ FrameEnd U o U' L ({ frames := 1, cells := 0, slots := 0, locals := 13 } : Room).cells ({ frames := 1, cells := 0, slots := 0, locals := 13 } : Room).slots) := by
  refine own_body (own := "com/example/leaderline/leaderline/Iso2709DigitsPinLaw") pn_0 rfl (fun m => ef_4 m x0 x1 x2 x3) ?_
  intro p e s m below meth c T0 hx hby hml hown hnm hlk hret hZ X0 e0
  have w_3 := hw _ (List.mem_of_getElem? (i := 3) rfl)
  have w_18 := hw _ (List.mem_of_getElem? (i := 18) rfl)
  have w_19 := hw _ (List.mem_of_getElem? (i := 19) rfl)
  have w_20 := hw _ (List.mem_of_getElem? (i := 20) rfl)
  refine g_iloadN X0.here hx (Jvm.hb hby d4_0) (pc' := 1) rfl rfl ?_
  refine g_iloadN X0.here hx (Jvm.hb hby d4_1) (pc' := 2) rfl rfl ?_
  by_cases hc2 : x3 < x2
  · refine g_icY X0.here hx (Jvm.hb hby d4_2) (by decide) (pc' := 7) (by decide) (tlt hc2).1 ?_
    refine g_aloadN X0.here hx (Jvm.hb hby d4_7) (pc' := 8) rfl rfl rfl ?_
    refine g_iloadN X0.here hx (Jvm.hb hby d4_8) (pc' := 9) rfl rfl ?_
    refine g_iloadN X0.here hx (Jvm.hb hby d4_9) (pc' := 10) rfl rfl ?_
    refine g_iadd X0.here hx (Jvm.hb hby d4_10) (pc' := 11) rfl ?_
    refine g_baload X0 hx hZ e0 V0 hin (v := (f (x1 + x3).toNatClampNeg)) rfl (Jvm.hb hby d4_11) (pc' := 12) rfl ?_
    refine g_bipush X0.here hx (Jvm.hb hby d4_12) (pc' := 14) rfl (z := (48 : Int32)) rfl ?_
    refine g_isub X0.here hx (Jvm.hb hby d4_14) (pc' := 15) rfl ?_
    refine g_iloadN X0.here hx (Jvm.hb hby d4_15) (pc' := 16) rfl rfl ?_
    refine g_iconst X0.here hx (Jvm.hb hby d4_16) (pc' := 17) rfl (z := (1 : Int32)) rfl ?_
    refine g_isub X0.here hx (Jvm.hb hby d4_17) (pc' := 18) rfl ?_
    refine g_iloadN X0.here hx (Jvm.hb hby d4_18) (pc' := 19) rfl rfl ?_
    refine g_isub X0.here hx (Jvm.hb hby d4_19) (pc' := 20) rfl ?_
    refine g_callP X0 hx hZ hown w_18 w_19 w_3 w_20 (by decide) (rm6 l Z a0 hw [] ((x2 - (1 : Int32)) - x3) h0) 1 (by decide) (by decide) e0 (by rw [hml]; rfl) [(.int ((x2 - (1 : Int32)) - x3))] [(.int ((f (x1 + x3).toNatClampNeg) - (48 : Int32)))] (lenOf pd_1 rfl) rfl rfl (Nat.le_of_eq rfl) (Jvm.hb hby d4_20) (pc' := 23) rfl (Nat.zero_le _) (Nat.zero_le _) ?_
    intro T1 X1 e1
    show own_Gl p e below s (own_Pure (some (.int (f_tm f x1 x2 x3))) h0) ({ frames := 1, cells := 0, slots := 0, locals := 13 } : Room).cells ({ frames := 1, cells := 0, slots := 0, locals := 13 } : Room).slots (T1.setTop (mkF m 23 #[.val (.ref x0), .val (.int x1), .val (.int x2), .val (.int x3)] [(.int (f_p10 ((x2 - (1 : Int32)) - x3))), (.int ((f (x1 + x3).toNatClampNeg) - (48 : Int32)))]))
    refine g_imul X1.here hx (Jvm.hb hby d4_23) (pc' := 24) rfl ?_
    exact g_retI X1 hx hlk hret (Jvm.hb hby d4_24) (Nat.zero_le _) (Nat.zero_le _) ⟨congrArg (fun z => some (Value.int z)) (by simp only [f_tm, if_pos hc2]), rfl, e1⟩
  · refine g_icN X0.here hx (Jvm.hb hby d4_2) (pc' := 5) rfl (flt hc2).1 ?_
    refine g_iconst X0.here hx (Jvm.hb hby d4_5) (pc' := 6) rfl (z := (0 : Int32)) rfl ?_
    exact g_retI X0 hx hlk hret (Jvm.hb hby d4_6) (Nat.zero_le _) (Nat.zero_le _) ⟨congrArg (fun z => some (Value.int z)) (by simp only [f_tm, if_neg hc2]), rfl, e0⟩
theorem own_dig (c : Int32) : (¬ f_dig c = (0 : Int32)) ↔ (48 ≤ c.toInt ∧ c.toInt ≤ 57) := by
  simp only [f_dig, Int32.lt_iff_toInt_lt, Int32.reduceToInt]
  repeat' split
  all_goals first | (simp; omega) | (constructor <;> intro q <;> first | (exact absurd rfl q) | (exfalso; omega))
theorem own_d (c : Int32) : ((c - (48 : Int32)) < (0 : Int32) ∨ (9 : Int32) < (c - (48 : Int32))) ↔ f_dig c = (0 : Int32) := by
  have q := own_dig c
  have e := c_isub c 48
  have r := rng32 (c - 48)
  have r2 := rng32 c
  simp only [Int32.lt_iff_toInt_lt, Int32.reduceToInt] at *
  by_cases z : f_dig c = (0 : Int32)
  · simp only [z, iff_true]
    have := fun y => z ▸ q.mpr y
    by_cases w : 48 ≤ c.toInt ∧ c.toInt ≤ 57
    · exact absurd z (q.mpr w)
    · omega
  · simp only [z, iff_false]
    have := q.mp z
    omega
theorem own_bad (f : Nat → Int32) (a : Nat) : ∀ (k i : Nat) (r : Int32) (j : Nat), i ≤ j → j < i + k → f_dig (f (a + j)) = (0 : Int32) → f_go f a k i r = (-1 : Int32) := by
  intro k
  induction k with
  | zero => intro i r j h1 h2; omega
  | succ k ih =>
    intro i r j h1 h2 hb
    rw [f_go]
    by_cases p : (f (a + i) - (48 : Int32)) < (0 : Int32)
    · rw [if_pos p]
    · rw [if_neg p]
      by_cases q : (9 : Int32) < (f (a + i) - (48 : Int32))
      · rw [if_pos q]
      · rw [if_neg q]
        have hne : i ≠ j := fun z => by
          subst z
          rcases (own_d _).mpr hb with u | u
          · exact p u
          · exact q u
        exact ih (i + 1) _ j (by omega) (by omega) hb
def own_hv (d : Nat → Int) : Nat → Int
  | 0 => 0
  | i + 1 => own_hv d i * 10 + d i
theorem own_hvB (d : Nat → Int) (n : Nat) (hd : ∀ i, i < n → 0 ≤ d i ∧ d i ≤ 9) : ∀ i, i ≤ n → 0 ≤ own_hv d i ∧ own_hv d i < 10 ^ i := by
  intro i
  induction i with
  | zero => intro _; exact ⟨Int.le_refl 0, by show (0 : Int) < 1; decide⟩
  | succ i ih =>
    intro hi
    have q := ih (by omega)
    have w := hd i (by omega)
    rw [own_hv, Int.pow_succ]
    omega
theorem own_p9 : ∀ i : Fin 10, (10 : Int) ^ i.val ≤ 1000000000 := by decide
theorem own_good (f : Nat → Int32) (a n : Nat) (hn : n ≤ 9) (hd : ∀ i, i < n → ¬ f_dig (f (a + i)) = (0 : Int32)) : ∀ (k i : Nat) (r : Int32), i + k = n → r.toInt = own_hv (fun i => (f (a + i)).toInt - 48) i → (f_go f a k i r).toInt = own_hv (fun i => (f (a + i)).toInt - 48) n := by
  have hB := own_hvB (fun i => (f (a + i)).toInt - 48) n (fun i hi => by have := (own_dig _).mp (hd i hi); show 0 ≤ (f (a + i)).toInt - 48 ∧ (f (a + i)).toInt - 48 ≤ 9; omega)
  intro k
  induction k with
  | zero => intro i r h1 h2; rw [f_go, h2, show i = n by omega]
  | succ k ih =>
    intro i r h1 h2
    have g := hd i (by omega)
    have p : ¬ (f (a + i) - (48 : Int32)) < (0 : Int32) := fun z => g ((own_d _).mp (Or.inl z))
    have q : ¬ (9 : Int32) < (f (a + i) - (48 : Int32)) := fun z => g ((own_d _).mp (Or.inr z))
    rw [f_go, if_neg p, if_neg q]
    apply ih (i + 1) _ (by omega)
    have b1 := hB i (by omega)
    have b2 := own_p9 ⟨i, by omega⟩
    have b3 := hB (i + 1) (by omega)
    have b4 := own_p9 ⟨i + 1, by omega⟩
    simp only at b2 b4
    rw [own_hv] at b3 ⊢
    have dg := (own_dig _).mp g
    have e1 := c_isub (f (a + i)) 48
    have e2 := c_imul r 10
    have e3 := c_iadd (r * 10) (f (a + i) - 48)
    have r1 := rng32 (f (a + i) - 48)
    have r2 := rng32 (r * 10)
    have r3 := rng32 (r * 10 + (f (a + i) - 48))
    simp only [Int32.reduceToInt] at e1 e2
    omega
theorem own_ix (a k : Int32) (K : Nat) (hk : k.toInt = K) (hK : K ≤ 8) (ha : 0 ≤ a.toInt ∧ a.toInt ≤ 7) : (a + k).toInt = a.toInt + K ∧ (a + k).toNatClampNeg = a.toInt.toNat + K := by
  have e := c_iadd a k
  have r := rng32 (a + k)
  rw [own_clamp]
  omega
theorem own_no (f : Nat → Int32) (a c k : Int32) (K : Nat) (hk : k.toInt = K) (hK : K ≤ 8) (ha : 0 ≤ a.toInt ∧ a.toInt ≤ 7) (h : f_ok f a c k = (0 : Int32)) : f_go f a.toInt.toNat c.toInt.toNat 0 (0 : Int32) = (-1 : Int32) := by
  by_cases p : k < c
  · rw [f_ok, if_pos p] at h
    by_cases q : f_dig (f (a + k).toNatClampNeg) = (0 : Int32)
    · rw [(own_ix a k K hk hK ha).2] at q
      rw [Int32.lt_iff_toInt_lt] at p
      exact own_bad f _ _ 0 _ K (by omega) (by omega) q
    · rw [if_neg q] at h; exact absurd h (by decide)
  · rw [f_ok, if_neg p] at h; exact absurd h (by decide)
theorem own_ok1 (f : Nat → Int32) (a c k : Int32) (K : Nat) (hk : k.toInt = K) (hK : K ≤ 8) (ha : 0 ≤ a.toInt ∧ a.toInt ≤ 7) (h : ¬ f_ok f a c k = (0 : Int32)) (hc : (K : Int) < c.toInt) : ¬ f_dig (f (a.toInt.toNat + K)) = (0 : Int32) := by
  intro z
  apply h
  have p : k < c := by rw [Int32.lt_iff_toInt_lt]; omega
  rw [f_ok, if_pos p, (own_ix a k K hk hK ha).2, if_pos z]
theorem own_tm1 (f : Nat → Int32) (a c k : Int32) (K : Nat) (P : Int) (hk : k.toInt = K) (hK : K ≤ 8) (ha : 0 ≤ a.toInt ∧ a.toInt ≤ 7) (hc : (K : Int) < c.toInt) (hd : ¬ f_dig (f (a.toInt.toNat + K)) = (0 : Int32)) (hP : (f_p10 ((c - (1 : Int32)) - k)).toInt = P) (hP2 : 0 ≤ P ∧ P ≤ 100000000) : (f_tm f a c k).toInt = ((f (a.toInt.toNat + K)).toInt - 48) * P := by
  have p : k < c := by rw [Int32.lt_iff_toInt_lt]; omega
  rw [f_tm, if_pos p, (own_ix a k K hk hK ha).2]
  have dg := (own_dig _).mp hd
  have e1 := c_isub (f (a.toInt.toNat + K)) 48
  have r1 := rng32 (f (a.toInt.toNat + K) - 48)
  have e2 := c_imul (f (a.toInt.toNat + K) - 48) (f_p10 ((c - (1 : Int32)) - k))
  have r2 := rng32 ((f (a.toInt.toNat + K) - 48) * f_p10 ((c - (1 : Int32)) - k))
  simp only [Int32.reduceToInt] at e1
  have e3 : (f (a.toInt.toNat + K) - 48).toInt = (f (a.toInt.toNat + K)).toInt - 48 := by omega
  rw [hP, e3] at e2
  have m1 : 0 ≤ ((f (a.toInt.toNat + K)).toInt - 48) * P := Int.mul_nonneg (by omega) hP2.1
  have m2 : ((f (a.toInt.toNat + K)).toInt - 48) * P ≤ 9 * 100000000 := Int.mul_le_mul (by omega) hP2.2 hP2.1 (by decide)
  generalize ((f (a.toInt.toNat + K)).toInt - 48) * P = M at *
  omega
theorem own_tm0 (f : Nat → Int32) (a c k : Int32) (hc : c.toInt ≤ k.toInt) : (f_tm f a c k).toInt = 0 := by
  have p : ¬ k < c := by rw [Int32.lt_iff_toInt_lt]; omega
  rw [f_tm, if_neg p]; decide
theorem own_tb (e P : Int) (he : 48 ≤ e ∧ e ≤ 57) (hP : 0 ≤ P) : 0 ≤ (e - 48) * P ∧ (e - 48) * P ≤ 9 * P := ⟨Int.mul_nonneg (by omega) hP, Int.mul_le_mul_of_nonneg_right (by omega) hP⟩
theorem own_ad2 (x y : Int32) (X Y B D : Int) (hx : x.toInt = X ∧ 0 ≤ X ∧ X ≤ B) (hy : y.toInt = Y) (hY : 0 ≤ Y ∧ Y ≤ D) (hb : B + D ≤ 2000000000) : (x + y).toInt = X + Y ∧ 0 ≤ X + Y ∧ X + Y ≤ B + D := by
  have e := c_iadd x y
  have r := rng32 (x + y)
  omega
theorem own_ad (x y : Int32) (X Y : Int) (hx : x.toInt = X) (hy : y.toInt = Y) (h : 0 ≤ X) (h' : 0 ≤ Y) (hb : X + Y ≤ 2000000000) : (x + y).toInt = X + Y := by
  have e := c_iadd x y
  have r := rng32 (x + y)
  omega
theorem own_sum0 (f : Nat → Int32) (a : Int32) (ha : 0 ≤ a.toInt ∧ a.toInt ≤ 7) (n : ∀ K : Nat, K < 0 → ¬ f_dig (f (a.toInt.toNat + K)) = (0 : Int32)) : ((((((((((f_tm f a (0 : Int32) (0 : Int32)) + f_tm f a (0 : Int32) (1 : Int32)) + f_tm f a (0 : Int32) (2 : Int32)) + f_tm f a (0 : Int32) (3 : Int32)) + f_tm f a (0 : Int32) (4 : Int32)) + f_tm f a (0 : Int32) (5 : Int32)) + f_tm f a (0 : Int32) (6 : Int32)) + f_tm f a (0 : Int32) (7 : Int32)) + f_tm f a (0 : Int32) (8 : Int32))).toInt = own_hv (fun i => (f (a.toInt.toNat + i)).toInt - 48) 0 := by
  have t0 := own_tm0 f a (0 : Int32) (0 : Int32) (by decide)
  have b0 : (0 : Int) ≤ 0 ∧ (0 : Int) ≤ 0 := by decide
  have t1 := own_tm0 f a (0 : Int32) (1 : Int32) (by decide)
  have b1 : (0 : Int) ≤ 0 ∧ (0 : Int) ≤ 0 := by decide
  have t2 := own_tm0 f a (0 : Int32) (2 : Int32) (by decide)
  have b2 : (0 : Int) ≤ 0 ∧ (0 : Int) ≤ 0 := by decide
  have t3 := own_tm0 f a (0 : Int32) (3 : Int32) (by decide)
  have b3 : (0 : Int) ≤ 0 ∧ (0 : Int) ≤ 0 := by decide
  have t4 := own_tm0 f a (0 : Int32) (4 : Int32) (by decide)
  have b4 : (0 : Int) ≤ 0 ∧ (0 : Int) ≤ 0 := by decide
  have t5 := own_tm0 f a (0 : Int32) (5 : Int32) (by decide)
  have b5 : (0 : Int) ≤ 0 ∧ (0 : Int) ≤ 0 := by decide
  have t6 := own_tm0 f a (0 : Int32) (6 : Int32) (by decide)
  have b6 : (0 : Int) ≤ 0 ∧ (0 : Int) ≤ 0 := by decide
  have t7 := own_tm0 f a (0 : Int32) (7 : Int32) (by decide)
  have b7 : (0 : Int) ≤ 0 ∧ (0 : Int) ≤ 0 := by decide
  have t8 := own_tm0 f a (0 : Int32) (8 : Int32) (by decide)
  have b8 : (0 : Int) ≤ 0 ∧ (0 : Int) ≤ 0 := by decide
  have s0 := And.intro t0 b0
  have s1 := own_ad2 _ _ _ _ (0) (0) s0 t1 b1 (by decide)
  have s2 := own_ad2 _ _ _ _ (0 + 0) (0) s1 t2 b2 (by decide)
  have s3 := own_ad2 _ _ _ _ (0 + 0 + 0) (0) s2 t3 b3 (by decide)
  have s4 := own_ad2 _ _ _ _ (0 + 0 + 0 + 0) (0) s3 t4 b4 (by decide)
  have s5 := own_ad2 _ _ _ _ (0 + 0 + 0 + 0 + 0) (0) s4 t5 b5 (by decide)
  have s6 := own_ad2 _ _ _ _ (0 + 0 + 0 + 0 + 0 + 0) (0) s5 t6 b6 (by decide)
  have s7 := own_ad2 _ _ _ _ (0 + 0 + 0 + 0 + 0 + 0 + 0) (0) s6 t7 b7 (by decide)
  have s8 := own_ad2 _ _ _ _ (0 + 0 + 0 + 0 + 0 + 0 + 0 + 0) (0) s7 t8 b8 (by decide)
  rw [s8.1]
  clear s0 s1 s2 s3 s4 s5 s6 s7 s8 t0 t1 t2 t3 t4 t5 t6 t7 t8 b0 b1 b2 b3 b4 b5 b6 b7 b8
  simp only [own_hv]
  clear n ha
  omega
theorem own_sum1 (f : Nat → Int32) (a : Int32) (ha : 0 ≤ a.toInt ∧ a.toInt ≤ 7) (n : ∀ K : Nat, K < 1 → ¬ f_dig (f (a.toInt.toNat + K)) = (0 : Int32)) : ((((((((((f_tm f a (1 : Int32) (0 : Int32)) + f_tm f a (1 : Int32) (1 : Int32)) + f_tm f a (1 : Int32) (2 : Int32)) + f_tm f a (1 : Int32) (3 : Int32)) + f_tm f a (1 : Int32) (4 : Int32)) + f_tm f a (1 : Int32) (5 : Int32)) + f_tm f a (1 : Int32) (6 : Int32)) + f_tm f a (1 : Int32) (7 : Int32)) + f_tm f a (1 : Int32) (8 : Int32))).toInt = own_hv (fun i => (f (a.toInt.toNat + i)).toInt - 48) 1 := by
  have t0 := own_tm1 f a (1 : Int32) (0 : Int32) 0 1 (by decide) (by decide) ha (by decide) (n 0 (by decide)) (by decide) (by decide)
  have b0 := own_tb _ 1 ((own_dig _).mp (n 0 (by decide))) (by decide)
  have t1 := own_tm0 f a (1 : Int32) (1 : Int32) (by decide)
  have b1 : (0 : Int) ≤ 0 ∧ (0 : Int) ≤ 0 := by decide
  have t2 := own_tm0 f a (1 : Int32) (2 : Int32) (by decide)
  have b2 : (0 : Int) ≤ 0 ∧ (0 : Int) ≤ 0 := by decide
  have t3 := own_tm0 f a (1 : Int32) (3 : Int32) (by decide)
  have b3 : (0 : Int) ≤ 0 ∧ (0 : Int) ≤ 0 := by decide
  have t4 := own_tm0 f a (1 : Int32) (4 : Int32) (by decide)
  have b4 : (0 : Int) ≤ 0 ∧ (0 : Int) ≤ 0 := by decide
  have t5 := own_tm0 f a (1 : Int32) (5 : Int32) (by decide)
  have b5 : (0 : Int) ≤ 0 ∧ (0 : Int) ≤ 0 := by decide
  have t6 := own_tm0 f a (1 : Int32) (6 : Int32) (by decide)
  have b6 : (0 : Int) ≤ 0 ∧ (0 : Int) ≤ 0 := by decide
  have t7 := own_tm0 f a (1 : Int32) (7 : Int32) (by decide)
  have b7 : (0 : Int) ≤ 0 ∧ (0 : Int) ≤ 0 := by decide
  have t8 := own_tm0 f a (1 : Int32) (8 : Int32) (by decide)
  have b8 : (0 : Int) ≤ 0 ∧ (0 : Int) ≤ 0 := by decide
  have s0 := And.intro t0 b0
  have s1 := own_ad2 _ _ _ _ ((9 * 1)) (0) s0 t1 b1 (by decide)
  have s2 := own_ad2 _ _ _ _ ((9 * 1) + 0) (0) s1 t2 b2 (by decide)
  have s3 := own_ad2 _ _ _ _ ((9 * 1) + 0 + 0) (0) s2 t3 b3 (by decide)
  have s4 := own_ad2 _ _ _ _ ((9 * 1) + 0 + 0 + 0) (0) s3 t4 b4 (by decide)
  have s5 := own_ad2 _ _ _ _ ((9 * 1) + 0 + 0 + 0 + 0) (0) s4 t5 b5 (by decide)
  have s6 := own_ad2 _ _ _ _ ((9 * 1) + 0 + 0 + 0 + 0 + 0) (0) s5 t6 b6 (by decide)
  have s7 := own_ad2 _ _ _ _ ((9 * 1) + 0 + 0 + 0 + 0 + 0 + 0) (0) s6 t7 b7 (by decide)
  have s8 := own_ad2 _ _ _ _ ((9 * 1) + 0 + 0 + 0 + 0 + 0 + 0 + 0) (0) s7 t8 b8 (by decide)
  rw [s8.1]
  clear s0 s1 s2 s3 s4 s5 s6 s7 s8 t0 t1 t2 t3 t4 t5 t6 t7 t8 b0 b1 b2 b3 b4 b5 b6 b7 b8
  simp only [own_hv]
  generalize (f (a.toInt.toNat + 0)).toInt = e0
  clear n ha
  omega
theorem own_sum2 (f : Nat → Int32) (a : Int32) (ha : 0 ≤ a.toInt ∧ a.toInt ≤ 7) (n : ∀ K : Nat, K < 2 → ¬ f_dig (f (a.toInt.toNat + K)) = (0 : Int32)) : ((((((((((f_tm f a (2 : Int32) (0 : Int32)) + f_tm f a (2 : Int32) (1 : Int32)) + f_tm f a (2 : Int32) (2 : Int32)) + f_tm f a (2 : Int32) (3 : Int32)) + f_tm f a (2 : Int32) (4 : Int32)) + f_tm f a (2 : Int32) (5 : Int32)) + f_tm f a (2 : Int32) (6 : Int32)) + f_tm f a (2 : Int32) (7 : Int32)) + f_tm f a (2 : Int32) (8 : Int32))).toInt = own_hv (fun i => (f (a.toInt.toNat + i)).toInt - 48) 2 := by
  have t0 := own_tm1 f a (2 : Int32) (0 : Int32) 0 10 (by decide) (by decide) ha (by decide) (n 0 (by decide)) (by decide) (by decide)
  have b0 := own_tb _ 10 ((own_dig _).mp (n 0 (by decide))) (by decide)
  have t1 := own_tm1 f a (2 : Int32) (1 : Int32) 1 1 (by decide) (by decide) ha (by decide) (n 1 (by decide)) (by decide) (by decide)
  have b1 := own_tb _ 1 ((own_dig _).mp (n 1 (by decide))) (by decide)
  have t2 := own_tm0 f a (2 : Int32) (2 : Int32) (by decide)
  have b2 : (0 : Int) ≤ 0 ∧ (0 : Int) ≤ 0 := by decide
  have t3 := own_tm0 f a (2 : Int32) (3 : Int32) (by decide)
  have b3 : (0 : Int) ≤ 0 ∧ (0 : Int) ≤ 0 := by decide
  have t4 := own_tm0 f a (2 : Int32) (4 : Int32) (by decide)
  have b4 : (0 : Int) ≤ 0 ∧ (0 : Int) ≤ 0 := by decide
  have t5 := own_tm0 f a (2 : Int32) (5 : Int32) (by decide)
  have b5 : (0 : Int) ≤ 0 ∧ (0 : Int) ≤ 0 := by decide
  have t6 := own_tm0 f a (2 : Int32) (6 : Int32) (by decide)
  have b6 : (0 : Int) ≤ 0 ∧ (0 : Int) ≤ 0 := by decide
  have t7 := own_tm0 f a (2 : Int32) (7 : Int32) (by decide)
  have b7 : (0 : Int) ≤ 0 ∧ (0 : Int) ≤ 0 := by decide
  have t8 := own_tm0 f a (2 : Int32) (8 : Int32) (by decide)
  have b8 : (0 : Int) ≤ 0 ∧ (0 : Int) ≤ 0 := by decide
  have s0 := And.intro t0 b0
  have s1 := own_ad2 _ _ _ _ ((9 * 10)) ((9 * 1)) s0 t1 b1 (by decide)
  have s2 := own_ad2 _ _ _ _ ((9 * 10) + (9 * 1)) (0) s1 t2 b2 (by decide)
  have s3 := own_ad2 _ _ _ _ ((9 * 10) + (9 * 1) + 0) (0) s2 t3 b3 (by decide)
  have s4 := own_ad2 _ _ _ _ ((9 * 10) + (9 * 1) + 0 + 0) (0) s3 t4 b4 (by decide)
  have s5 := own_ad2 _ _ _ _ ((9 * 10) + (9 * 1) + 0 + 0 + 0) (0) s4 t5 b5 (by decide)
  have s6 := own_ad2 _ _ _ _ ((9 * 10) + (9 * 1) + 0 + 0 + 0 + 0) (0) s5 t6 b6 (by decide)
  have s7 := own_ad2 _ _ _ _ ((9 * 10) + (9 * 1) + 0 + 0 + 0 + 0 + 0) (0) s6 t7 b7 (by decide)
  have s8 := own_ad2 _ _ _ _ ((9 * 10) + (9 * 1) + 0 + 0 + 0 + 0 + 0 + 0) (0) s7 t8 b8 (by decide)
  rw [s8.1]
  clear s0 s1 s2 s3 s4 s5 s6 s7 s8 t0 t1 t2 t3 t4 t5 t6 t7 t8 b0 b1 b2 b3 b4 b5 b6 b7 b8
  simp only [own_hv]
  generalize (f (a.toInt.toNat + 0)).toInt = e0
  generalize (f (a.toInt.toNat + 1)).toInt = e1
  clear n ha
  omega
theorem own_sum3 (f : Nat → Int32) (a : Int32) (ha : 0 ≤ a.toInt ∧ a.toInt ≤ 7) (n : ∀ K : Nat, K < 3 → ¬ f_dig (f (a.toInt.toNat + K)) = (0 : Int32)) : ((((((((((f_tm f a (3 : Int32) (0 : Int32)) + f_tm f a (3 : Int32) (1 : Int32)) + f_tm f a (3 : Int32) (2 : Int32)) + f_tm f a (3 : Int32) (3 : Int32)) + f_tm f a (3 : Int32) (4 : Int32)) + f_tm f a (3 : Int32) (5 : Int32)) + f_tm f a (3 : Int32) (6 : Int32)) + f_tm f a (3 : Int32) (7 : Int32)) + f_tm f a (3 : Int32) (8 : Int32))).toInt = own_hv (fun i => (f (a.toInt.toNat + i)).toInt - 48) 3 := by
  have t0 := own_tm1 f a (3 : Int32) (0 : Int32) 0 100 (by decide) (by decide) ha (by decide) (n 0 (by decide)) (by decide) (by decide)
  have b0 := own_tb _ 100 ((own_dig _).mp (n 0 (by decide))) (by decide)
  have t1 := own_tm1 f a (3 : Int32) (1 : Int32) 1 10 (by decide) (by decide) ha (by decide) (n 1 (by decide)) (by decide) (by decide)
  have b1 := own_tb _ 10 ((own_dig _).mp (n 1 (by decide))) (by decide)
  have t2 := own_tm1 f a (3 : Int32) (2 : Int32) 2 1 (by decide) (by decide) ha (by decide) (n 2 (by decide)) (by decide) (by decide)
  have b2 := own_tb _ 1 ((own_dig _).mp (n 2 (by decide))) (by decide)
  have t3 := own_tm0 f a (3 : Int32) (3 : Int32) (by decide)
  have b3 : (0 : Int) ≤ 0 ∧ (0 : Int) ≤ 0 := by decide
  have t4 := own_tm0 f a (3 : Int32) (4 : Int32) (by decide)
  have b4 : (0 : Int) ≤ 0 ∧ (0 : Int) ≤ 0 := by decide
  have t5 := own_tm0 f a (3 : Int32) (5 : Int32) (by decide)
  have b5 : (0 : Int) ≤ 0 ∧ (0 : Int) ≤ 0 := by decide
  have t6 := own_tm0 f a (3 : Int32) (6 : Int32) (by decide)
  have b6 : (0 : Int) ≤ 0 ∧ (0 : Int) ≤ 0 := by decide
  have t7 := own_tm0 f a (3 : Int32) (7 : Int32) (by decide)
  have b7 : (0 : Int) ≤ 0 ∧ (0 : Int) ≤ 0 := by decide
  have t8 := own_tm0 f a (3 : Int32) (8 : Int32) (by decide)
  have b8 : (0 : Int) ≤ 0 ∧ (0 : Int) ≤ 0 := by decide
  have s0 := And.intro t0 b0
  have s1 := own_ad2 _ _ _ _ ((9 * 100)) ((9 * 10)) s0 t1 b1 (by decide)
  have s2 := own_ad2 _ _ _ _ ((9 * 100) + (9 * 10)) ((9 * 1)) s1 t2 b2 (by decide)
  have s3 := own_ad2 _ _ _ _ ((9 * 100) + (9 * 10) + (9 * 1)) (0) s2 t3 b3 (by decide)
  have s4 := own_ad2 _ _ _ _ ((9 * 100) + (9 * 10) + (9 * 1) + 0) (0) s3 t4 b4 (by decide)
  have s5 := own_ad2 _ _ _ _ ((9 * 100) + (9 * 10) + (9 * 1) + 0 + 0) (0) s4 t5 b5 (by decide)
  have s6 := own_ad2 _ _ _ _ ((9 * 100) + (9 * 10) + (9 * 1) + 0 + 0 + 0) (0) s5 t6 b6 (by decide)
  have s7 := own_ad2 _ _ _ _ ((9 * 100) + (9 * 10) + (9 * 1) + 0 + 0 + 0 + 0) (0) s6 t7 b7 (by decide)
  have s8 := own_ad2 _ _ _ _ ((9 * 100) + (9 * 10) + (9 * 1) + 0 + 0 + 0 + 0 + 0) (0) s7 t8 b8 (by decide)
  rw [s8.1]
  clear s0 s1 s2 s3 s4 s5 s6 s7 s8 t0 t1 t2 t3 t4 t5 t6 t7 t8 b0 b1 b2 b3 b4 b5 b6 b7 b8
  simp only [own_hv]
  generalize (f (a.toInt.toNat + 0)).toInt = e0
  generalize (f (a.toInt.toNat + 1)).toInt = e1
  generalize (f (a.toInt.toNat + 2)).toInt = e2
  clear n ha
  omega
theorem own_sum4 (f : Nat → Int32) (a : Int32) (ha : 0 ≤ a.toInt ∧ a.toInt ≤ 7) (n : ∀ K : Nat, K < 4 → ¬ f_dig (f (a.toInt.toNat + K)) = (0 : Int32)) : ((((((((((f_tm f a (4 : Int32) (0 : Int32)) + f_tm f a (4 : Int32) (1 : Int32)) + f_tm f a (4 : Int32) (2 : Int32)) + f_tm f a (4 : Int32) (3 : Int32)) + f_tm f a (4 : Int32) (4 : Int32)) + f_tm f a (4 : Int32) (5 : Int32)) + f_tm f a (4 : Int32) (6 : Int32)) + f_tm f a (4 : Int32) (7 : Int32)) + f_tm f a (4 : Int32) (8 : Int32))).toInt = own_hv (fun i => (f (a.toInt.toNat + i)).toInt - 48) 4 := by
  have t0 := own_tm1 f a (4 : Int32) (0 : Int32) 0 1000 (by decide) (by decide) ha (by decide) (n 0 (by decide)) (by decide) (by decide)
  have b0 := own_tb _ 1000 ((own_dig _).mp (n 0 (by decide))) (by decide)
  have t1 := own_tm1 f a (4 : Int32) (1 : Int32) 1 100 (by decide) (by decide) ha (by decide) (n 1 (by decide)) (by decide) (by decide)
  have b1 := own_tb _ 100 ((own_dig _).mp (n 1 (by decide))) (by decide)
  have t2 := own_tm1 f a (4 : Int32) (2 : Int32) 2 10 (by decide) (by decide) ha (by decide) (n 2 (by decide)) (by decide) (by decide)
  have b2 := own_tb _ 10 ((own_dig _).mp (n 2 (by decide))) (by decide)
  have t3 := own_tm1 f a (4 : Int32) (3 : Int32) 3 1 (by decide) (by decide) ha (by decide) (n 3 (by decide)) (by decide) (by decide)
  have b3 := own_tb _ 1 ((own_dig _).mp (n 3 (by decide))) (by decide)
  have t4 := own_tm0 f a (4 : Int32) (4 : Int32) (by decide)
  have b4 : (0 : Int) ≤ 0 ∧ (0 : Int) ≤ 0 := by decide
  have t5 := own_tm0 f a (4 : Int32) (5 : Int32) (by decide)
  have b5 : (0 : Int) ≤ 0 ∧ (0 : Int) ≤ 0 := by decide
  have t6 := own_tm0 f a (4 : Int32) (6 : Int32) (by decide)
  have b6 : (0 : Int) ≤ 0 ∧ (0 : Int) ≤ 0 := by decide
  have t7 := own_tm0 f a (4 : Int32) (7 : Int32) (by decide)
  have b7 : (0 : Int) ≤ 0 ∧ (0 : Int) ≤ 0 := by decide
  have t8 := own_tm0 f a (4 : Int32) (8 : Int32) (by decide)
  have b8 : (0 : Int) ≤ 0 ∧ (0 : Int) ≤ 0 := by decide
  have s0 := And.intro t0 b0
  have s1 := own_ad2 _ _ _ _ ((9 * 1000)) ((9 * 100)) s0 t1 b1 (by decide)
  have s2 := own_ad2 _ _ _ _ ((9 * 1000) + (9 * 100)) ((9 * 10)) s1 t2 b2 (by decide)
  have s3 := own_ad2 _ _ _ _ ((9 * 1000) + (9 * 100) + (9 * 10)) ((9 * 1)) s2 t3 b3 (by decide)
  have s4 := own_ad2 _ _ _ _ ((9 * 1000) + (9 * 100) + (9 * 10) + (9 * 1)) (0) s3 t4 b4 (by decide)
  have s5 := own_ad2 _ _ _ _ ((9 * 1000) + (9 * 100) + (9 * 10) + (9 * 1) + 0) (0) s4 t5 b5 (by decide)
  have s6 := own_ad2 _ _ _ _ ((9 * 1000) + (9 * 100) + (9 * 10) + (9 * 1) + 0 + 0) (0) s5 t6 b6 (by decide)
  have s7 := own_ad2 _ _ _ _ ((9 * 1000) + (9 * 100) + (9 * 10) + (9 * 1) + 0 + 0 + 0) (0) s6 t7 b7 (by decide)
  have s8 := own_ad2 _ _ _ _ ((9 * 1000) + (9 * 100) + (9 * 10) + (9 * 1) + 0 + 0 + 0 + 0) (0) s7 t8 b8 (by decide)
  rw [s8.1]
  clear s0 s1 s2 s3 s4 s5 s6 s7 s8 t0 t1 t2 t3 t4 t5 t6 t7 t8 b0 b1 b2 b3 b4 b5 b6 b7 b8
  simp only [own_hv]
  generalize (f (a.toInt.toNat + 0)).toInt = e0
  generalize (f (a.toInt.toNat + 1)).toInt = e1
  generalize (f (a.toInt.toNat + 2)).toInt = e2
  generalize (f (a.toInt.toNat + 3)).toInt = e3
  clear n ha
  omega
theorem own_sum5 (f : Nat → Int32) (a : Int32) (ha : 0 ≤ a.toInt ∧ a.toInt ≤ 7) (n : ∀ K : Nat, K < 5 → ¬ f_dig (f (a.toInt.toNat + K)) = (0 : Int32)) : ((((((((((f_tm f a (5 : Int32) (0 : Int32)) + f_tm f a (5 : Int32) (1 : Int32)) + f_tm f a (5 : Int32) (2 : Int32)) + f_tm f a (5 : Int32) (3 : Int32)) + f_tm f a (5 : Int32) (4 : Int32)) + f_tm f a (5 : Int32) (5 : Int32)) + f_tm f a (5 : Int32) (6 : Int32)) + f_tm f a (5 : Int32) (7 : Int32)) + f_tm f a (5 : Int32) (8 : Int32))).toInt = own_hv (fun i => (f (a.toInt.toNat + i)).toInt - 48) 5 := by
  have t0 := own_tm1 f a (5 : Int32) (0 : Int32) 0 10000 (by decide) (by decide) ha (by decide) (n 0 (by decide)) (by decide) (by decide)
  have b0 := own_tb _ 10000 ((own_dig _).mp (n 0 (by decide))) (by decide)
  have t1 := own_tm1 f a (5 : Int32) (1 : Int32) 1 1000 (by decide) (by decide) ha (by decide) (n 1 (by decide)) (by decide) (by decide)
  have b1 := own_tb _ 1000 ((own_dig _).mp (n 1 (by decide))) (by decide)
  have t2 := own_tm1 f a (5 : Int32) (2 : Int32) 2 100 (by decide) (by decide) ha (by decide) (n 2 (by decide)) (by decide) (by decide)
  have b2 := own_tb _ 100 ((own_dig _).mp (n 2 (by decide))) (by decide)
  have t3 := own_tm1 f a (5 : Int32) (3 : Int32) 3 10 (by decide) (by decide) ha (by decide) (n 3 (by decide)) (by decide) (by decide)
  have b3 := own_tb _ 10 ((own_dig _).mp (n 3 (by decide))) (by decide)
  have t4 := own_tm1 f a (5 : Int32) (4 : Int32) 4 1 (by decide) (by decide) ha (by decide) (n 4 (by decide)) (by decide) (by decide)
  have b4 := own_tb _ 1 ((own_dig _).mp (n 4 (by decide))) (by decide)
  have t5 := own_tm0 f a (5 : Int32) (5 : Int32) (by decide)
  have b5 : (0 : Int) ≤ 0 ∧ (0 : Int) ≤ 0 := by decide
  have t6 := own_tm0 f a (5 : Int32) (6 : Int32) (by decide)
  have b6 : (0 : Int) ≤ 0 ∧ (0 : Int) ≤ 0 := by decide
  have t7 := own_tm0 f a (5 : Int32) (7 : Int32) (by decide)
  have b7 : (0 : Int) ≤ 0 ∧ (0 : Int) ≤ 0 := by decide
  have t8 := own_tm0 f a (5 : Int32) (8 : Int32) (by decide)
  have b8 : (0 : Int) ≤ 0 ∧ (0 : Int) ≤ 0 := by decide
  have s0 := And.intro t0 b0
  have s1 := own_ad2 _ _ _ _ ((9 * 10000)) ((9 * 1000)) s0 t1 b1 (by decide)
  have s2 := own_ad2 _ _ _ _ ((9 * 10000) + (9 * 1000)) ((9 * 100)) s1 t2 b2 (by decide)
  have s3 := own_ad2 _ _ _ _ ((9 * 10000) + (9 * 1000) + (9 * 100)) ((9 * 10)) s2 t3 b3 (by decide)
  have s4 := own_ad2 _ _ _ _ ((9 * 10000) + (9 * 1000) + (9 * 100) + (9 * 10)) ((9 * 1)) s3 t4 b4 (by decide)
  have s5 := own_ad2 _ _ _ _ ((9 * 10000) + (9 * 1000) + (9 * 100) + (9 * 10) + (9 * 1)) (0) s4 t5 b5 (by decide)
  have s6 := own_ad2 _ _ _ _ ((9 * 10000) + (9 * 1000) + (9 * 100) + (9 * 10) + (9 * 1) + 0) (0) s5 t6 b6 (by decide)
  have s7 := own_ad2 _ _ _ _ ((9 * 10000) + (9 * 1000) + (9 * 100) + (9 * 10) + (9 * 1) + 0 + 0) (0) s6 t7 b7 (by decide)
  have s8 := own_ad2 _ _ _ _ ((9 * 10000) + (9 * 1000) + (9 * 100) + (9 * 10) + (9 * 1) + 0 + 0 + 0) (0) s7 t8 b8 (by decide)
  rw [s8.1]
  clear s0 s1 s2 s3 s4 s5 s6 s7 s8 t0 t1 t2 t3 t4 t5 t6 t7 t8 b0 b1 b2 b3 b4 b5 b6 b7 b8
  simp only [own_hv]
  generalize (f (a.toInt.toNat + 0)).toInt = e0
  generalize (f (a.toInt.toNat + 1)).toInt = e1
  generalize (f (a.toInt.toNat + 2)).toInt = e2
  generalize (f (a.toInt.toNat + 3)).toInt = e3
  generalize (f (a.toInt.toNat + 4)).toInt = e4
  clear n ha
  omega
theorem own_sum6 (f : Nat → Int32) (a : Int32) (ha : 0 ≤ a.toInt ∧ a.toInt ≤ 7) (n : ∀ K : Nat, K < 6 → ¬ f_dig (f (a.toInt.toNat + K)) = (0 : Int32)) : ((((((((((f_tm f a (6 : Int32) (0 : Int32)) + f_tm f a (6 : Int32) (1 : Int32)) + f_tm f a (6 : Int32) (2 : Int32)) + f_tm f a (6 : Int32) (3 : Int32)) + f_tm f a (6 : Int32) (4 : Int32)) + f_tm f a (6 : Int32) (5 : Int32)) + f_tm f a (6 : Int32) (6 : Int32)) + f_tm f a (6 : Int32) (7 : Int32)) + f_tm f a (6 : Int32) (8 : Int32))).toInt = own_hv (fun i => (f (a.toInt.toNat + i)).toInt - 48) 6 := by
  have t0 := own_tm1 f a (6 : Int32) (0 : Int32) 0 100000 (by decide) (by decide) ha (by decide) (n 0 (by decide)) (by decide) (by decide)
  have b0 := own_tb _ 100000 ((own_dig _).mp (n 0 (by decide))) (by decide)
  have t1 := own_tm1 f a (6 : Int32) (1 : Int32) 1 10000 (by decide) (by decide) ha (by decide) (n 1 (by decide)) (by decide) (by decide)
  have b1 := own_tb _ 10000 ((own_dig _).mp (n 1 (by decide))) (by decide)
  have t2 := own_tm1 f a (6 : Int32) (2 : Int32) 2 1000 (by decide) (by decide) ha (by decide) (n 2 (by decide)) (by decide) (by decide)
  have b2 := own_tb _ 1000 ((own_dig _).mp (n 2 (by decide))) (by decide)
  have t3 := own_tm1 f a (6 : Int32) (3 : Int32) 3 100 (by decide) (by decide) ha (by decide) (n 3 (by decide)) (by decide) (by decide)
  have b3 := own_tb _ 100 ((own_dig _).mp (n 3 (by decide))) (by decide)
  have t4 := own_tm1 f a (6 : Int32) (4 : Int32) 4 10 (by decide) (by decide) ha (by decide) (n 4 (by decide)) (by decide) (by decide)
  have b4 := own_tb _ 10 ((own_dig _).mp (n 4 (by decide))) (by decide)
  have t5 := own_tm1 f a (6 : Int32) (5 : Int32) 5 1 (by decide) (by decide) ha (by decide) (n 5 (by decide)) (by decide) (by decide)
  have b5 := own_tb _ 1 ((own_dig _).mp (n 5 (by decide))) (by decide)
  have t6 := own_tm0 f a (6 : Int32) (6 : Int32) (by decide)
  have b6 : (0 : Int) ≤ 0 ∧ (0 : Int) ≤ 0 := by decide
  have t7 := own_tm0 f a (6 : Int32) (7 : Int32) (by decide)
  have b7 : (0 : Int) ≤ 0 ∧ (0 : Int) ≤ 0 := by decide
  have t8 := own_tm0 f a (6 : Int32) (8 : Int32) (by decide)
  have b8 : (0 : Int) ≤ 0 ∧ (0 : Int) ≤ 0 := by decide
  have s0 := And.intro t0 b0
  have s1 := own_ad2 _ _ _ _ ((9 * 100000)) ((9 * 10000)) s0 t1 b1 (by decide)
  have s2 := own_ad2 _ _ _ _ ((9 * 100000) + (9 * 10000)) ((9 * 1000)) s1 t2 b2 (by decide)
  have s3 := own_ad2 _ _ _ _ ((9 * 100000) + (9 * 10000) + (9 * 1000)) ((9 * 100)) s2 t3 b3 (by decide)
  have s4 := own_ad2 _ _ _ _ ((9 * 100000) + (9 * 10000) + (9 * 1000) + (9 * 100)) ((9 * 10)) s3 t4 b4 (by decide)
  have s5 := own_ad2 _ _ _ _ ((9 * 100000) + (9 * 10000) + (9 * 1000) + (9 * 100) + (9 * 10)) ((9 * 1)) s4 t5 b5 (by decide)
  have s6 := own_ad2 _ _ _ _ ((9 * 100000) + (9 * 10000) + (9 * 1000) + (9 * 100) + (9 * 10) + (9 * 1)) (0) s5 t6 b6 (by decide)
  have s7 := own_ad2 _ _ _ _ ((9 * 100000) + (9 * 10000) + (9 * 1000) + (9 * 100) + (9 * 10) + (9 * 1) + 0) (0) s6 t7 b7 (by decide)
  have s8 := own_ad2 _ _ _ _ ((9 * 100000) + (9 * 10000) + (9 * 1000) + (9 * 100) + (9 * 10) + (9 * 1) + 0 + 0) (0) s7 t8 b8 (by decide)
  rw [s8.1]
  clear s0 s1 s2 s3 s4 s5 s6 s7 s8 t0 t1 t2 t3 t4 t5 t6 t7 t8 b0 b1 b2 b3 b4 b5 b6 b7 b8
  simp only [own_hv]
  generalize (f (a.toInt.toNat + 0)).toInt = e0
  generalize (f (a.toInt.toNat + 1)).toInt = e1
  generalize (f (a.toInt.toNat + 2)).toInt = e2
  generalize (f (a.toInt.toNat + 3)).toInt = e3
  generalize (f (a.toInt.toNat + 4)).toInt = e4
  generalize (f (a.toInt.toNat + 5)).toInt = e5
  clear n ha
  omega
theorem own_sum7 (f : Nat → Int32) (a : Int32) (ha : 0 ≤ a.toInt ∧ a.toInt ≤ 7) (n : ∀ K : Nat, K < 7 → ¬ f_dig (f (a.toInt.toNat + K)) = (0 : Int32)) : ((((((((((f_tm f a (7 : Int32) (0 : Int32)) + f_tm f a (7 : Int32) (1 : Int32)) + f_tm f a (7 : Int32) (2 : Int32)) + f_tm f a (7 : Int32) (3 : Int32)) + f_tm f a (7 : Int32) (4 : Int32)) + f_tm f a (7 : Int32) (5 : Int32)) + f_tm f a (7 : Int32) (6 : Int32)) + f_tm f a (7 : Int32) (7 : Int32)) + f_tm f a (7 : Int32) (8 : Int32))).toInt = own_hv (fun i => (f (a.toInt.toNat + i)).toInt - 48) 7 := by
  have t0 := own_tm1 f a (7 : Int32) (0 : Int32) 0 1000000 (by decide) (by decide) ha (by decide) (n 0 (by decide)) (by decide) (by decide)
  have b0 := own_tb _ 1000000 ((own_dig _).mp (n 0 (by decide))) (by decide)
  have t1 := own_tm1 f a (7 : Int32) (1 : Int32) 1 100000 (by decide) (by decide) ha (by decide) (n 1 (by decide)) (by decide) (by decide)
  have b1 := own_tb _ 100000 ((own_dig _).mp (n 1 (by decide))) (by decide)
  have t2 := own_tm1 f a (7 : Int32) (2 : Int32) 2 10000 (by decide) (by decide) ha (by decide) (n 2 (by decide)) (by decide) (by decide)
  have b2 := own_tb _ 10000 ((own_dig _).mp (n 2 (by decide))) (by decide)
  have t3 := own_tm1 f a (7 : Int32) (3 : Int32) 3 1000 (by decide) (by decide) ha (by decide) (n 3 (by decide)) (by decide) (by decide)
  have b3 := own_tb _ 1000 ((own_dig _).mp (n 3 (by decide))) (by decide)
  have t4 := own_tm1 f a (7 : Int32) (4 : Int32) 4 100 (by decide) (by decide) ha (by decide) (n 4 (by decide)) (by decide) (by decide)
  have b4 := own_tb _ 100 ((own_dig _).mp (n 4 (by decide))) (by decide)
  have t5 := own_tm1 f a (7 : Int32) (5 : Int32) 5 10 (by decide) (by decide) ha (by decide) (n 5 (by decide)) (by decide) (by decide)
  have b5 := own_tb _ 10 ((own_dig _).mp (n 5 (by decide))) (by decide)
  have t6 := own_tm1 f a (7 : Int32) (6 : Int32) 6 1 (by decide) (by decide) ha (by decide) (n 6 (by decide)) (by decide) (by decide)
  have b6 := own_tb _ 1 ((own_dig _).mp (n 6 (by decide))) (by decide)
  have t7 := own_tm0 f a (7 : Int32) (7 : Int32) (by decide)
  have b7 : (0 : Int) ≤ 0 ∧ (0 : Int) ≤ 0 := by decide
  have t8 := own_tm0 f a (7 : Int32) (8 : Int32) (by decide)
  have b8 : (0 : Int) ≤ 0 ∧ (0 : Int) ≤ 0 := by decide
  have s0 := And.intro t0 b0
  have s1 := own_ad2 _ _ _ _ ((9 * 1000000)) ((9 * 100000)) s0 t1 b1 (by decide)
  have s2 := own_ad2 _ _ _ _ ((9 * 1000000) + (9 * 100000)) ((9 * 10000)) s1 t2 b2 (by decide)
  have s3 := own_ad2 _ _ _ _ ((9 * 1000000) + (9 * 100000) + (9 * 10000)) ((9 * 1000)) s2 t3 b3 (by decide)
  have s4 := own_ad2 _ _ _ _ ((9 * 1000000) + (9 * 100000) + (9 * 10000) + (9 * 1000)) ((9 * 100)) s3 t4 b4 (by decide)
  have s5 := own_ad2 _ _ _ _ ((9 * 1000000) + (9 * 100000) + (9 * 10000) + (9 * 1000) + (9 * 100)) ((9 * 10)) s4 t5 b5 (by decide)
  have s6 := own_ad2 _ _ _ _ ((9 * 1000000) + (9 * 100000) + (9 * 10000) + (9 * 1000) + (9 * 100) + (9 * 10)) ((9 * 1)) s5 t6 b6 (by decide)
  have s7 := own_ad2 _ _ _ _ ((9 * 1000000) + (9 * 100000) + (9 * 10000) + (9 * 1000) + (9 * 100) + (9 * 10) + (9 * 1)) (0) s6 t7 b7 (by decide)
  have s8 := own_ad2 _ _ _ _ ((9 * 1000000) + (9 * 100000) + (9 * 10000) + (9 * 1000) + (9 * 100) + (9 * 10) + (9 * 1) + 0) (0) s7 t8 b8 (by decide)
  rw [s8.1]
  clear s0 s1 s2 s3 s4 s5 s6 s7 s8 t0 t1 t2 t3 t4 t5 t6 t7 t8 b0 b1 b2 b3 b4 b5 b6 b7 b8
  simp only [own_hv]
  generalize (f (a.toInt.toNat + 0)).toInt = e0
  generalize (f (a.toInt.toNat + 1)).toInt = e1
  generalize (f (a.toInt.toNat + 2)).toInt = e2
  generalize (f (a.toInt.toNat + 3)).toInt = e3
  generalize (f (a.toInt.toNat + 4)).toInt = e4
  generalize (f (a.toInt.toNat + 5)).toInt = e5
  generalize (f (a.toInt.toNat + 6)).toInt = e6
  clear n ha
  omega
theorem own_sum8 (f : Nat → Int32) (a : Int32) (ha : 0 ≤ a.toInt ∧ a.toInt ≤ 7) (n : ∀ K : Nat, K < 8 → ¬ f_dig (f (a.toInt.toNat + K)) = (0 : Int32)) : ((((((((((f_tm f a (8 : Int32) (0 : Int32)) + f_tm f a (8 : Int32) (1 : Int32)) + f_tm f a (8 : Int32) (2 : Int32)) + f_tm f a (8 : Int32) (3 : Int32)) + f_tm f a (8 : Int32) (4 : Int32)) + f_tm f a (8 : Int32) (5 : Int32)) + f_tm f a (8 : Int32) (6 : Int32)) + f_tm f a (8 : Int32) (7 : Int32)) + f_tm f a (8 : Int32) (8 : Int32))).toInt = own_hv (fun i => (f (a.toInt.toNat + i)).toInt - 48) 8 := by
  have t0 := own_tm1 f a (8 : Int32) (0 : Int32) 0 10000000 (by decide) (by decide) ha (by decide) (n 0 (by decide)) (by decide) (by decide)
  have b0 := own_tb _ 10000000 ((own_dig _).mp (n 0 (by decide))) (by decide)
  have t1 := own_tm1 f a (8 : Int32) (1 : Int32) 1 1000000 (by decide) (by decide) ha (by decide) (n 1 (by decide)) (by decide) (by decide)
  have b1 := own_tb _ 1000000 ((own_dig _).mp (n 1 (by decide))) (by decide)
  have t2 := own_tm1 f a (8 : Int32) (2 : Int32) 2 100000 (by decide) (by decide) ha (by decide) (n 2 (by decide)) (by decide) (by decide)
  have b2 := own_tb _ 100000 ((own_dig _).mp (n 2 (by decide))) (by decide)
  have t3 := own_tm1 f a (8 : Int32) (3 : Int32) 3 10000 (by decide) (by decide) ha (by decide) (n 3 (by decide)) (by decide) (by decide)
  have b3 := own_tb _ 10000 ((own_dig _).mp (n 3 (by decide))) (by decide)
  have t4 := own_tm1 f a (8 : Int32) (4 : Int32) 4 1000 (by decide) (by decide) ha (by decide) (n 4 (by decide)) (by decide) (by decide)
  have b4 := own_tb _ 1000 ((own_dig _).mp (n 4 (by decide))) (by decide)
  have t5 := own_tm1 f a (8 : Int32) (5 : Int32) 5 100 (by decide) (by decide) ha (by decide) (n 5 (by decide)) (by decide) (by decide)
  have b5 := own_tb _ 100 ((own_dig _).mp (n 5 (by decide))) (by decide)
  have t6 := own_tm1 f a (8 : Int32) (6 : Int32) 6 10 (by decide) (by decide) ha (by decide) (n 6 (by decide)) (by decide) (by decide)
  have b6 := own_tb _ 10 ((own_dig _).mp (n 6 (by decide))) (by decide)
  have t7 := own_tm1 f a (8 : Int32) (7 : Int32) 7 1 (by decide) (by decide) ha (by decide) (n 7 (by decide)) (by decide) (by decide)
  have b7 := own_tb _ 1 ((own_dig _).mp (n 7 (by decide))) (by decide)
  have t8 := own_tm0 f a (8 : Int32) (8 : Int32) (by decide)
  have b8 : (0 : Int) ≤ 0 ∧ (0 : Int) ≤ 0 := by decide
  have s0 := And.intro t0 b0
  have s1 := own_ad2 _ _ _ _ ((9 * 10000000)) ((9 * 1000000)) s0 t1 b1 (by decide)
  have s2 := own_ad2 _ _ _ _ ((9 * 10000000) + (9 * 1000000)) ((9 * 100000)) s1 t2 b2 (by decide)
  have s3 := own_ad2 _ _ _ _ ((9 * 10000000) + (9 * 1000000) + (9 * 100000)) ((9 * 10000)) s2 t3 b3 (by decide)
  have s4 := own_ad2 _ _ _ _ ((9 * 10000000) + (9 * 1000000) + (9 * 100000) + (9 * 10000)) ((9 * 1000)) s3 t4 b4 (by decide)
  have s5 := own_ad2 _ _ _ _ ((9 * 10000000) + (9 * 1000000) + (9 * 100000) + (9 * 10000) + (9 * 1000)) ((9 * 100)) s4 t5 b5 (by decide)
  have s6 := own_ad2 _ _ _ _ ((9 * 10000000) + (9 * 1000000) + (9 * 100000) + (9 * 10000) + (9 * 1000) + (9 * 100)) ((9 * 10)) s5 t6 b6 (by decide)
  have s7 := own_ad2 _ _ _ _ ((9 * 10000000) + (9 * 1000000) + (9 * 100000) + (9 * 10000) + (9 * 1000) + (9 * 100) + (9 * 10)) ((9 * 1)) s6 t7 b7 (by decide)
  have s8 := own_ad2 _ _ _ _ ((9 * 10000000) + (9 * 1000000) + (9 * 100000) + (9 * 10000) + (9 * 1000) + (9 * 100) + (9 * 10) + (9 * 1)) (0) s7 t8 b8 (by decide)
  rw [s8.1]
  clear s0 s1 s2 s3 s4 s5 s6 s7 s8 t0 t1 t2 t3 t4 t5 t6 t7 t8 b0 b1 b2 b3 b4 b5 b6 b7 b8
  simp only [own_hv]
  generalize (f (a.toInt.toNat + 0)).toInt = e0
  generalize (f (a.toInt.toNat + 1)).toInt = e1
  generalize (f (a.toInt.toNat + 2)).toInt = e2
  generalize (f (a.toInt.toNat + 3)).toInt = e3
  generalize (f (a.toInt.toNat + 4)).toInt = e4
  generalize (f (a.toInt.toNat + 5)).toInt = e5
  generalize (f (a.toInt.toNat + 6)).toInt = e6
  generalize (f (a.toInt.toNat + 7)).toInt = e7
  clear n ha
  omega
theorem own_sum9 (f : Nat → Int32) (a : Int32) (ha : 0 ≤ a.toInt ∧ a.toInt ≤ 7) (n : ∀ K : Nat, K < 9 → ¬ f_dig (f (a.toInt.toNat + K)) = (0 : Int32)) : ((((((((((f_tm f a (9 : Int32) (0 : Int32)) + f_tm f a (9 : Int32) (1 : Int32)) + f_tm f a (9 : Int32) (2 : Int32)) + f_tm f a (9 : Int32) (3 : Int32)) + f_tm f a (9 : Int32) (4 : Int32)) + f_tm f a (9 : Int32) (5 : Int32)) + f_tm f a (9 : Int32) (6 : Int32)) + f_tm f a (9 : Int32) (7 : Int32)) + f_tm f a (9 : Int32) (8 : Int32))).toInt = own_hv (fun i => (f (a.toInt.toNat + i)).toInt - 48) 9 := by
  have t0 := own_tm1 f a (9 : Int32) (0 : Int32) 0 100000000 (by decide) (by decide) ha (by decide) (n 0 (by decide)) (by decide) (by decide)
  have b0 := own_tb _ 100000000 ((own_dig _).mp (n 0 (by decide))) (by decide)
  have t1 := own_tm1 f a (9 : Int32) (1 : Int32) 1 10000000 (by decide) (by decide) ha (by decide) (n 1 (by decide)) (by decide) (by decide)
  have b1 := own_tb _ 10000000 ((own_dig _).mp (n 1 (by decide))) (by decide)
  have t2 := own_tm1 f a (9 : Int32) (2 : Int32) 2 1000000 (by decide) (by decide) ha (by decide) (n 2 (by decide)) (by decide) (by decide)
  have b2 := own_tb _ 1000000 ((own_dig _).mp (n 2 (by decide))) (by decide)
  have t3 := own_tm1 f a (9 : Int32) (3 : Int32) 3 100000 (by decide) (by decide) ha (by decide) (n 3 (by decide)) (by decide) (by decide)
  have b3 := own_tb _ 100000 ((own_dig _).mp (n 3 (by decide))) (by decide)
  have t4 := own_tm1 f a (9 : Int32) (4 : Int32) 4 10000 (by decide) (by decide) ha (by decide) (n 4 (by decide)) (by decide) (by decide)
  have b4 := own_tb _ 10000 ((own_dig _).mp (n 4 (by decide))) (by decide)
  have t5 := own_tm1 f a (9 : Int32) (5 : Int32) 5 1000 (by decide) (by decide) ha (by decide) (n 5 (by decide)) (by decide) (by decide)
  have b5 := own_tb _ 1000 ((own_dig _).mp (n 5 (by decide))) (by decide)
  have t6 := own_tm1 f a (9 : Int32) (6 : Int32) 6 100 (by decide) (by decide) ha (by decide) (n 6 (by decide)) (by decide) (by decide)
  have b6 := own_tb _ 100 ((own_dig _).mp (n 6 (by decide))) (by decide)
  have t7 := own_tm1 f a (9 : Int32) (7 : Int32) 7 10 (by decide) (by decide) ha (by decide) (n 7 (by decide)) (by decide) (by decide)
  have b7 := own_tb _ 10 ((own_dig _).mp (n 7 (by decide))) (by decide)
  have t8 := own_tm1 f a (9 : Int32) (8 : Int32) 8 1 (by decide) (by decide) ha (by decide) (n 8 (by decide)) (by decide) (by decide)
  have b8 := own_tb _ 1 ((own_dig _).mp (n 8 (by decide))) (by decide)
  have s0 := And.intro t0 b0
  have s1 := own_ad2 _ _ _ _ ((9 * 100000000)) ((9 * 10000000)) s0 t1 b1 (by decide)
  have s2 := own_ad2 _ _ _ _ ((9 * 100000000) + (9 * 10000000)) ((9 * 1000000)) s1 t2 b2 (by decide)
  have s3 := own_ad2 _ _ _ _ ((9 * 100000000) + (9 * 10000000) + (9 * 1000000)) ((9 * 100000)) s2 t3 b3 (by decide)
  have s4 := own_ad2 _ _ _ _ ((9 * 100000000) + (9 * 10000000) + (9 * 1000000) + (9 * 100000)) ((9 * 10000)) s3 t4 b4 (by decide)
  have s5 := own_ad2 _ _ _ _ ((9 * 100000000) + (9 * 10000000) + (9 * 1000000) + (9 * 100000) + (9 * 10000)) ((9 * 1000)) s4 t5 b5 (by decide)
  have s6 := own_ad2 _ _ _ _ ((9 * 100000000) + (9 * 10000000) + (9 * 1000000) + (9 * 100000) + (9 * 10000) + (9 * 1000)) ((9 * 100)) s5 t6 b6 (by decide)
  have s7 := own_ad2 _ _ _ _ ((9 * 100000000) + (9 * 10000000) + (9 * 1000000) + (9 * 100000) + (9 * 10000) + (9 * 1000) + (9 * 100)) ((9 * 10)) s6 t7 b7 (by decide)
  have s8 := own_ad2 _ _ _ _ ((9 * 100000000) + (9 * 10000000) + (9 * 1000000) + (9 * 100000) + (9 * 10000) + (9 * 1000) + (9 * 100) + (9 * 10)) ((9 * 1)) s7 t8 b8 (by decide)
  rw [s8.1]
  clear s0 s1 s2 s3 s4 s5 s6 s7 s8 t0 t1 t2 t3 t4 t5 t6 t7 t8 b0 b1 b2 b3 b4 b5 b6 b7 b8
  simp only [own_hv]
  generalize (f (a.toInt.toNat + 0)).toInt = e0
  generalize (f (a.toInt.toNat + 1)).toInt = e1
  generalize (f (a.toInt.toNat + 2)).toInt = e2
  generalize (f (a.toInt.toNat + 3)).toInt = e3
  generalize (f (a.toInt.toNat + 4)).toInt = e4
  generalize (f (a.toInt.toNat + 5)).toInt = e5
  generalize (f (a.toInt.toNat + 6)).toInt = e6
  generalize (f (a.toInt.toNat + 7)).toInt = e7
  generalize (f (a.toInt.toNat + 8)).toInt = e8
  clear n ha
  omega
theorem own_yes (f : Nat → Int32) (a c : Int32) (ha : 0 ≤ a.toInt ∧ a.toInt ≤ 7) (hc : 0 ≤ c.toInt ∧ c.toInt ≤ 9) (h0 : ¬ f_ok f a c (0 : Int32) = (0 : Int32)) (h1 : ¬ f_ok f a c (1 : Int32) = (0 : Int32)) (h2 : ¬ f_ok f a c (2 : Int32) = (0 : Int32)) (h3 : ¬ f_ok f a c (3 : Int32) = (0 : Int32)) (h4 : ¬ f_ok f a c (4 : Int32) = (0 : Int32)) (h5 : ¬ f_ok f a c (5 : Int32) = (0 : Int32)) (h6 : ¬ f_ok f a c (6 : Int32) = (0 : Int32)) (h7 : ¬ f_ok f a c (7 : Int32) = (0 : Int32)) (h8 : ¬ f_ok f a c (8 : Int32) = (0 : Int32)) : f_go f a.toInt.toNat c.toInt.toNat 0 (0 : Int32) = (((((((((f_tm f a c (0 : Int32)) + f_tm f a c (1 : Int32)) + f_tm f a c (2 : Int32)) + f_tm f a c (3 : Int32)) + f_tm f a c (4 : Int32)) + f_tm f a c (5 : Int32)) + f_tm f a c (6 : Int32)) + f_tm f a c (7 : Int32)) + f_tm f a c (8 : Int32)) := by
  have n : ∀ i : Nat, (i : Int) < c.toInt → ¬ f_dig (f (a.toInt.toNat + i)) = (0 : Int32) := fun i hi => by
    rcases (by omega : i = 0 ∨ i = 1 ∨ i = 2 ∨ i = 3 ∨ i = 4 ∨ i = 5 ∨ i = 6 ∨ i = 7 ∨ i = 8) with rfl | rfl | rfl | rfl | rfl | rfl | rfl | rfl | rfl
    · exact own_ok1 f a c 0 0 (by decide) (by decide) ha h0 (by omega)
    · exact own_ok1 f a c 1 1 (by decide) (by decide) ha h1 (by omega)
    · exact own_ok1 f a c 2 2 (by decide) (by decide) ha h2 (by omega)
    · exact own_ok1 f a c 3 3 (by decide) (by decide) ha h3 (by omega)
    · exact own_ok1 f a c 4 4 (by decide) (by decide) ha h4 (by omega)
    · exact own_ok1 f a c 5 5 (by decide) (by decide) ha h5 (by omega)
    · exact own_ok1 f a c 6 6 (by decide) (by decide) ha h6 (by omega)
    · exact own_ok1 f a c 7 7 (by decide) (by decide) ha h7 (by omega)
    · exact own_ok1 f a c 8 8 (by decide) (by decide) ha h8 (by omega)
  have g := own_good f a.toInt.toNat c.toInt.toNat (by omega) (fun i hi => n i (by omega)) c.toInt.toNat 0 (0 : Int32) (by omega) rfl
  apply Int32.toInt_inj.mp
  rw [g]
  clear g h0 h1 h2 h3 h4 h5 h6 h7 h8
  rcases (by omega : c.toInt = 0 ∨ c.toInt = 1 ∨ c.toInt = 2 ∨ c.toInt = 3 ∨ c.toInt = 4 ∨ c.toInt = 5 ∨ c.toInt = 6 ∨ c.toInt = 7 ∨ c.toInt = 8 ∨ c.toInt = 9) with q | q | q | q | q | q | q | q | q | q
  · have qc : c = (0 : Int32) := Int32.toInt_inj.mp (by rw [q]; decide)
    subst qc
    exact (own_sum0 f a ha (fun K hK => n K (by rw [q]; omega))).symm
  · have qc : c = (1 : Int32) := Int32.toInt_inj.mp (by rw [q]; decide)
    subst qc
    exact (own_sum1 f a ha (fun K hK => n K (by rw [q]; omega))).symm
  · have qc : c = (2 : Int32) := Int32.toInt_inj.mp (by rw [q]; decide)
    subst qc
    exact (own_sum2 f a ha (fun K hK => n K (by rw [q]; omega))).symm
  · have qc : c = (3 : Int32) := Int32.toInt_inj.mp (by rw [q]; decide)
    subst qc
    exact (own_sum3 f a ha (fun K hK => n K (by rw [q]; omega))).symm
  · have qc : c = (4 : Int32) := Int32.toInt_inj.mp (by rw [q]; decide)
    subst qc
    exact (own_sum4 f a ha (fun K hK => n K (by rw [q]; omega))).symm
  · have qc : c = (5 : Int32) := Int32.toInt_inj.mp (by rw [q]; decide)
    subst qc
    exact (own_sum5 f a ha (fun K hK => n K (by rw [q]; omega))).symm
  · have qc : c = (6 : Int32) := Int32.toInt_inj.mp (by rw [q]; decide)
    subst qc
    exact (own_sum6 f a ha (fun K hK => n K (by rw [q]; omega))).symm
  · have qc : c = (7 : Int32) := Int32.toInt_inj.mp (by rw [q]; decide)
    subst qc
    exact (own_sum7 f a ha (fun K hK => n K (by rw [q]; omega))).symm
  · have qc : c = (8 : Int32) := Int32.toInt_inj.mp (by rw [q]; decide)
    subst qc
    exact (own_sum8 f a ha (fun K hK => n K (by rw [q]; omega))).symm
  · have qc : c = (9 : Int32) := Int32.toInt_inj.mp (by rw [q]; decide)
    subst qc
    exact (own_sum9 f a ha (fun K hK => n K (by rw [q]; omega))).symm
theorem pd_2 : parseMethodDescriptor "(JJIZ)B" = some ⟨[.long, .long, .int, .boolean], some .byte⟩ := by decide +kernel
theorem pd_3 : parseMethodDescriptor "([BII)I" = some ⟨[(.array .byte), .int, .int], some .int⟩ := by decide +kernel
theorem pd_4 : parseMethodDescriptor "([BIII)Z" = some ⟨[(.array .byte), .int, .int, .int], some .boolean⟩ := by decide +kernel
theorem pd_5 : parseMethodDescriptor "([BIII)I" = some ⟨[(.array .byte), .int, .int, .int], some .int⟩ := by decide +kernel
theorem ef_0 (m : MethodId) (x0 : Int64) (x1 : Int64) (x2 : Int32) : entryFrame m #[(.long x0), (.long x1), (.int x2)] maxLocals = mkF m 0 #[.val (.long x0), .second, .val (.long x1), .second, .val (.int x2), .unset, .unset, .unset, .unset, .unset, .unset, .unset] [] := by first | (simp [entryFrame, mkF, argsToLocals, Value.category, maxLocals]; done) | rfl
set_option maxRecDepth 65536 in
set_option maxHeartbeats 40000000 in
theorem rm0 (l : Launch) (Z : State) (a0 : Array Value) (hw : ∀ d ∈ tables_1, d.before a0 Z = true) (ws : List Jvm.Cond) (x0 : Int64) (x1 : Int64) (x2 : Int32) (h0 : Heap) (n0 : Nat) (Z0 : n0 ≤ h0.size) :
    MetFree l x (head1 (Jvm.Cond.code x code maxLocals ret :: ws) room_1) (fun a U => a = #[(.long x0), (.long x1), (.int x2)] ∧ Z.Warmed39 U.vm ∧ U.heap = h0) (fun _ _ _ _ _ => True) (fun _ U o U' => ∃ v L, o = .returned v ∧ (own_Q0 n0) v U'.heap L ∧ FrameEnd U o U' L room_1.cells room_1.slots) := by
  refine own_body (own := "com/example/leaderline/leaderline/Iso2709DigitsPinLaw") pn_0 rfl (fun m => ef_0 m x0 x1 x2) ?_
  intro p e s m below meth c T0 hx hby hml hown hnm hlk hret hZ X0 e0
  have w_0 := hw _ (List.mem_of_getElem? (i := 0) rfl)
  have w_1 := hw _ (List.mem_of_getElem? (i := 1) rfl)
  have w_2 := hw _ (List.mem_of_getElem? (i := 2) rfl)
  have w_3 := hw _ (List.mem_of_getElem? (i := 3) rfl)
  have w_4 := hw _ (List.mem_of_getElem? (i := 4) rfl)
  have w_5 := hw _ (List.mem_of_getElem? (i := 5) rfl)
  have w_6 := hw _ (List.mem_of_getElem? (i := 6) rfl)
  have w_7 := hw _ (List.mem_of_getElem? (i := 7) rfl)
  have w_8 := hw _ (List.mem_of_getElem? (i := 8) rfl)
  have w_9 := hw _ (List.mem_of_getElem? (i := 9) rfl)
  have w_10 := hw _ (List.mem_of_getElem? (i := 10) rfl)
  have w_11 := hw _ (List.mem_of_getElem? (i := 11) rfl)
  have w_12 := hw _ (List.mem_of_getElem? (i := 12) rfl)
  have w_13 := hw _ (List.mem_of_getElem? (i := 13) rfl)
  have w_14 := hw _ (List.mem_of_getElem? (i := 14) rfl)
  have N0 := Fr.nil n0
  refine g_iload X0.here hx (Jvm.hb hby at_0) (pc' := 2) rfl rfl ?_
  refine g_bipush X0.here hx (Jvm.hb hby at_2) (pc' := 4) rfl (z := (7 : Int32)) rfl ?_
  refine g_iand X0.here hx (Jvm.hb hby at_4) (pc' := 5) rfl ?_
  refine g_istore X0.here hx (Jvm.hb hby at_5) (pc' := 7) rfl (L' := #[.val (.long x0), .second, .val (.long x1), .second, .val (.int x2), .val (.int (x2 &&& (7 : Int32))), .unset, .unset, .unset, .unset, .unset, .unset]) rfl ?_
  generalize hav : (x2 &&& (7 : Int32)) = av
  have ha : 0 ≤ av.toInt ∧ av.toInt ≤ 7 := by
    have e := c_mask x2 7 3 (by decide) (by decide)
    simp only [Nat.reducePow] at e
    rw [hav] at e
    omega
  refine g_iload X0.here hx (Jvm.hb hby at_7) (pc' := 9) rfl rfl ?_
  refine g_iconst X0.here hx (Jvm.hb hby at_9) (pc' := 10) rfl (z := (3 : Int32)) rfl ?_
  refine g_iushr X0.here hx (Jvm.hb hby at_10) (pc' := 11) rfl ?_
  refine g_bipush X0.here hx (Jvm.hb hby at_11) (pc' := 13) rfl (z := (15 : Int32)) rfl ?_
  refine g_iand X0.here hx (Jvm.hb hby at_13) (pc' := 14) rfl ?_
  refine g_bipush X0.here hx (Jvm.hb hby at_14) (pc' := 16) rfl (z := (10 : Int32)) rfl ?_
  refine g_irem X0 hx (Jvm.hb hby at_16) (pc' := 17) rfl (by decide) ?_
  refine g_istore X0.here hx (Jvm.hb hby at_17) (pc' := 19) rfl (L' := #[.val (.long x0), .second, .val (.long x1), .second, .val (.int x2), .val (.int av), .val (.int ((((x2.toUInt32 >>> ((3 : Int32) &&& 31).toUInt32).toInt32) &&& (15 : Int32)) % (10 : Int32))), .unset, .unset, .unset, .unset, .unset]) rfl ?_
  generalize hcv : ((((x2.toUInt32 >>> ((3 : Int32) &&& 31).toUInt32).toInt32) &&& (15 : Int32)) % (10 : Int32)) = cv
  have hc : 0 ≤ cv.toInt ∧ cv.toInt ≤ 9 := by
    have e := c_mask ((x2.toUInt32 >>> ((3 : Int32) &&& 31).toUInt32).toInt32) 15 4 (by decide) (by decide)
    have e2 := c_irem (((x2.toUInt32 >>> ((3 : Int32) &&& 31).toUInt32).toInt32) &&& 15) 10 10 (by decide)
    simp only [Nat.reducePow] at e
    rw [hcv] at e2
    omega
  have k36 : ∀ (b7 : Int32), own_Gl p e below s (own_Q0 n0) room_1.cells room_1.slots (T0.setTop (mkF m 36 #[.val (.long x0), .second, .val (.long x1), .second, .val (.int x2), .val (.int av), .val (.int cv), .val (.int b7), .unset, .unset, .unset, .unset] [])) := by
    intro b7
    refine g_bipush X0.here hx (Jvm.hb hby at_36) (pc' := 38) rfl (z := (16 : Int32)) rfl ?_
    refine g_newarr X0 hx hZ (ty := .byte) rfl rfl w_0 e0 (Jvm.hb hby at_38) (pc' := 40) rfl (n := 16) (by decide) 16 (by decide) (by decide) (cells' := 1) (slots' := 16) rfl rfl (by decide) (by decide) ?_
    intro T1 hh1 ad1 gb1 X1 e1 E1 V1
    have g_ad1 : n0 ≤ ad1 := by rw [gb1]; exact Z0
    have Z2 : n0 ≤ hh1.size := Nat.le_trans Z0 E1.1
    refine g_astore X1.here hx (Jvm.hb hby at_40) (pc' := 42) rfl rfl (L' := #[.val (.long x0), .second, .val (.long x1), .second, .val (.int x2), .val (.int av), .val (.int cv), .val (.int b7), .val (.ref ad1), .unset, .unset, .unset]) rfl ?_
    refine g_aload X1.here hx (Jvm.hb hby at_42) (pc' := 44) rfl rfl rfl ?_
    refine g_iconst X1.here hx (Jvm.hb hby at_44) (pc' := 45) rfl (z := (0 : Int32)) rfl ?_
    refine g_lloadN X1.here hx (Jvm.hb hby at_45) (pc' := 46) rfl rfl ?_
    refine g_lloadN X1.here hx (Jvm.hb hby at_46) (pc' := 47) rfl rfl ?_
    refine g_iconst X1.here hx (Jvm.hb hby at_47) (pc' := 48) rfl (z := (0 : Int32)) rfl ?_
    refine g_iload X1.here hx (Jvm.hb hby at_48) (pc' := 50) rfl rfl ?_
    refine g_callP X1 hx hZ hown w_1 w_2 w_3 w_4 (by decide) (rm1 l Z a0 hw [] x0 x1 (0 : Int32) b7 hh1) 2 (by decide) (by decide) e1 (by rw [hml]; rfl) [(.long x0), (.long x1), (.int (0 : Int32)), (.int b7)] [(.int (0 : Int32)), (.ref ad1)] (lenOf pd_2 rfl) rfl rfl (Nat.le_of_eq rfl) (Jvm.hb hby at_50) (pc' := 53) rfl (by decide) (by decide) ?_
    intro T3 X3 e3
    show own_Gl p e below s (own_Q0 n0) room_1.cells room_1.slots (T3.setTop (mkF m 53 #[.val (.long x0), .second, .val (.long x1), .second, .val (.int x2), .val (.int av), .val (.int cv), .val (.int b7), .val (.ref ad1), .unset, .unset, .unset] [(.int (f_pick x0 x1 (0 : Int32) b7)), (.int (0 : Int32)), (.ref ad1)]))
    refine g_bastore X3 hx hZ e3 V1 ⟨by decide, by decide⟩ (Jvm.hb hby at_53) (pc' := 54) rfl ?_
    intro T4 hh4 X4 e4 W4 V4
    have N4 := Fr.snoc X4 N0 g_ad1
    have Z5 : n0 ≤ hh4.size := (by rw [W4.size]; exact Z2)
    refine g_aload X4.here hx (Jvm.hb hby at_54) (pc' := 56) rfl rfl rfl ?_
    refine g_iconst X4.here hx (Jvm.hb hby at_56) (pc' := 57) rfl (z := (1 : Int32)) rfl ?_
    refine g_lloadN X4.here hx (Jvm.hb hby at_57) (pc' := 58) rfl rfl ?_
    refine g_lloadN X4.here hx (Jvm.hb hby at_58) (pc' := 59) rfl rfl ?_
    refine g_iconst X4.here hx (Jvm.hb hby at_59) (pc' := 60) rfl (z := (1 : Int32)) rfl ?_
    refine g_iload X4.here hx (Jvm.hb hby at_60) (pc' := 62) rfl rfl ?_
    refine g_callP X4 hx hZ hown w_1 w_2 w_3 w_4 (by decide) (rm1 l Z a0 hw [] x0 x1 (1 : Int32) b7 hh4) 2 (by decide) (by decide) e4 (by rw [hml]; rfl) [(.long x0), (.long x1), (.int (1 : Int32)), (.int b7)] [(.int (1 : Int32)), (.ref ad1)] (lenOf pd_2 rfl) rfl rfl (Nat.le_of_eq rfl) (Jvm.hb hby at_62) (pc' := 65) rfl (by decide) (by decide) ?_
    intro T6 X6 e6
    show own_Gl p e below s (own_Q0 n0) room_1.cells room_1.slots (T6.setTop (mkF m 65 #[.val (.long x0), .second, .val (.long x1), .second, .val (.int x2), .val (.int av), .val (.int cv), .val (.int b7), .val (.ref ad1), .unset, .unset, .unset] [(.int (f_pick x0 x1 (1 : Int32) b7)), (.int (1 : Int32)), (.ref ad1)]))
    refine g_bastore X6 hx hZ e6 V4 ⟨by decide, by decide⟩ (Jvm.hb hby at_65) (pc' := 66) rfl ?_
    intro T7 hh7 X7 e7 W7 V7
    have N7 := Fr.snoc X7 N4 g_ad1
    have Z8 : n0 ≤ hh7.size := (by rw [W7.size]; exact Z5)
    refine g_aload X7.here hx (Jvm.hb hby at_66) (pc' := 68) rfl rfl rfl ?_
    refine g_iconst X7.here hx (Jvm.hb hby at_68) (pc' := 69) rfl (z := (2 : Int32)) rfl ?_
    refine g_lloadN X7.here hx (Jvm.hb hby at_69) (pc' := 70) rfl rfl ?_
    refine g_lloadN X7.here hx (Jvm.hb hby at_70) (pc' := 71) rfl rfl ?_
    refine g_iconst X7.here hx (Jvm.hb hby at_71) (pc' := 72) rfl (z := (2 : Int32)) rfl ?_
    refine g_iload X7.here hx (Jvm.hb hby at_72) (pc' := 74) rfl rfl ?_
    refine g_callP X7 hx hZ hown w_1 w_2 w_3 w_4 (by decide) (rm1 l Z a0 hw [] x0 x1 (2 : Int32) b7 hh7) 2 (by decide) (by decide) e7 (by rw [hml]; rfl) [(.long x0), (.long x1), (.int (2 : Int32)), (.int b7)] [(.int (2 : Int32)), (.ref ad1)] (lenOf pd_2 rfl) rfl rfl (Nat.le_of_eq rfl) (Jvm.hb hby at_74) (pc' := 77) rfl (by decide) (by decide) ?_
    intro T9 X9 e9
    show own_Gl p e below s (own_Q0 n0) room_1.cells room_1.slots (T9.setTop (mkF m 77 #[.val (.long x0), .second, .val (.long x1), .second, .val (.int x2), .val (.int av), .val (.int cv), .val (.int b7), .val (.ref ad1), .unset, .unset, .unset] [(.int (f_pick x0 x1 (2 : Int32) b7)), (.int (2 : Int32)), (.ref ad1)]))
    refine g_bastore X9 hx hZ e9 V7 ⟨by decide, by decide⟩ (Jvm.hb hby at_77) (pc' := 78) rfl ?_
    intro T10 hh10 X10 e10 W10 V10
    have N10 := Fr.snoc X10 N7 g_ad1
    have Z11 : n0 ≤ hh10.size := (by rw [W10.size]; exact Z8)
    refine g_aload X10.here hx (Jvm.hb hby at_78) (pc' := 80) rfl rfl rfl ?_
    refine g_iconst X10.here hx (Jvm.hb hby at_80) (pc' := 81) rfl (z := (3 : Int32)) rfl ?_
    refine g_lloadN X10.here hx (Jvm.hb hby at_81) (pc' := 82) rfl rfl ?_
    refine g_lloadN X10.here hx (Jvm.hb hby at_82) (pc' := 83) rfl rfl ?_
    refine g_iconst X10.here hx (Jvm.hb hby at_83) (pc' := 84) rfl (z := (3 : Int32)) rfl ?_
    refine g_iload X10.here hx (Jvm.hb hby at_84) (pc' := 86) rfl rfl ?_
    refine g_callP X10 hx hZ hown w_1 w_2 w_3 w_4 (by decide) (rm1 l Z a0 hw [] x0 x1 (3 : Int32) b7 hh10) 2 (by decide) (by decide) e10 (by rw [hml]; rfl) [(.long x0), (.long x1), (.int (3 : Int32)), (.int b7)] [(.int (3 : Int32)), (.ref ad1)] (lenOf pd_2 rfl) rfl rfl (Nat.le_of_eq rfl) (Jvm.hb hby at_86) (pc' := 89) rfl (by decide) (by decide) ?_
    intro T12 X12 e12
    show own_Gl p e below s (own_Q0 n0) room_1.cells room_1.slots (T12.setTop (mkF m 89 #[.val (.long x0), .second, .val (.long x1), .second, .val (.int x2), .val (.int av), .val (.int cv), .val (.int b7), .val (.ref ad1), .unset, .unset, .unset] [(.int (f_pick x0 x1 (3 : Int32) b7)), (.int (3 : Int32)), (.ref ad1)]))
    refine g_bastore X12 hx hZ e12 V10 ⟨by decide, by decide⟩ (Jvm.hb hby at_89) (pc' := 90) rfl ?_
    intro T13 hh13 X13 e13 W13 V13
    have N13 := Fr.snoc X13 N10 g_ad1
    have Z14 : n0 ≤ hh13.size := (by rw [W13.size]; exact Z11)
    refine g_aload X13.here hx (Jvm.hb hby at_90) (pc' := 92) rfl rfl rfl ?_
    refine g_iconst X13.here hx (Jvm.hb hby at_92) (pc' := 93) rfl (z := (4 : Int32)) rfl ?_
    refine g_lloadN X13.here hx (Jvm.hb hby at_93) (pc' := 94) rfl rfl ?_
    refine g_lloadN X13.here hx (Jvm.hb hby at_94) (pc' := 95) rfl rfl ?_
    refine g_iconst X13.here hx (Jvm.hb hby at_95) (pc' := 96) rfl (z := (4 : Int32)) rfl ?_
    refine g_iload X13.here hx (Jvm.hb hby at_96) (pc' := 98) rfl rfl ?_
    refine g_callP X13 hx hZ hown w_1 w_2 w_3 w_4 (by decide) (rm1 l Z a0 hw [] x0 x1 (4 : Int32) b7 hh13) 2 (by decide) (by decide) e13 (by rw [hml]; rfl) [(.long x0), (.long x1), (.int (4 : Int32)), (.int b7)] [(.int (4 : Int32)), (.ref ad1)] (lenOf pd_2 rfl) rfl rfl (Nat.le_of_eq rfl) (Jvm.hb hby at_98) (pc' := 101) rfl (by decide) (by decide) ?_
    intro T15 X15 e15
    show own_Gl p e below s (own_Q0 n0) room_1.cells room_1.slots (T15.setTop (mkF m 101 #[.val (.long x0), .second, .val (.long x1), .second, .val (.int x2), .val (.int av), .val (.int cv), .val (.int b7), .val (.ref ad1), .unset, .unset, .unset] [(.int (f_pick x0 x1 (4 : Int32) b7)), (.int (4 : Int32)), (.ref ad1)]))
    refine g_bastore X15 hx hZ e15 V13 ⟨by decide, by decide⟩ (Jvm.hb hby at_101) (pc' := 102) rfl ?_
    intro T16 hh16 X16 e16 W16 V16
    have N16 := Fr.snoc X16 N13 g_ad1
    have Z17 : n0 ≤ hh16.size := (by rw [W16.size]; exact Z14)
    refine g_aload X16.here hx (Jvm.hb hby at_102) (pc' := 104) rfl rfl rfl ?_
    refine g_iconst X16.here hx (Jvm.hb hby at_104) (pc' := 105) rfl (z := (5 : Int32)) rfl ?_
    refine g_lloadN X16.here hx (Jvm.hb hby at_105) (pc' := 106) rfl rfl ?_
    refine g_lloadN X16.here hx (Jvm.hb hby at_106) (pc' := 107) rfl rfl ?_
    refine g_iconst X16.here hx (Jvm.hb hby at_107) (pc' := 108) rfl (z := (5 : Int32)) rfl ?_
    refine g_iload X16.here hx (Jvm.hb hby at_108) (pc' := 110) rfl rfl ?_
    refine g_callP X16 hx hZ hown w_1 w_2 w_3 w_4 (by decide) (rm1 l Z a0 hw [] x0 x1 (5 : Int32) b7 hh16) 2 (by decide) (by decide) e16 (by rw [hml]; rfl) [(.long x0), (.long x1), (.int (5 : Int32)), (.int b7)] [(.int (5 : Int32)), (.ref ad1)] (lenOf pd_2 rfl) rfl rfl (Nat.le_of_eq rfl) (Jvm.hb hby at_110) (pc' := 113) rfl (by decide) (by decide) ?_
    intro T18 X18 e18
    show own_Gl p e below s (own_Q0 n0) room_1.cells room_1.slots (T18.setTop (mkF m 113 #[.val (.long x0), .second, .val (.long x1), .second, .val (.int x2), .val (.int av), .val (.int cv), .val (.int b7), .val (.ref ad1), .unset, .unset, .unset] [(.int (f_pick x0 x1 (5 : Int32) b7)), (.int (5 : Int32)), (.ref ad1)]))
    refine g_bastore X18 hx hZ e18 V16 ⟨by decide, by decide⟩ (Jvm.hb hby at_113) (pc' := 114) rfl ?_
    intro T19 hh19 X19 e19 W19 V19
    have N19 := Fr.snoc X19 N16 g_ad1
    have Z20 : n0 ≤ hh19.size := (by rw [W19.size]; exact Z17)
    refine g_aload X19.here hx (Jvm.hb hby at_114) (pc' := 116) rfl rfl rfl ?_
    refine g_bipush X19.here hx (Jvm.hb hby at_116) (pc' := 118) rfl (z := (6 : Int32)) rfl ?_
    refine g_lloadN X19.here hx (Jvm.hb hby at_118) (pc' := 119) rfl rfl ?_
    refine g_lloadN X19.here hx (Jvm.hb hby at_119) (pc' := 120) rfl rfl ?_
    refine g_bipush X19.here hx (Jvm.hb hby at_120) (pc' := 122) rfl (z := (6 : Int32)) rfl ?_
    refine g_iload X19.here hx (Jvm.hb hby at_122) (pc' := 124) rfl rfl ?_
    refine g_callP X19 hx hZ hown w_1 w_2 w_3 w_4 (by decide) (rm1 l Z a0 hw [] x0 x1 (6 : Int32) b7 hh19) 2 (by decide) (by decide) e19 (by rw [hml]; rfl) [(.long x0), (.long x1), (.int (6 : Int32)), (.int b7)] [(.int (6 : Int32)), (.ref ad1)] (lenOf pd_2 rfl) rfl rfl (Nat.le_of_eq rfl) (Jvm.hb hby at_124) (pc' := 127) rfl (by decide) (by decide) ?_
    intro T21 X21 e21
    show own_Gl p e below s (own_Q0 n0) room_1.cells room_1.slots (T21.setTop (mkF m 127 #[.val (.long x0), .second, .val (.long x1), .second, .val (.int x2), .val (.int av), .val (.int cv), .val (.int b7), .val (.ref ad1), .unset, .unset, .unset] [(.int (f_pick x0 x1 (6 : Int32) b7)), (.int (6 : Int32)), (.ref ad1)]))
    refine g_bastore X21 hx hZ e21 V19 ⟨by decide, by decide⟩ (Jvm.hb hby at_127) (pc' := 128) rfl ?_
    intro T22 hh22 X22 e22 W22 V22
    have N22 := Fr.snoc X22 N19 g_ad1
    have Z23 : n0 ≤ hh22.size := (by rw [W22.size]; exact Z20)
    refine g_aload X22.here hx (Jvm.hb hby at_128) (pc' := 130) rfl rfl rfl ?_
    refine g_bipush X22.here hx (Jvm.hb hby at_130) (pc' := 132) rfl (z := (7 : Int32)) rfl ?_
    refine g_lloadN X22.here hx (Jvm.hb hby at_132) (pc' := 133) rfl rfl ?_
    refine g_lloadN X22.here hx (Jvm.hb hby at_133) (pc' := 134) rfl rfl ?_
    refine g_bipush X22.here hx (Jvm.hb hby at_134) (pc' := 136) rfl (z := (7 : Int32)) rfl ?_
    refine g_iload X22.here hx (Jvm.hb hby at_136) (pc' := 138) rfl rfl ?_
    refine g_callP X22 hx hZ hown w_1 w_2 w_3 w_4 (by decide) (rm1 l Z a0 hw [] x0 x1 (7 : Int32) b7 hh22) 2 (by decide) (by decide) e22 (by rw [hml]; rfl) [(.long x0), (.long x1), (.int (7 : Int32)), (.int b7)] [(.int (7 : Int32)), (.ref ad1)] (lenOf pd_2 rfl) rfl rfl (Nat.le_of_eq rfl) (Jvm.hb hby at_138) (pc' := 141) rfl (by decide) (by decide) ?_
    intro T24 X24 e24
    show own_Gl p e below s (own_Q0 n0) room_1.cells room_1.slots (T24.setTop (mkF m 141 #[.val (.long x0), .second, .val (.long x1), .second, .val (.int x2), .val (.int av), .val (.int cv), .val (.int b7), .val (.ref ad1), .unset, .unset, .unset] [(.int (f_pick x0 x1 (7 : Int32) b7)), (.int (7 : Int32)), (.ref ad1)]))
    refine g_bastore X24 hx hZ e24 V22 ⟨by decide, by decide⟩ (Jvm.hb hby at_141) (pc' := 142) rfl ?_
    intro T25 hh25 X25 e25 W25 V25
    have N25 := Fr.snoc X25 N22 g_ad1
    have Z26 : n0 ≤ hh25.size := (by rw [W25.size]; exact Z23)
    refine g_aload X25.here hx (Jvm.hb hby at_142) (pc' := 144) rfl rfl rfl ?_
    refine g_bipush X25.here hx (Jvm.hb hby at_144) (pc' := 146) rfl (z := (8 : Int32)) rfl ?_
    refine g_lloadN X25.here hx (Jvm.hb hby at_146) (pc' := 147) rfl rfl ?_
    refine g_lloadN X25.here hx (Jvm.hb hby at_147) (pc' := 148) rfl rfl ?_
    refine g_bipush X25.here hx (Jvm.hb hby at_148) (pc' := 150) rfl (z := (8 : Int32)) rfl ?_
    refine g_iload X25.here hx (Jvm.hb hby at_150) (pc' := 152) rfl rfl ?_
    refine g_callP X25 hx hZ hown w_1 w_2 w_3 w_4 (by decide) (rm1 l Z a0 hw [] x0 x1 (8 : Int32) b7 hh25) 2 (by decide) (by decide) e25 (by rw [hml]; rfl) [(.long x0), (.long x1), (.int (8 : Int32)), (.int b7)] [(.int (8 : Int32)), (.ref ad1)] (lenOf pd_2 rfl) rfl rfl (Nat.le_of_eq rfl) (Jvm.hb hby at_152) (pc' := 155) rfl (by decide) (by decide) ?_
    intro T27 X27 e27
    show own_Gl p e below s (own_Q0 n0) room_1.cells room_1.slots (T27.setTop (mkF m 155 #[.val (.long x0), .second, .val (.long x1), .second, .val (.int x2), .val (.int av), .val (.int cv), .val (.int b7), .val (.ref ad1), .unset, .unset, .unset] [(.int (f_pick x0 x1 (8 : Int32) b7)), (.int (8 : Int32)), (.ref ad1)]))
    refine g_bastore X27 hx hZ e27 V25 ⟨by decide, by decide⟩ (Jvm.hb hby at_155) (pc' := 156) rfl ?_
    intro T28 hh28 X28 e28 W28 V28
    have N28 := Fr.snoc X28 N25 g_ad1
    have Z29 : n0 ≤ hh28.size := (by rw [W28.size]; exact Z26)
    refine g_aload X28.here hx (Jvm.hb hby at_156) (pc' := 158) rfl rfl rfl ?_
    refine g_bipush X28.here hx (Jvm.hb hby at_158) (pc' := 160) rfl (z := (9 : Int32)) rfl ?_
    refine g_lloadN X28.here hx (Jvm.hb hby at_160) (pc' := 161) rfl rfl ?_
    refine g_lloadN X28.here hx (Jvm.hb hby at_161) (pc' := 162) rfl rfl ?_
    refine g_bipush X28.here hx (Jvm.hb hby at_162) (pc' := 164) rfl (z := (9 : Int32)) rfl ?_
    refine g_iload X28.here hx (Jvm.hb hby at_164) (pc' := 166) rfl rfl ?_
    refine g_callP X28 hx hZ hown w_1 w_2 w_3 w_4 (by decide) (rm1 l Z a0 hw [] x0 x1 (9 : Int32) b7 hh28) 2 (by decide) (by decide) e28 (by rw [hml]; rfl) [(.long x0), (.long x1), (.int (9 : Int32)), (.int b7)] [(.int (9 : Int32)), (.ref ad1)] (lenOf pd_2 rfl) rfl rfl (Nat.le_of_eq rfl) (Jvm.hb hby at_166) (pc' := 169) rfl (by decide) (by decide) ?_
    intro T30 X30 e30
    show own_Gl p e below s (own_Q0 n0) room_1.cells room_1.slots (T30.setTop (mkF m 169 #[.val (.long x0), .second, .val (.long x1), .second, .val (.int x2), .val (.int av), .val (.int cv), .val (.int b7), .val (.ref ad1), .unset, .unset, .unset] [(.int (f_pick x0 x1 (9 : Int32) b7)), (.int (9 : Int32)), (.ref ad1)]))
    refine g_bastore X30 hx hZ e30 V28 ⟨by decide, by decide⟩ (Jvm.hb hby at_169) (pc' := 170) rfl ?_
    intro T31 hh31 X31 e31 W31 V31
    have N31 := Fr.snoc X31 N28 g_ad1
    have Z32 : n0 ≤ hh31.size := (by rw [W31.size]; exact Z29)
    refine g_aload X31.here hx (Jvm.hb hby at_170) (pc' := 172) rfl rfl rfl ?_
    refine g_bipush X31.here hx (Jvm.hb hby at_172) (pc' := 174) rfl (z := (10 : Int32)) rfl ?_
    refine g_lloadN X31.here hx (Jvm.hb hby at_174) (pc' := 175) rfl rfl ?_
    refine g_lloadN X31.here hx (Jvm.hb hby at_175) (pc' := 176) rfl rfl ?_
    refine g_bipush X31.here hx (Jvm.hb hby at_176) (pc' := 178) rfl (z := (10 : Int32)) rfl ?_
    refine g_iload X31.here hx (Jvm.hb hby at_178) (pc' := 180) rfl rfl ?_
    refine g_callP X31 hx hZ hown w_1 w_2 w_3 w_4 (by decide) (rm1 l Z a0 hw [] x0 x1 (10 : Int32) b7 hh31) 2 (by decide) (by decide) e31 (by rw [hml]; rfl) [(.long x0), (.long x1), (.int (10 : Int32)), (.int b7)] [(.int (10 : Int32)), (.ref ad1)] (lenOf pd_2 rfl) rfl rfl (Nat.le_of_eq rfl) (Jvm.hb hby at_180) (pc' := 183) rfl (by decide) (by decide) ?_
    intro T33 X33 e33
    show own_Gl p e below s (own_Q0 n0) room_1.cells room_1.slots (T33.setTop (mkF m 183 #[.val (.long x0), .second, .val (.long x1), .second, .val (.int x2), .val (.int av), .val (.int cv), .val (.int b7), .val (.ref ad1), .unset, .unset, .unset] [(.int (f_pick x0 x1 (10 : Int32) b7)), (.int (10 : Int32)), (.ref ad1)]))
    refine g_bastore X33 hx hZ e33 V31 ⟨by decide, by decide⟩ (Jvm.hb hby at_183) (pc' := 184) rfl ?_
    intro T34 hh34 X34 e34 W34 V34
    have N34 := Fr.snoc X34 N31 g_ad1
    have Z35 : n0 ≤ hh34.size := (by rw [W34.size]; exact Z32)
    refine g_aload X34.here hx (Jvm.hb hby at_184) (pc' := 186) rfl rfl rfl ?_
    refine g_bipush X34.here hx (Jvm.hb hby at_186) (pc' := 188) rfl (z := (11 : Int32)) rfl ?_
    refine g_lloadN X34.here hx (Jvm.hb hby at_188) (pc' := 189) rfl rfl ?_
    refine g_lloadN X34.here hx (Jvm.hb hby at_189) (pc' := 190) rfl rfl ?_
    refine g_bipush X34.here hx (Jvm.hb hby at_190) (pc' := 192) rfl (z := (11 : Int32)) rfl ?_
    refine g_iload X34.here hx (Jvm.hb hby at_192) (pc' := 194) rfl rfl ?_
    refine g_callP X34 hx hZ hown w_1 w_2 w_3 w_4 (by decide) (rm1 l Z a0 hw [] x0 x1 (11 : Int32) b7 hh34) 2 (by decide) (by decide) e34 (by rw [hml]; rfl) [(.long x0), (.long x1), (.int (11 : Int32)), (.int b7)] [(.int (11 : Int32)), (.ref ad1)] (lenOf pd_2 rfl) rfl rfl (Nat.le_of_eq rfl) (Jvm.hb hby at_194) (pc' := 197) rfl (by decide) (by decide) ?_
    intro T36 X36 e36
    show own_Gl p e below s (own_Q0 n0) room_1.cells room_1.slots (T36.setTop (mkF m 197 #[.val (.long x0), .second, .val (.long x1), .second, .val (.int x2), .val (.int av), .val (.int cv), .val (.int b7), .val (.ref ad1), .unset, .unset, .unset] [(.int (f_pick x0 x1 (11 : Int32) b7)), (.int (11 : Int32)), (.ref ad1)]))
    refine g_bastore X36 hx hZ e36 V34 ⟨by decide, by decide⟩ (Jvm.hb hby at_197) (pc' := 198) rfl ?_
    intro T37 hh37 X37 e37 W37 V37
    have N37 := Fr.snoc X37 N34 g_ad1
    have Z38 : n0 ≤ hh37.size := (by rw [W37.size]; exact Z35)
    refine g_aload X37.here hx (Jvm.hb hby at_198) (pc' := 200) rfl rfl rfl ?_
    refine g_bipush X37.here hx (Jvm.hb hby at_200) (pc' := 202) rfl (z := (12 : Int32)) rfl ?_
    refine g_lloadN X37.here hx (Jvm.hb hby at_202) (pc' := 203) rfl rfl ?_
    refine g_lloadN X37.here hx (Jvm.hb hby at_203) (pc' := 204) rfl rfl ?_
    refine g_bipush X37.here hx (Jvm.hb hby at_204) (pc' := 206) rfl (z := (12 : Int32)) rfl ?_
    refine g_iload X37.here hx (Jvm.hb hby at_206) (pc' := 208) rfl rfl ?_
    refine g_callP X37 hx hZ hown w_1 w_2 w_3 w_4 (by decide) (rm1 l Z a0 hw [] x0 x1 (12 : Int32) b7 hh37) 2 (by decide) (by decide) e37 (by rw [hml]; rfl) [(.long x0), (.long x1), (.int (12 : Int32)), (.int b7)] [(.int (12 : Int32)), (.ref ad1)] (lenOf pd_2 rfl) rfl rfl (Nat.le_of_eq rfl) (Jvm.hb hby at_208) (pc' := 211) rfl (by decide) (by decide) ?_
    intro T39 X39 e39
    show own_Gl p e below s (own_Q0 n0) room_1.cells room_1.slots (T39.setTop (mkF m 211 #[.val (.long x0), .second, .val (.long x1), .second, .val (.int x2), .val (.int av), .val (.int cv), .val (.int b7), .val (.ref ad1), .unset, .unset, .unset] [(.int (f_pick x0 x1 (12 : Int32) b7)), (.int (12 : Int32)), (.ref ad1)]))
    refine g_bastore X39 hx hZ e39 V37 ⟨by decide, by decide⟩ (Jvm.hb hby at_211) (pc' := 212) rfl ?_
    intro T40 hh40 X40 e40 W40 V40
    have N40 := Fr.snoc X40 N37 g_ad1
    have Z41 : n0 ≤ hh40.size := (by rw [W40.size]; exact Z38)
    refine g_aload X40.here hx (Jvm.hb hby at_212) (pc' := 214) rfl rfl rfl ?_
    refine g_bipush X40.here hx (Jvm.hb hby at_214) (pc' := 216) rfl (z := (13 : Int32)) rfl ?_
    refine g_lloadN X40.here hx (Jvm.hb hby at_216) (pc' := 217) rfl rfl ?_
    refine g_lloadN X40.here hx (Jvm.hb hby at_217) (pc' := 218) rfl rfl ?_
    refine g_bipush X40.here hx (Jvm.hb hby at_218) (pc' := 220) rfl (z := (13 : Int32)) rfl ?_
    refine g_iload X40.here hx (Jvm.hb hby at_220) (pc' := 222) rfl rfl ?_
    refine g_callP X40 hx hZ hown w_1 w_2 w_3 w_4 (by decide) (rm1 l Z a0 hw [] x0 x1 (13 : Int32) b7 hh40) 2 (by decide) (by decide) e40 (by rw [hml]; rfl) [(.long x0), (.long x1), (.int (13 : Int32)), (.int b7)] [(.int (13 : Int32)), (.ref ad1)] (lenOf pd_2 rfl) rfl rfl (Nat.le_of_eq rfl) (Jvm.hb hby at_222) (pc' := 225) rfl (by decide) (by decide) ?_
    intro T42 X42 e42
    show own_Gl p e below s (own_Q0 n0) room_1.cells room_1.slots (T42.setTop (mkF m 225 #[.val (.long x0), .second, .val (.long x1), .second, .val (.int x2), .val (.int av), .val (.int cv), .val (.int b7), .val (.ref ad1), .unset, .unset, .unset] [(.int (f_pick x0 x1 (13 : Int32) b7)), (.int (13 : Int32)), (.ref ad1)]))
    refine g_bastore X42 hx hZ e42 V40 ⟨by decide, by decide⟩ (Jvm.hb hby at_225) (pc' := 226) rfl ?_
    intro T43 hh43 X43 e43 W43 V43
    have N43 := Fr.snoc X43 N40 g_ad1
    have Z44 : n0 ≤ hh43.size := (by rw [W43.size]; exact Z41)
    refine g_aload X43.here hx (Jvm.hb hby at_226) (pc' := 228) rfl rfl rfl ?_
    refine g_bipush X43.here hx (Jvm.hb hby at_228) (pc' := 230) rfl (z := (14 : Int32)) rfl ?_
    refine g_lloadN X43.here hx (Jvm.hb hby at_230) (pc' := 231) rfl rfl ?_
    refine g_lloadN X43.here hx (Jvm.hb hby at_231) (pc' := 232) rfl rfl ?_
    refine g_bipush X43.here hx (Jvm.hb hby at_232) (pc' := 234) rfl (z := (14 : Int32)) rfl ?_
    refine g_iload X43.here hx (Jvm.hb hby at_234) (pc' := 236) rfl rfl ?_
    refine g_callP X43 hx hZ hown w_1 w_2 w_3 w_4 (by decide) (rm1 l Z a0 hw [] x0 x1 (14 : Int32) b7 hh43) 2 (by decide) (by decide) e43 (by rw [hml]; rfl) [(.long x0), (.long x1), (.int (14 : Int32)), (.int b7)] [(.int (14 : Int32)), (.ref ad1)] (lenOf pd_2 rfl) rfl rfl (Nat.le_of_eq rfl) (Jvm.hb hby at_236) (pc' := 239) rfl (by decide) (by decide) ?_
    intro T45 X45 e45
    show own_Gl p e below s (own_Q0 n0) room_1.cells room_1.slots (T45.setTop (mkF m 239 #[.val (.long x0), .second, .val (.long x1), .second, .val (.int x2), .val (.int av), .val (.int cv), .val (.int b7), .val (.ref ad1), .unset, .unset, .unset] [(.int (f_pick x0 x1 (14 : Int32) b7)), (.int (14 : Int32)), (.ref ad1)]))
    refine g_bastore X45 hx hZ e45 V43 ⟨by decide, by decide⟩ (Jvm.hb hby at_239) (pc' := 240) rfl ?_
    intro T46 hh46 X46 e46 W46 V46
    have N46 := Fr.snoc X46 N43 g_ad1
    have Z47 : n0 ≤ hh46.size := (by rw [W46.size]; exact Z44)
    refine g_aload X46.here hx (Jvm.hb hby at_240) (pc' := 242) rfl rfl rfl ?_
    refine g_bipush X46.here hx (Jvm.hb hby at_242) (pc' := 244) rfl (z := (15 : Int32)) rfl ?_
    refine g_lloadN X46.here hx (Jvm.hb hby at_244) (pc' := 245) rfl rfl ?_
    refine g_lloadN X46.here hx (Jvm.hb hby at_245) (pc' := 246) rfl rfl ?_
    refine g_bipush X46.here hx (Jvm.hb hby at_246) (pc' := 248) rfl (z := (15 : Int32)) rfl ?_
    refine g_iload X46.here hx (Jvm.hb hby at_248) (pc' := 250) rfl rfl ?_
    refine g_callP X46 hx hZ hown w_1 w_2 w_3 w_4 (by decide) (rm1 l Z a0 hw [] x0 x1 (15 : Int32) b7 hh46) 2 (by decide) (by decide) e46 (by rw [hml]; rfl) [(.long x0), (.long x1), (.int (15 : Int32)), (.int b7)] [(.int (15 : Int32)), (.ref ad1)] (lenOf pd_2 rfl) rfl rfl (Nat.le_of_eq rfl) (Jvm.hb hby at_250) (pc' := 253) rfl (by decide) (by decide) ?_
    intro T48 X48 e48
    show own_Gl p e below s (own_Q0 n0) room_1.cells room_1.slots (T48.setTop (mkF m 253 #[.val (.long x0), .second, .val (.long x1), .second, .val (.int x2), .val (.int av), .val (.int cv), .val (.int b7), .val (.ref ad1), .unset, .unset, .unset] [(.int (f_pick x0 x1 (15 : Int32) b7)), (.int (15 : Int32)), (.ref ad1)]))
    refine g_bastore X48 hx hZ e48 V46 ⟨by decide, by decide⟩ (Jvm.hb hby at_253) (pc' := 254) rfl ?_
    intro T49 hh49 X49 e49 W49 V49
    have N49 := Fr.snoc X49 N46 g_ad1
    have Z50 : n0 ≤ hh49.size := (by rw [W49.size]; exact Z47)
    obtain ⟨f, VV⟩ : ∃ f, own_IA Z hh49 ad1 .byte 16 f := ⟨_, V49⟩
    refine g_aload X49.here hx (Jvm.hb hby at_254) (pc' := 256) rfl rfl rfl ?_
    refine g_iload X49.here hx (Jvm.hb hby at_256) (pc' := 258) rfl rfl ?_
    refine g_iload X49.here hx (Jvm.hb hby at_258) (pc' := 260) rfl rfl ?_
    refine g_callP X49 hx hZ hown w_5 w_6 w_7 w_8 (by decide) (rm2 l Z a0 hw [] ad1 av cv 16 f hh49 VV ha.1 hc.1 (by omega) (by decide)) 0 (by decide) (by decide) e49 (by rw [hml]; rfl) [(.ref ad1), (.int av), (.int cv)] [] (lenOf pd_3 rfl) rfl rfl (Nat.le_of_eq rfl) (Jvm.hb hby at_260) (pc' := 263) rfl (by decide) (by decide) ?_
    intro T51 X51 e51
    show own_Gl p e below s (own_Q0 n0) room_1.cells room_1.slots (T51.setTop (mkF m 263 #[.val (.long x0), .second, .val (.long x1), .second, .val (.int x2), .val (.int av), .val (.int cv), .val (.int b7), .val (.ref ad1), .unset, .unset, .unset] [(.int (f_go f av.toInt.toNat cv.toInt.toNat 0 (0 : Int32)))]))
    refine g_istore X51.here hx (Jvm.hb hby at_263) (pc' := 265) rfl (L' := #[.val (.long x0), .second, .val (.long x1), .second, .val (.int x2), .val (.int av), .val (.int cv), .val (.int b7), .val (.ref ad1), .val (.int (f_go f av.toInt.toNat cv.toInt.toNat 0 (0 : Int32))), .unset, .unset]) rfl ?_
    refine g_aload X51.here hx (Jvm.hb hby at_265) (pc' := 267) rfl rfl rfl ?_
    refine g_iload X51.here hx (Jvm.hb hby at_267) (pc' := 269) rfl rfl ?_
    refine g_iload X51.here hx (Jvm.hb hby at_269) (pc' := 271) rfl rfl ?_
    refine g_iconst X51.here hx (Jvm.hb hby at_271) (pc' := 272) rfl (z := (0 : Int32)) rfl ?_
    have hin : ∀ (k : Int32) (K : Nat), k.toInt = K → K ≤ 8 → 0 ≤ (av + k).toInt ∧ (av + k).toInt < 16 := fun k K h1 h2 => by have := (own_ix av k K h1 h2 ha).1; omega
    obtain ⟨lc52, Nlc52, Xlc52⟩ := own_nameL X51 N49
    have k389 : ∀ (Tk53 : State), ∀ (Xk53 : Stand p l e room_1 s m #[(.long x0), (.long x1), (.int x2)] below meth c Tk53 lc52 1 16), ∀ (ek53 : Tk53.heap = hh49), ∀ (hm : (f_go f av.toInt.toNat cv.toInt.toNat 0 (0 : Int32)) = (-1 : Int32)), own_Gl p e below s (own_Q0 n0) room_1.cells room_1.slots (Tk53.setTop (mkF m 389 #[.val (.long x0), .second, .val (.long x1), .second, .val (.int x2), .val (.int av), .val (.int cv), .val (.int b7), .val (.ref ad1), .val (.int (f_go f av.toInt.toNat cv.toInt.toNat 0 (0 : Int32))), .unset, .unset] [])) := by
      intro Tk53 Xk53 ek53 hm
      refine g_iconst Xk53.here hx (Jvm.hb hby at_389) (pc' := 390) rfl (z := (0 : Int32)) rfl ?_
      refine g_istore Xk53.here hx (Jvm.hb hby at_390) (pc' := 392) rfl (L' := #[.val (.long x0), .second, .val (.long x1), .second, .val (.int x2), .val (.int av), .val (.int cv), .val (.int b7), .val (.ref ad1), .val (.int (f_go f av.toInt.toNat cv.toInt.toNat 0 (0 : Int32))), .val (.int (0 : Int32)), .unset]) rfl ?_
      refine g_iconst Xk53.here hx (Jvm.hb hby at_392) (pc' := 393) rfl (z := (-1 : Int32)) rfl ?_
      refine g_istore Xk53.here hx (Jvm.hb hby at_393) (pc' := 395) rfl (L' := #[.val (.long x0), .second, .val (.long x1), .second, .val (.int x2), .val (.int av), .val (.int cv), .val (.int b7), .val (.ref ad1), .val (.int (f_go f av.toInt.toNat cv.toInt.toNat 0 (0 : Int32))), .val (.int (0 : Int32)), .val (.int (-1 : Int32))]) rfl ?_
      refine g_iload Xk53.here hx (Jvm.hb hby at_395) (pc' := 397) rfl rfl ?_
      refine g_ifY Xk53.here hx (Jvm.hb hby at_397) (by decide) (pc' := 503) (by decide) ((if0 _ _).trans (teq (by decide)).1) ?_
      refine g_iload Xk53.here hx (Jvm.hb hby at_503) (pc' := 505) rfl rfl ?_
      refine g_iload Xk53.here hx (Jvm.hb hby at_505) (pc' := 507) rfl rfl ?_
      refine g_icN Xk53.here hx (Jvm.hb hby at_507) (pc' := 510) rfl (teq hm).2 ?_
      refine g_iconst Xk53.here hx (Jvm.hb hby at_510) (pc' := 511) rfl (z := (1 : Int32)) rfl ?_
      refine g_goto Xk53.here hx (Jvm.hb hby at_511) (by decide) (pc' := 515) (by decide) ?_
      exact g_retN Xk53 hx hlk (t := .boolean) hret (by simp) (z' := (1 : Int32)) rfl (Jvm.hb hby at_515) (by decide) (by decide) ⟨rfl, Nlc52⟩
    refine g_callP Xlc52 hx hZ hown w_9 w_10 w_3 w_11 (by decide) (rm3 l Z a0 hw [] ad1 av cv (0 : Int32) 16 f hh49 VV (hin _ 0 (by decide) (by decide))) 0 (by decide) (by decide) e51 (by rw [hml]; rfl) [(.ref ad1), (.int av), (.int cv), (.int (0 : Int32))] [] (lenOf pd_4 rfl) rfl rfl (Nat.le_of_eq rfl) (Jvm.hb hby at_272) (pc' := 275) rfl (by decide) (by decide) ?_
    intro T54 X54 e54
    show own_Gl p e below s (own_Q0 n0) room_1.cells room_1.slots (T54.setTop (mkF m 275 #[.val (.long x0), .second, .val (.long x1), .second, .val (.int x2), .val (.int av), .val (.int cv), .val (.int b7), .val (.ref ad1), .val (.int (f_go f av.toInt.toNat cv.toInt.toNat 0 (0 : Int32))), .unset, .unset] [(.int (f_ok f av cv (0 : Int32)))]))
    by_cases hc275 : (f_ok f av cv (0 : Int32)) = (0 : Int32)
    · refine g_ifY X54.here hx (Jvm.hb hby at_275) (by decide) (pc' := 389) (by decide) ((if0 _ _).trans (teq hc275).1) ?_
      exact k389 T54 X54 e54 (own_no f av cv (0 : Int32) 0 (by decide) (by decide) ha hc275)
    · refine g_ifN X54.here hx (Jvm.hb hby at_275) (pc' := 278) rfl ((if0 _ _).trans (feq hc275).1) ?_
      refine g_aload X54.here hx (Jvm.hb hby at_278) (pc' := 280) rfl rfl rfl ?_
      refine g_iload X54.here hx (Jvm.hb hby at_280) (pc' := 282) rfl rfl ?_
      refine g_iload X54.here hx (Jvm.hb hby at_282) (pc' := 284) rfl rfl ?_
      refine g_iconst X54.here hx (Jvm.hb hby at_284) (pc' := 285) rfl (z := (1 : Int32)) rfl ?_
      refine g_callP X54 hx hZ hown w_9 w_10 w_3 w_11 (by decide) (rm3 l Z a0 hw [] ad1 av cv (1 : Int32) 16 f hh49 VV (hin _ 1 (by decide) (by decide))) 0 (by decide) (by decide) e54 (by rw [hml]; rfl) [(.ref ad1), (.int av), (.int cv), (.int (1 : Int32))] [] (lenOf pd_4 rfl) rfl rfl (Nat.le_of_eq rfl) (Jvm.hb hby at_285) (pc' := 288) rfl (by decide) (by decide) ?_
      intro T55 X55 e55
      show own_Gl p e below s (own_Q0 n0) room_1.cells room_1.slots (T55.setTop (mkF m 288 #[.val (.long x0), .second, .val (.long x1), .second, .val (.int x2), .val (.int av), .val (.int cv), .val (.int b7), .val (.ref ad1), .val (.int (f_go f av.toInt.toNat cv.toInt.toNat 0 (0 : Int32))), .unset, .unset] [(.int (f_ok f av cv (1 : Int32)))]))
      by_cases hc288 : (f_ok f av cv (1 : Int32)) = (0 : Int32)
      · refine g_ifY X55.here hx (Jvm.hb hby at_288) (by decide) (pc' := 389) (by decide) ((if0 _ _).trans (teq hc288).1) ?_
        exact k389 T55 X55 e55 (own_no f av cv (1 : Int32) 1 (by decide) (by decide) ha hc288)
      · refine g_ifN X55.here hx (Jvm.hb hby at_288) (pc' := 291) rfl ((if0 _ _).trans (feq hc288).1) ?_
        refine g_aload X55.here hx (Jvm.hb hby at_291) (pc' := 293) rfl rfl rfl ?_
        refine g_iload X55.here hx (Jvm.hb hby at_293) (pc' := 295) rfl rfl ?_
        refine g_iload X55.here hx (Jvm.hb hby at_295) (pc' := 297) rfl rfl ?_
        refine g_iconst X55.here hx (Jvm.hb hby at_297) (pc' := 298) rfl (z := (2 : Int32)) rfl ?_
        refine g_callP X55 hx hZ hown w_9 w_10 w_3 w_11 (by decide) (rm3 l Z a0 hw [] ad1 av cv (2 : Int32) 16 f hh49 VV (hin _ 2 (by decide) (by decide))) 0 (by decide) (by decide) e55 (by rw [hml]; rfl) [(.ref ad1), (.int av), (.int cv), (.int (2 : Int32))] [] (lenOf pd_4 rfl) rfl rfl (Nat.le_of_eq rfl) (Jvm.hb hby at_298) (pc' := 301) rfl (by decide) (by decide) ?_
        intro T56 X56 e56
        show own_Gl p e below s (own_Q0 n0) room_1.cells room_1.slots (T56.setTop (mkF m 301 #[.val (.long x0), .second, .val (.long x1), .second, .val (.int x2), .val (.int av), .val (.int cv), .val (.int b7), .val (.ref ad1), .val (.int (f_go f av.toInt.toNat cv.toInt.toNat 0 (0 : Int32))), .unset, .unset] [(.int (f_ok f av cv (2 : Int32)))]))
        by_cases hc301 : (f_ok f av cv (2 : Int32)) = (0 : Int32)
        · refine g_ifY X56.here hx (Jvm.hb hby at_301) (by decide) (pc' := 389) (by decide) ((if0 _ _).trans (teq hc301).1) ?_
          exact k389 T56 X56 e56 (own_no f av cv (2 : Int32) 2 (by decide) (by decide) ha hc301)
        · refine g_ifN X56.here hx (Jvm.hb hby at_301) (pc' := 304) rfl ((if0 _ _).trans (feq hc301).1) ?_
          refine g_aload X56.here hx (Jvm.hb hby at_304) (pc' := 306) rfl rfl rfl ?_
          refine g_iload X56.here hx (Jvm.hb hby at_306) (pc' := 308) rfl rfl ?_
          refine g_iload X56.here hx (Jvm.hb hby at_308) (pc' := 310) rfl rfl ?_
          refine g_iconst X56.here hx (Jvm.hb hby at_310) (pc' := 311) rfl (z := (3 : Int32)) rfl ?_
          refine g_callP X56 hx hZ hown w_9 w_10 w_3 w_11 (by decide) (rm3 l Z a0 hw [] ad1 av cv (3 : Int32) 16 f hh49 VV (hin _ 3 (by decide) (by decide))) 0 (by decide) (by decide) e56 (by rw [hml]; rfl) [(.ref ad1), (.int av), (.int cv), (.int (3 : Int32))] [] (lenOf pd_4 rfl) rfl rfl (Nat.le_of_eq rfl) (Jvm.hb hby at_311) (pc' := 314) rfl (by decide) (by decide) ?_
          intro T57 X57 e57
          show own_Gl p e below s (own_Q0 n0) room_1.cells room_1.slots (T57.setTop (mkF m 314 #[.val (.long x0), .second, .val (.long x1), .second, .val (.int x2), .val (.int av), .val (.int cv), .val (.int b7), .val (.ref ad1), .val (.int (f_go f av.toInt.toNat cv.toInt.toNat 0 (0 : Int32))), .unset, .unset] [(.int (f_ok f av cv (3 : Int32)))]))
          by_cases hc314 : (f_ok f av cv (3 : Int32)) = (0 : Int32)
          · refine g_ifY X57.here hx (Jvm.hb hby at_314) (by decide) (pc' := 389) (by decide) ((if0 _ _).trans (teq hc314).1) ?_
            exact k389 T57 X57 e57 (own_no f av cv (3 : Int32) 3 (by decide) (by decide) ha hc314)
          · refine g_ifN X57.here hx (Jvm.hb hby at_314) (pc' := 317) rfl ((if0 _ _).trans (feq hc314).1) ?_
            refine g_aload X57.here hx (Jvm.hb hby at_317) (pc' := 319) rfl rfl rfl ?_
            refine g_iload X57.here hx (Jvm.hb hby at_319) (pc' := 321) rfl rfl ?_
            refine g_iload X57.here hx (Jvm.hb hby at_321) (pc' := 323) rfl rfl ?_
            refine g_iconst X57.here hx (Jvm.hb hby at_323) (pc' := 324) rfl (z := (4 : Int32)) rfl ?_
            refine g_callP X57 hx hZ hown w_9 w_10 w_3 w_11 (by decide) (rm3 l Z a0 hw [] ad1 av cv (4 : Int32) 16 f hh49 VV (hin _ 4 (by decide) (by decide))) 0 (by decide) (by decide) e57 (by rw [hml]; rfl) [(.ref ad1), (.int av), (.int cv), (.int (4 : Int32))] [] (lenOf pd_4 rfl) rfl rfl (Nat.le_of_eq rfl) (Jvm.hb hby at_324) (pc' := 327) rfl (by decide) (by decide) ?_
            intro T58 X58 e58
            show own_Gl p e below s (own_Q0 n0) room_1.cells room_1.slots (T58.setTop (mkF m 327 #[.val (.long x0), .second, .val (.long x1), .second, .val (.int x2), .val (.int av), .val (.int cv), .val (.int b7), .val (.ref ad1), .val (.int (f_go f av.toInt.toNat cv.toInt.toNat 0 (0 : Int32))), .unset, .unset] [(.int (f_ok f av cv (4 : Int32)))]))
            by_cases hc327 : (f_ok f av cv (4 : Int32)) = (0 : Int32)
            · refine g_ifY X58.here hx (Jvm.hb hby at_327) (by decide) (pc' := 389) (by decide) ((if0 _ _).trans (teq hc327).1) ?_
              exact k389 T58 X58 e58 (own_no f av cv (4 : Int32) 4 (by decide) (by decide) ha hc327)
            · refine g_ifN X58.here hx (Jvm.hb hby at_327) (pc' := 330) rfl ((if0 _ _).trans (feq hc327).1) ?_
              refine g_aload X58.here hx (Jvm.hb hby at_330) (pc' := 332) rfl rfl rfl ?_
              refine g_iload X58.here hx (Jvm.hb hby at_332) (pc' := 334) rfl rfl ?_
              refine g_iload X58.here hx (Jvm.hb hby at_334) (pc' := 336) rfl rfl ?_
              refine g_iconst X58.here hx (Jvm.hb hby at_336) (pc' := 337) rfl (z := (5 : Int32)) rfl ?_
              refine g_callP X58 hx hZ hown w_9 w_10 w_3 w_11 (by decide) (rm3 l Z a0 hw [] ad1 av cv (5 : Int32) 16 f hh49 VV (hin _ 5 (by decide) (by decide))) 0 (by decide) (by decide) e58 (by rw [hml]; rfl) [(.ref ad1), (.int av), (.int cv), (.int (5 : Int32))] [] (lenOf pd_4 rfl) rfl rfl (Nat.le_of_eq rfl) (Jvm.hb hby at_337) (pc' := 340) rfl (by decide) (by decide) ?_
              intro T59 X59 e59
              show own_Gl p e below s (own_Q0 n0) room_1.cells room_1.slots (T59.setTop (mkF m 340 #[.val (.long x0), .second, .val (.long x1), .second, .val (.int x2), .val (.int av), .val (.int cv), .val (.int b7), .val (.ref ad1), .val (.int (f_go f av.toInt.toNat cv.toInt.toNat 0 (0 : Int32))), .unset, .unset] [(.int (f_ok f av cv (5 : Int32)))]))
              by_cases hc340 : (f_ok f av cv (5 : Int32)) = (0 : Int32)
              · refine g_ifY X59.here hx (Jvm.hb hby at_340) (by decide) (pc' := 389) (by decide) ((if0 _ _).trans (teq hc340).1) ?_
                exact k389 T59 X59 e59 (own_no f av cv (5 : Int32) 5 (by decide) (by decide) ha hc340)
              · refine g_ifN X59.here hx (Jvm.hb hby at_340) (pc' := 343) rfl ((if0 _ _).trans (feq hc340).1) ?_
                refine g_aload X59.here hx (Jvm.hb hby at_343) (pc' := 345) rfl rfl rfl ?_
                refine g_iload X59.here hx (Jvm.hb hby at_345) (pc' := 347) rfl rfl ?_
                refine g_iload X59.here hx (Jvm.hb hby at_347) (pc' := 349) rfl rfl ?_
                refine g_bipush X59.here hx (Jvm.hb hby at_349) (pc' := 351) rfl (z := (6 : Int32)) rfl ?_
                refine g_callP X59 hx hZ hown w_9 w_10 w_3 w_11 (by decide) (rm3 l Z a0 hw [] ad1 av cv (6 : Int32) 16 f hh49 VV (hin _ 6 (by decide) (by decide))) 0 (by decide) (by decide) e59 (by rw [hml]; rfl) [(.ref ad1), (.int av), (.int cv), (.int (6 : Int32))] [] (lenOf pd_4 rfl) rfl rfl (Nat.le_of_eq rfl) (Jvm.hb hby at_351) (pc' := 354) rfl (by decide) (by decide) ?_
                intro T60 X60 e60
                show own_Gl p e below s (own_Q0 n0) room_1.cells room_1.slots (T60.setTop (mkF m 354 #[.val (.long x0), .second, .val (.long x1), .second, .val (.int x2), .val (.int av), .val (.int cv), .val (.int b7), .val (.ref ad1), .val (.int (f_go f av.toInt.toNat cv.toInt.toNat 0 (0 : Int32))), .unset, .unset] [(.int (f_ok f av cv (6 : Int32)))]))
                by_cases hc354 : (f_ok f av cv (6 : Int32)) = (0 : Int32)
                · refine g_ifY X60.here hx (Jvm.hb hby at_354) (by decide) (pc' := 389) (by decide) ((if0 _ _).trans (teq hc354).1) ?_
                  exact k389 T60 X60 e60 (own_no f av cv (6 : Int32) 6 (by decide) (by decide) ha hc354)
                · refine g_ifN X60.here hx (Jvm.hb hby at_354) (pc' := 357) rfl ((if0 _ _).trans (feq hc354).1) ?_
                  refine g_aload X60.here hx (Jvm.hb hby at_357) (pc' := 359) rfl rfl rfl ?_
                  refine g_iload X60.here hx (Jvm.hb hby at_359) (pc' := 361) rfl rfl ?_
                  refine g_iload X60.here hx (Jvm.hb hby at_361) (pc' := 363) rfl rfl ?_
                  refine g_bipush X60.here hx (Jvm.hb hby at_363) (pc' := 365) rfl (z := (7 : Int32)) rfl ?_
                  refine g_callP X60 hx hZ hown w_9 w_10 w_3 w_11 (by decide) (rm3 l Z a0 hw [] ad1 av cv (7 : Int32) 16 f hh49 VV (hin _ 7 (by decide) (by decide))) 0 (by decide) (by decide) e60 (by rw [hml]; rfl) [(.ref ad1), (.int av), (.int cv), (.int (7 : Int32))] [] (lenOf pd_4 rfl) rfl rfl (Nat.le_of_eq rfl) (Jvm.hb hby at_365) (pc' := 368) rfl (by decide) (by decide) ?_
                  intro T61 X61 e61
                  show own_Gl p e below s (own_Q0 n0) room_1.cells room_1.slots (T61.setTop (mkF m 368 #[.val (.long x0), .second, .val (.long x1), .second, .val (.int x2), .val (.int av), .val (.int cv), .val (.int b7), .val (.ref ad1), .val (.int (f_go f av.toInt.toNat cv.toInt.toNat 0 (0 : Int32))), .unset, .unset] [(.int (f_ok f av cv (7 : Int32)))]))
                  by_cases hc368 : (f_ok f av cv (7 : Int32)) = (0 : Int32)
                  · refine g_ifY X61.here hx (Jvm.hb hby at_368) (by decide) (pc' := 389) (by decide) ((if0 _ _).trans (teq hc368).1) ?_
                    exact k389 T61 X61 e61 (own_no f av cv (7 : Int32) 7 (by decide) (by decide) ha hc368)
                  · refine g_ifN X61.here hx (Jvm.hb hby at_368) (pc' := 371) rfl ((if0 _ _).trans (feq hc368).1) ?_
                    refine g_aload X61.here hx (Jvm.hb hby at_371) (pc' := 373) rfl rfl rfl ?_
                    refine g_iload X61.here hx (Jvm.hb hby at_373) (pc' := 375) rfl rfl ?_
                    refine g_iload X61.here hx (Jvm.hb hby at_375) (pc' := 377) rfl rfl ?_
                    refine g_bipush X61.here hx (Jvm.hb hby at_377) (pc' := 379) rfl (z := (8 : Int32)) rfl ?_
                    refine g_callP X61 hx hZ hown w_9 w_10 w_3 w_11 (by decide) (rm3 l Z a0 hw [] ad1 av cv (8 : Int32) 16 f hh49 VV (hin _ 8 (by decide) (by decide))) 0 (by decide) (by decide) e61 (by rw [hml]; rfl) [(.ref ad1), (.int av), (.int cv), (.int (8 : Int32))] [] (lenOf pd_4 rfl) rfl rfl (Nat.le_of_eq rfl) (Jvm.hb hby at_379) (pc' := 382) rfl (by decide) (by decide) ?_
                    intro T62 X62 e62
                    show own_Gl p e below s (own_Q0 n0) room_1.cells room_1.slots (T62.setTop (mkF m 382 #[.val (.long x0), .second, .val (.long x1), .second, .val (.int x2), .val (.int av), .val (.int cv), .val (.int b7), .val (.ref ad1), .val (.int (f_go f av.toInt.toNat cv.toInt.toNat 0 (0 : Int32))), .unset, .unset] [(.int (f_ok f av cv (8 : Int32)))]))
                    by_cases hc382 : (f_ok f av cv (8 : Int32)) = (0 : Int32)
                    · refine g_ifY X62.here hx (Jvm.hb hby at_382) (by decide) (pc' := 389) (by decide) ((if0 _ _).trans (teq hc382).1) ?_
                      exact k389 T62 X62 e62 (own_no f av cv (8 : Int32) 8 (by decide) (by decide) ha hc382)
                    · refine g_ifN X62.here hx (Jvm.hb hby at_382) (pc' := 385) rfl ((if0 _ _).trans (feq hc382).1) ?_
                      refine g_iconst X62.here hx (Jvm.hb hby at_385) (pc' := 386) rfl (z := (1 : Int32)) rfl ?_
                      refine g_goto X62.here hx (Jvm.hb hby at_386) (by decide) (pc' := 390) (by decide) ?_
                      refine g_istore X62.here hx (Jvm.hb hby at_390) (pc' := 392) rfl (L' := #[.val (.long x0), .second, .val (.long x1), .second, .val (.int x2), .val (.int av), .val (.int cv), .val (.int b7), .val (.ref ad1), .val (.int (f_go f av.toInt.toNat cv.toInt.toNat 0 (0 : Int32))), .val (.int (1 : Int32)), .unset]) rfl ?_
                      refine g_iconst X62.here hx (Jvm.hb hby at_392) (pc' := 393) rfl (z := (-1 : Int32)) rfl ?_
                      refine g_istore X62.here hx (Jvm.hb hby at_393) (pc' := 395) rfl (L' := #[.val (.long x0), .second, .val (.long x1), .second, .val (.int x2), .val (.int av), .val (.int cv), .val (.int b7), .val (.ref ad1), .val (.int (f_go f av.toInt.toNat cv.toInt.toNat 0 (0 : Int32))), .val (.int (1 : Int32)), .val (.int (-1 : Int32))]) rfl ?_
                      refine g_iload X62.here hx (Jvm.hb hby at_395) (pc' := 397) rfl rfl ?_
                      refine g_ifN X62.here hx (Jvm.hb hby at_397) (pc' := 400) rfl ((if0 _ _).trans (feq (by decide)).1) ?_
                      refine g_aload X62.here hx (Jvm.hb hby at_400) (pc' := 402) rfl rfl rfl ?_
                      refine g_iload X62.here hx (Jvm.hb hby at_402) (pc' := 404) rfl rfl ?_
                      refine g_iload X62.here hx (Jvm.hb hby at_404) (pc' := 406) rfl rfl ?_
                      refine g_iconst X62.here hx (Jvm.hb hby at_406) (pc' := 407) rfl (z := (0 : Int32)) rfl ?_
                      refine g_callP X62 hx hZ hown w_12 w_13 w_3 w_14 (by decide) (rm4 l Z a0 hw [] ad1 av cv (0 : Int32) 16 f hh49 VV (hin _ 0 (by decide) (by decide))) 0 (by decide) (by decide) e62 (by rw [hml]; rfl) [(.ref ad1), (.int av), (.int cv), (.int (0 : Int32))] [] (lenOf pd_5 rfl) rfl rfl (Nat.le_of_eq rfl) (Jvm.hb hby at_407) (pc' := 410) rfl (by decide) (by decide) ?_
                      intro T63 X63 e63
                      show own_Gl p e below s (own_Q0 n0) room_1.cells room_1.slots (T63.setTop (mkF m 410 #[.val (.long x0), .second, .val (.long x1), .second, .val (.int x2), .val (.int av), .val (.int cv), .val (.int b7), .val (.ref ad1), .val (.int (f_go f av.toInt.toNat cv.toInt.toNat 0 (0 : Int32))), .val (.int (1 : Int32)), .val (.int (-1 : Int32))] [(.int (f_tm f av cv (0 : Int32)))]))
                      refine g_aload X63.here hx (Jvm.hb hby at_410) (pc' := 412) rfl rfl rfl ?_
                      refine g_iload X63.here hx (Jvm.hb hby at_412) (pc' := 414) rfl rfl ?_
                      refine g_iload X63.here hx (Jvm.hb hby at_414) (pc' := 416) rfl rfl ?_
                      refine g_iconst X63.here hx (Jvm.hb hby at_416) (pc' := 417) rfl (z := (1 : Int32)) rfl ?_
                      refine g_callP X63 hx hZ hown w_12 w_13 w_3 w_14 (by decide) (rm4 l Z a0 hw [] ad1 av cv (1 : Int32) 16 f hh49 VV (hin _ 1 (by decide) (by decide))) 1 (by decide) (by decide) e63 (by rw [hml]; rfl) [(.ref ad1), (.int av), (.int cv), (.int (1 : Int32))] [(.int (f_tm f av cv (0 : Int32)))] (lenOf pd_5 rfl) rfl rfl (Nat.le_of_eq rfl) (Jvm.hb hby at_417) (pc' := 420) rfl (by decide) (by decide) ?_
                      intro T64 X64 e64
                      show own_Gl p e below s (own_Q0 n0) room_1.cells room_1.slots (T64.setTop (mkF m 420 #[.val (.long x0), .second, .val (.long x1), .second, .val (.int x2), .val (.int av), .val (.int cv), .val (.int b7), .val (.ref ad1), .val (.int (f_go f av.toInt.toNat cv.toInt.toNat 0 (0 : Int32))), .val (.int (1 : Int32)), .val (.int (-1 : Int32))] [(.int (f_tm f av cv (1 : Int32))), (.int (f_tm f av cv (0 : Int32)))]))
                      refine g_iadd X64.here hx (Jvm.hb hby at_420) (pc' := 421) rfl ?_
                      refine g_aload X64.here hx (Jvm.hb hby at_421) (pc' := 423) rfl rfl rfl ?_
                      refine g_iload X64.here hx (Jvm.hb hby at_423) (pc' := 425) rfl rfl ?_
                      refine g_iload X64.here hx (Jvm.hb hby at_425) (pc' := 427) rfl rfl ?_
                      refine g_iconst X64.here hx (Jvm.hb hby at_427) (pc' := 428) rfl (z := (2 : Int32)) rfl ?_
                      refine g_callP X64 hx hZ hown w_12 w_13 w_3 w_14 (by decide) (rm4 l Z a0 hw [] ad1 av cv (2 : Int32) 16 f hh49 VV (hin _ 2 (by decide) (by decide))) 1 (by decide) (by decide) e64 (by rw [hml]; rfl) [(.ref ad1), (.int av), (.int cv), (.int (2 : Int32))] [(.int ((f_tm f av cv (0 : Int32)) + (f_tm f av cv (1 : Int32))))] (lenOf pd_5 rfl) rfl rfl (Nat.le_of_eq rfl) (Jvm.hb hby at_428) (pc' := 431) rfl (by decide) (by decide) ?_
                      intro T65 X65 e65
                      show own_Gl p e below s (own_Q0 n0) room_1.cells room_1.slots (T65.setTop (mkF m 431 #[.val (.long x0), .second, .val (.long x1), .second, .val (.int x2), .val (.int av), .val (.int cv), .val (.int b7), .val (.ref ad1), .val (.int (f_go f av.toInt.toNat cv.toInt.toNat 0 (0 : Int32))), .val (.int (1 : Int32)), .val (.int (-1 : Int32))] [(.int (f_tm f av cv (2 : Int32))), (.int ((f_tm f av cv (0 : Int32)) + (f_tm f av cv (1 : Int32))))]))
                      refine g_iadd X65.here hx (Jvm.hb hby at_431) (pc' := 432) rfl ?_
                      refine g_aload X65.here hx (Jvm.hb hby at_432) (pc' := 434) rfl rfl rfl ?_
                      refine g_iload X65.here hx (Jvm.hb hby at_434) (pc' := 436) rfl rfl ?_
                      refine g_iload X65.here hx (Jvm.hb hby at_436) (pc' := 438) rfl rfl ?_
                      refine g_iconst X65.here hx (Jvm.hb hby at_438) (pc' := 439) rfl (z := (3 : Int32)) rfl ?_
                      refine g_callP X65 hx hZ hown w_12 w_13 w_3 w_14 (by decide) (rm4 l Z a0 hw [] ad1 av cv (3 : Int32) 16 f hh49 VV (hin _ 3 (by decide) (by decide))) 1 (by decide) (by decide) e65 (by rw [hml]; rfl) [(.ref ad1), (.int av), (.int cv), (.int (3 : Int32))] [(.int (((f_tm f av cv (0 : Int32)) + (f_tm f av cv (1 : Int32))) + (f_tm f av cv (2 : Int32))))] (lenOf pd_5 rfl) rfl rfl (Nat.le_of_eq rfl) (Jvm.hb hby at_439) (pc' := 442) rfl (by decide) (by decide) ?_
                      intro T66 X66 e66
                      show own_Gl p e below s (own_Q0 n0) room_1.cells room_1.slots (T66.setTop (mkF m 442 #[.val (.long x0), .second, .val (.long x1), .second, .val (.int x2), .val (.int av), .val (.int cv), .val (.int b7), .val (.ref ad1), .val (.int (f_go f av.toInt.toNat cv.toInt.toNat 0 (0 : Int32))), .val (.int (1 : Int32)), .val (.int (-1 : Int32))] [(.int (f_tm f av cv (3 : Int32))), (.int (((f_tm f av cv (0 : Int32)) + (f_tm f av cv (1 : Int32))) + (f_tm f av cv (2 : Int32))))]))
                      refine g_iadd X66.here hx (Jvm.hb hby at_442) (pc' := 443) rfl ?_
                      refine g_aload X66.here hx (Jvm.hb hby at_443) (pc' := 445) rfl rfl rfl ?_
                      refine g_iload X66.here hx (Jvm.hb hby at_445) (pc' := 447) rfl rfl ?_
                      refine g_iload X66.here hx (Jvm.hb hby at_447) (pc' := 449) rfl rfl ?_
                      refine g_iconst X66.here hx (Jvm.hb hby at_449) (pc' := 450) rfl (z := (4 : Int32)) rfl ?_
                      refine g_callP X66 hx hZ hown w_12 w_13 w_3 w_14 (by decide) (rm4 l Z a0 hw [] ad1 av cv (4 : Int32) 16 f hh49 VV (hin _ 4 (by decide) (by decide))) 1 (by decide) (by decide) e66 (by rw [hml]; rfl) [(.ref ad1), (.int av), (.int cv), (.int (4 : Int32))] [(.int ((((f_tm f av cv (0 : Int32)) + (f_tm f av cv (1 : Int32))) + (f_tm f av cv (2 : Int32))) + (f_tm f av cv (3 : Int32))))] (lenOf pd_5 rfl) rfl rfl (Nat.le_of_eq rfl) (Jvm.hb hby at_450) (pc' := 453) rfl (by decide) (by decide) ?_
                      intro T67 X67 e67
                      show own_Gl p e below s (own_Q0 n0) room_1.cells room_1.slots (T67.setTop (mkF m 453 #[.val (.long x0), .second, .val (.long x1), .second, .val (.int x2), .val (.int av), .val (.int cv), .val (.int b7), .val (.ref ad1), .val (.int (f_go f av.toInt.toNat cv.toInt.toNat 0 (0 : Int32))), .val (.int (1 : Int32)), .val (.int (-1 : Int32))] [(.int (f_tm f av cv (4 : Int32))), (.int ((((f_tm f av cv (0 : Int32)) + (f_tm f av cv (1 : Int32))) + (f_tm f av cv (2 : Int32))) + (f_tm f av cv (3 : Int32))))]))
                      refine g_iadd X67.here hx (Jvm.hb hby at_453) (pc' := 454) rfl ?_
                      refine g_aload X67.here hx (Jvm.hb hby at_454) (pc' := 456) rfl rfl rfl ?_
                      refine g_iload X67.here hx (Jvm.hb hby at_456) (pc' := 458) rfl rfl ?_
                      refine g_iload X67.here hx (Jvm.hb hby at_458) (pc' := 460) rfl rfl ?_
                      refine g_iconst X67.here hx (Jvm.hb hby at_460) (pc' := 461) rfl (z := (5 : Int32)) rfl ?_
                      refine g_callP X67 hx hZ hown w_12 w_13 w_3 w_14 (by decide) (rm4 l Z a0 hw [] ad1 av cv (5 : Int32) 16 f hh49 VV (hin _ 5 (by decide) (by decide))) 1 (by decide) (by decide) e67 (by rw [hml]; rfl) [(.ref ad1), (.int av), (.int cv), (.int (5 : Int32))] [(.int (((((f_tm f av cv (0 : Int32)) + (f_tm f av cv (1 : Int32))) + (f_tm f av cv (2 : Int32))) + (f_tm f av cv (3 : Int32))) + (f_tm f av cv (4 : Int32))))] (lenOf pd_5 rfl) rfl rfl (Nat.le_of_eq rfl) (Jvm.hb hby at_461) (pc' := 464) rfl (by decide) (by decide) ?_
                      intro T68 X68 e68
                      show own_Gl p e below s (own_Q0 n0) room_1.cells room_1.slots (T68.setTop (mkF m 464 #[.val (.long x0), .second, .val (.long x1), .second, .val (.int x2), .val (.int av), .val (.int cv), .val (.int b7), .val (.ref ad1), .val (.int (f_go f av.toInt.toNat cv.toInt.toNat 0 (0 : Int32))), .val (.int (1 : Int32)), .val (.int (-1 : Int32))] [(.int (f_tm f av cv (5 : Int32))), (.int (((((f_tm f av cv (0 : Int32)) + (f_tm f av cv (1 : Int32))) + (f_tm f av cv (2 : Int32))) + (f_tm f av cv (3 : Int32))) + (f_tm f av cv (4 : Int32))))]))
                      refine g_iadd X68.here hx (Jvm.hb hby at_464) (pc' := 465) rfl ?_
                      refine g_aload X68.here hx (Jvm.hb hby at_465) (pc' := 467) rfl rfl rfl ?_
                      refine g_iload X68.here hx (Jvm.hb hby at_467) (pc' := 469) rfl rfl ?_
                      refine g_iload X68.here hx (Jvm.hb hby at_469) (pc' := 471) rfl rfl ?_
                      refine g_bipush X68.here hx (Jvm.hb hby at_471) (pc' := 473) rfl (z := (6 : Int32)) rfl ?_
                      refine g_callP X68 hx hZ hown w_12 w_13 w_3 w_14 (by decide) (rm4 l Z a0 hw [] ad1 av cv (6 : Int32) 16 f hh49 VV (hin _ 6 (by decide) (by decide))) 1 (by decide) (by decide) e68 (by rw [hml]; rfl) [(.ref ad1), (.int av), (.int cv), (.int (6 : Int32))] [(.int ((((((f_tm f av cv (0 : Int32)) + (f_tm f av cv (1 : Int32))) + (f_tm f av cv (2 : Int32))) + (f_tm f av cv (3 : Int32))) + (f_tm f av cv (4 : Int32))) + (f_tm f av cv (5 : Int32))))] (lenOf pd_5 rfl) rfl rfl (Nat.le_of_eq rfl) (Jvm.hb hby at_473) (pc' := 476) rfl (by decide) (by decide) ?_
                      intro T69 X69 e69
                      show own_Gl p e below s (own_Q0 n0) room_1.cells room_1.slots (T69.setTop (mkF m 476 #[.val (.long x0), .second, .val (.long x1), .second, .val (.int x2), .val (.int av), .val (.int cv), .val (.int b7), .val (.ref ad1), .val (.int (f_go f av.toInt.toNat cv.toInt.toNat 0 (0 : Int32))), .val (.int (1 : Int32)), .val (.int (-1 : Int32))] [(.int (f_tm f av cv (6 : Int32))), (.int ((((((f_tm f av cv (0 : Int32)) + (f_tm f av cv (1 : Int32))) + (f_tm f av cv (2 : Int32))) + (f_tm f av cv (3 : Int32))) + (f_tm f av cv (4 : Int32))) + (f_tm f av cv (5 : Int32))))]))
                      refine g_iadd X69.here hx (Jvm.hb hby at_476) (pc' := 477) rfl ?_
                      refine g_aload X69.here hx (Jvm.hb hby at_477) (pc' := 479) rfl rfl rfl ?_
                      refine g_iload X69.here hx (Jvm.hb hby at_479) (pc' := 481) rfl rfl ?_
                      refine g_iload X69.here hx (Jvm.hb hby at_481) (pc' := 483) rfl rfl ?_
                      refine g_bipush X69.here hx (Jvm.hb hby at_483) (pc' := 485) rfl (z := (7 : Int32)) rfl ?_
                      refine g_callP X69 hx hZ hown w_12 w_13 w_3 w_14 (by decide) (rm4 l Z a0 hw [] ad1 av cv (7 : Int32) 16 f hh49 VV (hin _ 7 (by decide) (by decide))) 1 (by decide) (by decide) e69 (by rw [hml]; rfl) [(.ref ad1), (.int av), (.int cv), (.int (7 : Int32))] [(.int (((((((f_tm f av cv (0 : Int32)) + (f_tm f av cv (1 : Int32))) + (f_tm f av cv (2 : Int32))) + (f_tm f av cv (3 : Int32))) + (f_tm f av cv (4 : Int32))) + (f_tm f av cv (5 : Int32))) + (f_tm f av cv (6 : Int32))))] (lenOf pd_5 rfl) rfl rfl (Nat.le_of_eq rfl) (Jvm.hb hby at_485) (pc' := 488) rfl (by decide) (by decide) ?_
                      intro T70 X70 e70
                      show own_Gl p e below s (own_Q0 n0) room_1.cells room_1.slots (T70.setTop (mkF m 488 #[.val (.long x0), .second, .val (.long x1), .second, .val (.int x2), .val (.int av), .val (.int cv), .val (.int b7), .val (.ref ad1), .val (.int (f_go f av.toInt.toNat cv.toInt.toNat 0 (0 : Int32))), .val (.int (1 : Int32)), .val (.int (-1 : Int32))] [(.int (f_tm f av cv (7 : Int32))), (.int (((((((f_tm f av cv (0 : Int32)) + (f_tm f av cv (1 : Int32))) + (f_tm f av cv (2 : Int32))) + (f_tm f av cv (3 : Int32))) + (f_tm f av cv (4 : Int32))) + (f_tm f av cv (5 : Int32))) + (f_tm f av cv (6 : Int32))))]))
                      refine g_iadd X70.here hx (Jvm.hb hby at_488) (pc' := 489) rfl ?_
                      refine g_aload X70.here hx (Jvm.hb hby at_489) (pc' := 491) rfl rfl rfl ?_
                      refine g_iload X70.here hx (Jvm.hb hby at_491) (pc' := 493) rfl rfl ?_
                      refine g_iload X70.here hx (Jvm.hb hby at_493) (pc' := 495) rfl rfl ?_
                      refine g_bipush X70.here hx (Jvm.hb hby at_495) (pc' := 497) rfl (z := (8 : Int32)) rfl ?_
                      refine g_callP X70 hx hZ hown w_12 w_13 w_3 w_14 (by decide) (rm4 l Z a0 hw [] ad1 av cv (8 : Int32) 16 f hh49 VV (hin _ 8 (by decide) (by decide))) 1 (by decide) (by decide) e70 (by rw [hml]; rfl) [(.ref ad1), (.int av), (.int cv), (.int (8 : Int32))] [(.int ((((((((f_tm f av cv (0 : Int32)) + (f_tm f av cv (1 : Int32))) + (f_tm f av cv (2 : Int32))) + (f_tm f av cv (3 : Int32))) + (f_tm f av cv (4 : Int32))) + (f_tm f av cv (5 : Int32))) + (f_tm f av cv (6 : Int32))) + (f_tm f av cv (7 : Int32))))] (lenOf pd_5 rfl) rfl rfl (Nat.le_of_eq rfl) (Jvm.hb hby at_497) (pc' := 500) rfl (by decide) (by decide) ?_
                      intro T71 X71 e71
                      show own_Gl p e below s (own_Q0 n0) room_1.cells room_1.slots (T71.setTop (mkF m 500 #[.val (.long x0), .second, .val (.long x1), .second, .val (.int x2), .val (.int av), .val (.int cv), .val (.int b7), .val (.ref ad1), .val (.int (f_go f av.toInt.toNat cv.toInt.toNat 0 (0 : Int32))), .val (.int (1 : Int32)), .val (.int (-1 : Int32))] [(.int (f_tm f av cv (8 : Int32))), (.int ((((((((f_tm f av cv (0 : Int32)) + (f_tm f av cv (1 : Int32))) + (f_tm f av cv (2 : Int32))) + (f_tm f av cv (3 : Int32))) + (f_tm f av cv (4 : Int32))) + (f_tm f av cv (5 : Int32))) + (f_tm f av cv (6 : Int32))) + (f_tm f av cv (7 : Int32))))]))
                      refine g_iadd X71.here hx (Jvm.hb hby at_500) (pc' := 501) rfl ?_
                      refine g_istore X71.here hx (Jvm.hb hby at_501) (pc' := 503) rfl (L' := #[.val (.long x0), .second, .val (.long x1), .second, .val (.int x2), .val (.int av), .val (.int cv), .val (.int b7), .val (.ref ad1), .val (.int (f_go f av.toInt.toNat cv.toInt.toNat 0 (0 : Int32))), .val (.int (1 : Int32)), .val (.int (((((((((f_tm f av cv (0 : Int32)) + (f_tm f av cv (1 : Int32))) + (f_tm f av cv (2 : Int32))) + (f_tm f av cv (3 : Int32))) + (f_tm f av cv (4 : Int32))) + (f_tm f av cv (5 : Int32))) + (f_tm f av cv (6 : Int32))) + (f_tm f av cv (7 : Int32))) + (f_tm f av cv (8 : Int32))))]) rfl ?_
                      refine g_iload X71.here hx (Jvm.hb hby at_503) (pc' := 505) rfl rfl ?_
                      refine g_iload X71.here hx (Jvm.hb hby at_505) (pc' := 507) rfl rfl ?_
                      refine g_icN X71.here hx (Jvm.hb hby at_507) (pc' := 510) rfl (teq (own_yes f av cv ha hc hc275 hc288 hc301 hc314 hc327 hc340 hc354 hc368 hc382)).2 ?_
                      refine g_iconst X71.here hx (Jvm.hb hby at_510) (pc' := 511) rfl (z := (1 : Int32)) rfl ?_
                      refine g_goto X71.here hx (Jvm.hb hby at_511) (by decide) (pc' := 515) (by decide) ?_
                      exact g_retN X71 hx hlk (t := .boolean) hret (by simp) (z' := (1 : Int32)) rfl (Jvm.hb hby at_515) (by decide) (by decide) ⟨rfl, Nlc52⟩
  refine g_iload X0.here hx (Jvm.hb hby at_19) (pc' := 21) rfl rfl ?_
  refine g_bipush X0.here hx (Jvm.hb hby at_21) (pc' := 23) rfl (z := (7 : Int32)) rfl ?_
  refine g_iushr X0.here hx (Jvm.hb hby at_23) (pc' := 24) rfl ?_
  refine g_iconst X0.here hx (Jvm.hb hby at_24) (pc' := 25) rfl (z := (1 : Int32)) rfl ?_
  refine g_iand X0.here hx (Jvm.hb hby at_25) (pc' := 26) rfl ?_
  by_cases hc26 : (((x2.toUInt32 >>> ((7 : Int32) &&& 31).toUInt32).toInt32) &&& (1 : Int32)) = (0 : Int32)
  · refine g_ifY X0.here hx (Jvm.hb hby at_26) (by decide) (pc' := 33) (by decide) ((if0 _ _).trans (teq hc26).1) ?_
    refine g_iconst X0.here hx (Jvm.hb hby at_33) (pc' := 34) rfl (z := (0 : Int32)) rfl ?_
    refine g_istore X0.here hx (Jvm.hb hby at_34) (pc' := 36) rfl (L' := #[.val (.long x0), .second, .val (.long x1), .second, .val (.int x2), .val (.int av), .val (.int cv), .val (.int (0 : Int32)), .unset, .unset, .unset, .unset]) rfl ?_
    exact k36 _
  · refine g_ifN X0.here hx (Jvm.hb hby at_26) (pc' := 29) rfl ((if0 _ _).trans (feq hc26).1) ?_
    refine g_iconst X0.here hx (Jvm.hb hby at_29) (pc' := 30) rfl (z := (1 : Int32)) rfl ?_
    refine g_goto X0.here hx (Jvm.hb hby at_30) (by decide) (pc' := 34) (by decide) ?_
    refine g_istore X0.here hx (Jvm.hb hby at_34) (pc' := 36) rfl (L' := #[.val (.long x0), .second, .val (.long x1), .second, .val (.int x2), .val (.int av), .val (.int cv), .val (.int (1 : Int32)), .unset, .unset, .unset, .unset]) rfl ?_
    exact k36 _
set_option maxRecDepth 65536 in
set_option maxHeartbeats 40000000 in
theorem comes_1 {Post : Tables → Env → Array Value → State → Outcome → State → Prop} (hpost : ∀ tb e args s v u, (limb_1_1.after args s (.returned v) u = true ∧ limb_1_2.after args s (.returned v) u = true ∧ True) → FrameEnd s (.returned v) u (Jvm.fieldLocs frame_1_writes args s ++ Jvm.arrayLocs frame_1_arrays args s ++ Jvm.staticLocs frame_1_statics s) 16 128 → Post tb e args s (.returned v) u) :
    ArmFor flags0 classFile x code maxLocals ret World_1 tables_1 room_1 Calls_1 rest_1 Pre_1 Post := by
  intro l hfl _ _ p e ha hc hk s m args below hf hA hF happ hP
  obtain ⟨hcalls, hrest, hpre⟩ := hP
  obtain ⟨-, -, -, hnamed, -, -, -, hat⟩ := (Spec.applies_iff hf).mp happ
  obtain ⟨hg, hn⟩ := and_e (Cond.before_iff.mp (show (Jvm.Cond.and given_1 narrow_1).before args s = true from hpre))
  obtain ⟨g1, g2⟩ := and_e hg
  obtain ⟨g3, g4⟩ := and_e g2
  obtain ⟨g5, g6⟩ := and_e g4
  obtain ⟨w0, w1, w2, rfl⟩ : ∃ w0 w1 w2 : Value, args = #[w0, w1, w2] := by
    have hs : args.size = 3 := by simpa [Cond.value, given_1] using g1
    obtain ⟨L⟩ := args
    match L, hs with
    | [w0, w1, w2], _ => exact ⟨w0, w1, w2, rfl⟩
  have hw := fun d (hd : d ∈ tables_1) => atoms_spec (ws := Jvm.Cond.code x code maxLocals ret :: tables_1) hat d (List.mem_cons_of_mem _ hd)
  obtain ⟨i0, ei0⟩ := isL_v g3
  obtain rfl : w0 = (.long i0) := Option.some.inj ei0
  obtain ⟨i1, ei1⟩ := isL_v g5
  obtain rfl : w1 = (.long i1) := Option.some.inj ei1
  obtain ⟨i2, ei2⟩ := is_v g6
  obtain rfl : w2 = (.int i2) := Option.some.inj ei2
  obtain ⟨n, o, h1, h2, h3, _, L, rfl, ⟨rfl, N⟩, hq⟩ := rm0 l s _ hw tables_1 i0 i1 i2 s.heap s.heap.size (Nat.le_refl _) p e ha hc hk s m _ below hf ((Spec.applies_iff_loose hf).mp happ).1 ⟨rfl, State.Warmed39.refl s, rfl⟩ trivial
  refine ⟨n, _, h1, h2, h3, hpost _ _ _ _ _ _ ⟨Cond.after_iff.mpr rfl, Cond.after_iff.mpr (eq_i res_at (Term.int_eval (1)) rfl), trivial⟩ ⟨hq.1, hq.2.1, (hq.2.2.sift fun y hy => Or.inr (N y hy)).mono (by decide) (by decide)⟩⟩
theorem main_1_1 : Claimed_1_1 := comes_1 fun _ _ _ _ _ _ h hF => ⟨h.1, hF⟩
theorem main_1_2 : Claimed_1_2 := comes_1 fun _ _ _ _ _ _ h hF => ⟨h.2.1, hF⟩
end Jvm.Pilot.@@N@@
namespace Jvm.Pilot.@@N@@
open Jvm Jvm.ClassFile Sem Op Lib Jvm.Free Jvm.Stand Jvm.Pilot.@@N@@.Jvm.D
/-! MADE BY PROGRAM (witnessworld.py) out of the Statement's table words and the real class files: 9 classes; the members and pool entries that the words name. The judged class is class 1, her method 6. -/
namespace start1
open Jvm.ClassFile
def u (s : String) : CpInfo := .utf8 (stringToUtf16 s)
/-- a pool by its gaps: so many unusable entries, then the entry; so many at the end -/
def gap : Nat → List CpInfo → List CpInfo
  | 0, r => r
  | n + 1, r => .unusable :: gap n r
def poolList (es : List (Nat × CpInfo)) (last : Nat) : List CpInfo := es.foldr (fun e r => gap e.1 (e.2 :: r)) (gap last [])
def pool (es : List (Nat × CpInfo)) (last : Nat) : Array CpInfo := ⟨poolList es last⟩
def fileOf (pool : Array CpInfo) (this : Nat) (attrs : Array Attribute := #[]) (ms : Array MethodInfo := #[]) (fl : Nat := 33) (sup : Nat := 0) (ifs : Array Nat := #[]) (fds : Array FieldInfo := #[]) : ClassFile where
  minorVersion := 0
  majorVersion := 65
  constantPool := pool
  accessFlags := fl
  thisClass := this
  superClass := sup
  interfaces := ifs
  fields := fds
  methods := ms
  attributes := attrs
def plain (name : String) (sup : Option ClassId) : Class where
  name := name
  kind := .ordinary
  loader := none
  accessFlags := 33
  super := sup
  interfaces := #[]
  cf := none
  fields := #[]
  methods := #[]
  instanceTypes := #[]
  staticTypes := #[]
  resolved := #[]
  callSites := []
  init := .initialized
  statics := none
  mirror := none

def pool0 : Array CpInfo := pool [(5, u "<init>"), (0, u "()V"), (1, .class_ 10), (1, u "java/lang/Object")] 113

def k0m0 : Method := { name := "<init>", desc := "()V", sig := { parameters := [], returnType := none }, accessFlags := 1, code := none }
/-- java/lang/Object -/
def k0 : Class := { plain "java/lang/Object" none with
  accessFlags := 33
  interfaces := #[]
  cf := some (fileOf pool0 8 #[] #[{ accessFlags := 1, nameIndex := 5, descriptorIndex := 6, attributes := #[] }] 33 0 #[] #[])
  fields := #[]
  methods := #[k0m0]
  instanceTypes := #[]
  staticTypes := #[]
  resolved := Array.replicate 124 none
  statics := none }

def pool1 : Array CpInfo := pool [(2, .class_ 4), (1, u "java/lang/Object"), (0, u "<init>"), (0, u "()V"), (0, .integer 100000), (0, .integer 1000000), (0, .integer 10000000), (0, .integer 100000000), (0, .methodref 12 13), (0, .class_ 14), (0, .nameAndType 15 16), (0, u "com/example/leaderline/leaderline/Iso2709DigitsPinLaw"), (0, u "isDigit"), (0, u "(B)Z"), (0, .methodref 12 18), (0, .nameAndType 19 20), (0, u "pow10"), (0, u "(I)I"), (0, .methodref 12 22), (0, .nameAndType 23 24), (0, u "pick"), (0, u "(JJIZ)B"), (0, .methodref 26 27), (0, .class_ 28), (0, .nameAndType 29 30), (0, u "com/example/leaderline/leaderline/Iso2709"), (0, u "digits"), (0, u "([BII)I"), (0, .methodref 12 32), (0, .nameAndType 33 34), (0, u "ok"), (0, u "([BIII)Z"), (0, .methodref 12 36), (0, .nameAndType 37 38), (0, u "term"), (0, u "([BIII)I"), (3, u "law"), (0, u "(JJI)Z")] 4

def k1m0 : Method := { name := "<init>", desc := "()V", sig := { parameters := [], returnType := none }, accessFlags := 2, code := none }
def k1c1 : Code := { maxStack := 5, maxLocals := 7, code := method_2_code, exceptionTable := #[], attributes := #[] }
def k1m1 : Method := { name := "pick", desc := "(JJIZ)B", sig := { parameters := [.long, .long, .int, .boolean], returnType := some .byte }, accessFlags := 10, code := some k1c1 }
def k1c2 : Code := { maxStack := 2, maxLocals := 1, code := method_3_code, exceptionTable := #[], attributes := #[] }
def k1m2 : Method := { name := "isDigit", desc := "(B)Z", sig := { parameters := [.byte], returnType := some .boolean }, accessFlags := 10, code := some k1c2 }
def k1c3 : Code := { maxStack := 2, maxLocals := 1, code := method_4_code, exceptionTable := #[], attributes := #[] }
def k1m3 : Method := { name := "pow10", desc := "(I)I", sig := { parameters := [.int], returnType := some .int }, accessFlags := 10, code := some k1c3 }
def k1c4 : Code := { maxStack := 3, maxLocals := 4, code := method_5_code, exceptionTable := #[], attributes := #[] }
def k1m4 : Method := { name := "ok", desc := "([BIII)Z", sig := { parameters := [(.array .byte), .int, .int, .int], returnType := some .boolean }, accessFlags := 10, code := some k1c4 }
def k1c5 : Code := { maxStack := 3, maxLocals := 4, code := method_6_code, exceptionTable := #[], attributes := #[] }
def k1m5 : Method := { name := "term", desc := "([BIII)I", sig := { parameters := [(.array .byte), .int, .int, .int], returnType := some .int }, accessFlags := 10, code := some k1c5 }
def k1c6 : Code := { maxStack := 8, maxLocals := 12, code := code, exceptionTable := #[], attributes := #[] }
def k1m6 : Method := { name := "law", desc := "(JJI)Z", sig := { parameters := [.long, .long, .int], returnType := some .boolean }, accessFlags := 9, code := some k1c6 }
/-- com/example/leaderline/leaderline/Iso2709DigitsPinLaw -/
def k1 : Class := { plain "com/example/leaderline/leaderline/Iso2709DigitsPinLaw" (some 0) with
  accessFlags := 49
  interfaces := #[]
  cf := some (fileOf pool1 12 #[] #[{ accessFlags := 2, nameIndex := 5, descriptorIndex := 6, attributes := #[] }, { accessFlags := 10, nameIndex := 23, descriptorIndex := 24, attributes := #[] }, { accessFlags := 10, nameIndex := 15, descriptorIndex := 16, attributes := #[] }, { accessFlags := 10, nameIndex := 19, descriptorIndex := 20, attributes := #[] }, { accessFlags := 10, nameIndex := 33, descriptorIndex := 34, attributes := #[] }, { accessFlags := 10, nameIndex := 37, descriptorIndex := 38, attributes := #[] }, { accessFlags := 9, nameIndex := 42, descriptorIndex := 43, attributes := #[] }] 49 2 #[] #[])
  fields := #[]
  methods := #[k1m0, k1m1, k1m2, k1m3, k1m4, k1m5, k1m6]
  instanceTypes := #[]
  staticTypes := #[]
  resolved := Array.replicate 48 none
  statics := none }

def pool2 : Array CpInfo := pool [(3, .class_ 4), (0, u "com/example/leaderline/leaderline/Iso2709"), (3, .class_ 10), (1, u "java/lang/Object"), (0, u "<init>"), (0, u "()V"), (2, u "INDICATOR_AND_CODE_COUNTS"), (0, u "[B"), (2, u "ENTRY_MAP"), (0, u "RECORD_TERMINATOR"), (0, u "B"), (2, u "FIELD_TERMINATOR"), (1, u "SUBFIELD_DELIMITER"), (1, u "MAX_RECORD_LENGTH"), (0, u "I"), (1, u "ENTRY_LENGTH"), (1, u "RECORD_LENGTH_AT"), (1, u "BASE_ADDRESS_AT"), (0, u "ADDRESS_DIGITS"), (1, u "ENTRY_LENGTH_DIGITS"), (1, u "ENTRY_START_AT"), (1, u "MIN_BASE_ADDRESS"), (1, u "MIN_RECORD_LENGTH"), (1, u "INDICATOR_AND_CODE_COUNTS_AT"), (1, u "ENTRY_MAP_AT"), (3, u "digits"), (0, u "([BII)I")] 4

def k2m0 : Method := { name := "<init>", desc := "()V", sig := { parameters := [], returnType := none }, accessFlags := 2, code := none }
def k2c1 : Code := { maxStack := 3, maxLocals := 6, code := prog_10_method_2_code, exceptionTable := #[], attributes := #[] }
def k2m1 : Method := { name := "digits", desc := "([BII)I", sig := { parameters := [(.array .byte), .int, .int], returnType := some .int }, accessFlags := 8, code := some k2c1 }
/-- com/example/leaderline/leaderline/Iso2709 -/
def k2 : Class := { plain "com/example/leaderline/leaderline/Iso2709" (some 0) with
  accessFlags := 48
  interfaces := #[]
  cf := some (fileOf pool2 3 #[] #[{ accessFlags := 2, nameIndex := 11, descriptorIndex := 12, attributes := #[] }, { accessFlags := 8, nameIndex := 52, descriptorIndex := 53, attributes := #[] }] 48 8 #[] #[{ accessFlags := 24, nameIndex := 20, descriptorIndex := 21, attributes := #[] }, { accessFlags := 24, nameIndex := 24, descriptorIndex := 21, attributes := #[] }, { accessFlags := 24, nameIndex := 26, descriptorIndex := 21, attributes := #[] }, { accessFlags := 24, nameIndex := 28, descriptorIndex := 29, attributes := #[] }, { accessFlags := 24, nameIndex := 31, descriptorIndex := 29, attributes := #[] }, { accessFlags := 24, nameIndex := 33, descriptorIndex := 29, attributes := #[] }, { accessFlags := 24, nameIndex := 35, descriptorIndex := 29, attributes := #[] }, { accessFlags := 24, nameIndex := 36, descriptorIndex := 29, attributes := #[] }, { accessFlags := 24, nameIndex := 38, descriptorIndex := 29, attributes := #[] }, { accessFlags := 24, nameIndex := 40, descriptorIndex := 29, attributes := #[] }, { accessFlags := 24, nameIndex := 42, descriptorIndex := 29, attributes := #[] }, { accessFlags := 24, nameIndex := 44, descriptorIndex := 29, attributes := #[] }, { accessFlags := 24, nameIndex := 46, descriptorIndex := 29, attributes := #[] }, { accessFlags := 24, nameIndex := 15, descriptorIndex := 16, attributes := #[] }, { accessFlags := 24, nameIndex := 48, descriptorIndex := 29, attributes := #[] }, { accessFlags := 24, nameIndex := 19, descriptorIndex := 16, attributes := #[] }])
  fields := #[{ name := "RECORD_TERMINATOR", type := .byte, accessFlags := 24, slot := 0, constantValue := 0 }, { name := "FIELD_TERMINATOR", type := .byte, accessFlags := 24, slot := 1, constantValue := 0 }, { name := "SUBFIELD_DELIMITER", type := .byte, accessFlags := 24, slot := 2, constantValue := 0 }, { name := "MAX_RECORD_LENGTH", type := .int, accessFlags := 24, slot := 3, constantValue := 0 }, { name := "ENTRY_LENGTH", type := .int, accessFlags := 24, slot := 4, constantValue := 0 }, { name := "RECORD_LENGTH_AT", type := .int, accessFlags := 24, slot := 5, constantValue := 0 }, { name := "BASE_ADDRESS_AT", type := .int, accessFlags := 24, slot := 6, constantValue := 0 }, { name := "ADDRESS_DIGITS", type := .int, accessFlags := 24, slot := 7, constantValue := 0 }, { name := "ENTRY_LENGTH_DIGITS", type := .int, accessFlags := 24, slot := 8, constantValue := 0 }, { name := "ENTRY_START_AT", type := .int, accessFlags := 24, slot := 9, constantValue := 0 }, { name := "MIN_BASE_ADDRESS", type := .int, accessFlags := 24, slot := 10, constantValue := 0 }, { name := "MIN_RECORD_LENGTH", type := .int, accessFlags := 24, slot := 11, constantValue := 0 }, { name := "INDICATOR_AND_CODE_COUNTS_AT", type := .int, accessFlags := 24, slot := 12, constantValue := 0 }, { name := "INDICATOR_AND_CODE_COUNTS", type := (.array .byte), accessFlags := 24, slot := 13, constantValue := 0 }, { name := "ENTRY_MAP_AT", type := .int, accessFlags := 24, slot := 14, constantValue := 0 }, { name := "ENTRY_MAP", type := (.array .byte), accessFlags := 24, slot := 15, constantValue := 0 }]
  methods := #[k2m0, k2m1]
  instanceTypes := #[]
  staticTypes := #[.byte, .byte, .byte, .int, .int, .int, .int, .int, .int, .int, .int, .int, .int, (.array .byte), .int, (.array .byte)]
  resolved := Array.replicate 58 none
  statics := none }

def pool3 : Array CpInfo := pool [(1, u "java/lang/Cloneable"), (0, .class_ 1), (0, u "java/lang/Object"), (0, .class_ 3)] 3

/-- java/lang/Cloneable -/
def k3 : Class := { plain "java/lang/Cloneable" (some 0) with
  accessFlags := 1537
  interfaces := #[]
  cf := some (fileOf pool3 2 #[] #[] 1537 4 #[] #[])
  fields := #[]
  methods := #[]
  instanceTypes := #[]
  staticTypes := #[]
  resolved := Array.replicate 8 none
  statics := none }

def pool4 : Array CpInfo := pool [(1, u "java/io/Serializable"), (0, .class_ 1), (0, u "java/lang/Object"), (0, .class_ 3)] 3

/-- java/io/Serializable -/
def k4 : Class := { plain "java/io/Serializable" (some 0) with
  accessFlags := 1537
  interfaces := #[]
  cf := some (fileOf pool4 2 #[] #[] 1537 4 #[] #[])
  fields := #[]
  methods := #[]
  instanceTypes := #[]
  staticTypes := #[]
  resolved := Array.replicate 8 none
  statics := none }

/-- the primitive byte -/
def k5 : Class := { plain "byte" none with kind := .primitive 'B', accessFlags := 0x411 }
/-- [B -/
def k6 : Class := { plain "[B" (some 0) with kind := .array 5 .byte, interfaces := #[3, 4], accessFlags := 1041 }

/-- the primitive int -/
def k7 : Class := { plain "int" none with kind := .primitive 'I', accessFlags := 0x411 }
/-- [I -/
def k8 : Class := { plain "[I" (some 0) with kind := .array 7 .int, interfaces := #[3, 4], accessFlags := 1041 }

def heap : Heap := #[]
def classes : Array Class := #[k0, k1, k2, k3, k4, k5, k6, k7, k8]
def interned : List (Array UInt16 × Addr) := []
def slotsUsed : Nat := 0
def theMethod : MethodId := ⟨1, 6⟩
def args0 : Array Value := #[.long 5, .long 6, .int 3]
def aboutOver (below : List Frame) : State where
  vm := { classes := classes, interned := interned.toArray }
  heap := heap
  slotsUsed := slotsUsed
  threads := #[{ frames := .invoking theMethod args0 :: below }]
def below0 : List Frame := [.native { method := ⟨0, 0⟩, args := #[] }]
def about1 : State := aboutOver below0
def p0 : Program := .bare "" "" ""
def e0 : Env := launch0.env 0 0 0
theorem w_frames : about1.frames = Frame.invoking theMethod args0 :: below0 := rfl
set_option maxRecDepth 65536 in
theorem w_args : argsFit about1.vm theMethod args0 = true := by decide +kernel
set_option maxRecDepth 65536 in
theorem w_heap : heapFits about1 = true := by decide +kernel
set_option maxRecDepth 65536 in
theorem w_runnable : about1.curStatus? = some .runnable := by decide +kernel
set_option maxRecDepth 65536 in
theorem w_alone : about1.alone = true := by decide +kernel
set_option maxRecDepth 65536 in
theorem w_named : about1.methodNamed? x = some theMethod := by decide +kernel
set_option maxRecDepth 65536 in
theorem w_hears : about1.hears theMethod below0 = true := by decide +kernel
set_option maxRecDepth 65536 in
theorem w_ripe : about1.ripe theMethod args0 below0 = true := by decide +kernel
theorem w_running : about1.status = .running := rfl
set_option maxRecDepth 65536 in
theorem w_room : about1.hasRoom e0.platform room_1 = true :=
  launch0.hasRoom_least _ room_1 (by decide +kernel) (by decide +kernel) (by decide +kernel) (by decide +kernel) (by decide +kernel) (by decide +kernel)
theorem allAtoms_all (ts : List Jvm.Cond) (a : Array Jvm.Value) (st : Jvm.State) : (allAtoms ts).before a st = ts.all (fun c => c.before a st) := by
  induction ts with
  | nil => rfl
  | cons c t ih =>
    show (Jvm.Cond.and c (allAtoms t)).before a st = _
    rw [Jvm.Cond.before_and, ih, List.all_cons]
def words1 : List Jvm.Cond := Jvm.Cond.code x code maxLocals ret :: tables_1
/-- a 'code' word, met by the world's own term for the bytes: nothing is compared byte by byte -/
theorem code_word {y : MethodName} {bytes : ByteArray} {mx : Nat} {rt : Option FieldType} {a : Array Value} {s : State} {m : MethodId} {meth : Method} {c : Code} (h1 : s.methodNamed? y = some m) (h2 : s.vm.method? m = some meth) (h3 : meth.code = some c) (h4 : c.code = bytes)
    (h5 : (c.maxLocals == mx && c.exceptionTable.isEmpty && decide (c.maxStack ≤ mostOperands) && decide (meth.sig.returnType = rt) && !meth.locks && decide (parseMethodDescriptor y.desc = some meth.sig)) = true) : (Jvm.Cond.code y bytes mx rt).before a s = true := by
  simp only [Bool.and_eq_true, beq_iff_eq, Bool.not_eq_true', decide_eq_true_eq] at h5
  obtain ⟨⟨⟨⟨⟨g1, g2⟩, g3⟩, g4⟩, g5⟩, g6⟩ := h5
  simp [Cond.before, Cond.holds, Cond.value, h1, h2, h3, h4, g1, g2, g3, g4, g5, g6]
def isCode : Jvm.Cond → Bool
  | .code _ _ _ _ => true
  | _ => false
theorem all_split {L : List Jvm.Cond} {P : Jvm.Cond → Bool} (h1 : L.all (fun c => isCode c || P c) = true) (h2 : ∀ c ∈ L.filter isCode, P c = true) : L.all P = true := by
  refine List.all_eq_true.mpr fun c hc => ?_
  have h := List.all_eq_true.mp h1 c hc
  rcases Bool.eq_false_or_eq_true (isCode c) with hi | hi
  · exact h2 c (List.mem_filter.mpr ⟨hc, hi⟩)
  · simpa [hi] using h
set_option maxRecDepth 65536 in
theorem w_c0 : (Jvm.Cond.code x code maxLocals ret).before args0 about1 = true := code_word (m := ⟨1, 6⟩) (meth := k1m6) (c := k1c6) (by decide +kernel) rfl rfl rfl (by decide +kernel)
set_option maxRecDepth 65536 in
theorem w_c1 : (Jvm.Cond.code ({ cls := "com/example/leaderline/leaderline/Iso2709DigitsPinLaw", name := "pick", desc := "(JJIZ)B" } : Jvm.MethodName) method_2_code (7 : Nat) (Option.some Jvm.ClassFile.FieldType.byte)).before args0 about1 = true := code_word (m := ⟨1, 1⟩) (meth := k1m1) (c := k1c1) (by decide +kernel) rfl rfl rfl (by decide +kernel)
set_option maxRecDepth 65536 in
theorem w_c2 : (Jvm.Cond.code ({ cls := "com/example/leaderline/leaderline/Iso2709", name := "digits", desc := "([BII)I" } : Jvm.MethodName) prog_10_method_2_code (6 : Nat) (Option.some Jvm.ClassFile.FieldType.int)).before args0 about1 = true := code_word (m := ⟨2, 1⟩) (meth := k2m1) (c := k2c1) (by decide +kernel) rfl rfl rfl (by decide +kernel)
set_option maxRecDepth 65536 in
theorem w_c3 : (Jvm.Cond.code ({ cls := "com/example/leaderline/leaderline/Iso2709DigitsPinLaw", name := "ok", desc := "([BIII)Z" } : Jvm.MethodName) method_5_code (4 : Nat) (Option.some Jvm.ClassFile.FieldType.boolean)).before args0 about1 = true := code_word (m := ⟨1, 4⟩) (meth := k1m4) (c := k1c4) (by decide +kernel) rfl rfl rfl (by decide +kernel)
set_option maxRecDepth 65536 in
theorem w_c4 : (Jvm.Cond.code ({ cls := "com/example/leaderline/leaderline/Iso2709DigitsPinLaw", name := "term", desc := "([BIII)I" } : Jvm.MethodName) method_6_code (4 : Nat) (Option.some Jvm.ClassFile.FieldType.int)).before args0 about1 = true := code_word (m := ⟨1, 5⟩) (meth := k1m5) (c := k1c5) (by decide +kernel) rfl rfl rfl (by decide +kernel)
set_option maxRecDepth 65536 in
theorem w_c5 : (Jvm.Cond.code ({ cls := "com/example/leaderline/leaderline/Iso2709DigitsPinLaw", name := "isDigit", desc := "(B)Z" } : Jvm.MethodName) method_3_code (1 : Nat) (Option.some Jvm.ClassFile.FieldType.boolean)).before args0 about1 = true := code_word (m := ⟨1, 2⟩) (meth := k1m2) (c := k1c2) (by decide +kernel) rfl rfl rfl (by decide +kernel)
set_option maxRecDepth 65536 in
theorem w_c6 : (Jvm.Cond.code ({ cls := "com/example/leaderline/leaderline/Iso2709DigitsPinLaw", name := "pow10", desc := "(I)I" } : Jvm.MethodName) method_4_code (1 : Nat) (Option.some Jvm.ClassFile.FieldType.int)).before args0 about1 = true := code_word (m := ⟨1, 3⟩) (meth := k1m3) (c := k1c3) (by decide +kernel) rfl rfl rfl (by decide +kernel)
def codes1 : List Jvm.Cond := [Jvm.Cond.code x code maxLocals ret, Jvm.Cond.code ({ cls := "com/example/leaderline/leaderline/Iso2709DigitsPinLaw", name := "pick", desc := "(JJIZ)B" } : Jvm.MethodName) method_2_code (7 : Nat) (Option.some Jvm.ClassFile.FieldType.byte), Jvm.Cond.code ({ cls := "com/example/leaderline/leaderline/Iso2709", name := "digits", desc := "([BII)I" } : Jvm.MethodName) prog_10_method_2_code (6 : Nat) (Option.some Jvm.ClassFile.FieldType.int), Jvm.Cond.code ({ cls := "com/example/leaderline/leaderline/Iso2709DigitsPinLaw", name := "ok", desc := "([BIII)Z" } : Jvm.MethodName) method_5_code (4 : Nat) (Option.some Jvm.ClassFile.FieldType.boolean), Jvm.Cond.code ({ cls := "com/example/leaderline/leaderline/Iso2709DigitsPinLaw", name := "term", desc := "([BIII)I" } : Jvm.MethodName) method_6_code (4 : Nat) (Option.some Jvm.ClassFile.FieldType.int), Jvm.Cond.code ({ cls := "com/example/leaderline/leaderline/Iso2709DigitsPinLaw", name := "isDigit", desc := "(B)Z" } : Jvm.MethodName) method_3_code (1 : Nat) (Option.some Jvm.ClassFile.FieldType.boolean), Jvm.Cond.code ({ cls := "com/example/leaderline/leaderline/Iso2709DigitsPinLaw", name := "pow10", desc := "(I)I" } : Jvm.MethodName) method_4_code (1 : Nat) (Option.some Jvm.ClassFile.FieldType.int)]
set_option maxRecDepth 65536 in
theorem codes_eq : words1.filter isCode = codes1 := rfl
theorem w_codes : ∀ c ∈ words1.filter isCode, c.before args0 about1 = true := by
  rw [codes_eq]
  intro c hc
  simp only [codes1, List.mem_cons, List.not_mem_nil, or_false] at hc
  rcases hc with rfl | rfl | rfl | rfl | rfl | rfl | rfl
  · exact w_c0
  · exact w_c1
  · exact w_c2
  · exact w_c3
  · exact w_c4
  · exact w_c5
  · exact w_c6
set_option maxRecDepth 65536 in
theorem w_t1 : (words1.take 24).all (fun c => isCode c || c.before args0 about1) = true := by decide +kernel
set_option maxRecDepth 65536 in
theorem w_t2 : (words1.drop 24).all (fun c => isCode c || c.before args0 about1) = true := by decide +kernel
theorem w_tables : (allAtoms (Jvm.Cond.code x code maxLocals ret :: tables_1)).before args0 about1 = true := by
  rw [allAtoms_all]
  show words1.all (fun c => c.before args0 about1) = true
  refine all_split ?_ w_codes
  rw [← List.take_append_drop 24 words1, List.all_append, w_t1, w_t2]
  rfl
set_option maxRecDepth 65536 in
theorem w_case : (Jvm.Cond.and given_1 narrow_1).before args0 about1 = true := by decide +kernel
theorem w_applies : (headSpec (Jvm.Cond.code x code maxLocals ret :: tables_1) room_1).applies x e0.platform about1 = true :=
  (Spec.applies_iff w_frames).mpr ⟨w_running, w_runnable, w_alone, w_named, w_hears, w_ripe, w_room, w_tables⟩
theorem atStart : AtStart classFile x code maxLocals ret World_1 tables_1 room_1 Calls_1 rest_1 Pre_1 launch0 p0 e0 about1 theMethod args0 below0 :=
  ⟨lists_1, trivial, launch0.admits_env _ _ _, launch0.least_env, fairChoices_fair.cas, fairChoices_fair.clock, w_frames, w_args, w_heap, w_applies, trivial, trivial, w_case⟩
end start1
theorem witness_1 : WitnessClaimed_1 := ⟨start1.p0, start1.e0, start1.about1, start1.theMethod, start1.args0, start1.below0, start1.atStart⟩
end Jvm.Pilot.@@N@@
