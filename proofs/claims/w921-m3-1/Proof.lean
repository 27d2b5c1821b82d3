import JvmDerived
import JvmDerived.Pilot.@@N@@Statement
import JvmDerived.Pilot.@@N@@Code
set_option linter.unusedVariables false
set_option linter.unusedSimpArgs false
namespace Jvm.Pilot.@@N@@
open Jvm Jvm.ClassFile Sem Op Lib Jvm.Free Jvm.Stand Jvm.LawKit Jvm.RoadKit Bundle Jvm.Pilot.@@N@@.Jvm.D
set_option maxRecDepth 4000
section OwnKit
/-- the goal of a walk: from S the run comes to a return that Q allows, and nothing old is touched -/
def own_Gl (p : Program) (e : Env) (below : List Frame) (s : State) (Q : Option Value → Heap → List Loc → Prop) (kc ks : Nat) (S : State) : Prop :=
  ∃ s₂ o, Steps p.tables e below S s₂ ∧ s₂.status = .running ∧ Ended s₂ below o ∧ ∃ v L, o = .returned v ∧ Q v s₂.heap L ∧ FrameEnd s o s₂ L kc ks
variable {p : Program} {l : Launch} {e : Env} {R : Room} {s : State} {m : MethodId} {args : Array Value} {below : List Frame} {meth : Method} {c : Code} {T : State} {locs : List Loc} {cells slots : Nat} {Z : State} {a0 : Array Value} {h : Heap} {Q : Option Value → Heap → List Loc → Prop} {kc ks : Nat} {pc pc' : Nat} {L L' : Array Slot} {S : List Value}
theorem own_Gl.go {S S' : State} (h : own_Gl p e below s Q kc ks S') (st : ∀ t, Steps p.tables e below S' t → Steps p.tables e below S t) : own_Gl p e below s Q kc ks S := by
  obtain ⟨s₂, o, h1, h2⟩ := h
  exact ⟨s₂, o, st _ h1, h2⟩
/-- what a method leaves that writes nothing and makes nothing -/
def own_Pure (w : Option Value) (h0 : Heap) (v : Option Value) (h : Heap) (L : List Loc) : Prop := v = w ∧ L = [] ∧ h = h0
theorem own_body {l : Launch} {Z : State} {y : MethodName} {bytes : ByteArray} {maxL : Nat} {ret : Option FieldType} {ws : List Jvm.Cond} {rm : Room} {as' : Array Value} {h0 : Heap} {Q : Option Value → Heap → List Loc → Prop} {L0 : Array Slot} {own : String}
    (hpl : plainName y.cls = true) (hyc : y.cls = own) (hef : ∀ m, entryFrame m as' maxL = mkF m 0 L0 [])
    (body : ∀ p e s m below meth c T, p.tables.exec = Jvm.exec → c.code = bytes → c.maxLocals = maxL → s.vm.findClass own = some m.cls → meth.name = y.name → meth.locks = false → meth.sig.returnType = ret → Z.Warmed39 s.vm → Stand p l e rm s m as' below meth c T [] 0 0 → T.heap = h0 →
      own_Gl p e below s Q rm.cells rm.slots (T.setTop (mkF m 0 L0 []))) :
    MetFree l y (head1 (Jvm.Cond.code y bytes maxL ret :: ws) rm) (fun a U => a = as' ∧ Z.Warmed39 U.vm ∧ U.heap = h0) (fun _ _ _ _ _ => True) (fun _ U o U' => ∃ v L, o = .returned v ∧ Q v U'.heap L ∧ FrameEnd U o U' L rm.cells rm.slots) := by
  refine MetFree.of_bodySF (plainFor_of_name hpl) hisR ?_
  intro p e s m args below meth c s₁ Bd hml0 hP hK
  obtain ⟨rfl, hZ, hh⟩ := hP
  have hown : s.vm.findClass y.cls = some m.cls := findClass_of_methodNamed Bd.named
  have hnm := (name_of_methodNamed Bd.named Bd.method).1
  have X0 : Stand p l e rm s m _ below meth c s₁ [] 0 0 := Stand.of_body Bd
  have e0 : s₁.heap = h0 := by rw [← hh, Bd.state]; rfl
  obtain ⟨s₂, o, h1, h2⟩ := body p e s m below meth c s₁ Bd.exec Bd.bytes hml0 (hyc ▸ hown) hnm Bd.notSynchronized Bd.returns hZ X0 e0
  exact ⟨s₂, o, castTop (hef m) h1, h2⟩
theorem own_ret (X : Stand p l e R s m args below meth c T locs cells slots) (hlk : meth.locks = false) {v : Option Value} (hv : meth.sig.returnType = none → v = none) (hQ : Q v T.heap locs) (hc : cells ≤ kc) (hs : slots ≤ ks) {S : State}
    (st : ∀ fs, (∀ (f : JFrame) (acts : List Action), f.method = m → f.locked = none → f.entered = [] → (doReturn e (T.setTop f) acts v).1 = T.setFrames fs) → Steps p.tables e below S (T.setFrames fs)) : own_Gl p e below s Q kc ks S := by
  obtain ⟨fs, hr, hrun, hended, hW, hsame⟩ := X.leave (v := v) hv hlk
  exact ⟨_, _, st fs hr, hrun, hended, v, locs, rfl, hQ, ⟨_, rfl⟩, hW, hsame.mono hc hs⟩
theorem g_retI (X : Stand p l e R s m args below meth c T locs cells slots) (hx : p.tables.exec = Jvm.exec) (hlk : meth.locks = false) {z : Int32} (hret : meth.sig.returnType = some .int) (hd : decode c.code pc = .ok (.ireturn, 1)) (hc : cells ≤ kc) (hs : slots ≤ ks) (hQ : Q (some (.int z)) T.heap locs) :
    own_Gl p e below s Q kc ks (T.setTop (mkF m pc L (.int z :: S))) :=
  own_ret X hlk (fun h => by rw [hret] at h; cases h) hQ hc hs fun fs hr => retOut X hx hret rfl (Or.inl ⟨rfl, Or.inl rfl, z, rfl⟩) hd hr
theorem g_retN (X : Stand p l e R s m args below meth c T locs cells slots) (hx : p.tables.exec = Jvm.exec) (hlk : meth.locks = false) {z z' : Int32} {t : FieldType} (hret : meth.sig.returnType = some t) (ht : t = .boolean ∨ t = .byte ∨ t = .char ∨ t = .short) (hz : nar t z = z') (hd : decode c.code pc = .ok (.ireturn, 1)) (hc : cells ≤ kc) (hs : slots ≤ ks) (hQ : Q (some (.int z')) T.heap locs) :
    own_Gl p e below s Q kc ks (T.setTop (mkF m pc L (.int z :: S))) := by
  subst hz
  exact own_ret X hlk (fun h => by rw [hret] at h; cases h) hQ hc hs fun fs hr => retN X hx hret ht hd hr
theorem g_retL (X : Stand p l e R s m args below meth c T locs cells slots) (hx : p.tables.exec = Jvm.exec) (hlk : meth.locks = false) {z : Int64} (hret : meth.sig.returnType = some .long) (hd : decode c.code pc = .ok (.lreturn, 1)) (hc : cells ≤ kc) (hs : slots ≤ ks) (hQ : Q (some (.long z)) T.heap locs) :
    own_Gl p e below s Q kc ks (T.setTop (mkF m pc L (.long z :: S))) :=
  own_ret X hlk (fun h => by rw [hret] at h; cases h) hQ hc hs fun fs hr => retOut X hx hret rfl (Or.inr (Or.inl ⟨rfl, rfl, z, rfl⟩)) hd hr
theorem g_retV (X : Stand p l e R s m args below meth c T locs cells slots) (hx : p.tables.exec = Jvm.exec) (hlk : meth.locks = false) (hret : meth.sig.returnType = none) (hd : decode c.code pc = .ok (.return_, 1)) (hc : cells ≤ kc) (hs : slots ≤ ks) (hQ : Q none T.heap locs) :
    own_Gl p e below s Q kc ks (T.setTop (mkF m pc L [])) :=
  own_ret X hlk (fun _ => rfl) hQ hc hs fun fs hr => X.returnOut hx hret hd hr
/-- a static call by the callee's contract -/
theorem g_callS (X : Stand p l e R s m args below meth c T locs cells slots) (hx : p.tables.exec = Jvm.exec) (hZ : Z.Warmed39 s.vm) {own : String} {index : Nat} {y : MethodName} {bytes : ByteArray} {maxL : Nat} {ret : Option FieldType} (hown : s.vm.findClass own = some m.cls)
    (w1 : (Jvm.Cond.methodLink own index y).before a0 Z = true) (w2 : (Jvm.Cond.static y).before a0 Z = true) (w3 : (Jvm.Cond.initialized y.cls).before a0 Z = true) (w4 : (Jvm.Cond.code y bytes maxL ret).before a0 Z = true) (hy : y.cls ≠ "java/lang/invoke/MethodHandle" ∧ y.cls ≠ "java/lang/invoke/VarHandle")
    {rm : Room} {as' : Array Value} {Qc : Option Value → Heap → List Loc → Prop}
    (hM : MetFree l y (head1 [Jvm.Cond.code y bytes maxL ret] rm) (fun a U => a = as' ∧ Z.Warmed39 U.vm ∧ U.heap = h) (fun _ _ _ _ _ => True) (fun _ U o U' => ∃ v L, o = .returned v ∧ Qc v U'.heap L ∧ FrameEnd U o U' L rm.cells rm.slots))
    (W : Nat) (hf : rm.frames + 1 ≤ R.frames) (hl : W + (maxL + 11) + rm.locals ≤ R.locals) (eT : T.heap = h) (hsize : L.size = c.maxLocals) (argsL rest : List Value) (hlen : ∀ sig, parseMethodDescriptor y.desc = some sig → argsL.length = sig.parameters.length)
    (hst : S = argsL.reverse ++ rest) (has : argsL.toArray = as') (hW : (rest.map fun v => v.category).sum ≤ W) (hd : decode c.code pc = .ok (.invokestatic index, 3)) (hp : pc + 3 = pc') {cells' slots' : Nat} (hcc : cells + rm.cells = cells') (hss : slots + rm.slots = slots') (hcl : cells' ≤ R.cells) (hsl : slots' ≤ R.slots)
    (k : ∀ (v : Option Value) (T' : State) (L' : List Loc), Stand p l e R s m args below meth c T' (locs ++ L') cells' slots' → Qc v T'.heap L' → own_Gl p e below s Q kc ks (T'.setTop (mkF m pc' L (v.toList ++ rest)))) :
    own_Gl p e below s Q kc ks (T.setTop (mkF m pc L S)) := by
  subst hp hst hcc hss
  obtain ⟨v, _, ⟨T', L', k', n'⟩, -, X', ⟨Lc, hQ, l', y', z'⟩, st⟩ := Jvm.LawKit.callS X hx (y := y) hown (mvT hZ w1) (mvT hZ w2) (mvT hZ w3) (mvT hZ w4) hy (backOf (W := W) hM hZ w4 w3 hf hl) (g := mkF m pc L (argsL.reverse ++ rest)) rfl hsize (argsL := argsL) (rest := rest) hlen rfl (by show 2 * 0 + _ ≤ _; omega) hd (fun _ _ => ⟨has, eT, hcl, hsl⟩)
  dsimp only [Pt.U, Pt.locs, Pt.cells, Pt.slots] at X' l' y' z' st hQ
  subst l' y' z'
  exact (k v T' Lc X' hQ).go st
/-- the same of a method that writes nothing -/
theorem g_callP (X : Stand p l e R s m args below meth c T locs cells slots) (hx : p.tables.exec = Jvm.exec) (hZ : Z.Warmed39 s.vm) {own : String} {index : Nat} {y : MethodName} {bytes : ByteArray} {maxL : Nat} {ret : Option FieldType} (hown : s.vm.findClass own = some m.cls)
    (w1 : (Jvm.Cond.methodLink own index y).before a0 Z = true) (w2 : (Jvm.Cond.static y).before a0 Z = true) (w3 : (Jvm.Cond.initialized y.cls).before a0 Z = true) (w4 : (Jvm.Cond.code y bytes maxL ret).before a0 Z = true) (hy : y.cls ≠ "java/lang/invoke/MethodHandle" ∧ y.cls ≠ "java/lang/invoke/VarHandle")
    {fr lo : Nat} {as' : Array Value} {w : Option Value}
    (hM : MetFree l y (head1 [Jvm.Cond.code y bytes maxL ret] ({ frames := fr, cells := 0, slots := 0, locals := lo } : Room)) (fun a U => a = as' ∧ Z.Warmed39 U.vm ∧ U.heap = h) (fun _ _ _ _ _ => True) (fun _ U o U' => ∃ v L, o = .returned v ∧ own_Pure w h v U'.heap L ∧ FrameEnd U o U' L ({ frames := fr, cells := 0, slots := 0, locals := lo } : Room).cells ({ frames := fr, cells := 0, slots := 0, locals := lo } : Room).slots))
    (W : Nat) (hf : fr + 1 ≤ R.frames) (hl : W + (maxL + 11) + lo ≤ R.locals) (eT : T.heap = h) (hsize : L.size = c.maxLocals) (argsL rest : List Value) (hlen : ∀ sig, parseMethodDescriptor y.desc = some sig → argsL.length = sig.parameters.length)
    (hst : S = argsL.reverse ++ rest) (has : argsL.toArray = as') (hW : (rest.map fun v => v.category).sum ≤ W) (hd : decode c.code pc = .ok (.invokestatic index, 3)) (hp : pc + 3 = pc') (hcl : cells ≤ R.cells) (hsl : slots ≤ R.slots)
    (k : ∀ (T' : State), Stand p l e R s m args below meth c T' locs cells slots → T'.heap = h → own_Gl p e below s Q kc ks (T'.setTop (mkF m pc' L (w.toList ++ rest)))) :
    own_Gl p e below s Q kc ks (T.setTop (mkF m pc L S)) := by
  refine g_callS X hx hZ hown w1 w2 w3 w4 hy hM W hf hl eT hsize argsL rest hlen hst has hW hd hp (cells' := cells) (slots' := slots) rfl rfl hcl hsl ?_
  intro v T' L' X' hQ
  obtain ⟨rfl, rfl, e'⟩ := hQ
  rw [List.append_nil] at X'
  exact k T' X' e'
theorem own_tltL {x y : Int64} (h : x < y) : ifCond.holds .lt (lcmpW x y) = true ∧ ifCond.holds .ge (lcmpW x y) = false ∧ ifCond.holds .gt (lcmpW y x) = true ∧ ifCond.holds .le (lcmpW y x) = false := by
  have h1 := (lw_lt x y).mpr h
  have h2 := (lw_gt y x).mpr h
  rw [if0, if0, if0, if0]
  exact ⟨(tlt h1).1, (tlt h1).2.1, (tlt h2).2.2.1, (tlt h2).2.2.2⟩
theorem own_fltL {x y : Int64} (h : ¬ x < y) : ifCond.holds .lt (lcmpW x y) = false ∧ ifCond.holds .ge (lcmpW x y) = true ∧ ifCond.holds .gt (lcmpW y x) = false ∧ ifCond.holds .le (lcmpW y x) = true := by
  have h1 := fun q => h ((lw_lt x y).mp q)
  have h2 := fun q => h ((lw_gt y x).mp q)
  rw [if0, if0, if0, if0]
  exact ⟨(flt h1).1, (flt h1).2.1, (flt h2).2.2.1, (flt h2).2.2.2⟩
theorem own_teqL {x y : Int64} (h : x = y) : ifCond.holds .eq (lcmpW x y) = true ∧ ifCond.holds .ne (lcmpW x y) = false := by
  have h1 := (lw_eq x y).mpr h
  rw [if0, if0]
  exact ⟨(teq h1).1, (teq h1).2⟩
theorem own_feqL {x y : Int64} (h : ¬ x = y) : ifCond.holds .eq (lcmpW x y) = false ∧ ifCond.holds .ne (lcmpW x y) = true := by
  have h1 := fun q => h ((lw_eq x y).mp q)
  rw [if0, if0]
  exact ⟨(feq h1).1, (feq h1).2⟩
theorem g_iloadN (h : At T m c below) (hx : p.tables.exec = Jvm.exec) {j : Fin 4} {v : Int32} (hd : decode c.code pc = .ok (.iload_n j, 1)) (hp : pc + 1 = pc') (hl : L[j.val]? = some (.val (.int v))) (hr : own_Gl p e below s Q kc ks (T.setTop (mkF m pc' L (.int v :: S)))) : own_Gl p e below s Q kc ks (T.setTop (mkF m pc L S)) := by
  subst hp; exact hr.go fun t k => XS.iloadN h hx rfl hd hl k
theorem g_lloadN (h : At T m c below) (hx : p.tables.exec = Jvm.exec) {j : Fin 4} {v : Int64} (hd : decode c.code pc = .ok (.lload_n j, 1)) (hp : pc + 1 = pc') (hl : L[j.val]? = some (.val (.long v))) (hr : own_Gl p e below s Q kc ks (T.setTop (mkF m pc' L (.long v :: S)))) : own_Gl p e below s Q kc ks (T.setTop (mkF m pc L S)) := by
  subst hp; exact hr.go fun t k => XS.lloadN h hx rfl hd hl k
theorem g_aloadN (h : At T m c below) (hx : p.tables.exec = Jvm.exec) {j : Fin 4} {v : Value} (hd : decode c.code pc = .ok (.aload_n j, 1)) (hp : pc + 1 = pc') (hl : L[j.val]? = some (.val v)) (hv : v.isRef = true) (hr : own_Gl p e below s Q kc ks (T.setTop (mkF m pc' L (v :: S)))) : own_Gl p e below s Q kc ks (T.setTop (mkF m pc L S)) := by
  subst hp; exact hr.go fun t k => XS.aloadN h hx rfl hd hl hv k
theorem g_istoreN (h : At T m c below) (hx : p.tables.exec = Jvm.exec) {j : Fin 4} {v : Int32} (hd : decode c.code pc = .ok (.istore_n j, 1)) (hp : pc + 1 = pc') (hl : storeLocals L j.val (.int v) = some L') (hr : own_Gl p e below s Q kc ks (T.setTop (mkF m pc' L' S))) : own_Gl p e below s Q kc ks (T.setTop (mkF m pc L (.int v :: S))) := by
  subst hp; exact hr.go fun t k => XS.istoreN h hx rfl hd rfl hl k
theorem g_lstoreN (h : At T m c below) (hx : p.tables.exec = Jvm.exec) {j : Fin 4} {v : Int64} (hd : decode c.code pc = .ok (.lstore_n j, 1)) (hp : pc + 1 = pc') (hl : storeLocals L j.val (.long v) = some L') (hr : own_Gl p e below s Q kc ks (T.setTop (mkF m pc' L' S))) : own_Gl p e below s Q kc ks (T.setTop (mkF m pc L (.long v :: S))) := by
  subst hp; exact hr.go fun t k => XS.lstoreN h hx rfl hd rfl hl k
theorem g_astoreN (h : At T m c below) (hx : p.tables.exec = Jvm.exec) {j : Fin 4} {v : Value} (hd : decode c.code pc = .ok (.astore_n j, 1)) (hp : pc + 1 = pc') (hv : v.isRef = true) (hl : storeLocals L j.val v = some L') (hr : own_Gl p e below s Q kc ks (T.setTop (mkF m pc' L' S))) : own_Gl p e below s Q kc ks (T.setTop (mkF m pc L (v :: S))) := by
  subst hp; exact hr.go fun t k => XS.astoreN h hx rfl hd rfl hv hl k
theorem g_iload (h : At T m c below) (hx : p.tables.exec = Jvm.exec) {j : Nat} {v : Int32} (hd : decode c.code pc = .ok (.iload j, 2)) (hp : pc + 2 = pc') (hl : L[j]? = some (.val (.int v))) (hr : own_Gl p e below s Q kc ks (T.setTop (mkF m pc' L (.int v :: S)))) : own_Gl p e below s Q kc ks (T.setTop (mkF m pc L S)) := by
  subst hp; exact hr.go fun t k => XS.iload h hx rfl hd hl k
theorem g_lload (h : At T m c below) (hx : p.tables.exec = Jvm.exec) {j : Nat} {v : Int64} (hd : decode c.code pc = .ok (.lload j, 2)) (hp : pc + 2 = pc') (hl : L[j]? = some (.val (.long v))) (hr : own_Gl p e below s Q kc ks (T.setTop (mkF m pc' L (.long v :: S)))) : own_Gl p e below s Q kc ks (T.setTop (mkF m pc L S)) := by
  subst hp; exact hr.go fun t k => XS.lload h hx rfl hd hl k
theorem g_aload (h : At T m c below) (hx : p.tables.exec = Jvm.exec) {j : Nat} {v : Value} (hd : decode c.code pc = .ok (.aload j, 2)) (hp : pc + 2 = pc') (hl : L[j]? = some (.val v)) (hv : v.isRef = true) (hr : own_Gl p e below s Q kc ks (T.setTop (mkF m pc' L (v :: S)))) : own_Gl p e below s Q kc ks (T.setTop (mkF m pc L S)) := by
  subst hp; exact hr.go fun t k => XS.aload h hx rfl hd hl hv k
theorem g_istore (h : At T m c below) (hx : p.tables.exec = Jvm.exec) {j : Nat} {v : Int32} (hd : decode c.code pc = .ok (.istore j, 2)) (hp : pc + 2 = pc') (hl : storeLocals L j (.int v) = some L') (hr : own_Gl p e below s Q kc ks (T.setTop (mkF m pc' L' S))) : own_Gl p e below s Q kc ks (T.setTop (mkF m pc L (.int v :: S))) := by
  subst hp; exact hr.go fun t k => XS.istore h hx rfl hd rfl hl k
theorem g_lstore (h : At T m c below) (hx : p.tables.exec = Jvm.exec) {j : Nat} {v : Int64} (hd : decode c.code pc = .ok (.lstore j, 2)) (hp : pc + 2 = pc') (hl : storeLocals L j (.long v) = some L') (hr : own_Gl p e below s Q kc ks (T.setTop (mkF m pc' L' S))) : own_Gl p e below s Q kc ks (T.setTop (mkF m pc L (.long v :: S))) := by
  subst hp; exact hr.go fun t k => XS.lstore h hx rfl hd rfl hl k
theorem g_astore (h : At T m c below) (hx : p.tables.exec = Jvm.exec) {j : Nat} {v : Value} (hd : decode c.code pc = .ok (.astore j, 2)) (hp : pc + 2 = pc') (hv : v.isRef = true) (hl : storeLocals L j v = some L') (hr : own_Gl p e below s Q kc ks (T.setTop (mkF m pc' L' S))) : own_Gl p e below s Q kc ks (T.setTop (mkF m pc L (v :: S))) := by
  subst hp; exact hr.go fun t k => XS.astore h hx rfl hd rfl hv hl k
theorem g_iconst (h : At T m c below) (hx : p.tables.exec = Jvm.exec) {i : Int} {z : Int32} (hd : decode c.code pc = .ok (.iconst i, 1)) (hp : pc + 1 = pc') (hz : Int32.ofInt i = z) (hr : own_Gl p e below s Q kc ks (T.setTop (mkF m pc' L (.int z :: S)))) : own_Gl p e below s Q kc ks (T.setTop (mkF m pc L S)) := by
  subst hp hz; exact hr.go fun t k => XS.iconst h hx rfl hd k
theorem g_bipush (h : At T m c below) (hx : p.tables.exec = Jvm.exec) {i : Int} {z : Int32} (hd : decode c.code pc = .ok (.bipush i, 2)) (hp : pc + 2 = pc') (hz : (Int8.ofInt i).toInt32 = z) (hr : own_Gl p e below s Q kc ks (T.setTop (mkF m pc' L (.int z :: S)))) : own_Gl p e below s Q kc ks (T.setTop (mkF m pc L S)) := by
  subst hp hz; exact hr.go fun t k => XS.bipush h hx rfl hd k
theorem g_sipush (h : At T m c below) (hx : p.tables.exec = Jvm.exec) {i : Int} {z : Int32} (hd : decode c.code pc = .ok (.sipush i, 3)) (hp : pc + 3 = pc') (hz : (Int16.ofInt i).toInt32 = z) (hr : own_Gl p e below s Q kc ks (T.setTop (mkF m pc' L (.int z :: S)))) : own_Gl p e below s Q kc ks (T.setTop (mkF m pc L S)) := by
  subst hp hz; exact hr.go fun t k => XS.sipush h hx rfl hd k
theorem g_lconst (h : At T m c below) (hx : p.tables.exec = Jvm.exec) {i : Fin 2} {z : Int64} (hd : decode c.code pc = .ok (.lconst i, 1)) (hp : pc + 1 = pc') (hz : Int64.ofNat i = z) (hr : own_Gl p e below s Q kc ks (T.setTop (mkF m pc' L (.long z :: S)))) : own_Gl p e below s Q kc ks (T.setTop (mkF m pc L S)) := by
  subst hp hz; exact hr.go fun t k => XS.lconst h hx rfl hd k
theorem g_aconstNull (h : At T m c below) (hx : p.tables.exec = Jvm.exec)  (hd : decode c.code pc = .ok (.aconst_null, 1)) (hp : pc + 1 = pc')  (hr : own_Gl p e below s Q kc ks (T.setTop (mkF m pc' L (.null :: S)))) : own_Gl p e below s Q kc ks (T.setTop (mkF m pc L S)) := by
  subst hp; exact hr.go fun t k => XS.aconstNull h hx rfl hd k
theorem g_iadd (h : At T m c below) (hx : p.tables.exec = Jvm.exec) {u v : Int32} (hd : decode c.code pc = .ok (.iadd, 1)) (hp : pc + 1 = pc')  (hr : own_Gl p e below s Q kc ks (T.setTop (mkF m pc' L (.int (u + v) :: S)))) : own_Gl p e below s Q kc ks (T.setTop (mkF m pc L (.int v :: .int u :: S))) := by
  subst hp; exact hr.go fun t k => XS.iadd h hx rfl hd rfl k
theorem g_ladd (h : At T m c below) (hx : p.tables.exec = Jvm.exec) {u v : Int64} (hd : decode c.code pc = .ok (.ladd, 1)) (hp : pc + 1 = pc')  (hr : own_Gl p e below s Q kc ks (T.setTop (mkF m pc' L (.long (u + v) :: S)))) : own_Gl p e below s Q kc ks (T.setTop (mkF m pc L (.long v :: .long u :: S))) := by
  subst hp; exact hr.go fun t k => XS.ladd h hx rfl hd rfl k
theorem g_isub (h : At T m c below) (hx : p.tables.exec = Jvm.exec) {u v : Int32} (hd : decode c.code pc = .ok (.isub, 1)) (hp : pc + 1 = pc')  (hr : own_Gl p e below s Q kc ks (T.setTop (mkF m pc' L (.int (u - v) :: S)))) : own_Gl p e below s Q kc ks (T.setTop (mkF m pc L (.int v :: .int u :: S))) := by
  subst hp; exact hr.go fun t k => XS.isub h hx rfl hd rfl k
theorem g_lsub (h : At T m c below) (hx : p.tables.exec = Jvm.exec) {u v : Int64} (hd : decode c.code pc = .ok (.lsub, 1)) (hp : pc + 1 = pc')  (hr : own_Gl p e below s Q kc ks (T.setTop (mkF m pc' L (.long (u - v) :: S)))) : own_Gl p e below s Q kc ks (T.setTop (mkF m pc L (.long v :: .long u :: S))) := by
  subst hp; exact hr.go fun t k => XS.lsub h hx rfl hd rfl k
theorem g_imul (h : At T m c below) (hx : p.tables.exec = Jvm.exec) {u v : Int32} (hd : decode c.code pc = .ok (.imul, 1)) (hp : pc + 1 = pc')  (hr : own_Gl p e below s Q kc ks (T.setTop (mkF m pc' L (.int (u * v) :: S)))) : own_Gl p e below s Q kc ks (T.setTop (mkF m pc L (.int v :: .int u :: S))) := by
  subst hp; exact hr.go fun t k => XS.imul h hx rfl hd rfl k
theorem g_lmul (h : At T m c below) (hx : p.tables.exec = Jvm.exec) {u v : Int64} (hd : decode c.code pc = .ok (.lmul, 1)) (hp : pc + 1 = pc')  (hr : own_Gl p e below s Q kc ks (T.setTop (mkF m pc' L (.long (u * v) :: S)))) : own_Gl p e below s Q kc ks (T.setTop (mkF m pc L (.long v :: .long u :: S))) := by
  subst hp; exact hr.go fun t k => XS.lmul h hx rfl hd rfl k
theorem g_iand (h : At T m c below) (hx : p.tables.exec = Jvm.exec) {u v : Int32} (hd : decode c.code pc = .ok (.iand, 1)) (hp : pc + 1 = pc')  (hr : own_Gl p e below s Q kc ks (T.setTop (mkF m pc' L (.int (u &&& v) :: S)))) : own_Gl p e below s Q kc ks (T.setTop (mkF m pc L (.int v :: .int u :: S))) := by
  subst hp; exact hr.go fun t k => XS.iand h hx rfl hd rfl k
theorem g_land (h : At T m c below) (hx : p.tables.exec = Jvm.exec) {u v : Int64} (hd : decode c.code pc = .ok (.land, 1)) (hp : pc + 1 = pc')  (hr : own_Gl p e below s Q kc ks (T.setTop (mkF m pc' L (.long (u &&& v) :: S)))) : own_Gl p e below s Q kc ks (T.setTop (mkF m pc L (.long v :: .long u :: S))) := by
  subst hp; exact hr.go fun t k => XS.land h hx rfl hd rfl k
theorem g_ior (h : At T m c below) (hx : p.tables.exec = Jvm.exec) {u v : Int32} (hd : decode c.code pc = .ok (.ior, 1)) (hp : pc + 1 = pc')  (hr : own_Gl p e below s Q kc ks (T.setTop (mkF m pc' L (.int (u ||| v) :: S)))) : own_Gl p e below s Q kc ks (T.setTop (mkF m pc L (.int v :: .int u :: S))) := by
  subst hp; exact hr.go fun t k => XS.ior h hx rfl hd rfl k
theorem g_lor (h : At T m c below) (hx : p.tables.exec = Jvm.exec) {u v : Int64} (hd : decode c.code pc = .ok (.lor, 1)) (hp : pc + 1 = pc')  (hr : own_Gl p e below s Q kc ks (T.setTop (mkF m pc' L (.long (u ||| v) :: S)))) : own_Gl p e below s Q kc ks (T.setTop (mkF m pc L (.long v :: .long u :: S))) := by
  subst hp; exact hr.go fun t k => XS.lor h hx rfl hd rfl k
theorem g_ixor (h : At T m c below) (hx : p.tables.exec = Jvm.exec) {u v : Int32} (hd : decode c.code pc = .ok (.ixor, 1)) (hp : pc + 1 = pc')  (hr : own_Gl p e below s Q kc ks (T.setTop (mkF m pc' L (.int (u ^^^ v) :: S)))) : own_Gl p e below s Q kc ks (T.setTop (mkF m pc L (.int v :: .int u :: S))) := by
  subst hp; exact hr.go fun t k => XS.ixor h hx rfl hd rfl k
theorem g_lxor (h : At T m c below) (hx : p.tables.exec = Jvm.exec) {u v : Int64} (hd : decode c.code pc = .ok (.lxor, 1)) (hp : pc + 1 = pc')  (hr : own_Gl p e below s Q kc ks (T.setTop (mkF m pc' L (.long (u ^^^ v) :: S)))) : own_Gl p e below s Q kc ks (T.setTop (mkF m pc L (.long v :: .long u :: S))) := by
  subst hp; exact hr.go fun t k => XS.lxor h hx rfl hd rfl k
theorem g_ishl (h : At T m c below) (hx : p.tables.exec = Jvm.exec) {u v : Int32} (hd : decode c.code pc = .ok (.ishl, 1)) (hp : pc + 1 = pc')  (hr : own_Gl p e below s Q kc ks (T.setTop (mkF m pc' L (.int (u <<< (v &&& 31)) :: S)))) : own_Gl p e below s Q kc ks (T.setTop (mkF m pc L (.int v :: .int u :: S))) := by
  subst hp; exact hr.go fun t k => XS.ishl h hx rfl hd rfl k
theorem g_ishr (h : At T m c below) (hx : p.tables.exec = Jvm.exec) {u v : Int32} (hd : decode c.code pc = .ok (.ishr, 1)) (hp : pc + 1 = pc')  (hr : own_Gl p e below s Q kc ks (T.setTop (mkF m pc' L (.int (u >>> (v &&& 31)) :: S)))) : own_Gl p e below s Q kc ks (T.setTop (mkF m pc L (.int v :: .int u :: S))) := by
  subst hp; exact hr.go fun t k => XS.ishr h hx rfl hd rfl k
theorem g_iushr (h : At T m c below) (hx : p.tables.exec = Jvm.exec) {u v : Int32} (hd : decode c.code pc = .ok (.iushr, 1)) (hp : pc + 1 = pc')  (hr : own_Gl p e below s Q kc ks (T.setTop (mkF m pc' L (.int ((u.toUInt32 >>> (v &&& 31).toUInt32).toInt32) :: S)))) : own_Gl p e below s Q kc ks (T.setTop (mkF m pc L (.int v :: .int u :: S))) := by
  subst hp; exact hr.go fun t k => XS.iushr h hx rfl hd rfl k
theorem g_lshl (h : At T m c below) (hx : p.tables.exec = Jvm.exec) {u : Int64} {v : Int32} (hd : decode c.code pc = .ok (.lshl, 1)) (hp : pc + 1 = pc')  (hr : own_Gl p e below s Q kc ks (T.setTop (mkF m pc' L (.long (u <<< (v &&& 0x3f).toInt64) :: S)))) : own_Gl p e below s Q kc ks (T.setTop (mkF m pc L (.int v :: .long u :: S))) := by
  subst hp; exact hr.go fun t k => XS.lshl h hx rfl hd rfl k
theorem g_lshr (h : At T m c below) (hx : p.tables.exec = Jvm.exec) {u : Int64} {v : Int32} (hd : decode c.code pc = .ok (.lshr, 1)) (hp : pc + 1 = pc')  (hr : own_Gl p e below s Q kc ks (T.setTop (mkF m pc' L (.long (u >>> (v &&& 0x3f).toInt64) :: S)))) : own_Gl p e below s Q kc ks (T.setTop (mkF m pc L (.int v :: .long u :: S))) := by
  subst hp; exact hr.go fun t k => XS.lshr h hx rfl hd rfl k
theorem g_lushr (h : At T m c below) (hx : p.tables.exec = Jvm.exec) {u : Int64} {v : Int32} (hd : decode c.code pc = .ok (.lushr, 1)) (hp : pc + 1 = pc')  (hr : own_Gl p e below s Q kc ks (T.setTop (mkF m pc' L (.long ((u.toUInt64 >>> (v &&& 0x3f).toInt64.toUInt64).toInt64) :: S)))) : own_Gl p e below s Q kc ks (T.setTop (mkF m pc L (.int v :: .long u :: S))) := by
  subst hp; exact hr.go fun t k => XS.lushr h hx rfl hd rfl k
theorem g_idiv (h : At T m c below) (hx : p.tables.exec = Jvm.exec) {u v : Int32} (hd : decode c.code pc = .ok (.idiv, 1)) (hp : pc + 1 = pc') (hy : v ≠ 0) (hr : own_Gl p e below s Q kc ks (T.setTop (mkF m pc' L (.int (u / v) :: S)))) : own_Gl p e below s Q kc ks (T.setTop (mkF m pc L (.int v :: .int u :: S))) := by
  subst hp; exact hr.go fun t k => XS.idiv h hx rfl hd rfl hy k
theorem g_ldiv (h : At T m c below) (hx : p.tables.exec = Jvm.exec) {u v : Int64} (hd : decode c.code pc = .ok (.ldiv, 1)) (hp : pc + 1 = pc') (hy : v ≠ 0) (hr : own_Gl p e below s Q kc ks (T.setTop (mkF m pc' L (.long (u / v) :: S)))) : own_Gl p e below s Q kc ks (T.setTop (mkF m pc L (.long v :: .long u :: S))) := by
  subst hp; exact hr.go fun t k => XS.ldiv h hx rfl hd rfl hy k
theorem g_irem (X : Stand p l e R s m args below meth c T locs cells slots) (hx : p.tables.exec = Jvm.exec) {u v : Int32} (hd : decode c.code pc = .ok (.irem, 1)) (hp : pc + 1 = pc') (hy : v ≠ 0) (hr : own_Gl p e below s Q kc ks (T.setTop (mkF m pc' L (.int (u % v) :: S)))) : own_Gl p e below s Q kc ks (T.setTop (mkF m pc L (.int v :: .int u :: S))) := by
  subst hp; exact hr.go fun t k => iremM X hx rfl hd rfl hy k
theorem g_lrem (h : At T m c below) (hx : p.tables.exec = Jvm.exec) {u v : Int64} (hd : decode c.code pc = .ok (.lrem, 1)) (hp : pc + 1 = pc') (hy : v ≠ 0) (hr : own_Gl p e below s Q kc ks (T.setTop (mkF m pc' L (.long (u % v) :: S)))) : own_Gl p e below s Q kc ks (T.setTop (mkF m pc L (.long v :: .long u :: S))) := by
  subst hp; exact hr.go fun t k => XS.lrem h hx rfl hd rfl hy (by rw [lrem_mod]; exact k)
theorem g_ineg (h : At T m c below) (hx : p.tables.exec = Jvm.exec) {u : Int32} (hd : decode c.code pc = .ok (.ineg, 1)) (hp : pc + 1 = pc')  (hr : own_Gl p e below s Q kc ks (T.setTop (mkF m pc' L (.int (-u) :: S)))) : own_Gl p e below s Q kc ks (T.setTop (mkF m pc L (.int u :: S))) := by
  subst hp; exact hr.go fun t k => XS.ineg h hx rfl hd rfl k
theorem g_lneg (h : At T m c below) (hx : p.tables.exec = Jvm.exec) {u : Int64} (hd : decode c.code pc = .ok (.lneg, 1)) (hp : pc + 1 = pc')  (hr : own_Gl p e below s Q kc ks (T.setTop (mkF m pc' L (.long (-u) :: S)))) : own_Gl p e below s Q kc ks (T.setTop (mkF m pc L (.long u :: S))) := by
  subst hp; exact hr.go fun t k => XS.lneg h hx rfl hd rfl k
theorem g_i2l (h : At T m c below) (hx : p.tables.exec = Jvm.exec) {u : Int32} (hd : decode c.code pc = .ok (.i2l, 1)) (hp : pc + 1 = pc')  (hr : own_Gl p e below s Q kc ks (T.setTop (mkF m pc' L (.long u.toInt64 :: S)))) : own_Gl p e below s Q kc ks (T.setTop (mkF m pc L (.int u :: S))) := by
  subst hp; exact hr.go fun t k => XS.i2l h hx rfl hd rfl k
theorem g_l2i (h : At T m c below) (hx : p.tables.exec = Jvm.exec) {u : Int64} (hd : decode c.code pc = .ok (.l2i, 1)) (hp : pc + 1 = pc')  (hr : own_Gl p e below s Q kc ks (T.setTop (mkF m pc' L (.int u.toInt32 :: S)))) : own_Gl p e below s Q kc ks (T.setTop (mkF m pc L (.long u :: S))) := by
  subst hp; exact hr.go fun t k => XS.l2i h hx rfl hd rfl k
theorem g_i2b (h : At T m c below) (hx : p.tables.exec = Jvm.exec) {u : Int32} (hd : decode c.code pc = .ok (.i2b, 1)) (hp : pc + 1 = pc')  (hr : own_Gl p e below s Q kc ks (T.setTop (mkF m pc' L (.int u.toInt8.toInt32 :: S)))) : own_Gl p e below s Q kc ks (T.setTop (mkF m pc L (.int u :: S))) := by
  subst hp; exact hr.go fun t k => XS.i2b h hx rfl hd rfl k
theorem g_i2s (h : At T m c below) (hx : p.tables.exec = Jvm.exec) {u : Int32} (hd : decode c.code pc = .ok (.i2s, 1)) (hp : pc + 1 = pc')  (hr : own_Gl p e below s Q kc ks (T.setTop (mkF m pc' L (.int u.toInt16.toInt32 :: S)))) : own_Gl p e below s Q kc ks (T.setTop (mkF m pc L (.int u :: S))) := by
  subst hp; exact hr.go fun t k => XS.i2s h hx rfl hd rfl k
theorem g_i2c (h : At T m c below) (hx : p.tables.exec = Jvm.exec) {u : Int32} (hd : decode c.code pc = .ok (.i2c, 1)) (hp : pc + 1 = pc')  (hr : own_Gl p e below s Q kc ks (T.setTop (mkF m pc' L (.int u.toUInt32.toUInt16.toUInt32.toInt32 :: S)))) : own_Gl p e below s Q kc ks (T.setTop (mkF m pc L (.int u :: S))) := by
  subst hp; exact hr.go fun t k => XS.i2c h hx rfl hd rfl k
theorem g_lcmp (h : At T m c below) (hx : p.tables.exec = Jvm.exec) {u v : Int64} (hd : decode c.code pc = .ok (.lcmp, 1)) (hp : pc + 1 = pc')  (hr : own_Gl p e below s Q kc ks (T.setTop (mkF m pc' L (.int (lcmpW u v) :: S)))) : own_Gl p e below s Q kc ks (T.setTop (mkF m pc L (.long v :: .long u :: S))) := by
  subst hp; exact hr.go fun t k => XS.lcmp h hx rfl hd rfl k
theorem g_dup (h : At T m c below) (hx : p.tables.exec = Jvm.exec) {v : Value} (hd : decode c.code pc = .ok (.dup, 1)) (hp : pc + 1 = pc') (hc : v.category = 1) (hr : own_Gl p e below s Q kc ks (T.setTop (mkF m pc' L (v :: v :: S)))) : own_Gl p e below s Q kc ks (T.setTop (mkF m pc L (v :: S))) := by
  subst hp; exact hr.go fun t k => XS.dup h hx rfl hd rfl hc k
theorem g_pop (h : At T m c below) (hx : p.tables.exec = Jvm.exec) {v : Value} (hd : decode c.code pc = .ok (.pop, 1)) (hp : pc + 1 = pc') (hc : v.category = 1) (hr : own_Gl p e below s Q kc ks (T.setTop (mkF m pc' L S))) : own_Gl p e below s Q kc ks (T.setTop (mkF m pc L (v :: S))) := by
  subst hp; exact hr.go fun t k => XS.pop h hx rfl hd rfl hc k
theorem g_dupX1 (h : At T m c below) (hx : p.tables.exec = Jvm.exec) {v w : Value} (hd : decode c.code pc = .ok (.dup_x1, 1)) (hp : pc + 1 = pc') (hc : v.category = 1) (hc' : w.category = 1) (hr : own_Gl p e below s Q kc ks (T.setTop (mkF m pc' L (v :: w :: v :: S)))) : own_Gl p e below s Q kc ks (T.setTop (mkF m pc L (v :: w :: S))) := by
  subst hp; exact hr.go fun t k => XS.dupX1 h hx rfl hd rfl hc hc' k
theorem g_dup2 (h : At T m c below) (hx : p.tables.exec = Jvm.exec) {v w : Value} (hd : decode c.code pc = .ok (.dup2, 1)) (hp : pc + 1 = pc') (hc : v.category = 1) (hc' : w.category = 1) (hr : own_Gl p e below s Q kc ks (T.setTop (mkF m pc' L (v :: w :: v :: w :: S)))) : own_Gl p e below s Q kc ks (T.setTop (mkF m pc L (v :: w :: S))) := by
  subst hp; exact hr.go fun t k => XT.dup2 h hx rfl hd rfl hc hc' k
theorem g_dup2L (h : At T m c below) (hx : p.tables.exec = Jvm.exec) {v : Int64} (hd : decode c.code pc = .ok (.dup2, 1)) (hp : pc + 1 = pc')  (hr : own_Gl p e below s Q kc ks (T.setTop (mkF m pc' L (.long v :: .long v :: S)))) : own_Gl p e below s Q kc ks (T.setTop (mkF m pc L (.long v :: S))) := by
  subst hp; exact hr.go fun t k => XT.dup2L h hx rfl hd rfl k
theorem g_pop2L (h : At T m c below) (hx : p.tables.exec = Jvm.exec) {v : Int64} (hd : decode c.code pc = .ok (.pop2, 1)) (hp : pc + 1 = pc') (hr : own_Gl p e below s Q kc ks (T.setTop (mkF m pc' L S))) : own_Gl p e below s Q kc ks (T.setTop (mkF m pc L (.long v :: S))) := by
  subst hp
  refine hr.go fun t k => ?_
  jvm_step h [h.top, hx, hd, Value.category]
  exact k
theorem g_iinc (h : At T m c below) (hx : p.tables.exec = Jvm.exec) {j : Nat} {i : Int} {v z : Int32} (hd : decode c.code pc = .ok (.iinc j i, 3)) (hp : pc + 3 = pc') (hz : Int32.ofInt i = z) (hl : L[j]? = some (.val (.int v))) (hl' : storeLocals L j (.int (v + z)) = some L') (hr : own_Gl p e below s Q kc ks (T.setTop (mkF m pc' L' S))) : own_Gl p e below s Q kc ks (T.setTop (mkF m pc L S)) := by
  subst hp; exact hr.go fun t k => XS.iinc h hx rfl hd hl (by rw [hz]; exact hl') k
theorem g_goto (h : At T m c below) (hx : p.tables.exec = Jvm.exec) {i : Int} (hd : decode c.code pc = .ok (.goto i, 3)) (ho : 0 ≤ (pc : Int) + i) (hp : ((pc : Int) + i).toNat = pc') (hr : own_Gl p e below s Q kc ks (T.setTop (mkF m pc' L S))) : own_Gl p e below s Q kc ks (T.setTop (mkF m pc L S)) := hr.go fun t k => XS.goto h hx rfl (pc0 := pc) rfl hd ho hp k
theorem g_ifY (h : At T m c below) (hx : p.tables.exec = Jvm.exec) {cd : ClassFile.Cond} {i : Int} {x : Int32} (hd : decode c.code pc = .ok (.ifCond cd i, 3)) (ho : 0 ≤ (pc : Int) + i) (hp : ((pc : Int) + i).toNat = pc') (hc : ifCond.holds cd x = true) (hr : own_Gl p e below s Q kc ks (T.setTop (mkF m pc' L S))) : own_Gl p e below s Q kc ks (T.setTop (mkF m pc L (.int x :: S))) := hr.go fun t k => XS.ifYes h hx rfl (pc0 := pc) rfl hd rfl hc ho hp k
theorem g_ifN (h : At T m c below) (hx : p.tables.exec = Jvm.exec) {cd : ClassFile.Cond} {i : Int} {x : Int32} (hd : decode c.code pc = .ok (.ifCond cd i, 3)) (hp : pc + 3 = pc') (hc : ifCond.holds cd x = false) (hr : own_Gl p e below s Q kc ks (T.setTop (mkF m pc' L S))) : own_Gl p e below s Q kc ks (T.setTop (mkF m pc L (.int x :: S))) := by
  subst hp; exact hr.go fun t k => XS.ifNo h hx rfl hd rfl hc k
theorem g_icY (h : At T m c below) (hx : p.tables.exec = Jvm.exec) {cd : ClassFile.Cond} {i : Int} {x y : Int32} (hd : decode c.code pc = .ok (.if_icmp cd i, 3)) (ho : 0 ≤ (pc : Int) + i) (hp : ((pc : Int) + i).toNat = pc') (hc : if_icmp.holds cd x y = true) (hr : own_Gl p e below s Q kc ks (T.setTop (mkF m pc' L S))) : own_Gl p e below s Q kc ks (T.setTop (mkF m pc L (.int y :: .int x :: S))) := hr.go fun t k => XS.icmpYes h hx rfl (pc0 := pc) rfl hd rfl hc ho hp k
theorem g_icN (h : At T m c below) (hx : p.tables.exec = Jvm.exec) {cd : ClassFile.Cond} {i : Int} {x y : Int32} (hd : decode c.code pc = .ok (.if_icmp cd i, 3)) (hp : pc + 3 = pc') (hc : if_icmp.holds cd x y = false) (hr : own_Gl p e below s Q kc ks (T.setTop (mkF m pc' L S))) : own_Gl p e below s Q kc ks (T.setTop (mkF m pc L (.int y :: .int x :: S))) := by
  subst hp; exact hr.go fun t k => XS.icmpNo h hx rfl hd rfl hc k
theorem g_ifnullY (h : At T m c below) (hx : p.tables.exec = Jvm.exec)  {i : Int} (hd : decode c.code pc = .ok (.ifnull i, 3)) (ho : 0 ≤ (pc : Int) + i) (hp : ((pc : Int) + i).toNat = pc') (hr : own_Gl p e below s Q kc ks (T.setTop (mkF m pc' L S))) : own_Gl p e below s Q kc ks (T.setTop (mkF m pc L (.null :: S))) := hr.go fun t k => XS.ifnullYes h hx rfl (pc0 := pc) rfl hd rfl ho hp k
theorem g_ifnullN (h : At T m c below) (hx : p.tables.exec = Jvm.exec) {b : Addr} {i : Int} (hd : decode c.code pc = .ok (.ifnull i, 3)) (hp : pc + 3 = pc') (hr : own_Gl p e below s Q kc ks (T.setTop (mkF m pc' L S))) : own_Gl p e below s Q kc ks (T.setTop (mkF m pc L (.ref b :: S))) := by
  subst hp; exact hr.go fun t k => XS.ifnullNo h hx rfl hd rfl k
theorem g_ifnonnullY (h : At T m c below) (hx : p.tables.exec = Jvm.exec) {b : Addr} {i : Int} (hd : decode c.code pc = .ok (.ifnonnull i, 3)) (ho : 0 ≤ (pc : Int) + i) (hp : ((pc : Int) + i).toNat = pc') (hr : own_Gl p e below s Q kc ks (T.setTop (mkF m pc' L S))) : own_Gl p e below s Q kc ks (T.setTop (mkF m pc L (.ref b :: S))) := hr.go fun t k => XS.ifnonnullYes h hx rfl (pc0 := pc) rfl hd rfl ho hp k
theorem g_ifnonnullN (h : At T m c below) (hx : p.tables.exec = Jvm.exec)  {i : Int} (hd : decode c.code pc = .ok (.ifnonnull i, 3)) (hp : pc + 3 = pc') (hr : own_Gl p e below s Q kc ks (T.setTop (mkF m pc' L S))) : own_Gl p e below s Q kc ks (T.setTop (mkF m pc L (.null :: S))) := by
  subst hp; exact hr.go fun t k => XS.ifnonnullNo h hx rfl hd rfl k
theorem g_ldc (X : Stand p l e R s m args below meth c T locs cells slots) (hx : p.tables.exec = Jvm.exec) (hZ : Z.Warmed39 s.vm) {own : String} {index : Nat} {v : Int32} (hown : s.vm.findClass own = some m.cls) (w : (Jvm.Cond.constant own index v).before a0 Z = true) (hd : decode c.code pc = .ok (.ldc index, 2)) (hp : pc + 2 = pc') (hr : own_Gl p e below s Q kc ks (T.setTop (mkF m pc' L (.int v :: S)))) : own_Gl p e below s Q kc ks (T.setTop (mkF m pc L S)) := by
  subst hp; exact hr.go (X.ldcInt hx hown (mvT hZ w) (g := mkF m pc L S) rfl hd)
theorem g_ldcw (X : Stand p l e R s m args below meth c T locs cells slots) (hx : p.tables.exec = Jvm.exec) (hZ : Z.Warmed39 s.vm) {own : String} {index : Nat} {v : Int32} (hown : s.vm.findClass own = some m.cls) (w : (Jvm.Cond.constant own index v).before a0 Z = true) (hd : decode c.code pc = .ok (.ldc_w index, 3)) (hp : pc + 3 = pc') (hr : own_Gl p e below s Q kc ks (T.setTop (mkF m pc' L (.int v :: S)))) : own_Gl p e below s Q kc ks (T.setTop (mkF m pc L S)) := by
  subst hp; exact hr.go (X.ldcwInt hx hown (mvT hZ w) (g := mkF m pc L S) rfl hd)
theorem g_ldc2 (X : Stand p l e R s m args below meth c T locs cells slots) (hx : p.tables.exec = Jvm.exec) (hZ : Z.Warmed39 s.vm) {own : String} {index : Nat} {v : Int64} (hown : s.vm.findClass own = some m.cls) (w : (Jvm.Cond.constantLong own index v).before a0 Z = true) (hd : decode c.code pc = .ok (.ldc2_w index, 3)) (hp : pc + 3 = pc') (hr : own_Gl p e below s Q kc ks (T.setTop (mkF m pc' L (.long v :: S)))) : own_Gl p e below s Q kc ks (T.setTop (mkF m pc L S)) := by
  subst hp; exact hr.go (X.ldc2Long hx hown (mvT hZ w) (g := mkF m pc L S) rfl hd)
end OwnKit
def own_Q0 (n0 : Nat) (v : Option Value) (h : Heap) (L : List Loc) : Prop := v = some (.int 1) ∧ Fr n0 L
theorem d1_0 : decode method_2_code 0 = .ok (.iload_n 1, 1) := by decide +kernel
theorem d1_1 : decode method_2_code 1 = .ok (.iload_n 2, 1) := by decide +kernel
theorem d1_2 : decode method_2_code 2 = .ok (.ishr, 1) := by decide +kernel
theorem d1_3 : decode method_2_code 3 = .ok (.iconst 1, 1) := by decide +kernel
theorem d1_4 : decode method_2_code 4 = .ok (.iand, 1) := by decide +kernel
theorem d1_5 : decode method_2_code 5 = .ok (.ifCond .eq 5, 3) := by decide +kernel
theorem d1_10 : decode method_2_code 10 = .ok (.bipush 46, 2) := by decide +kernel
theorem d1_12 : decode method_2_code 12 = .ok (.iload_n 0, 1) := by decide +kernel
theorem d1_13 : decode method_2_code 13 = .ok (.ldc 7, 2) := by decide +kernel
theorem d1_15 : decode method_2_code 15 = .ok (.iand, 1) := by decide +kernel
theorem d1_16 : decode method_2_code 16 = .ok (.bipush 13, 2) := by decide +kernel
theorem d1_18 : decode method_2_code 18 = .ok (.irem, 1) := by decide +kernel
theorem d1_19 : decode method_2_code 19 = .ok (.iadd, 1) := by decide +kernel
theorem d1_20 : decode method_2_code 20 = .ok (.ireturn, 1) := by decide +kernel
theorem d1_8 : decode method_2_code 8 = .ok (.iload_n 0, 1) := by decide +kernel
theorem d1_9 : decode method_2_code 9 = .ok (.ireturn, 1) := by decide +kernel
def f_pick (x0 : Int32) (x1 : Int32) (x2 : Int32) : Int32 := (if ((x1 >>> (x2 &&& 31)) &&& (1 : Int32)) = (0 : Int32) then ((46 : Int32) + ((x0 &&& (2147483647 : Int32)) % (13 : Int32))) else x0)
theorem pn_0 : plainName "com/example/leaderline/leaderline/TagsIsControlPinLaw" = true := by first | (simp [plainName, overriddenIn]; done) | decide +kernel
theorem ef_1 (m : MethodId) (x0 : Int32) (x1 : Int32) (x2 : Int32) : entryFrame m #[(.int x0), (.int x1), (.int x2)] 3 = mkF m 0 #[.val (.int x0), .val (.int x1), .val (.int x2)] [] := by first | (simp [entryFrame, mkF, argsToLocals, Value.category]; done) | rfl
set_option maxRecDepth 65536 in
set_option maxHeartbeats 40000000 in
theorem rm1 (l : Launch) (Z : State) (a0 : Array Value) (hw : ∀ d ∈ tables_1, d.before a0 Z = true) (ws : List Jvm.Cond) (x0 : Int32) (x1 : Int32) (x2 : Int32) (h0 : Heap) :
    MetFree l (⟨"com/example/leaderline/leaderline/TagsIsControlPinLaw", "pick", "(III)I"⟩ : MethodName) (head1 (Jvm.Cond.code (⟨"com/example/leaderline/leaderline/TagsIsControlPinLaw", "pick", "(III)I"⟩ : MethodName) method_2_code 3 (some .int) :: ws) ({ frames := 0, cells := 0, slots := 0, locals := 0 } : Room)) (fun a U => a = #[(.int x0), (.int x1), (.int x2)] ∧ Z.Warmed39 U.vm ∧ U.heap = h0) (fun _ _ _ _ _ => True) (fun _ U o U' => ∃ v L, o = .returned v ∧ (own_Pure (some (.int (f_pick x0 x1 x2))) h0) v U'.heap L ∧ FrameEnd U o U' L ({ frames := 0, cells := 0, slots := 0, locals := 0 } : Room).cells ({ frames := 0, cells := 0, slots := 0, locals := 0 } : Room).slots) := by
  refine own_body (own := "com/example/leaderline/leaderline/TagsIsControlPinLaw") pn_0 rfl (fun m => ef_1 m x0 x1 x2) ?_
  intro p e s m below meth c T0 hx hby hml hown hnm hlk hret hZ X0 e0
  have w_4 := hw _ (List.mem_of_getElem? (i := 4) rfl)
  refine g_iloadN X0.here hx (Jvm.hb hby d1_0) (pc' := 1) rfl rfl ?_
  refine g_iloadN X0.here hx (Jvm.hb hby d1_1) (pc' := 2) rfl rfl ?_
  refine g_ishr X0.here hx (Jvm.hb hby d1_2) (pc' := 3) rfl ?_
  refine g_iconst X0.here hx (Jvm.hb hby d1_3) (pc' := 4) rfl (z := (1 : Int32)) rfl ?_
  refine g_iand X0.here hx (Jvm.hb hby d1_4) (pc' := 5) rfl ?_
  by_cases hc5_0 : ((x1 >>> (x2 &&& 31)) &&& (1 : Int32)) = (0 : Int32)
  · refine g_ifY X0.here hx (Jvm.hb hby d1_5) (by decide) (pc' := 10) (by decide) ((if0 _ _).trans (teq hc5_0).1) ?_
    refine g_bipush X0.here hx (Jvm.hb hby d1_10) (pc' := 12) rfl (z := (46 : Int32)) rfl ?_
    refine g_iloadN X0.here hx (Jvm.hb hby d1_12) (pc' := 13) rfl rfl ?_
    refine g_ldc X0 hx hZ hown w_4 (Jvm.hb hby d1_13) (pc' := 15) rfl ?_
    refine g_iand X0.here hx (Jvm.hb hby d1_15) (pc' := 16) rfl ?_
    refine g_bipush X0.here hx (Jvm.hb hby d1_16) (pc' := 18) rfl (z := (13 : Int32)) rfl ?_
    refine g_irem X0 hx (Jvm.hb hby d1_18) (pc' := 19) rfl (by decide) ?_
    refine g_iadd X0.here hx (Jvm.hb hby d1_19) (pc' := 20) rfl ?_
    exact g_retI X0 hx hlk hret (Jvm.hb hby d1_20) (Nat.zero_le _) (Nat.zero_le _) ⟨by simp only [f_pick, if_pos hc5_0], rfl, e0⟩
  · refine g_ifN X0.here hx (Jvm.hb hby d1_5) (pc' := 8) rfl ((if0 _ _).trans (feq hc5_0).1) ?_
    refine g_iloadN X0.here hx (Jvm.hb hby d1_8) (pc' := 9) rfl rfl ?_
    exact g_retI X0 hx hlk hret (Jvm.hb hby d1_9) (Nat.zero_le _) (Nat.zero_le _) ⟨by simp only [f_pick, if_neg hc5_0], rfl, e0⟩
theorem d2_0 : decode method_3_code 0 = .ok (.iload_n 0, 1) := by decide +kernel
theorem d2_1 : decode method_3_code 1 = .ok (.bipush 48, 2) := by decide +kernel
theorem d2_3 : decode method_3_code 3 = .ok (.if_icmp .lt 13, 3) := by decide +kernel
theorem d2_16 : decode method_3_code 16 = .ok (.iconst 0, 1) := by decide +kernel
theorem d2_17 : decode method_3_code 17 = .ok (.ireturn, 1) := by decide +kernel
theorem d2_6 : decode method_3_code 6 = .ok (.iload_n 0, 1) := by decide +kernel
theorem d2_7 : decode method_3_code 7 = .ok (.bipush 57, 2) := by decide +kernel
theorem d2_9 : decode method_3_code 9 = .ok (.if_icmp .gt 7, 3) := by decide +kernel
theorem d2_12 : decode method_3_code 12 = .ok (.iconst 1, 1) := by decide +kernel
theorem d2_13 : decode method_3_code 13 = .ok (.goto 4, 3) := by decide +kernel
def f_dig (x0 : Int32) : Int32 := (if x0 < (48 : Int32) then (0 : Int32) else (if (57 : Int32) < x0 then (0 : Int32) else (1 : Int32)))
theorem ef_2 (m : MethodId) (x0 : Int32) : entryFrame m #[(.int x0)] 1 = mkF m 0 #[.val (.int x0)] [] := by first | (simp [entryFrame, mkF, argsToLocals, Value.category]; done) | rfl
set_option maxRecDepth 65536 in
set_option maxHeartbeats 40000000 in
theorem rm2 (l : Launch) (Z : State) (a0 : Array Value) (hw : ∀ d ∈ tables_1, d.before a0 Z = true) (ws : List Jvm.Cond) (x0 : Int32) (h0 : Heap) :
    MetFree l (⟨"com/example/leaderline/leaderline/TagsIsControlPinLaw", "isDigit", "(I)Z"⟩ : MethodName) (head1 (Jvm.Cond.code (⟨"com/example/leaderline/leaderline/TagsIsControlPinLaw", "isDigit", "(I)Z"⟩ : MethodName) method_3_code 1 (some .boolean) :: ws) ({ frames := 0, cells := 0, slots := 0, locals := 0 } : Room)) (fun a U => a = #[(.int x0)] ∧ Z.Warmed39 U.vm ∧ U.heap = h0) (fun _ _ _ _ _ => True) (fun _ U o U' => ∃ v L, o = .returned v ∧ (own_Pure (some (.int (f_dig x0))) h0) v U'.heap L ∧ FrameEnd U o U' L ({ frames := 0, cells := 0, slots := 0, locals := 0 } : Room).cells ({ frames := 0, cells := 0, slots := 0, locals := 0 } : Room).slots) := by
  refine own_body (own := "com/example/leaderline/leaderline/TagsIsControlPinLaw") pn_0 rfl (fun m => ef_2 m x0) ?_
  intro p e s m below meth c T0 hx hby hml hown hnm hlk hret hZ X0 e0
  refine g_iloadN X0.here hx (Jvm.hb hby d2_0) (pc' := 1) rfl rfl ?_
  refine g_bipush X0.here hx (Jvm.hb hby d2_1) (pc' := 3) rfl (z := (48 : Int32)) rfl ?_
  by_cases hc3_0 : x0 < (48 : Int32)
  · refine g_icY X0.here hx (Jvm.hb hby d2_3) (by decide) (pc' := 16) (by decide) (tlt hc3_0).1 ?_
    refine g_iconst X0.here hx (Jvm.hb hby d2_16) (pc' := 17) rfl (z := (0 : Int32)) rfl ?_
    exact g_retN X0 hx hlk (t := .boolean) hret (by simp) (z' := (0 : Int32)) rfl (Jvm.hb hby d2_17) (Nat.zero_le _) (Nat.zero_le _) ⟨by simp only [f_dig, if_pos hc3_0], rfl, e0⟩
  · refine g_icN X0.here hx (Jvm.hb hby d2_3) (pc' := 6) rfl (flt hc3_0).1 ?_
    refine g_iloadN X0.here hx (Jvm.hb hby d2_6) (pc' := 7) rfl rfl ?_
    refine g_bipush X0.here hx (Jvm.hb hby d2_7) (pc' := 9) rfl (z := (57 : Int32)) rfl ?_
    by_cases hc9_1 : (57 : Int32) < x0
    · refine g_icY X0.here hx (Jvm.hb hby d2_9) (by decide) (pc' := 16) (by decide) (tlt hc9_1).2.2.1 ?_
      refine g_iconst X0.here hx (Jvm.hb hby d2_16) (pc' := 17) rfl (z := (0 : Int32)) rfl ?_
      exact g_retN X0 hx hlk (t := .boolean) hret (by simp) (z' := (0 : Int32)) rfl (Jvm.hb hby d2_17) (Nat.zero_le _) (Nat.zero_le _) ⟨by simp only [f_dig, if_neg hc3_0, if_pos hc9_1], rfl, e0⟩
    · refine g_icN X0.here hx (Jvm.hb hby d2_9) (pc' := 12) rfl (flt hc9_1).2.2.1 ?_
      refine g_iconst X0.here hx (Jvm.hb hby d2_12) (pc' := 13) rfl (z := (1 : Int32)) rfl ?_
      refine g_goto X0.here hx (Jvm.hb hby d2_13) (by decide) (pc' := 17) (by decide) ?_
      exact g_retN X0 hx hlk (t := .boolean) hret (by simp) (z' := (1 : Int32)) rfl (Jvm.hb hby d2_17) (Nat.zero_le _) (Nat.zero_le _) ⟨by simp only [f_dig, if_neg hc3_0, if_neg hc9_1], rfl, e0⟩
theorem d3_0 : decode prog_27_method_3_code 0 = .ok (.iload_n 0, 1) := by decide +kernel
theorem d3_1 : decode prog_27_method_3_code 1 = .ok (.bipush 48, 2) := by decide +kernel
theorem d3_3 : decode prog_27_method_3_code 3 = .ok (.if_icmp .ne 25, 3) := by decide +kernel
theorem d3_6 : decode prog_27_method_3_code 6 = .ok (.iload_n 1, 1) := by decide +kernel
theorem d3_7 : decode prog_27_method_3_code 7 = .ok (.bipush 48, 2) := by decide +kernel
theorem d3_9 : decode prog_27_method_3_code 9 = .ok (.if_icmp .ne 19, 3) := by decide +kernel
theorem d3_12 : decode prog_27_method_3_code 12 = .ok (.iload_n 2, 1) := by decide +kernel
theorem d3_13 : decode prog_27_method_3_code 13 = .ok (.bipush 49, 2) := by decide +kernel
theorem d3_15 : decode prog_27_method_3_code 15 = .ok (.if_icmp .lt 13, 3) := by decide +kernel
theorem d3_28 : decode prog_27_method_3_code 28 = .ok (.iconst 0, 1) := by decide +kernel
theorem d3_29 : decode prog_27_method_3_code 29 = .ok (.ireturn, 1) := by decide +kernel
theorem d3_18 : decode prog_27_method_3_code 18 = .ok (.iload_n 2, 1) := by decide +kernel
theorem d3_19 : decode prog_27_method_3_code 19 = .ok (.bipush 57, 2) := by decide +kernel
theorem d3_21 : decode prog_27_method_3_code 21 = .ok (.if_icmp .gt 7, 3) := by decide +kernel
theorem d3_24 : decode prog_27_method_3_code 24 = .ok (.iconst 1, 1) := by decide +kernel
theorem d3_25 : decode prog_27_method_3_code 25 = .ok (.goto 4, 3) := by decide +kernel
def f_ctl (x0 : Int32) (x1 : Int32) (x2 : Int32) : Int32 := (if x0 = (48 : Int32) then (if x1 = (48 : Int32) then (if x2 < (49 : Int32) then (0 : Int32) else (if (57 : Int32) < x2 then (0 : Int32) else (1 : Int32))) else (0 : Int32)) else (0 : Int32))
theorem pn_1 : plainName "com/example/leaderline/leaderline/Tags" = true := by first | (simp [plainName, overriddenIn]; done) | decide +kernel
theorem ef_3 (m : MethodId) (x0 : Int32) (x1 : Int32) (x2 : Int32) : entryFrame m #[(.int x0), (.int x1), (.int x2)] 3 = mkF m 0 #[.val (.int x0), .val (.int x1), .val (.int x2)] [] := by first | (simp [entryFrame, mkF, argsToLocals, Value.category]; done) | rfl
set_option maxRecDepth 65536 in
set_option maxHeartbeats 40000000 in
theorem rm3 (l : Launch) (Z : State) (a0 : Array Value) (hw : ∀ d ∈ tables_1, d.before a0 Z = true) (ws : List Jvm.Cond) (x0 : Int32) (x1 : Int32) (x2 : Int32) (h0 : Heap) :
    MetFree l (⟨"com/example/leaderline/leaderline/Tags", "isControl", "(III)Z"⟩ : MethodName) (head1 (Jvm.Cond.code (⟨"com/example/leaderline/leaderline/Tags", "isControl", "(III)Z"⟩ : MethodName) prog_27_method_3_code 3 (some .boolean) :: ws) ({ frames := 0, cells := 0, slots := 0, locals := 0 } : Room)) (fun a U => a = #[(.int x0), (.int x1), (.int x2)] ∧ Z.Warmed39 U.vm ∧ U.heap = h0) (fun _ _ _ _ _ => True) (fun _ U o U' => ∃ v L, o = .returned v ∧ (own_Pure (some (.int (f_ctl x0 x1 x2))) h0) v U'.heap L ∧ FrameEnd U o U' L ({ frames := 0, cells := 0, slots := 0, locals := 0 } : Room).cells ({ frames := 0, cells := 0, slots := 0, locals := 0 } : Room).slots) := by
  refine own_body (own := "com/example/leaderline/leaderline/Tags") pn_1 rfl (fun m => ef_3 m x0 x1 x2) ?_
  intro p e s m below meth c T0 hx hby hml hown hnm hlk hret hZ X0 e0
  refine g_iloadN X0.here hx (Jvm.hb hby d3_0) (pc' := 1) rfl rfl ?_
  refine g_bipush X0.here hx (Jvm.hb hby d3_1) (pc' := 3) rfl (z := (48 : Int32)) rfl ?_
  by_cases hc3_0 : x0 = (48 : Int32)
  · refine g_icN X0.here hx (Jvm.hb hby d3_3) (pc' := 6) rfl (teq hc3_0).2 ?_
    refine g_iloadN X0.here hx (Jvm.hb hby d3_6) (pc' := 7) rfl rfl ?_
    refine g_bipush X0.here hx (Jvm.hb hby d3_7) (pc' := 9) rfl (z := (48 : Int32)) rfl ?_
    by_cases hc9_1 : x1 = (48 : Int32)
    · refine g_icN X0.here hx (Jvm.hb hby d3_9) (pc' := 12) rfl (teq hc9_1).2 ?_
      refine g_iloadN X0.here hx (Jvm.hb hby d3_12) (pc' := 13) rfl rfl ?_
      refine g_bipush X0.here hx (Jvm.hb hby d3_13) (pc' := 15) rfl (z := (49 : Int32)) rfl ?_
      by_cases hc15_2 : x2 < (49 : Int32)
      · refine g_icY X0.here hx (Jvm.hb hby d3_15) (by decide) (pc' := 28) (by decide) (tlt hc15_2).1 ?_
        refine g_iconst X0.here hx (Jvm.hb hby d3_28) (pc' := 29) rfl (z := (0 : Int32)) rfl ?_
        exact g_retN X0 hx hlk (t := .boolean) hret (by simp) (z' := (0 : Int32)) rfl (Jvm.hb hby d3_29) (Nat.zero_le _) (Nat.zero_le _) ⟨by simp only [f_ctl, if_pos hc3_0, if_pos hc9_1, if_pos hc15_2], rfl, e0⟩
      · refine g_icN X0.here hx (Jvm.hb hby d3_15) (pc' := 18) rfl (flt hc15_2).1 ?_
        refine g_iloadN X0.here hx (Jvm.hb hby d3_18) (pc' := 19) rfl rfl ?_
        refine g_bipush X0.here hx (Jvm.hb hby d3_19) (pc' := 21) rfl (z := (57 : Int32)) rfl ?_
        by_cases hc21_3 : (57 : Int32) < x2
        · refine g_icY X0.here hx (Jvm.hb hby d3_21) (by decide) (pc' := 28) (by decide) (tlt hc21_3).2.2.1 ?_
          refine g_iconst X0.here hx (Jvm.hb hby d3_28) (pc' := 29) rfl (z := (0 : Int32)) rfl ?_
          exact g_retN X0 hx hlk (t := .boolean) hret (by simp) (z' := (0 : Int32)) rfl (Jvm.hb hby d3_29) (Nat.zero_le _) (Nat.zero_le _) ⟨by simp only [f_ctl, if_pos hc3_0, if_pos hc9_1, if_neg hc15_2, if_pos hc21_3], rfl, e0⟩
        · refine g_icN X0.here hx (Jvm.hb hby d3_21) (pc' := 24) rfl (flt hc21_3).2.2.1 ?_
          refine g_iconst X0.here hx (Jvm.hb hby d3_24) (pc' := 25) rfl (z := (1 : Int32)) rfl ?_
          refine g_goto X0.here hx (Jvm.hb hby d3_25) (by decide) (pc' := 29) (by decide) ?_
          exact g_retN X0 hx hlk (t := .boolean) hret (by simp) (z' := (1 : Int32)) rfl (Jvm.hb hby d3_29) (Nat.zero_le _) (Nat.zero_le _) ⟨by simp only [f_ctl, if_pos hc3_0, if_pos hc9_1, if_neg hc15_2, if_neg hc21_3], rfl, e0⟩
    · refine g_icY X0.here hx (Jvm.hb hby d3_9) (by decide) (pc' := 28) (by decide) (feq hc9_1).2 ?_
      refine g_iconst X0.here hx (Jvm.hb hby d3_28) (pc' := 29) rfl (z := (0 : Int32)) rfl ?_
      exact g_retN X0 hx hlk (t := .boolean) hret (by simp) (z' := (0 : Int32)) rfl (Jvm.hb hby d3_29) (Nat.zero_le _) (Nat.zero_le _) ⟨by simp only [f_ctl, if_pos hc3_0, if_neg hc9_1], rfl, e0⟩
  · refine g_icY X0.here hx (Jvm.hb hby d3_3) (by decide) (pc' := 28) (by decide) (feq hc3_0).2 ?_
    refine g_iconst X0.here hx (Jvm.hb hby d3_28) (pc' := 29) rfl (z := (0 : Int32)) rfl ?_
    exact g_retN X0 hx hlk (t := .boolean) hret (by simp) (z' := (0 : Int32)) rfl (Jvm.hb hby d3_29) (Nat.zero_le _) (Nat.zero_le _) ⟨by simp only [f_ctl, if_neg hc3_0], rfl, e0⟩
theorem own_dig (c : Int32) : (¬ f_dig c = (0 : Int32)) ↔ (48 ≤ c.toInt ∧ c.toInt ≤ 57) := by
  simp only [f_dig, Int32.lt_iff_toInt_lt, Int32.reduceToInt]
  repeat' split
  all_goals first | (simp; omega) | (constructor <;> intro q <;> first | (exact absurd rfl q) | (exfalso; omega))
theorem own_no (f g t : Int32) (h : f_dig f = (0 : Int32) ∨ f_dig g = (0 : Int32) ∨ f_dig t = (0 : Int32)) : f_ctl f g t = (0 : Int32) := by
  have q1 := own_dig f
  have q2 := own_dig g
  have q3 := own_dig t
  simp only [f_ctl, ← Int32.toInt_inj, Int32.lt_iff_toInt_lt, Int32.reduceToInt] at *
  repeat' split
  all_goals first | rfl | (exfalso; omega)
theorem own_n (f g t : Int32) (h1 : ¬ f_dig f = (0 : Int32)) (h2 : ¬ f_dig g = (0 : Int32)) (h3 : ¬ f_dig t = (0 : Int32)) : ((((f - (48 : Int32)) * (100 : Int32)) + ((g - (48 : Int32)) * (10 : Int32))) + (t - (48 : Int32))).toInt = (f.toInt - 48) * 100 + (g.toInt - 48) * 10 + (t.toInt - 48) := by
  have q1 := (own_dig f).mp h1
  have q2 := (own_dig g).mp h2
  have q3 := (own_dig t).mp h3
  have e1 := c_isub f 48
  have e2 := c_isub g 48
  have e3 := c_isub t 48
  have e4 := c_imul (f - 48) 100
  have e5 := c_imul (g - 48) 10
  have e6 := c_iadd ((f - 48) * 100) ((g - 48) * 10)
  have e7 := c_iadd ((f - 48) * 100 + (g - 48) * 10) (t - 48)
  simp only [Int32.reduceToInt] at e1 e2 e3 e4 e5
  have r1 := rng32 (f - 48)
  have r2 := rng32 (g - 48)
  have r3 := rng32 (t - 48)
  have r4 := rng32 ((f - 48) * 100)
  have r5 := rng32 ((g - 48) * 10)
  have r6 := rng32 ((f - 48) * 100 + (g - 48) * 10)
  have r7 := rng32 ((f - 48) * 100 + (g - 48) * 10 + (t - 48))
  omega
theorem own_yes (f g t : Int32) (h1 : ¬ f_dig f = (0 : Int32)) (h2 : ¬ f_dig g = (0 : Int32)) (h3 : ¬ f_dig t = (0 : Int32)) (n : Int32) (hn : n = ((((f - (48 : Int32)) * (100 : Int32)) + ((g - (48 : Int32)) * (10 : Int32))) + (t - (48 : Int32)))) (a1 : ¬ n < (1 : Int32)) (a2 : ¬ (9 : Int32) < n) : f_ctl f g t = (1 : Int32) := by
  have e := own_n f g t h1 h2 h3
  rw [← hn] at e
  have q1 := (own_dig f).mp h1
  have q2 := (own_dig g).mp h2
  have q3 := (own_dig t).mp h3
  simp only [f_ctl, ← Int32.toInt_inj, Int32.lt_iff_toInt_lt, Int32.reduceToInt] at *
  repeat' split
  all_goals first | rfl | (exfalso; omega)
theorem own_out (f g t : Int32) (h1 : ¬ f_dig f = (0 : Int32)) (h2 : ¬ f_dig g = (0 : Int32)) (h3 : ¬ f_dig t = (0 : Int32)) (n : Int32) (hn : n = ((((f - (48 : Int32)) * (100 : Int32)) + ((g - (48 : Int32)) * (10 : Int32))) + (t - (48 : Int32)))) (a1 : n < (1 : Int32) ∨ (9 : Int32) < n) : f_ctl f g t = (0 : Int32) := by
  have e := own_n f g t h1 h2 h3
  rw [← hn] at e
  have q1 := (own_dig f).mp h1
  have q2 := (own_dig g).mp h2
  have q3 := (own_dig t).mp h3
  simp only [f_ctl, ← Int32.toInt_inj, Int32.lt_iff_toInt_lt, Int32.reduceToInt] at *
  repeat' split
  all_goals first | rfl | (exfalso; omega)
theorem pd_0 : parseMethodDescriptor "(III)I" = some ⟨[.int, .int, .int], some .int⟩ := by decide +kernel
theorem pd_1 : parseMethodDescriptor "(III)Z" = some ⟨[.int, .int, .int], some .boolean⟩ := by decide +kernel
theorem pd_2 : parseMethodDescriptor "(I)Z" = some ⟨[.int], some .boolean⟩ := by decide +kernel
theorem ef_0 (m : MethodId) (x0 : Int32) (x1 : Int32) (x2 : Int32) (x3 : Int32) : entryFrame m #[(.int x0), (.int x1), (.int x2), (.int x3)] maxLocals = mkF m 0 #[.val (.int x0), .val (.int x1), .val (.int x2), .val (.int x3), .unset, .unset, .unset, .unset, .unset] [] := by first | (simp [entryFrame, mkF, argsToLocals, Value.category, maxLocals]; done) | rfl
set_option maxRecDepth 65536 in
set_option maxHeartbeats 40000000 in
theorem rm0 (l : Launch) (Z : State) (a0 : Array Value) (hw : ∀ d ∈ tables_1, d.before a0 Z = true) (ws : List Jvm.Cond) (x0 : Int32) (x1 : Int32) (x2 : Int32) (x3 : Int32) (h0 : Heap) (n0 : Nat) (Z0 : n0 ≤ h0.size) :
    MetFree l x (head1 (Jvm.Cond.code x code maxLocals ret :: ws) room_1) (fun a U => a = #[(.int x0), (.int x1), (.int x2), (.int x3)] ∧ Z.Warmed39 U.vm ∧ U.heap = h0) (fun _ _ _ _ _ => True) (fun _ U o U' => ∃ v L, o = .returned v ∧ (own_Q0 n0) v U'.heap L ∧ FrameEnd U o U' L room_1.cells room_1.slots) := by
  refine own_body (own := "com/example/leaderline/leaderline/TagsIsControlPinLaw") pn_0 rfl (fun m => ef_0 m x0 x1 x2 x3) ?_
  intro p e s m below meth c T0 hx hby hml hown hnm hlk hret hZ X0 e0
  have w_0 := hw _ (List.mem_of_getElem? (i := 0) rfl)
  have w_1 := hw _ (List.mem_of_getElem? (i := 1) rfl)
  have w_2 := hw _ (List.mem_of_getElem? (i := 2) rfl)
  have w_3 := hw _ (List.mem_of_getElem? (i := 3) rfl)
  have w_5 := hw _ (List.mem_of_getElem? (i := 5) rfl)
  have w_6 := hw _ (List.mem_of_getElem? (i := 6) rfl)
  have w_7 := hw _ (List.mem_of_getElem? (i := 7) rfl)
  have w_8 := hw _ (List.mem_of_getElem? (i := 8) rfl)
  have w_9 := hw _ (List.mem_of_getElem? (i := 9) rfl)
  have w_10 := hw _ (List.mem_of_getElem? (i := 10) rfl)
  have w_11 := hw _ (List.mem_of_getElem? (i := 11) rfl)
  refine g_iloadN X0.here hx (Jvm.hb hby at_0) (pc' := 1) rfl rfl ?_
  refine g_iloadN X0.here hx (Jvm.hb hby at_1) (pc' := 2) rfl rfl ?_
  refine g_iconst X0.here hx (Jvm.hb hby at_2) (pc' := 3) rfl (z := (0 : Int32)) rfl ?_
  refine g_callP X0 hx hZ hown w_0 w_1 w_2 w_3 (by decide) (rm1 l Z a0 hw [] x0 x3 (0 : Int32) h0) 0 (by decide) (by decide) e0 (by rw [hml]; rfl) [(.int x0), (.int x3), (.int (0 : Int32))] [] (lenOf pd_0 rfl) rfl rfl (Nat.le_of_eq rfl) (Jvm.hb hby at_3) (pc' := 6) rfl (Nat.zero_le _) (Nat.zero_le _) ?_
  intro T1 X1 e1
  show own_Gl p e below s (own_Q0 n0) room_1.cells room_1.slots (T1.setTop (mkF m 6 #[.val (.int x0), .val (.int x1), .val (.int x2), .val (.int x3), .unset, .unset, .unset, .unset, .unset] [(.int (f_pick x0 x3 (0 : Int32)))]))
  generalize h_ff : (f_pick x0 x3 (0 : Int32)) = ff
  refine g_istore X1.here hx (Jvm.hb hby at_6) (pc' := 8) rfl (L' := #[.val (.int x0), .val (.int x1), .val (.int x2), .val (.int x3), .val (.int ff), .unset, .unset, .unset, .unset]) rfl ?_
  refine g_iloadN X1.here hx (Jvm.hb hby at_8) (pc' := 9) rfl rfl ?_
  refine g_iloadN X1.here hx (Jvm.hb hby at_9) (pc' := 10) rfl rfl ?_
  refine g_iconst X1.here hx (Jvm.hb hby at_10) (pc' := 11) rfl (z := (1 : Int32)) rfl ?_
  refine g_callP X1 hx hZ hown w_0 w_1 w_2 w_3 (by decide) (rm1 l Z a0 hw [] x1 x3 (1 : Int32) h0) 0 (by decide) (by decide) e1 (by rw [hml]; rfl) [(.int x1), (.int x3), (.int (1 : Int32))] [] (lenOf pd_0 rfl) rfl rfl (Nat.le_of_eq rfl) (Jvm.hb hby at_11) (pc' := 14) rfl (Nat.zero_le _) (Nat.zero_le _) ?_
  intro T2 X2 e2
  show own_Gl p e below s (own_Q0 n0) room_1.cells room_1.slots (T2.setTop (mkF m 14 #[.val (.int x0), .val (.int x1), .val (.int x2), .val (.int x3), .val (.int ff), .unset, .unset, .unset, .unset] [(.int (f_pick x1 x3 (1 : Int32)))]))
  generalize h_gg : (f_pick x1 x3 (1 : Int32)) = gg
  refine g_istore X2.here hx (Jvm.hb hby at_14) (pc' := 16) rfl (L' := #[.val (.int x0), .val (.int x1), .val (.int x2), .val (.int x3), .val (.int ff), .val (.int gg), .unset, .unset, .unset]) rfl ?_
  refine g_iloadN X2.here hx (Jvm.hb hby at_16) (pc' := 17) rfl rfl ?_
  refine g_iloadN X2.here hx (Jvm.hb hby at_17) (pc' := 18) rfl rfl ?_
  refine g_iconst X2.here hx (Jvm.hb hby at_18) (pc' := 19) rfl (z := (2 : Int32)) rfl ?_
  refine g_callP X2 hx hZ hown w_0 w_1 w_2 w_3 (by decide) (rm1 l Z a0 hw [] x2 x3 (2 : Int32) h0) 0 (by decide) (by decide) e2 (by rw [hml]; rfl) [(.int x2), (.int x3), (.int (2 : Int32))] [] (lenOf pd_0 rfl) rfl rfl (Nat.le_of_eq rfl) (Jvm.hb hby at_19) (pc' := 22) rfl (Nat.zero_le _) (Nat.zero_le _) ?_
  intro T3 X3 e3
  show own_Gl p e below s (own_Q0 n0) room_1.cells room_1.slots (T3.setTop (mkF m 22 #[.val (.int x0), .val (.int x1), .val (.int x2), .val (.int x3), .val (.int ff), .val (.int gg), .unset, .unset, .unset] [(.int (f_pick x2 x3 (2 : Int32)))]))
  generalize h_tt : (f_pick x2 x3 (2 : Int32)) = tt
  refine g_istore X3.here hx (Jvm.hb hby at_22) (pc' := 24) rfl (L' := #[.val (.int x0), .val (.int x1), .val (.int x2), .val (.int x3), .val (.int ff), .val (.int gg), .val (.int tt), .unset, .unset]) rfl ?_
  refine g_iconst X3.here hx (Jvm.hb hby at_24) (pc' := 25) rfl (z := (0 : Int32)) rfl ?_
  refine g_istore X3.here hx (Jvm.hb hby at_25) (pc' := 27) rfl (L' := #[.val (.int x0), .val (.int x1), .val (.int x2), .val (.int x3), .val (.int ff), .val (.int gg), .val (.int tt), .val (.int (0 : Int32)), .unset]) rfl ?_
  have k96 : ∀ (Tk4 : State), ∀ (Xk4 : Stand p l e room_1 s m #[(.int x0), (.int x1), (.int x2), (.int x3)] below meth c Tk4 [] 0 0), ∀ (ek4 : Tk4.heap = h0), ∀ (n8 : Slot), ∀ (ex : Int32), ∀ (hex : f_ctl ff gg tt = ex), own_Gl p e below s (own_Q0 n0) room_1.cells room_1.slots (Tk4.setTop (mkF m 96 #[.val (.int x0), .val (.int x1), .val (.int x2), .val (.int x3), .val (.int ff), .val (.int gg), .val (.int tt), .val (.int ex), n8] [])) := by
    intro Tk4 Xk4 ek4 n8 ex hex
    refine g_iload Xk4.here hx (Jvm.hb hby at_96) (pc' := 98) rfl rfl ?_
    refine g_iload Xk4.here hx (Jvm.hb hby at_98) (pc' := 100) rfl rfl ?_
    refine g_iload Xk4.here hx (Jvm.hb hby at_100) (pc' := 102) rfl rfl ?_
    refine g_callP Xk4 hx hZ hown w_8 w_9 w_10 w_11 (by decide) (rm3 l Z a0 hw [] ff gg tt h0) 0 (by decide) (by decide) ek4 (by rw [hml]; rfl) [(.int ff), (.int gg), (.int tt)] [] (lenOf pd_1 rfl) rfl rfl (Nat.le_of_eq rfl) (Jvm.hb hby at_102) (pc' := 105) rfl (Nat.zero_le _) (Nat.zero_le _) ?_
    intro T5 X5 e5
    show own_Gl p e below s (own_Q0 n0) room_1.cells room_1.slots (T5.setTop (mkF m 105 #[.val (.int x0), .val (.int x1), .val (.int x2), .val (.int x3), .val (.int ff), .val (.int gg), .val (.int tt), .val (.int ex), n8] [(.int (f_ctl ff gg tt))]))
    refine g_iload X5.here hx (Jvm.hb hby at_105) (pc' := 107) rfl rfl ?_
    refine g_icN X5.here hx (Jvm.hb hby at_107) (pc' := 110) rfl (teq hex).2 ?_
    refine g_iconst X5.here hx (Jvm.hb hby at_110) (pc' := 111) rfl (z := (1 : Int32)) rfl ?_
    refine g_goto X5.here hx (Jvm.hb hby at_111) (by decide) (pc' := 115) (by decide) ?_
    exact g_retN X5 hx hlk (t := .boolean) hret (by simp) (z' := (1 : Int32)) rfl (Jvm.hb hby at_115) (Nat.zero_le _) (Nat.zero_le _) ⟨rfl, Fr.nil n0⟩
  refine g_iload X3.here hx (Jvm.hb hby at_27) (pc' := 29) rfl rfl ?_
  refine g_callP X3 hx hZ hown w_5 w_6 w_2 w_7 (by decide) (rm2 l Z a0 hw [] ff h0) 0 (by decide) (by decide) e3 (by rw [hml]; rfl) [(.int ff)] [] (lenOf pd_2 rfl) rfl rfl (Nat.le_of_eq rfl) (Jvm.hb hby at_29) (pc' := 32) rfl (Nat.zero_le _) (Nat.zero_le _) ?_
  intro T6 X6 e6
  show own_Gl p e below s (own_Q0 n0) room_1.cells room_1.slots (T6.setTop (mkF m 32 #[.val (.int x0), .val (.int x1), .val (.int x2), .val (.int x3), .val (.int ff), .val (.int gg), .val (.int tt), .val (.int (0 : Int32)), .unset] [(.int (f_dig ff))]))
  by_cases hc32 : (f_dig ff) = (0 : Int32)
  · refine g_ifY X6.here hx (Jvm.hb hby at_32) (by decide) (pc' := 96) (by decide) ((if0 _ _).trans (teq hc32).1) ?_
    exact k96 T6 X6 e6 _ _ (own_no ff gg tt (Or.inl hc32))
  · refine g_ifN X6.here hx (Jvm.hb hby at_32) (pc' := 35) rfl ((if0 _ _).trans (feq hc32).1) ?_
    refine g_iload X6.here hx (Jvm.hb hby at_35) (pc' := 37) rfl rfl ?_
    refine g_callP X6 hx hZ hown w_5 w_6 w_2 w_7 (by decide) (rm2 l Z a0 hw [] gg h0) 0 (by decide) (by decide) e6 (by rw [hml]; rfl) [(.int gg)] [] (lenOf pd_2 rfl) rfl rfl (Nat.le_of_eq rfl) (Jvm.hb hby at_37) (pc' := 40) rfl (Nat.zero_le _) (Nat.zero_le _) ?_
    intro T7 X7 e7
    show own_Gl p e below s (own_Q0 n0) room_1.cells room_1.slots (T7.setTop (mkF m 40 #[.val (.int x0), .val (.int x1), .val (.int x2), .val (.int x3), .val (.int ff), .val (.int gg), .val (.int tt), .val (.int (0 : Int32)), .unset] [(.int (f_dig gg))]))
    by_cases hc40 : (f_dig gg) = (0 : Int32)
    · refine g_ifY X7.here hx (Jvm.hb hby at_40) (by decide) (pc' := 96) (by decide) ((if0 _ _).trans (teq hc40).1) ?_
      exact k96 T7 X7 e7 _ _ (own_no ff gg tt (Or.inr (Or.inl hc40)))
    · refine g_ifN X7.here hx (Jvm.hb hby at_40) (pc' := 43) rfl ((if0 _ _).trans (feq hc40).1) ?_
      refine g_iload X7.here hx (Jvm.hb hby at_43) (pc' := 45) rfl rfl ?_
      refine g_callP X7 hx hZ hown w_5 w_6 w_2 w_7 (by decide) (rm2 l Z a0 hw [] tt h0) 0 (by decide) (by decide) e7 (by rw [hml]; rfl) [(.int tt)] [] (lenOf pd_2 rfl) rfl rfl (Nat.le_of_eq rfl) (Jvm.hb hby at_45) (pc' := 48) rfl (Nat.zero_le _) (Nat.zero_le _) ?_
      intro T8 X8 e8
      show own_Gl p e below s (own_Q0 n0) room_1.cells room_1.slots (T8.setTop (mkF m 48 #[.val (.int x0), .val (.int x1), .val (.int x2), .val (.int x3), .val (.int ff), .val (.int gg), .val (.int tt), .val (.int (0 : Int32)), .unset] [(.int (f_dig tt))]))
      by_cases hc48 : (f_dig tt) = (0 : Int32)
      · refine g_ifY X8.here hx (Jvm.hb hby at_48) (by decide) (pc' := 96) (by decide) ((if0 _ _).trans (teq hc48).1) ?_
        exact k96 T8 X8 e8 _ _ (own_no ff gg tt (Or.inr (Or.inr hc48)))
      · refine g_ifN X8.here hx (Jvm.hb hby at_48) (pc' := 51) rfl ((if0 _ _).trans (feq hc48).1) ?_
        refine g_iload X8.here hx (Jvm.hb hby at_51) (pc' := 53) rfl rfl ?_
        refine g_bipush X8.here hx (Jvm.hb hby at_53) (pc' := 55) rfl (z := (48 : Int32)) rfl ?_
        refine g_isub X8.here hx (Jvm.hb hby at_55) (pc' := 56) rfl ?_
        refine g_bipush X8.here hx (Jvm.hb hby at_56) (pc' := 58) rfl (z := (100 : Int32)) rfl ?_
        refine g_imul X8.here hx (Jvm.hb hby at_58) (pc' := 59) rfl ?_
        refine g_iload X8.here hx (Jvm.hb hby at_59) (pc' := 61) rfl rfl ?_
        refine g_bipush X8.here hx (Jvm.hb hby at_61) (pc' := 63) rfl (z := (48 : Int32)) rfl ?_
        refine g_isub X8.here hx (Jvm.hb hby at_63) (pc' := 64) rfl ?_
        refine g_bipush X8.here hx (Jvm.hb hby at_64) (pc' := 66) rfl (z := (10 : Int32)) rfl ?_
        refine g_imul X8.here hx (Jvm.hb hby at_66) (pc' := 67) rfl ?_
        refine g_iadd X8.here hx (Jvm.hb hby at_67) (pc' := 68) rfl ?_
        refine g_iload X8.here hx (Jvm.hb hby at_68) (pc' := 70) rfl rfl ?_
        refine g_bipush X8.here hx (Jvm.hb hby at_70) (pc' := 72) rfl (z := (48 : Int32)) rfl ?_
        refine g_isub X8.here hx (Jvm.hb hby at_72) (pc' := 73) rfl ?_
        refine g_iadd X8.here hx (Jvm.hb hby at_73) (pc' := 74) rfl ?_
        refine g_istore X8.here hx (Jvm.hb hby at_74) (pc' := 76) rfl (L' := #[.val (.int x0), .val (.int x1), .val (.int x2), .val (.int x3), .val (.int ff), .val (.int gg), .val (.int tt), .val (.int (0 : Int32)), .val (.int ((((ff - (48 : Int32)) * (100 : Int32)) + ((gg - (48 : Int32)) * (10 : Int32))) + (tt - (48 : Int32))))]) rfl ?_
        generalize hnn : ((((ff - (48 : Int32)) * (100 : Int32)) + ((gg - (48 : Int32)) * (10 : Int32))) + (tt - (48 : Int32))) = nn
        refine g_iload X8.here hx (Jvm.hb hby at_76) (pc' := 78) rfl rfl ?_
        refine g_iconst X8.here hx (Jvm.hb hby at_78) (pc' := 79) rfl (z := (1 : Int32)) rfl ?_
        by_cases hc79 : nn < (1 : Int32)
        · refine g_icY X8.here hx (Jvm.hb hby at_79) (by decide) (pc' := 93) (by decide) (tlt hc79).1 ?_
          refine g_iconst X8.here hx (Jvm.hb hby at_93) (pc' := 94) rfl (z := (0 : Int32)) rfl ?_
          refine g_istore X8.here hx (Jvm.hb hby at_94) (pc' := 96) rfl (L' := #[.val (.int x0), .val (.int x1), .val (.int x2), .val (.int x3), .val (.int ff), .val (.int gg), .val (.int tt), .val (.int (0 : Int32)), .val (.int nn)]) rfl ?_
          exact k96 T8 X8 e8 _ _ (own_out ff gg tt hc32 hc40 hc48 nn hnn.symm (Or.inl hc79))
        · refine g_icN X8.here hx (Jvm.hb hby at_79) (pc' := 82) rfl (flt hc79).1 ?_
          refine g_iload X8.here hx (Jvm.hb hby at_82) (pc' := 84) rfl rfl ?_
          refine g_bipush X8.here hx (Jvm.hb hby at_84) (pc' := 86) rfl (z := (9 : Int32)) rfl ?_
          by_cases hc86 : (9 : Int32) < nn
          · refine g_icY X8.here hx (Jvm.hb hby at_86) (by decide) (pc' := 93) (by decide) (tlt hc86).2.2.1 ?_
            refine g_iconst X8.here hx (Jvm.hb hby at_93) (pc' := 94) rfl (z := (0 : Int32)) rfl ?_
            refine g_istore X8.here hx (Jvm.hb hby at_94) (pc' := 96) rfl (L' := #[.val (.int x0), .val (.int x1), .val (.int x2), .val (.int x3), .val (.int ff), .val (.int gg), .val (.int tt), .val (.int (0 : Int32)), .val (.int nn)]) rfl ?_
            exact k96 T8 X8 e8 _ _ (own_out ff gg tt hc32 hc40 hc48 nn hnn.symm (Or.inr hc86))
          · refine g_icN X8.here hx (Jvm.hb hby at_86) (pc' := 89) rfl (flt hc86).2.2.1 ?_
            refine g_iconst X8.here hx (Jvm.hb hby at_89) (pc' := 90) rfl (z := (1 : Int32)) rfl ?_
            refine g_goto X8.here hx (Jvm.hb hby at_90) (by decide) (pc' := 94) (by decide) ?_
            refine g_istore X8.here hx (Jvm.hb hby at_94) (pc' := 96) rfl (L' := #[.val (.int x0), .val (.int x1), .val (.int x2), .val (.int x3), .val (.int ff), .val (.int gg), .val (.int tt), .val (.int (1 : Int32)), .val (.int nn)]) rfl ?_
            exact k96 T8 X8 e8 _ _ (own_yes ff gg tt hc32 hc40 hc48 nn hnn.symm hc79 hc86)
set_option maxRecDepth 65536 in
set_option maxHeartbeats 40000000 in
theorem comes_1 {Post : Tables → Env → Array Value → State → Outcome → State → Prop} (hpost : ∀ tb e args s v u, (limb_1_1.after args s (.returned v) u = true ∧ limb_1_2.after args s (.returned v) u = true ∧ True) → FrameEnd s (.returned v) u (Jvm.fieldLocs frame_1_writes args s ++ Jvm.arrayLocs frame_1_arrays args s ++ Jvm.staticLocs frame_1_statics s) 0 0 → Post tb e args s (.returned v) u) :
    ArmFor flags0 classFile x code maxLocals ret World_1 tables_1 room_1 Calls_1 rest_1 Pre_1 Post := by
  intro l hfl _ _ p e ha hc hk s m args below hf hA hF happ hP
  obtain ⟨hcalls, hrest, hpre⟩ := hP
  obtain ⟨-, -, -, hnamed, -, -, -, hat⟩ := (Spec.applies_iff hf).mp happ
  obtain ⟨hg, hn⟩ := and_e (Cond.before_iff.mp (show (Jvm.Cond.and given_1 narrow_1).before args s = true from hpre))
  obtain ⟨g1, g2⟩ := and_e hg
  obtain ⟨g3, g4⟩ := and_e g2
  obtain ⟨g5, g6⟩ := and_e g4
  obtain ⟨g7, g8⟩ := and_e g6
  obtain ⟨w0, w1, w2, w3, rfl⟩ : ∃ w0 w1 w2 w3 : Value, args = #[w0, w1, w2, w3] := by
    have hs : args.size = 4 := by simpa [Cond.value, given_1] using g1
    obtain ⟨L⟩ := args
    match L, hs with
    | [w0, w1, w2, w3], _ => exact ⟨w0, w1, w2, w3, rfl⟩
  have hw := fun d (hd : d ∈ tables_1) => atoms_spec (ws := Jvm.Cond.code x code maxLocals ret :: tables_1) hat d (List.mem_cons_of_mem _ hd)
  obtain ⟨i0, ei0⟩ := is_v g3
  obtain rfl : w0 = (.int i0) := Option.some.inj ei0
  obtain ⟨i1, ei1⟩ := is_v g5
  obtain rfl : w1 = (.int i1) := Option.some.inj ei1
  obtain ⟨i2, ei2⟩ := is_v g7
  obtain rfl : w2 = (.int i2) := Option.some.inj ei2
  obtain ⟨i3, ei3⟩ := is_v g8
  obtain rfl : w3 = (.int i3) := Option.some.inj ei3
  obtain ⟨n, o, h1, h2, h3, _, L, rfl, ⟨rfl, N⟩, hq⟩ := rm0 l s _ hw tables_1 i0 i1 i2 i3 s.heap s.heap.size (Nat.le_refl _) p e ha hc hk s m _ below hf ((Spec.applies_iff_loose hf).mp happ).1 ⟨rfl, State.Warmed39.refl s, rfl⟩ trivial
  refine ⟨n, _, h1, h2, h3, hpost _ _ _ _ _ _ ⟨Cond.after_iff.mpr rfl, Cond.after_iff.mpr (eq_i res_at (Term.int_eval (1)) rfl), trivial⟩ ⟨hq.1, hq.2.1, (hq.2.2.sift fun y hy => Or.inr (N y hy)).mono (by decide) (by decide)⟩⟩
theorem main_1_1 : Claimed_1_1 := comes_1 fun _ _ _ _ _ _ h hF => ⟨h.1, hF⟩
theorem main_1_2 : Claimed_1_2 := comes_1 fun _ _ _ _ _ _ h hF => ⟨h.2.1, hF⟩
end Jvm.Pilot.@@N@@
namespace Jvm.Pilot.@@N@@
open Jvm Jvm.ClassFile Sem Op Lib Jvm.Free Jvm.Stand Jvm.Pilot.@@N@@.Jvm.D
/-! MADE BY PROGRAM (witnessworld.py) out of the Statement's table words and the real class files: 9 classes; the members and pool entries that the words name. The judged class is class 1, her method 3. -/
namespace start1
open Jvm.ClassFile
def u (s : String) : CpInfo := .utf8 (stringToUtf16 s)
/-- a pool by its gaps: so many unusable entries, then the entry; so many at the end -/
def gap : Nat → List CpInfo → List CpInfo
  | 0, r => r
  | n + 1, r => .unusable :: gap n r
def poolList (es : List (Nat × CpInfo)) (last : Nat) : List CpInfo := es.foldr (fun e r => gap e.1 (e.2 :: r)) (gap last [])
def pool (es : List (Nat × CpInfo)) (last : Nat) : Array CpInfo := ⟨poolList es last⟩
def fileOf (pool : Array CpInfo) (this : Nat) (attrs : Array Attribute := #[]) (ms : Array MethodInfo := #[]) (fl : Nat := 33) (sup : Nat := 0) (ifs : Array Nat := #[]) (fds : Array FieldInfo := #[]) : ClassFile where
  minorVersion := 0
  majorVersion := 65
  constantPool := pool
  accessFlags := fl
  thisClass := this
  superClass := sup
  interfaces := ifs
  fields := fds
  methods := ms
  attributes := attrs
def plain (name : String) (sup : Option ClassId) : Class where
  name := name
  kind := .ordinary
  loader := none
  accessFlags := 33
  super := sup
  interfaces := #[]
  cf := none
  fields := #[]
  methods := #[]
  instanceTypes := #[]
  staticTypes := #[]
  resolved := #[]
  callSites := []
  init := .initialized
  statics := none
  mirror := none

def pool0 : Array CpInfo := pool [(5, u "<init>"), (0, u "()V"), (1, .class_ 10), (1, u "java/lang/Object")] 113

def k0m0 : Method := { name := "<init>", desc := "()V", sig := { parameters := [], returnType := none }, accessFlags := 1, code := none }
/-- java/lang/Object -/
def k0 : Class := { plain "java/lang/Object" none with
  accessFlags := 33
  interfaces := #[]
  cf := some (fileOf pool0 8 #[] #[{ accessFlags := 1, nameIndex := 5, descriptorIndex := 6, attributes := #[] }] 33 0 #[] #[])
  fields := #[]
  methods := #[k0m0]
  instanceTypes := #[]
  staticTypes := #[]
  resolved := Array.replicate 124 none
  statics := none }

def pool1 : Array CpInfo := pool [(2, .class_ 4), (1, u "java/lang/Object"), (0, u "<init>"), (0, u "()V"), (0, .integer 2147483647), (0, .methodref 9 10), (0, .class_ 11), (0, .nameAndType 12 13), (0, u "com/example/leaderline/leaderline/TagsIsControlPinLaw"), (0, u "pick"), (0, u "(III)I"), (0, .methodref 9 15), (0, .nameAndType 16 17), (0, u "isDigit"), (0, u "(I)Z"), (0, .methodref 19 20), (0, .class_ 21), (0, .nameAndType 22 23), (0, u "com/example/leaderline/leaderline/Tags"), (0, u "isControl"), (0, u "(III)Z"), (3, u "law"), (0, u "(IIII)Z")] 2

def k1m0 : Method := { name := "<init>", desc := "()V", sig := { parameters := [], returnType := none }, accessFlags := 2, code := none }
def k1c1 : Code := { maxStack := 3, maxLocals := 3, code := method_2_code, exceptionTable := #[], attributes := #[] }
def k1m1 : Method := { name := "pick", desc := "(III)I", sig := { parameters := [.int, .int, .int], returnType := some .int }, accessFlags := 10, code := some k1c1 }
def k1c2 : Code := { maxStack := 2, maxLocals := 1, code := method_3_code, exceptionTable := #[], attributes := #[] }
def k1m2 : Method := { name := "isDigit", desc := "(I)Z", sig := { parameters := [.int], returnType := some .boolean }, accessFlags := 10, code := some k1c2 }
def k1c3 : Code := { maxStack := 3, maxLocals := 9, code := code, exceptionTable := #[], attributes := #[] }
def k1m3 : Method := { name := "law", desc := "(IIII)Z", sig := { parameters := [.int, .int, .int, .int], returnType := some .boolean }, accessFlags := 9, code := some k1c3 }
/-- com/example/leaderline/leaderline/TagsIsControlPinLaw -/
def k1 : Class := { plain "com/example/leaderline/leaderline/TagsIsControlPinLaw" (some 0) with
  accessFlags := 49
  interfaces := #[]
  cf := some (fileOf pool1 9 #[] #[{ accessFlags := 2, nameIndex := 5, descriptorIndex := 6, attributes := #[] }, { accessFlags := 10, nameIndex := 12, descriptorIndex := 13, attributes := #[] }, { accessFlags := 10, nameIndex := 16, descriptorIndex := 17, attributes := #[] }, { accessFlags := 9, nameIndex := 27, descriptorIndex := 28, attributes := #[] }] 49 2 #[] #[])
  fields := #[]
  methods := #[k1m0, k1m1, k1m2, k1m3]
  instanceTypes := #[]
  staticTypes := #[]
  resolved := Array.replicate 31 none
  statics := none }

def pool2 : Array CpInfo := pool [(2, .class_ 4), (1, u "java/lang/Object"), (0, u "<init>"), (0, u "()V"), (6, .class_ 14), (0, u "com/example/leaderline/leaderline/Tags"), (17, u "LENGTH"), (0, u "I"), (5, u "isControl"), (0, u "(III)Z")] 18

def k2m0 : Method := { name := "<init>", desc := "()V", sig := { parameters := [], returnType := none }, accessFlags := 2, code := none }
def k2c1 : Code := { maxStack := 2, maxLocals := 3, code := prog_27_method_3_code, exceptionTable := #[], attributes := #[] }
def k2m1 : Method := { name := "isControl", desc := "(III)Z", sig := { parameters := [.int, .int, .int], returnType := some .boolean }, accessFlags := 8, code := some k2c1 }
/-- com/example/leaderline/leaderline/Tags -/
def k2 : Class := { plain "com/example/leaderline/leaderline/Tags" (some 0) with
  accessFlags := 48
  interfaces := #[]
  cf := some (fileOf pool2 13 #[] #[{ accessFlags := 2, nameIndex := 5, descriptorIndex := 6, attributes := #[] }, { accessFlags := 8, nameIndex := 39, descriptorIndex := 40, attributes := #[] }] 48 2 #[] #[{ accessFlags := 24, nameIndex := 32, descriptorIndex := 33, attributes := #[] }])
  fields := #[{ name := "LENGTH", type := .int, accessFlags := 24, slot := 0, constantValue := 0 }]
  methods := #[k2m0, k2m1]
  instanceTypes := #[]
  staticTypes := #[.int]
  resolved := Array.replicate 59 none
  statics := none }

def pool3 : Array CpInfo := pool [(1, u "java/lang/Cloneable"), (0, .class_ 1), (0, u "java/lang/Object"), (0, .class_ 3)] 3

/-- java/lang/Cloneable -/
def k3 : Class := { plain "java/lang/Cloneable" (some 0) with
  accessFlags := 1537
  interfaces := #[]
  cf := some (fileOf pool3 2 #[] #[] 1537 4 #[] #[])
  fields := #[]
  methods := #[]
  instanceTypes := #[]
  staticTypes := #[]
  resolved := Array.replicate 8 none
  statics := none }

def pool4 : Array CpInfo := pool [(1, u "java/io/Serializable"), (0, .class_ 1), (0, u "java/lang/Object"), (0, .class_ 3)] 3

/-- java/io/Serializable -/
def k4 : Class := { plain "java/io/Serializable" (some 0) with
  accessFlags := 1537
  interfaces := #[]
  cf := some (fileOf pool4 2 #[] #[] 1537 4 #[] #[])
  fields := #[]
  methods := #[]
  instanceTypes := #[]
  staticTypes := #[]
  resolved := Array.replicate 8 none
  statics := none }

/-- the primitive byte -/
def k5 : Class := { plain "byte" none with kind := .primitive 'B', accessFlags := 0x411 }
/-- [B -/
def k6 : Class := { plain "[B" (some 0) with kind := .array 5 .byte, interfaces := #[3, 4], accessFlags := 1041 }

/-- the primitive int -/
def k7 : Class := { plain "int" none with kind := .primitive 'I', accessFlags := 0x411 }
/-- [I -/
def k8 : Class := { plain "[I" (some 0) with kind := .array 7 .int, interfaces := #[3, 4], accessFlags := 1041 }

def heap : Heap := #[]
def classes : Array Class := #[k0, k1, k2, k3, k4, k5, k6, k7, k8]
def interned : List (Array UInt16 × Addr) := []
def slotsUsed : Nat := 0
def theMethod : MethodId := ⟨1, 3⟩
def args0 : Array Value := #[.int 5, .int 6, .int 7, .int 8]
def aboutOver (below : List Frame) : State where
  vm := { classes := classes, interned := interned.toArray }
  heap := heap
  slotsUsed := slotsUsed
  threads := #[{ frames := .invoking theMethod args0 :: below }]
def below0 : List Frame := [.native { method := ⟨0, 0⟩, args := #[] }]
def about1 : State := aboutOver below0
def p0 : Program := .bare "" "" ""
def e0 : Env := launch0.env 0 0 0
theorem w_frames : about1.frames = Frame.invoking theMethod args0 :: below0 := rfl
set_option maxRecDepth 65536 in
theorem w_args : argsFit about1.vm theMethod args0 = true := by decide +kernel
set_option maxRecDepth 65536 in
theorem w_heap : heapFits about1 = true := by decide +kernel
set_option maxRecDepth 65536 in
theorem w_runnable : about1.curStatus? = some .runnable := by decide +kernel
set_option maxRecDepth 65536 in
theorem w_alone : about1.alone = true := by decide +kernel
set_option maxRecDepth 65536 in
theorem w_named : about1.methodNamed? x = some theMethod := by decide +kernel
set_option maxRecDepth 65536 in
theorem w_hears : about1.hears theMethod below0 = true := by decide +kernel
set_option maxRecDepth 65536 in
theorem w_ripe : about1.ripe theMethod args0 below0 = true := by decide +kernel
theorem w_running : about1.status = .running := rfl
set_option maxRecDepth 65536 in
theorem w_room : about1.hasRoom e0.platform room_1 = true :=
  launch0.hasRoom_least _ room_1 (by decide +kernel) (by decide +kernel) (by decide +kernel) (by decide +kernel) (by decide +kernel) (by decide +kernel)
theorem allAtoms_all (ts : List Jvm.Cond) (a : Array Jvm.Value) (st : Jvm.State) : (allAtoms ts).before a st = ts.all (fun c => c.before a st) := by
  induction ts with
  | nil => rfl
  | cons c t ih =>
    show (Jvm.Cond.and c (allAtoms t)).before a st = _
    rw [Jvm.Cond.before_and, ih, List.all_cons]
def words1 : List Jvm.Cond := Jvm.Cond.code x code maxLocals ret :: tables_1
/-- a 'code' word, met by the world's own term for the bytes: nothing is compared byte by byte -/
theorem code_word {y : MethodName} {bytes : ByteArray} {mx : Nat} {rt : Option FieldType} {a : Array Value} {s : State} {m : MethodId} {meth : Method} {c : Code} (h1 : s.methodNamed? y = some m) (h2 : s.vm.method? m = some meth) (h3 : meth.code = some c) (h4 : c.code = bytes)
    (h5 : (c.maxLocals == mx && c.exceptionTable.isEmpty && decide (c.maxStack ≤ mostOperands) && decide (meth.sig.returnType = rt) && !meth.locks && decide (parseMethodDescriptor y.desc = some meth.sig)) = true) : (Jvm.Cond.code y bytes mx rt).before a s = true := by
  simp only [Bool.and_eq_true, beq_iff_eq, Bool.not_eq_true', decide_eq_true_eq] at h5
  obtain ⟨⟨⟨⟨⟨g1, g2⟩, g3⟩, g4⟩, g5⟩, g6⟩ := h5
  simp [Cond.before, Cond.holds, Cond.value, h1, h2, h3, h4, g1, g2, g3, g4, g5, g6]
def isCode : Jvm.Cond → Bool
  | .code _ _ _ _ => true
  | _ => false
theorem all_split {L : List Jvm.Cond} {P : Jvm.Cond → Bool} (h1 : L.all (fun c => isCode c || P c) = true) (h2 : ∀ c ∈ L.filter isCode, P c = true) : L.all P = true := by
  refine List.all_eq_true.mpr fun c hc => ?_
  have h := List.all_eq_true.mp h1 c hc
  rcases Bool.eq_false_or_eq_true (isCode c) with hi | hi
  · exact h2 c (List.mem_filter.mpr ⟨hc, hi⟩)
  · simpa [hi] using h
set_option maxRecDepth 65536 in
theorem w_c0 : (Jvm.Cond.code x code maxLocals ret).before args0 about1 = true := code_word (m := ⟨1, 3⟩) (meth := k1m3) (c := k1c3) (by decide +kernel) rfl rfl rfl (by decide +kernel)
set_option maxRecDepth 65536 in
theorem w_c1 : (Jvm.Cond.code ({ cls := "com/example/leaderline/leaderline/TagsIsControlPinLaw", name := "pick", desc := "(III)I" } : Jvm.MethodName) method_2_code (3 : Nat) (Option.some Jvm.ClassFile.FieldType.int)).before args0 about1 = true := code_word (m := ⟨1, 1⟩) (meth := k1m1) (c := k1c1) (by decide +kernel) rfl rfl rfl (by decide +kernel)
set_option maxRecDepth 65536 in
theorem w_c2 : (Jvm.Cond.code ({ cls := "com/example/leaderline/leaderline/TagsIsControlPinLaw", name := "isDigit", desc := "(I)Z" } : Jvm.MethodName) method_3_code (1 : Nat) (Option.some Jvm.ClassFile.FieldType.boolean)).before args0 about1 = true := code_word (m := ⟨1, 2⟩) (meth := k1m2) (c := k1c2) (by decide +kernel) rfl rfl rfl (by decide +kernel)
set_option maxRecDepth 65536 in
theorem w_c3 : (Jvm.Cond.code ({ cls := "com/example/leaderline/leaderline/Tags", name := "isControl", desc := "(III)Z" } : Jvm.MethodName) prog_27_method_3_code (3 : Nat) (Option.some Jvm.ClassFile.FieldType.boolean)).before args0 about1 = true := code_word (m := ⟨2, 1⟩) (meth := k2m1) (c := k2c1) (by decide +kernel) rfl rfl rfl (by decide +kernel)
def codes1 : List Jvm.Cond := [Jvm.Cond.code x code maxLocals ret, Jvm.Cond.code ({ cls := "com/example/leaderline/leaderline/TagsIsControlPinLaw", name := "pick", desc := "(III)I" } : Jvm.MethodName) method_2_code (3 : Nat) (Option.some Jvm.ClassFile.FieldType.int), Jvm.Cond.code ({ cls := "com/example/leaderline/leaderline/TagsIsControlPinLaw", name := "isDigit", desc := "(I)Z" } : Jvm.MethodName) method_3_code (1 : Nat) (Option.some Jvm.ClassFile.FieldType.boolean), Jvm.Cond.code ({ cls := "com/example/leaderline/leaderline/Tags", name := "isControl", desc := "(III)Z" } : Jvm.MethodName) prog_27_method_3_code (3 : Nat) (Option.some Jvm.ClassFile.FieldType.boolean)]
set_option maxRecDepth 65536 in
theorem codes_eq : words1.filter isCode = codes1 := rfl
theorem w_codes : ∀ c ∈ words1.filter isCode, c.before args0 about1 = true := by
  rw [codes_eq]
  intro c hc
  simp only [codes1, List.mem_cons, List.not_mem_nil, or_false] at hc
  rcases hc with rfl | rfl | rfl | rfl
  · exact w_c0
  · exact w_c1
  · exact w_c2
  · exact w_c3
set_option maxRecDepth 65536 in
theorem w_t1 : words1.all (fun c => isCode c || c.before args0 about1) = true := by decide +kernel
theorem w_tables : (allAtoms (Jvm.Cond.code x code maxLocals ret :: tables_1)).before args0 about1 = true := by
  rw [allAtoms_all]
  show words1.all (fun c => c.before args0 about1) = true
  refine all_split ?_ w_codes
  rw [w_t1]
set_option maxRecDepth 65536 in
theorem w_case : (Jvm.Cond.and given_1 narrow_1).before args0 about1 = true := by decide +kernel
theorem w_applies : (headSpec (Jvm.Cond.code x code maxLocals ret :: tables_1) room_1).applies x e0.platform about1 = true :=
  (Spec.applies_iff w_frames).mpr ⟨w_running, w_runnable, w_alone, w_named, w_hears, w_ripe, w_room, w_tables⟩
theorem atStart : AtStart classFile x code maxLocals ret World_1 tables_1 room_1 Calls_1 rest_1 Pre_1 launch0 p0 e0 about1 theMethod args0 below0 :=
  ⟨lists_1, trivial, launch0.admits_env _ _ _, launch0.least_env, fairChoices_fair.cas, fairChoices_fair.clock, w_frames, w_args, w_heap, w_applies, trivial, trivial, w_case⟩
end start1
theorem witness_1 : WitnessClaimed_1 := ⟨start1.p0, start1.e0, start1.about1, start1.theMethod, start1.args0, start1.below0, start1.atStart⟩
end Jvm.Pilot.@@N@@
