import JvmDerived
import JvmDerived.Pilot.@@N@@Statement
import JvmDerived.Pilot.@@N@@Code
set_option linter.unusedVariables false
set_option linter.unusedSimpArgs false
namespace Jvm.Pilot.@@N@@
open Jvm Jvm.ClassFile Sem Op Lib Jvm.Free Jvm.Stand Jvm.LawKit Jvm.RoadKit Bundle Jvm.Pilot.@@N@@.Jvm.D
set_option maxRecDepth 4000
section OwnKit
/-- the goal of a walk: from S the run comes to a return that Q allows, and nothing old is touched -/
def own_Gl (p : Program) (e : Env) (below : List Frame) (s : State) (Q : Option Value → Heap → List Loc → Prop) (kc ks : Nat) (S : State) : Prop :=
  ∃ s₂ o, Steps p.tables e below S s₂ ∧ s₂.status = .running ∧ Ended s₂ below o ∧ ∃ v L, o = .returned v ∧ Q v s₂.heap L ∧ FrameEnd s o s₂ L kc ks
variable {p : Program} {l : Launch} {e : Env} {R : Room} {s : State} {m : MethodId} {args : Array Value} {below : List Frame} {meth : Method} {c : Code} {T : State} {locs : List Loc} {cells slots : Nat} {Z : State} {a0 : Array Value} {h : Heap} {Q : Option Value → Heap → List Loc → Prop} {kc ks : Nat} {pc pc' : Nat} {L L' : Array Slot} {S : List Value}
theorem own_Gl.go {S S' : State} (h : own_Gl p e below s Q kc ks S') (st : ∀ t, Steps p.tables e below S' t → Steps p.tables e below S t) : own_Gl p e below s Q kc ks S := by
  obtain ⟨s₂, o, h1, h2⟩ := h
  exact ⟨s₂, o, st _ h1, h2⟩
/-- what a method leaves that writes nothing and makes nothing -/
def own_Pure (w : Option Value) (h0 : Heap) (v : Option Value) (h : Heap) (L : List Loc) : Prop := v = w ∧ L = [] ∧ h = h0
theorem own_body {l : Launch} {Z : State} {y : MethodName} {bytes : ByteArray} {maxL : Nat} {ret : Option FieldType} {ws : List Jvm.Cond} {rm : Room} {as' : Array Value} {h0 : Heap} {Q : Option Value → Heap → List Loc → Prop} {L0 : Array Slot} {own : String}
    (hpl : plainName y.cls = true) (hyc : y.cls = own) (hef : ∀ m, entryFrame m as' maxL = mkF m 0 L0 [])
    (body : ∀ p e s m below meth c T, p.tables.exec = Jvm.exec → c.code = bytes → c.maxLocals = maxL → s.vm.findClass own = some m.cls → meth.name = y.name → meth.locks = false → meth.sig.returnType = ret → Z.Warmed39 s.vm → Stand p l e rm s m as' below meth c T [] 0 0 → T.heap = h0 →
      own_Gl p e below s Q rm.cells rm.slots (T.setTop (mkF m 0 L0 []))) :
    MetFree l y (head1 (Jvm.Cond.code y bytes maxL ret :: ws) rm) (fun a U => a = as' ∧ Z.Warmed39 U.vm ∧ U.heap = h0) (fun _ _ _ _ _ => True) (fun _ U o U' => ∃ v L, o = .returned v ∧ Q v U'.heap L ∧ FrameEnd U o U' L rm.cells rm.slots) := by
  refine MetFree.of_bodySF (plainFor_of_name hpl) hisR ?_
  intro p e s m args below meth c s₁ Bd hml0 hP hK
  obtain ⟨rfl, hZ, hh⟩ := hP
  have hown : s.vm.findClass y.cls = some m.cls := findClass_of_methodNamed Bd.named
  have hnm := (name_of_methodNamed Bd.named Bd.method).1
  have X0 : Stand p l e rm s m _ below meth c s₁ [] 0 0 := Stand.of_body Bd
  have e0 : s₁.heap = h0 := by rw [← hh, Bd.state]; rfl
  obtain ⟨s₂, o, h1, h2⟩ := body p e s m below meth c s₁ Bd.exec Bd.bytes hml0 (hyc ▸ hown) hnm Bd.notSynchronized Bd.returns hZ X0 e0
  exact ⟨s₂, o, castTop (hef m) h1, h2⟩
theorem own_ret (X : Stand p l e R s m args below meth c T locs cells slots) (hlk : meth.locks = false) {v : Option Value} (hv : meth.sig.returnType = none → v = none) (hQ : Q v T.heap locs) (hc : cells ≤ kc) (hs : slots ≤ ks) {S : State}
    (st : ∀ fs, (∀ (f : JFrame) (acts : List Action), f.method = m → f.locked = none → f.entered = [] → (doReturn e (T.setTop f) acts v).1 = T.setFrames fs) → Steps p.tables e below S (T.setFrames fs)) : own_Gl p e below s Q kc ks S := by
  obtain ⟨fs, hr, hrun, hended, hW, hsame⟩ := X.leave (v := v) hv hlk
  exact ⟨_, _, st fs hr, hrun, hended, v, locs, rfl, hQ, ⟨_, rfl⟩, hW, hsame.mono hc hs⟩
theorem g_retI (X : Stand p l e R s m args below meth c T locs cells slots) (hx : p.tables.exec = Jvm.exec) (hlk : meth.locks = false) {z : Int32} (hret : meth.sig.returnType = some .int) (hd : decode c.code pc = .ok (.ireturn, 1)) (hc : cells ≤ kc) (hs : slots ≤ ks) (hQ : Q (some (.int z)) T.heap locs) :
    own_Gl p e below s Q kc ks (T.setTop (mkF m pc L (.int z :: S))) :=
  own_ret X hlk (fun h => by rw [hret] at h; cases h) hQ hc hs fun fs hr => retOut X hx hret rfl (Or.inl ⟨rfl, Or.inl rfl, z, rfl⟩) hd hr
theorem g_retN (X : Stand p l e R s m args below meth c T locs cells slots) (hx : p.tables.exec = Jvm.exec) (hlk : meth.locks = false) {z z' : Int32} {t : FieldType} (hret : meth.sig.returnType = some t) (ht : t = .boolean ∨ t = .byte ∨ t = .char ∨ t = .short) (hz : nar t z = z') (hd : decode c.code pc = .ok (.ireturn, 1)) (hc : cells ≤ kc) (hs : slots ≤ ks) (hQ : Q (some (.int z')) T.heap locs) :
    own_Gl p e below s Q kc ks (T.setTop (mkF m pc L (.int z :: S))) := by
  subst hz
  exact own_ret X hlk (fun h => by rw [hret] at h; cases h) hQ hc hs fun fs hr => retN X hx hret ht hd hr
theorem g_retL (X : Stand p l e R s m args below meth c T locs cells slots) (hx : p.tables.exec = Jvm.exec) (hlk : meth.locks = false) {z : Int64} (hret : meth.sig.returnType = some .long) (hd : decode c.code pc = .ok (.lreturn, 1)) (hc : cells ≤ kc) (hs : slots ≤ ks) (hQ : Q (some (.long z)) T.heap locs) :
    own_Gl p e below s Q kc ks (T.setTop (mkF m pc L (.long z :: S))) :=
  own_ret X hlk (fun h => by rw [hret] at h; cases h) hQ hc hs fun fs hr => retOut X hx hret rfl (Or.inr (Or.inl ⟨rfl, rfl, z, rfl⟩)) hd hr
theorem g_retV (X : Stand p l e R s m args below meth c T locs cells slots) (hx : p.tables.exec = Jvm.exec) (hlk : meth.locks = false) (hret : meth.sig.returnType = none) (hd : decode c.code pc = .ok (.return_, 1)) (hc : cells ≤ kc) (hs : slots ≤ ks) (hQ : Q none T.heap locs) :
    own_Gl p e below s Q kc ks (T.setTop (mkF m pc L [])) :=
  own_ret X hlk (fun _ => rfl) hQ hc hs fun fs hr => X.returnOut hx hret hd hr
/-- a static call by the callee's contract -/
theorem g_callS (X : Stand p l e R s m args below meth c T locs cells slots) (hx : p.tables.exec = Jvm.exec) (hZ : Z.Warmed39 s.vm) {own : String} {index : Nat} {y : MethodName} {bytes : ByteArray} {maxL : Nat} {ret : Option FieldType} (hown : s.vm.findClass own = some m.cls)
    (w1 : (Jvm.Cond.methodLink own index y).before a0 Z = true) (w2 : (Jvm.Cond.static y).before a0 Z = true) (w3 : (Jvm.Cond.initialized y.cls).before a0 Z = true) (w4 : (Jvm.Cond.code y bytes maxL ret).before a0 Z = true) (hy : y.cls ≠ "java/lang/invoke/MethodHandle" ∧ y.cls ≠ "java/lang/invoke/VarHandle")
    {rm : Room} {as' : Array Value} {Qc : Option Value → Heap → List Loc → Prop}
    (hM : MetFree l y (head1 [Jvm.Cond.code y bytes maxL ret] rm) (fun a U => a = as' ∧ Z.Warmed39 U.vm ∧ U.heap = h) (fun _ _ _ _ _ => True) (fun _ U o U' => ∃ v L, o = .returned v ∧ Qc v U'.heap L ∧ FrameEnd U o U' L rm.cells rm.slots))
    (W : Nat) (hf : rm.frames + 1 ≤ R.frames) (hl : W + (maxL + 11) + rm.locals ≤ R.locals) (eT : T.heap = h) (hsize : L.size = c.maxLocals) (argsL rest : List Value) (hlen : ∀ sig, parseMethodDescriptor y.desc = some sig → argsL.length = sig.parameters.length)
    (hst : S = argsL.reverse ++ rest) (has : argsL.toArray = as') (hW : (rest.map fun v => v.category).sum ≤ W) (hd : decode c.code pc = .ok (.invokestatic index, 3)) (hp : pc + 3 = pc') {cells' slots' : Nat} (hcc : cells + rm.cells = cells') (hss : slots + rm.slots = slots') (hcl : cells' ≤ R.cells) (hsl : slots' ≤ R.slots)
    (k : ∀ (v : Option Value) (T' : State) (L' : List Loc), Stand p l e R s m args below meth c T' (locs ++ L') cells' slots' → Qc v T'.heap L' → own_Gl p e below s Q kc ks (T'.setTop (mkF m pc' L (v.toList ++ rest)))) :
    own_Gl p e below s Q kc ks (T.setTop (mkF m pc L S)) := by
  subst hp hst hcc hss
  obtain ⟨v, _, ⟨T', L', k', n'⟩, -, X', ⟨Lc, hQ, l', y', z'⟩, st⟩ := Jvm.LawKit.callS X hx (y := y) hown (mvT hZ w1) (mvT hZ w2) (mvT hZ w3) (mvT hZ w4) hy (backOf (W := W) hM hZ w4 w3 hf hl) (g := mkF m pc L (argsL.reverse ++ rest)) rfl hsize (argsL := argsL) (rest := rest) hlen rfl (by show 2 * 0 + _ ≤ _; omega) hd (fun _ _ => ⟨has, eT, hcl, hsl⟩)
  dsimp only [Pt.U, Pt.locs, Pt.cells, Pt.slots] at X' l' y' z' st hQ
  subst l' y' z'
  exact (k v T' Lc X' hQ).go st
/-- the same of a method that writes nothing -/
theorem g_callP (X : Stand p l e R s m args below meth c T locs cells slots) (hx : p.tables.exec = Jvm.exec) (hZ : Z.Warmed39 s.vm) {own : String} {index : Nat} {y : MethodName} {bytes : ByteArray} {maxL : Nat} {ret : Option FieldType} (hown : s.vm.findClass own = some m.cls)
    (w1 : (Jvm.Cond.methodLink own index y).before a0 Z = true) (w2 : (Jvm.Cond.static y).before a0 Z = true) (w3 : (Jvm.Cond.initialized y.cls).before a0 Z = true) (w4 : (Jvm.Cond.code y bytes maxL ret).before a0 Z = true) (hy : y.cls ≠ "java/lang/invoke/MethodHandle" ∧ y.cls ≠ "java/lang/invoke/VarHandle")
    {fr lo : Nat} {as' : Array Value} {w : Option Value}
    (hM : MetFree l y (head1 [Jvm.Cond.code y bytes maxL ret] ({ frames := fr, cells := 0, slots := 0, locals := lo } : Room)) (fun a U => a = as' ∧ Z.Warmed39 U.vm ∧ U.heap = h) (fun _ _ _ _ _ => True) (fun _ U o U' => ∃ v L, o = .returned v ∧ own_Pure w h v U'.heap L ∧ FrameEnd U o U' L ({ frames := fr, cells := 0, slots := 0, locals := lo } : Room).cells ({ frames := fr, cells := 0, slots := 0, locals := lo } : Room).slots))
    (W : Nat) (hf : fr + 1 ≤ R.frames) (hl : W + (maxL + 11) + lo ≤ R.locals) (eT : T.heap = h) (hsize : L.size = c.maxLocals) (argsL rest : List Value) (hlen : ∀ sig, parseMethodDescriptor y.desc = some sig → argsL.length = sig.parameters.length)
    (hst : S = argsL.reverse ++ rest) (has : argsL.toArray = as') (hW : (rest.map fun v => v.category).sum ≤ W) (hd : decode c.code pc = .ok (.invokestatic index, 3)) (hp : pc + 3 = pc') (hcl : cells ≤ R.cells) (hsl : slots ≤ R.slots)
    (k : ∀ (T' : State), Stand p l e R s m args below meth c T' locs cells slots → T'.heap = h → own_Gl p e below s Q kc ks (T'.setTop (mkF m pc' L (w.toList ++ rest)))) :
    own_Gl p e below s Q kc ks (T.setTop (mkF m pc L S)) := by
  refine g_callS X hx hZ hown w1 w2 w3 w4 hy hM W hf hl eT hsize argsL rest hlen hst has hW hd hp (cells' := cells) (slots' := slots) rfl rfl hcl hsl ?_
  intro v T' L' X' hQ
  obtain ⟨rfl, rfl, e'⟩ := hQ
  rw [List.append_nil] at X'
  exact k T' X' e'
theorem own_tltL {x y : Int64} (h : x < y) : ifCond.holds .lt (lcmpW x y) = true ∧ ifCond.holds .ge (lcmpW x y) = false ∧ ifCond.holds .gt (lcmpW y x) = true ∧ ifCond.holds .le (lcmpW y x) = false := by
  have h1 := (lw_lt x y).mpr h
  have h2 := (lw_gt y x).mpr h
  rw [if0, if0, if0, if0]
  exact ⟨(tlt h1).1, (tlt h1).2.1, (tlt h2).2.2.1, (tlt h2).2.2.2⟩
theorem own_fltL {x y : Int64} (h : ¬ x < y) : ifCond.holds .lt (lcmpW x y) = false ∧ ifCond.holds .ge (lcmpW x y) = true ∧ ifCond.holds .gt (lcmpW y x) = false ∧ ifCond.holds .le (lcmpW y x) = true := by
  have h1 := fun q => h ((lw_lt x y).mp q)
  have h2 := fun q => h ((lw_gt y x).mp q)
  rw [if0, if0, if0, if0]
  exact ⟨(flt h1).1, (flt h1).2.1, (flt h2).2.2.1, (flt h2).2.2.2⟩
theorem own_teqL {x y : Int64} (h : x = y) : ifCond.holds .eq (lcmpW x y) = true ∧ ifCond.holds .ne (lcmpW x y) = false := by
  have h1 := (lw_eq x y).mpr h
  rw [if0, if0]
  exact ⟨(teq h1).1, (teq h1).2⟩
theorem own_feqL {x y : Int64} (h : ¬ x = y) : ifCond.holds .eq (lcmpW x y) = false ∧ ifCond.holds .ne (lcmpW x y) = true := by
  have h1 := fun q => h ((lw_eq x y).mp q)
  rw [if0, if0]
  exact ⟨(feq h1).1, (feq h1).2⟩
theorem g_iloadN (h : At T m c below) (hx : p.tables.exec = Jvm.exec) {j : Fin 4} {v : Int32} (hd : decode c.code pc = .ok (.iload_n j, 1)) (hp : pc + 1 = pc') (hl : L[j.val]? = some (.val (.int v))) (hr : own_Gl p e below s Q kc ks (T.setTop (mkF m pc' L (.int v :: S)))) : own_Gl p e below s Q kc ks (T.setTop (mkF m pc L S)) := by
  subst hp; exact hr.go fun t k => XS.iloadN h hx rfl hd hl k
theorem g_lloadN (h : At T m c below) (hx : p.tables.exec = Jvm.exec) {j : Fin 4} {v : Int64} (hd : decode c.code pc = .ok (.lload_n j, 1)) (hp : pc + 1 = pc') (hl : L[j.val]? = some (.val (.long v))) (hr : own_Gl p e below s Q kc ks (T.setTop (mkF m pc' L (.long v :: S)))) : own_Gl p e below s Q kc ks (T.setTop (mkF m pc L S)) := by
  subst hp; exact hr.go fun t k => XS.lloadN h hx rfl hd hl k
theorem g_aloadN (h : At T m c below) (hx : p.tables.exec = Jvm.exec) {j : Fin 4} {v : Value} (hd : decode c.code pc = .ok (.aload_n j, 1)) (hp : pc + 1 = pc') (hl : L[j.val]? = some (.val v)) (hv : v.isRef = true) (hr : own_Gl p e below s Q kc ks (T.setTop (mkF m pc' L (v :: S)))) : own_Gl p e below s Q kc ks (T.setTop (mkF m pc L S)) := by
  subst hp; exact hr.go fun t k => XS.aloadN h hx rfl hd hl hv k
theorem g_istoreN (h : At T m c below) (hx : p.tables.exec = Jvm.exec) {j : Fin 4} {v : Int32} (hd : decode c.code pc = .ok (.istore_n j, 1)) (hp : pc + 1 = pc') (hl : storeLocals L j.val (.int v) = some L') (hr : own_Gl p e below s Q kc ks (T.setTop (mkF m pc' L' S))) : own_Gl p e below s Q kc ks (T.setTop (mkF m pc L (.int v :: S))) := by
  subst hp; exact hr.go fun t k => XS.istoreN h hx rfl hd rfl hl k
theorem g_lstoreN (h : At T m c below) (hx : p.tables.exec = Jvm.exec) {j : Fin 4} {v : Int64} (hd : decode c.code pc = .ok (.lstore_n j, 1)) (hp : pc + 1 = pc') (hl : storeLocals L j.val (.long v) = some L') (hr : own_Gl p e below s Q kc ks (T.setTop (mkF m pc' L' S))) : own_Gl p e below s Q kc ks (T.setTop (mkF m pc L (.long v :: S))) := by
  subst hp; exact hr.go fun t k => XS.lstoreN h hx rfl hd rfl hl k
theorem g_astoreN (h : At T m c below) (hx : p.tables.exec = Jvm.exec) {j : Fin 4} {v : Value} (hd : decode c.code pc = .ok (.astore_n j, 1)) (hp : pc + 1 = pc') (hv : v.isRef = true) (hl : storeLocals L j.val v = some L') (hr : own_Gl p e below s Q kc ks (T.setTop (mkF m pc' L' S))) : own_Gl p e below s Q kc ks (T.setTop (mkF m pc L (v :: S))) := by
  subst hp; exact hr.go fun t k => XS.astoreN h hx rfl hd rfl hv hl k
theorem g_iload (h : At T m c below) (hx : p.tables.exec = Jvm.exec) {j : Nat} {v : Int32} (hd : decode c.code pc = .ok (.iload j, 2)) (hp : pc + 2 = pc') (hl : L[j]? = some (.val (.int v))) (hr : own_Gl p e below s Q kc ks (T.setTop (mkF m pc' L (.int v :: S)))) : own_Gl p e below s Q kc ks (T.setTop (mkF m pc L S)) := by
  subst hp; exact hr.go fun t k => XS.iload h hx rfl hd hl k
theorem g_lload (h : At T m c below) (hx : p.tables.exec = Jvm.exec) {j : Nat} {v : Int64} (hd : decode c.code pc = .ok (.lload j, 2)) (hp : pc + 2 = pc') (hl : L[j]? = some (.val (.long v))) (hr : own_Gl p e below s Q kc ks (T.setTop (mkF m pc' L (.long v :: S)))) : own_Gl p e below s Q kc ks (T.setTop (mkF m pc L S)) := by
  subst hp; exact hr.go fun t k => XS.lload h hx rfl hd hl k
theorem g_aload (h : At T m c below) (hx : p.tables.exec = Jvm.exec) {j : Nat} {v : Value} (hd : decode c.code pc = .ok (.aload j, 2)) (hp : pc + 2 = pc') (hl : L[j]? = some (.val v)) (hv : v.isRef = true) (hr : own_Gl p e below s Q kc ks (T.setTop (mkF m pc' L (v :: S)))) : own_Gl p e below s Q kc ks (T.setTop (mkF m pc L S)) := by
  subst hp; exact hr.go fun t k => XS.aload h hx rfl hd hl hv k
theorem g_istore (h : At T m c below) (hx : p.tables.exec = Jvm.exec) {j : Nat} {v : Int32} (hd : decode c.code pc = .ok (.istore j, 2)) (hp : pc + 2 = pc') (hl : storeLocals L j (.int v) = some L') (hr : own_Gl p e below s Q kc ks (T.setTop (mkF m pc' L' S))) : own_Gl p e below s Q kc ks (T.setTop (mkF m pc L (.int v :: S))) := by
  subst hp; exact hr.go fun t k => XS.istore h hx rfl hd rfl hl k
theorem g_lstore (h : At T m c below) (hx : p.tables.exec = Jvm.exec) {j : Nat} {v : Int64} (hd : decode c.code pc = .ok (.lstore j, 2)) (hp : pc + 2 = pc') (hl : storeLocals L j (.long v) = some L') (hr : own_Gl p e below s Q kc ks (T.setTop (mkF m pc' L' S))) : own_Gl p e below s Q kc ks (T.setTop (mkF m pc L (.long v :: S))) := by
  subst hp; exact hr.go fun t k => XS.lstore h hx rfl hd rfl hl k
theorem g_astore (h : At T m c below) (hx : p.tables.exec = Jvm.exec) {j : Nat} {v : Value} (hd : decode c.code pc = .ok (.astore j, 2)) (hp : pc + 2 = pc') (hv : v.isRef = true) (hl : storeLocals L j v = some L') (hr : own_Gl p e below s Q kc ks (T.setTop (mkF m pc' L' S))) : own_Gl p e below s Q kc ks (T.setTop (mkF m pc L (v :: S))) := by
  subst hp; exact hr.go fun t k => XS.astore h hx rfl hd rfl hv hl k
theorem g_iconst (h : At T m c below) (hx : p.tables.exec = Jvm.exec) {i : Int} {z : Int32} (hd : decode c.code pc = .ok (.iconst i, 1)) (hp : pc + 1 = pc') (hz : Int32.ofInt i = z) (hr : own_Gl p e below s Q kc ks (T.setTop (mkF m pc' L (.int z :: S)))) : own_Gl p e below s Q kc ks (T.setTop (mkF m pc L S)) := by
  subst hp hz; exact hr.go fun t k => XS.iconst h hx rfl hd k
theorem g_bipush (h : At T m c below) (hx : p.tables.exec = Jvm.exec) {i : Int} {z : Int32} (hd : decode c.code pc = .ok (.bipush i, 2)) (hp : pc + 2 = pc') (hz : (Int8.ofInt i).toInt32 = z) (hr : own_Gl p e below s Q kc ks (T.setTop (mkF m pc' L (.int z :: S)))) : own_Gl p e below s Q kc ks (T.setTop (mkF m pc L S)) := by
  subst hp hz; exact hr.go fun t k => XS.bipush h hx rfl hd k
theorem g_sipush (h : At T m c below) (hx : p.tables.exec = Jvm.exec) {i : Int} {z : Int32} (hd : decode c.code pc = .ok (.sipush i, 3)) (hp : pc + 3 = pc') (hz : (Int16.ofInt i).toInt32 = z) (hr : own_Gl p e below s Q kc ks (T.setTop (mkF m pc' L (.int z :: S)))) : own_Gl p e below s Q kc ks (T.setTop (mkF m pc L S)) := by
  subst hp hz; exact hr.go fun t k => XS.sipush h hx rfl hd k
theorem g_lconst (h : At T m c below) (hx : p.tables.exec = Jvm.exec) {i : Fin 2} {z : Int64} (hd : decode c.code pc = .ok (.lconst i, 1)) (hp : pc + 1 = pc') (hz : Int64.ofNat i = z) (hr : own_Gl p e below s Q kc ks (T.setTop (mkF m pc' L (.long z :: S)))) : own_Gl p e below s Q kc ks (T.setTop (mkF m pc L S)) := by
  subst hp hz; exact hr.go fun t k => XS.lconst h hx rfl hd k
theorem g_aconstNull (h : At T m c below) (hx : p.tables.exec = Jvm.exec)  (hd : decode c.code pc = .ok (.aconst_null, 1)) (hp : pc + 1 = pc')  (hr : own_Gl p e below s Q kc ks (T.setTop (mkF m pc' L (.null :: S)))) : own_Gl p e below s Q kc ks (T.setTop (mkF m pc L S)) := by
  subst hp; exact hr.go fun t k => XS.aconstNull h hx rfl hd k
theorem g_iadd (h : At T m c below) (hx : p.tables.exec = Jvm.exec) {u v : Int32} (hd : decode c.code pc = .ok (.iadd, 1)) (hp : pc + 1 = pc')  (hr : own_Gl p e below s Q kc ks (T.setTop (mkF m pc' L (.int (u + v) :: S)))) : own_Gl p e below s Q kc ks (T.setTop (mkF m pc L (.int v :: .int u :: S))) := by
  subst hp; exact hr.go fun t k => XS.iadd h hx rfl hd rfl k
theorem g_ladd (h : At T m c below) (hx : p.tables.exec = Jvm.exec) {u v : Int64} (hd : decode c.code pc = .ok (.ladd, 1)) (hp : pc + 1 = pc')  (hr : own_Gl p e below s Q kc ks (T.setTop (mkF m pc' L (.long (u + v) :: S)))) : own_Gl p e below s Q kc ks (T.setTop (mkF m pc L (.long v :: .long u :: S))) := by
  subst hp; exact hr.go fun t k => XS.ladd h hx rfl hd rfl k
theorem g_isub (h : At T m c below) (hx : p.tables.exec = Jvm.exec) {u v : Int32} (hd : decode c.code pc = .ok (.isub, 1)) (hp : pc + 1 = pc')  (hr : own_Gl p e below s Q kc ks (T.setTop (mkF m pc' L (.int (u - v) :: S)))) : own_Gl p e below s Q kc ks (T.setTop (mkF m pc L (.int v :: .int u :: S))) := by
  subst hp; exact hr.go fun t k => XS.isub h hx rfl hd rfl k
theorem g_lsub (h : At T m c below) (hx : p.tables.exec = Jvm.exec) {u v : Int64} (hd : decode c.code pc = .ok (.lsub, 1)) (hp : pc + 1 = pc')  (hr : own_Gl p e below s Q kc ks (T.setTop (mkF m pc' L (.long (u - v) :: S)))) : own_Gl p e below s Q kc ks (T.setTop (mkF m pc L (.long v :: .long u :: S))) := by
  subst hp; exact hr.go fun t k => XS.lsub h hx rfl hd rfl k
theorem g_imul (h : At T m c below) (hx : p.tables.exec = Jvm.exec) {u v : Int32} (hd : decode c.code pc = .ok (.imul, 1)) (hp : pc + 1 = pc')  (hr : own_Gl p e below s Q kc ks (T.setTop (mkF m pc' L (.int (u * v) :: S)))) : own_Gl p e below s Q kc ks (T.setTop (mkF m pc L (.int v :: .int u :: S))) := by
  subst hp; exact hr.go fun t k => XS.imul h hx rfl hd rfl k
theorem g_lmul (h : At T m c below) (hx : p.tables.exec = Jvm.exec) {u v : Int64} (hd : decode c.code pc = .ok (.lmul, 1)) (hp : pc + 1 = pc')  (hr : own_Gl p e below s Q kc ks (T.setTop (mkF m pc' L (.long (u * v) :: S)))) : own_Gl p e below s Q kc ks (T.setTop (mkF m pc L (.long v :: .long u :: S))) := by
  subst hp; exact hr.go fun t k => XS.lmul h hx rfl hd rfl k
theorem g_iand (h : At T m c below) (hx : p.tables.exec = Jvm.exec) {u v : Int32} (hd : decode c.code pc = .ok (.iand, 1)) (hp : pc + 1 = pc')  (hr : own_Gl p e below s Q kc ks (T.setTop (mkF m pc' L (.int (u &&& v) :: S)))) : own_Gl p e below s Q kc ks (T.setTop (mkF m pc L (.int v :: .int u :: S))) := by
  subst hp; exact hr.go fun t k => XS.iand h hx rfl hd rfl k
theorem g_land (h : At T m c below) (hx : p.tables.exec = Jvm.exec) {u v : Int64} (hd : decode c.code pc = .ok (.land, 1)) (hp : pc + 1 = pc')  (hr : own_Gl p e below s Q kc ks (T.setTop (mkF m pc' L (.long (u &&& v) :: S)))) : own_Gl p e below s Q kc ks (T.setTop (mkF m pc L (.long v :: .long u :: S))) := by
  subst hp; exact hr.go fun t k => XS.land h hx rfl hd rfl k
theorem g_ior (h : At T m c below) (hx : p.tables.exec = Jvm.exec) {u v : Int32} (hd : decode c.code pc = .ok (.ior, 1)) (hp : pc + 1 = pc')  (hr : own_Gl p e below s Q kc ks (T.setTop (mkF m pc' L (.int (u ||| v) :: S)))) : own_Gl p e below s Q kc ks (T.setTop (mkF m pc L (.int v :: .int u :: S))) := by
  subst hp; exact hr.go fun t k => XS.ior h hx rfl hd rfl k
theorem g_lor (h : At T m c below) (hx : p.tables.exec = Jvm.exec) {u v : Int64} (hd : decode c.code pc = .ok (.lor, 1)) (hp : pc + 1 = pc')  (hr : own_Gl p e below s Q kc ks (T.setTop (mkF m pc' L (.long (u ||| v) :: S)))) : own_Gl p e below s Q kc ks (T.setTop (mkF m pc L (.long v :: .long u :: S))) := by
  subst hp; exact hr.go fun t k => XS.lor h hx rfl hd rfl k
theorem g_ixor (h : At T m c below) (hx : p.tables.exec = Jvm.exec) {u v : Int32} (hd : decode c.code pc = .ok (.ixor, 1)) (hp : pc + 1 = pc')  (hr : own_Gl p e below s Q kc ks (T.setTop (mkF m pc' L (.int (u ^^^ v) :: S)))) : own_Gl p e below s Q kc ks (T.setTop (mkF m pc L (.int v :: .int u :: S))) := by
  subst hp; exact hr.go fun t k => XS.ixor h hx rfl hd rfl k
theorem g_lxor (h : At T m c below) (hx : p.tables.exec = Jvm.exec) {u v : Int64} (hd : decode c.code pc = .ok (.lxor, 1)) (hp : pc + 1 = pc')  (hr : own_Gl p e below s Q kc ks (T.setTop (mkF m pc' L (.long (u ^^^ v) :: S)))) : own_Gl p e below s Q kc ks (T.setTop (mkF m pc L (.long v :: .long u :: S))) := by
  subst hp; exact hr.go fun t k => XS.lxor h hx rfl hd rfl k
theorem g_ishl (h : At T m c below) (hx : p.tables.exec = Jvm.exec) {u v : Int32} (hd : decode c.code pc = .ok (.ishl, 1)) (hp : pc + 1 = pc')  (hr : own_Gl p e below s Q kc ks (T.setTop (mkF m pc' L (.int (u <<< (v &&& 31)) :: S)))) : own_Gl p e below s Q kc ks (T.setTop (mkF m pc L (.int v :: .int u :: S))) := by
  subst hp; exact hr.go fun t k => XS.ishl h hx rfl hd rfl k
theorem g_ishr (h : At T m c below) (hx : p.tables.exec = Jvm.exec) {u v : Int32} (hd : decode c.code pc = .ok (.ishr, 1)) (hp : pc + 1 = pc')  (hr : own_Gl p e below s Q kc ks (T.setTop (mkF m pc' L (.int (u >>> (v &&& 31)) :: S)))) : own_Gl p e below s Q kc ks (T.setTop (mkF m pc L (.int v :: .int u :: S))) := by
  subst hp; exact hr.go fun t k => XS.ishr h hx rfl hd rfl k
theorem g_iushr (h : At T m c below) (hx : p.tables.exec = Jvm.exec) {u v : Int32} (hd : decode c.code pc = .ok (.iushr, 1)) (hp : pc + 1 = pc')  (hr : own_Gl p e below s Q kc ks (T.setTop (mkF m pc' L (.int ((u.toUInt32 >>> (v &&& 31).toUInt32).toInt32) :: S)))) : own_Gl p e below s Q kc ks (T.setTop (mkF m pc L (.int v :: .int u :: S))) := by
  subst hp; exact hr.go fun t k => XS.iushr h hx rfl hd rfl k
theorem g_lshl (h : At T m c below) (hx : p.tables.exec = Jvm.exec) {u : Int64} {v : Int32} (hd : decode c.code pc = .ok (.lshl, 1)) (hp : pc + 1 = pc')  (hr : own_Gl p e below s Q kc ks (T.setTop (mkF m pc' L (.long (u <<< (v &&& 0x3f).toInt64) :: S)))) : own_Gl p e below s Q kc ks (T.setTop (mkF m pc L (.int v :: .long u :: S))) := by
  subst hp; exact hr.go fun t k => XS.lshl h hx rfl hd rfl k
theorem g_lshr (h : At T m c below) (hx : p.tables.exec = Jvm.exec) {u : Int64} {v : Int32} (hd : decode c.code pc = .ok (.lshr, 1)) (hp : pc + 1 = pc')  (hr : own_Gl p e below s Q kc ks (T.setTop (mkF m pc' L (.long (u >>> (v &&& 0x3f).toInt64) :: S)))) : own_Gl p e below s Q kc ks (T.setTop (mkF m pc L (.int v :: .long u :: S))) := by
  subst hp; exact hr.go fun t k => XS.lshr h hx rfl hd rfl k
theorem g_lushr (h : At T m c below) (hx : p.tables.exec = Jvm.exec) {u : Int64} {v : Int32} (hd : decode c.code pc = .ok (.lushr, 1)) (hp : pc + 1 = pc')  (hr : own_Gl p e below s Q kc ks (T.setTop (mkF m pc' L (.long ((u.toUInt64 >>> (v &&& 0x3f).toInt64.toUInt64).toInt64) :: S)))) : own_Gl p e below s Q kc ks (T.setTop (mkF m pc L (.int v :: .long u :: S))) := by
  subst hp; exact hr.go fun t k => XS.lushr h hx rfl hd rfl k
theorem g_idiv (h : At T m c below) (hx : p.tables.exec = Jvm.exec) {u v : Int32} (hd : decode c.code pc = .ok (.idiv, 1)) (hp : pc + 1 = pc') (hy : v ≠ 0) (hr : own_Gl p e below s Q kc ks (T.setTop (mkF m pc' L (.int (u / v) :: S)))) : own_Gl p e below s Q kc ks (T.setTop (mkF m pc L (.int v :: .int u :: S))) := by
  subst hp; exact hr.go fun t k => XS.idiv h hx rfl hd rfl hy k
theorem g_ldiv (h : At T m c below) (hx : p.tables.exec = Jvm.exec) {u v : Int64} (hd : decode c.code pc = .ok (.ldiv, 1)) (hp : pc + 1 = pc') (hy : v ≠ 0) (hr : own_Gl p e below s Q kc ks (T.setTop (mkF m pc' L (.long (u / v) :: S)))) : own_Gl p e below s Q kc ks (T.setTop (mkF m pc L (.long v :: .long u :: S))) := by
  subst hp; exact hr.go fun t k => XS.ldiv h hx rfl hd rfl hy k
theorem g_irem (X : Stand p l e R s m args below meth c T locs cells slots) (hx : p.tables.exec = Jvm.exec) {u v : Int32} (hd : decode c.code pc = .ok (.irem, 1)) (hp : pc + 1 = pc') (hy : v ≠ 0) (hr : own_Gl p e below s Q kc ks (T.setTop (mkF m pc' L (.int (u % v) :: S)))) : own_Gl p e below s Q kc ks (T.setTop (mkF m pc L (.int v :: .int u :: S))) := by
  subst hp; exact hr.go fun t k => iremM X hx rfl hd rfl hy k
theorem g_lrem (h : At T m c below) (hx : p.tables.exec = Jvm.exec) {u v : Int64} (hd : decode c.code pc = .ok (.lrem, 1)) (hp : pc + 1 = pc') (hy : v ≠ 0) (hr : own_Gl p e below s Q kc ks (T.setTop (mkF m pc' L (.long (u % v) :: S)))) : own_Gl p e below s Q kc ks (T.setTop (mkF m pc L (.long v :: .long u :: S))) := by
  subst hp; exact hr.go fun t k => XS.lrem h hx rfl hd rfl hy (by rw [lrem_mod]; exact k)
theorem g_ineg (h : At T m c below) (hx : p.tables.exec = Jvm.exec) {u : Int32} (hd : decode c.code pc = .ok (.ineg, 1)) (hp : pc + 1 = pc')  (hr : own_Gl p e below s Q kc ks (T.setTop (mkF m pc' L (.int (-u) :: S)))) : own_Gl p e below s Q kc ks (T.setTop (mkF m pc L (.int u :: S))) := by
  subst hp; exact hr.go fun t k => XS.ineg h hx rfl hd rfl k
theorem g_lneg (h : At T m c below) (hx : p.tables.exec = Jvm.exec) {u : Int64} (hd : decode c.code pc = .ok (.lneg, 1)) (hp : pc + 1 = pc')  (hr : own_Gl p e below s Q kc ks (T.setTop (mkF m pc' L (.long (-u) :: S)))) : own_Gl p e below s Q kc ks (T.setTop (mkF m pc L (.long u :: S))) := by
  subst hp; exact hr.go fun t k => XS.lneg h hx rfl hd rfl k
theorem g_i2l (h : At T m c below) (hx : p.tables.exec = Jvm.exec) {u : Int32} (hd : decode c.code pc = .ok (.i2l, 1)) (hp : pc + 1 = pc')  (hr : own_Gl p e below s Q kc ks (T.setTop (mkF m pc' L (.long u.toInt64 :: S)))) : own_Gl p e below s Q kc ks (T.setTop (mkF m pc L (.int u :: S))) := by
  subst hp; exact hr.go fun t k => XS.i2l h hx rfl hd rfl k
theorem g_l2i (h : At T m c below) (hx : p.tables.exec = Jvm.exec) {u : Int64} (hd : decode c.code pc = .ok (.l2i, 1)) (hp : pc + 1 = pc')  (hr : own_Gl p e below s Q kc ks (T.setTop (mkF m pc' L (.int u.toInt32 :: S)))) : own_Gl p e below s Q kc ks (T.setTop (mkF m pc L (.long u :: S))) := by
  subst hp; exact hr.go fun t k => XS.l2i h hx rfl hd rfl k
theorem g_i2b (h : At T m c below) (hx : p.tables.exec = Jvm.exec) {u : Int32} (hd : decode c.code pc = .ok (.i2b, 1)) (hp : pc + 1 = pc')  (hr : own_Gl p e below s Q kc ks (T.setTop (mkF m pc' L (.int u.toInt8.toInt32 :: S)))) : own_Gl p e below s Q kc ks (T.setTop (mkF m pc L (.int u :: S))) := by
  subst hp; exact hr.go fun t k => XS.i2b h hx rfl hd rfl k
theorem g_i2s (h : At T m c below) (hx : p.tables.exec = Jvm.exec) {u : Int32} (hd : decode c.code pc = .ok (.i2s, 1)) (hp : pc + 1 = pc')  (hr : own_Gl p e below s Q kc ks (T.setTop (mkF m pc' L (.int u.toInt16.toInt32 :: S)))) : own_Gl p e below s Q kc ks (T.setTop (mkF m pc L (.int u :: S))) := by
  subst hp; exact hr.go fun t k => XS.i2s h hx rfl hd rfl k
theorem g_i2c (h : At T m c below) (hx : p.tables.exec = Jvm.exec) {u : Int32} (hd : decode c.code pc = .ok (.i2c, 1)) (hp : pc + 1 = pc')  (hr : own_Gl p e below s Q kc ks (T.setTop (mkF m pc' L (.int u.toUInt32.toUInt16.toUInt32.toInt32 :: S)))) : own_Gl p e below s Q kc ks (T.setTop (mkF m pc L (.int u :: S))) := by
  subst hp; exact hr.go fun t k => XS.i2c h hx rfl hd rfl k
theorem g_lcmp (h : At T m c below) (hx : p.tables.exec = Jvm.exec) {u v : Int64} (hd : decode c.code pc = .ok (.lcmp, 1)) (hp : pc + 1 = pc')  (hr : own_Gl p e below s Q kc ks (T.setTop (mkF m pc' L (.int (lcmpW u v) :: S)))) : own_Gl p e below s Q kc ks (T.setTop (mkF m pc L (.long v :: .long u :: S))) := by
  subst hp; exact hr.go fun t k => XS.lcmp h hx rfl hd rfl k
theorem g_dup (h : At T m c below) (hx : p.tables.exec = Jvm.exec) {v : Value} (hd : decode c.code pc = .ok (.dup, 1)) (hp : pc + 1 = pc') (hc : v.category = 1) (hr : own_Gl p e below s Q kc ks (T.setTop (mkF m pc' L (v :: v :: S)))) : own_Gl p e below s Q kc ks (T.setTop (mkF m pc L (v :: S))) := by
  subst hp; exact hr.go fun t k => XS.dup h hx rfl hd rfl hc k
theorem g_pop (h : At T m c below) (hx : p.tables.exec = Jvm.exec) {v : Value} (hd : decode c.code pc = .ok (.pop, 1)) (hp : pc + 1 = pc') (hc : v.category = 1) (hr : own_Gl p e below s Q kc ks (T.setTop (mkF m pc' L S))) : own_Gl p e below s Q kc ks (T.setTop (mkF m pc L (v :: S))) := by
  subst hp; exact hr.go fun t k => XS.pop h hx rfl hd rfl hc k
theorem g_dupX1 (h : At T m c below) (hx : p.tables.exec = Jvm.exec) {v w : Value} (hd : decode c.code pc = .ok (.dup_x1, 1)) (hp : pc + 1 = pc') (hc : v.category = 1) (hc' : w.category = 1) (hr : own_Gl p e below s Q kc ks (T.setTop (mkF m pc' L (v :: w :: v :: S)))) : own_Gl p e below s Q kc ks (T.setTop (mkF m pc L (v :: w :: S))) := by
  subst hp; exact hr.go fun t k => XS.dupX1 h hx rfl hd rfl hc hc' k
theorem g_dup2 (h : At T m c below) (hx : p.tables.exec = Jvm.exec) {v w : Value} (hd : decode c.code pc = .ok (.dup2, 1)) (hp : pc + 1 = pc') (hc : v.category = 1) (hc' : w.category = 1) (hr : own_Gl p e below s Q kc ks (T.setTop (mkF m pc' L (v :: w :: v :: w :: S)))) : own_Gl p e below s Q kc ks (T.setTop (mkF m pc L (v :: w :: S))) := by
  subst hp; exact hr.go fun t k => XT.dup2 h hx rfl hd rfl hc hc' k
theorem g_dup2L (h : At T m c below) (hx : p.tables.exec = Jvm.exec) {v : Int64} (hd : decode c.code pc = .ok (.dup2, 1)) (hp : pc + 1 = pc')  (hr : own_Gl p e below s Q kc ks (T.setTop (mkF m pc' L (.long v :: .long v :: S)))) : own_Gl p e below s Q kc ks (T.setTop (mkF m pc L (.long v :: S))) := by
  subst hp; exact hr.go fun t k => XT.dup2L h hx rfl hd rfl k
theorem g_pop2L (h : At T m c below) (hx : p.tables.exec = Jvm.exec) {v : Int64} (hd : decode c.code pc = .ok (.pop2, 1)) (hp : pc + 1 = pc') (hr : own_Gl p e below s Q kc ks (T.setTop (mkF m pc' L S))) : own_Gl p e below s Q kc ks (T.setTop (mkF m pc L (.long v :: S))) := by
  subst hp
  refine hr.go fun t k => ?_
  jvm_step h [h.top, hx, hd, Value.category]
  exact k
theorem g_iinc (h : At T m c below) (hx : p.tables.exec = Jvm.exec) {j : Nat} {i : Int} {v z : Int32} (hd : decode c.code pc = .ok (.iinc j i, 3)) (hp : pc + 3 = pc') (hz : Int32.ofInt i = z) (hl : L[j]? = some (.val (.int v))) (hl' : storeLocals L j (.int (v + z)) = some L') (hr : own_Gl p e below s Q kc ks (T.setTop (mkF m pc' L' S))) : own_Gl p e below s Q kc ks (T.setTop (mkF m pc L S)) := by
  subst hp; exact hr.go fun t k => XS.iinc h hx rfl hd hl (by rw [hz]; exact hl') k
theorem g_goto (h : At T m c below) (hx : p.tables.exec = Jvm.exec) {i : Int} (hd : decode c.code pc = .ok (.goto i, 3)) (ho : 0 ≤ (pc : Int) + i) (hp : ((pc : Int) + i).toNat = pc') (hr : own_Gl p e below s Q kc ks (T.setTop (mkF m pc' L S))) : own_Gl p e below s Q kc ks (T.setTop (mkF m pc L S)) := hr.go fun t k => XS.goto h hx rfl (pc0 := pc) rfl hd ho hp k
theorem g_ifY (h : At T m c below) (hx : p.tables.exec = Jvm.exec) {cd : ClassFile.Cond} {i : Int} {x : Int32} (hd : decode c.code pc = .ok (.ifCond cd i, 3)) (ho : 0 ≤ (pc : Int) + i) (hp : ((pc : Int) + i).toNat = pc') (hc : ifCond.holds cd x = true) (hr : own_Gl p e below s Q kc ks (T.setTop (mkF m pc' L S))) : own_Gl p e below s Q kc ks (T.setTop (mkF m pc L (.int x :: S))) := hr.go fun t k => XS.ifYes h hx rfl (pc0 := pc) rfl hd rfl hc ho hp k
theorem g_ifN (h : At T m c below) (hx : p.tables.exec = Jvm.exec) {cd : ClassFile.Cond} {i : Int} {x : Int32} (hd : decode c.code pc = .ok (.ifCond cd i, 3)) (hp : pc + 3 = pc') (hc : ifCond.holds cd x = false) (hr : own_Gl p e below s Q kc ks (T.setTop (mkF m pc' L S))) : own_Gl p e below s Q kc ks (T.setTop (mkF m pc L (.int x :: S))) := by
  subst hp; exact hr.go fun t k => XS.ifNo h hx rfl hd rfl hc k
theorem g_icY (h : At T m c below) (hx : p.tables.exec = Jvm.exec) {cd : ClassFile.Cond} {i : Int} {x y : Int32} (hd : decode c.code pc = .ok (.if_icmp cd i, 3)) (ho : 0 ≤ (pc : Int) + i) (hp : ((pc : Int) + i).toNat = pc') (hc : if_icmp.holds cd x y = true) (hr : own_Gl p e below s Q kc ks (T.setTop (mkF m pc' L S))) : own_Gl p e below s Q kc ks (T.setTop (mkF m pc L (.int y :: .int x :: S))) := hr.go fun t k => XS.icmpYes h hx rfl (pc0 := pc) rfl hd rfl hc ho hp k
theorem g_icN (h : At T m c below) (hx : p.tables.exec = Jvm.exec) {cd : ClassFile.Cond} {i : Int} {x y : Int32} (hd : decode c.code pc = .ok (.if_icmp cd i, 3)) (hp : pc + 3 = pc') (hc : if_icmp.holds cd x y = false) (hr : own_Gl p e below s Q kc ks (T.setTop (mkF m pc' L S))) : own_Gl p e below s Q kc ks (T.setTop (mkF m pc L (.int y :: .int x :: S))) := by
  subst hp; exact hr.go fun t k => XS.icmpNo h hx rfl hd rfl hc k
theorem g_ifnullY (h : At T m c below) (hx : p.tables.exec = Jvm.exec)  {i : Int} (hd : decode c.code pc = .ok (.ifnull i, 3)) (ho : 0 ≤ (pc : Int) + i) (hp : ((pc : Int) + i).toNat = pc') (hr : own_Gl p e below s Q kc ks (T.setTop (mkF m pc' L S))) : own_Gl p e below s Q kc ks (T.setTop (mkF m pc L (.null :: S))) := hr.go fun t k => XS.ifnullYes h hx rfl (pc0 := pc) rfl hd rfl ho hp k
theorem g_ifnullN (h : At T m c below) (hx : p.tables.exec = Jvm.exec) {b : Addr} {i : Int} (hd : decode c.code pc = .ok (.ifnull i, 3)) (hp : pc + 3 = pc') (hr : own_Gl p e below s Q kc ks (T.setTop (mkF m pc' L S))) : own_Gl p e below s Q kc ks (T.setTop (mkF m pc L (.ref b :: S))) := by
  subst hp; exact hr.go fun t k => XS.ifnullNo h hx rfl hd rfl k
theorem g_ifnonnullY (h : At T m c below) (hx : p.tables.exec = Jvm.exec) {b : Addr} {i : Int} (hd : decode c.code pc = .ok (.ifnonnull i, 3)) (ho : 0 ≤ (pc : Int) + i) (hp : ((pc : Int) + i).toNat = pc') (hr : own_Gl p e below s Q kc ks (T.setTop (mkF m pc' L S))) : own_Gl p e below s Q kc ks (T.setTop (mkF m pc L (.ref b :: S))) := hr.go fun t k => XS.ifnonnullYes h hx rfl (pc0 := pc) rfl hd rfl ho hp k
theorem g_ifnonnullN (h : At T m c below) (hx : p.tables.exec = Jvm.exec)  {i : Int} (hd : decode c.code pc = .ok (.ifnonnull i, 3)) (hp : pc + 3 = pc') (hr : own_Gl p e below s Q kc ks (T.setTop (mkF m pc' L S))) : own_Gl p e below s Q kc ks (T.setTop (mkF m pc L (.null :: S))) := by
  subst hp; exact hr.go fun t k => XS.ifnonnullNo h hx rfl hd rfl k
theorem g_ldc (X : Stand p l e R s m args below meth c T locs cells slots) (hx : p.tables.exec = Jvm.exec) (hZ : Z.Warmed39 s.vm) {own : String} {index : Nat} {v : Int32} (hown : s.vm.findClass own = some m.cls) (w : (Jvm.Cond.constant own index v).before a0 Z = true) (hd : decode c.code pc = .ok (.ldc index, 2)) (hp : pc + 2 = pc') (hr : own_Gl p e below s Q kc ks (T.setTop (mkF m pc' L (.int v :: S)))) : own_Gl p e below s Q kc ks (T.setTop (mkF m pc L S)) := by
  subst hp; exact hr.go (X.ldcInt hx hown (mvT hZ w) (g := mkF m pc L S) rfl hd)
theorem g_ldcw (X : Stand p l e R s m args below meth c T locs cells slots) (hx : p.tables.exec = Jvm.exec) (hZ : Z.Warmed39 s.vm) {own : String} {index : Nat} {v : Int32} (hown : s.vm.findClass own = some m.cls) (w : (Jvm.Cond.constant own index v).before a0 Z = true) (hd : decode c.code pc = .ok (.ldc_w index, 3)) (hp : pc + 3 = pc') (hr : own_Gl p e below s Q kc ks (T.setTop (mkF m pc' L (.int v :: S)))) : own_Gl p e below s Q kc ks (T.setTop (mkF m pc L S)) := by
  subst hp; exact hr.go (X.ldcwInt hx hown (mvT hZ w) (g := mkF m pc L S) rfl hd)
theorem g_ldc2 (X : Stand p l e R s m args below meth c T locs cells slots) (hx : p.tables.exec = Jvm.exec) (hZ : Z.Warmed39 s.vm) {own : String} {index : Nat} {v : Int64} (hown : s.vm.findClass own = some m.cls) (w : (Jvm.Cond.constantLong own index v).before a0 Z = true) (hd : decode c.code pc = .ok (.ldc2_w index, 3)) (hp : pc + 3 = pc') (hr : own_Gl p e below s Q kc ks (T.setTop (mkF m pc' L (.long v :: S)))) : own_Gl p e below s Q kc ks (T.setTop (mkF m pc L S)) := by
  subst hp; exact hr.go (X.ldc2Long hx hown (mvT hZ w) (g := mkF m pc L S) rfl hd)
end OwnKit

section OwnHeap
variable {p : Program} {l : Launch} {e : Env} {R : Room} {s : State} {m : MethodId} {args : Array Value} {below : List Frame} {meth : Method} {c : Code} {T : State} {locs : List Loc} {cells slots : Nat} {Z : State} {a0 : Array Value} {h : Heap} {Q : Option Value → Heap → List Loc → Prop} {kc ks : Nat} {pc pc' : Nat} {L L' : Array Slot} {S : List Value}
/-- an array of ints, bytes or booleans by what each place holds -/
def own_IA (Z : State) (h : Heap) (a : Addr) (ty : FieldType) (n : Nat) (f : Nat → Int32) : Prop := ∃ c : Cell, Arr Z h a c ty ∧ c.slots.size = n ∧ ∀ i, i < n → c.slots[i]? = some (.int (f i))
theorem own_IA.lt {a : Addr} {ty : FieldType} {n : Nat} {f : Nat → Int32} (V : own_IA Z h a ty n f) : a < h.size := by obtain ⟨c, A, -⟩ := V; exact A.lt
theorem own_IA.ext {h' : Heap} {a : Addr} {ty : FieldType} {n : Nat} {f : Nat → Int32} (V : own_IA Z h a ty n f) (E : Ext h h') : own_IA Z h' a ty n f := by obtain ⟨c, A, r⟩ := V; exact ⟨c, A.ext E, r⟩
theorem own_IA.other {h' : Heap} {a b : Addr} {ty : FieldType} {n sl : Nat} {v : Value} {f : Nat → Int32} (V : own_IA Z h b ty n f) (W : Wr h h' a sl v) (q : b ≠ a) : own_IA Z h' b ty n f := by obtain ⟨c, A, r⟩ := V; exact ⟨c, A.other W q, r⟩
theorem own_IA.keep {h' : Heap} {ws : List Addr} {a : Addr} {ty : FieldType} {n : Nat} {f : Nat → Int32} (V : own_IA Z h a ty n f) (K : Keep h h' ws) (q : a ∉ ws) : own_IA Z h' a ty n f := by obtain ⟨c, A, r⟩ := V; exact ⟨c, ⟨K.2.1 a c A.1 q, A.2⟩, r⟩
theorem own_IA.congr {a : Addr} {ty : FieldType} {n : Nat} {f g : Nat → Int32} (V : own_IA Z h a ty n f) (q : ∀ i, i < n → f i = g i) : own_IA Z h a ty n g := by obtain ⟨c, A, S, H⟩ := V; exact ⟨c, A, S, fun i hi => by rw [H i hi, q i hi]⟩
theorem own_clamp (j : Int32) : j.toNatClampNeg = j.toInt.toNat := rfl
theorem own_in {c : Cell} {n : Nat} (S : c.slots.size = n) {j : Int32} (hj : 0 ≤ j.toInt ∧ j.toInt < n) : ¬ (j < 0 ∨ c.slots.size ≤ j.toNatClampNeg) := by
  have k : (0 : Int32).toInt = 0 := by decide
  rw [Int32.lt_iff_toInt_lt, own_clamp, S, k]; omega
theorem own_IA.set {h' : Heap} {a : Addr} {ty : FieldType} {n : Nat} {x : Int32} {k : Nat} {f : Nat → Int32} (V : own_IA Z h a ty n f) (W : Wr h h' a k (.int x)) : own_IA Z h' a ty n (fun i => if i = k then x else f i) := by
  obtain ⟨c, A, S, H⟩ := V
  refine ⟨c.setSlot k (.int x), A.same W, by rw [sz_set]; exact S, fun i hi => ?_⟩
  show (c.slots.setIfInBounds k (.int x))[i]? = some (Value.int (if i = k then x else f i))
  by_cases q : i = k
  · subst q
    rw [Array.getElem?_setIfInBounds_self_of_lt (by omega), if_pos rfl]
  · rw [Array.getElem?_setIfInBounds_ne (fun z => q z.symm), H i hi, if_neg q]
theorem g_getF (X : Stand p l e R s m args below meth c T locs cells slots) (hx : p.tables.exec = Jvm.exec) (hZ : Z.Warmed39 s.vm) {own R0 O n d host : String} {index : Nat} (hown : s.vm.findClass own = some m.cls) (w : (Jvm.Cond.fieldLink own index R0 n d).before a0 Z = true ∨ (Jvm.Cond.fieldLinkNest own index R0 n d host).before a0 Z = true) (via : Via Z R0 O n d)
    (eT : T.heap = h) {a : Addr} {v : Value} (F : Fld Z h a O n d v) (hd : decode c.code pc = .ok (.getfield index, 3)) (hp : pc + 3 = pc') (k : ∀ T' : State, Stand p l e R s m args below meth c T' locs cells slots → T'.heap = h → own_Gl p e below s Q kc ks (T'.setTop (mkF m pc' L (v :: S)))) :
    own_Gl p e below s Q kc ks (T.setTop (mkF m pc L (.ref a :: S))) := by
  subst hp
  obtain ⟨T', X', e', st⟩ := getF X hx hZ hown w via eT F (g := mkF m pc L (.ref a :: S)) rfl rfl hd
  exact (k T' X' e').go st
theorem g_putF (X : Stand p l e R s m args below meth c T locs cells slots) (hx : p.tables.exec = Jvm.exec) (hZ : Z.Warmed39 s.vm) {own R0 O n d host C : String} {index kk : Nat} {ty : FieldType} (hown : s.vm.findClass own = some m.cls) (w : (Jvm.Cond.fieldLink own index R0 n d).before a0 Z = true ∨ (Jvm.Cond.fieldLinkNest own index R0 n d host).before a0 Z = true) (via : Via Z R0 O n d)
    (eT : T.heap = h) {a : Addr} {v old : Value} (F : Fld Z h a O n d old) (E : Exa Z h a C) (Ly : (Jvm.Cond.lays C O n d).before a0 Z = true ∨ ((Jvm.Cond.laysFinal C O n d).before a0 Z = true ∧ own = O ∧ meth.name = "<init>")) (wi : (Jvm.Cond.instantiable C kk).before a0 Z = true)
    (hty : parseFieldDescriptor d = some ty) (hn : narrow ty v = v) (hf : fits ty v = true) (hd : decode c.code pc = .ok (.putfield index, 3)) (hp : pc + 3 = pc')
    (k : ∀ (T' : State) (h' : Heap), Stand p l e R s m args below meth c T' (locs ++ [⟨a, Jvm.RoadKit.slotOf Z O n d⟩]) cells slots → T'.heap = h' → Wr h h' a (Jvm.RoadKit.slotOf Z O n d) v → own_Gl p e below s Q kc ks (T'.setTop (mkF m pc' L S))) :
    own_Gl p e below s Q kc ks (T.setTop (mkF m pc L (v :: .ref a :: S))) := by
  subst hp
  obtain ⟨T', h', X', e', W', st⟩ := putF X hx hZ hown w via eT F E Ly wi hty hn hf (g := mkF m pc L (v :: .ref a :: S)) rfl rfl hd
  exact (k T' h' X' e' W').go st
theorem g_putFN (X : Stand p l e R s m args below meth c T locs cells slots) (hx : p.tables.exec = Jvm.exec) (hZ : Z.Warmed39 s.vm) {own R0 O n d C : String} {index kk : Nat} {ty : FieldType} (hown : s.vm.findClass own = some m.cls) (w : (Jvm.Cond.fieldLink own index R0 n d).before a0 Z = true) (via : Via Z R0 O n d)
    (eT : T.heap = h) {a : Addr} {v v' old : Value} (F : Fld Z h a O n d old) (E : Exa Z h a C) (Ly : (Jvm.Cond.lays C O n d).before a0 Z = true ∨ ((Jvm.Cond.laysFinal C O n d).before a0 Z = true ∧ own = O ∧ meth.name = "<init>")) (wi : (Jvm.Cond.instantiable C kk).before a0 Z = true)
    (hty : parseFieldDescriptor d = some ty) (hn : narrow ty v = v') (hf : fits ty v' = true) (hd : decode c.code pc = .ok (.putfield index, 3)) (hp : pc + 3 = pc')
    (k : ∀ (T' : State) (h' : Heap), Stand p l e R s m args below meth c T' (locs ++ [⟨a, Jvm.RoadKit.slotOf Z O n d⟩]) cells slots → T'.heap = h' → Wr h h' a (Jvm.RoadKit.slotOf Z O n d) v' → own_Gl p e below s Q kc ks (T'.setTop (mkF m pc' L S))) :
    own_Gl p e below s Q kc ks (T.setTop (mkF m pc L (v :: .ref a :: S))) := by
  subst hp
  obtain ⟨T', h', X', e', W', st⟩ := putFN X hx hZ hown w via eT F E Ly wi hty hn hf (g := mkF m pc L (v :: .ref a :: S)) rfl rfl hd
  exact (k T' h' X' e' W').go st
theorem g_new (X : Stand p l e R s m args below meth c T locs cells slots) (hx : p.tables.exec = Jvm.exec) (hZ : Z.Warmed39 s.vm) {own C : String} {index n : Nat} (hown : s.vm.findClass own = some m.cls) (w : (Jvm.Cond.classLink own index C).before a0 Z = true) (wi : (Jvm.Cond.instantiable C n).before a0 Z = true) (wz : (Jvm.Cond.initialized C).before a0 Z = true) (eT : T.heap = h)
    (hd : decode c.code pc = .ok (.new index, 3)) (hp : pc + 3 = pc') {cells' slots' : Nat} (hcc : cells + 1 = cells') (hss : slots + n = slots') (hc : cells' ≤ R.cells) (hl : slots' ≤ R.slots)
    (k : ∀ (T' : State) (h' : Heap) (b : Addr), b = h.size → Stand p l e R s m args below meth c T' locs cells' slots' → T'.heap = h' → Ext h h' → Exa Z h' b C → (∀ {O nm d : String} {ty : FieldType}, Laid Z a0 C O nm d → parseFieldDescriptor d = some ty → Fld Z h' b O nm d (defaultValue ty)) → own_Gl p e below s Q kc ks (T'.setTop (mkF m pc' L (.ref b :: S)))) :
    own_Gl p e below s Q kc ks (T.setTop (mkF m pc L S)) := by
  subst hp hcc hss
  obtain ⟨T', h', X', e', E', A', D', -, st⟩ := newO X hx hZ hown w wi wz eT (g := mkF m pc L S) rfl hd hc hl
  exact (k T' h' _ rfl X' e' E' A' D').go st
theorem g_newarr (X : Stand p l e R s m args below meth c T locs cells slots) (hx : p.tables.exec = Jvm.exec) (hZ : Z.Warmed39 s.vm) {aty : ArrayType} {ty : FieldType} (hty : newarray.typeOf aty = ty) (hdv : defaultValue ty = .int 0) (w : (Jvm.Cond.arrayClass ty).before a0 Z = true) (eT : T.heap = h)
    (hd : decode c.code pc = .ok (.newarray aty, 2)) (hp : pc + 2 = pc') {z : Int32} {n : Nat} (hn : z.toInt = n) (cap : Nat) (hcap : n ≤ cap) (hb : cap * 8 ≤ 536870912) {cells' slots' : Nat} (hcc : cells + 1 = cells') (hss : slots + cap = slots') (hc : cells' ≤ R.cells) (hl : slots' ≤ R.slots)
    (k : ∀ (T' : State) (h' : Heap) (b : Addr), b = h.size → Stand p l e R s m args below meth c T' locs cells' slots' → T'.heap = h' → Ext h h' → own_IA Z h' b ty n (fun _ => 0) → own_Gl p e below s Q kc ks (T'.setTop (mkF m pc' L (.ref b :: S)))) :
    own_Gl p e below s Q kc ks (T.setTop (mkF m pc L (.int z :: S))) := by
  subst hp hcc hss hty
  have q : ¬ z < 0 := by
    have k0 : (0 : Int32).toInt = 0 := by decide
    rw [Int32.lt_iff_toInt_lt, k0]; omega
  have zn : z.toNatClampNeg = n := by rw [own_clamp]; omega
  obtain ⟨T', h', cA, X', e', E', A', st⟩ := newP X hx hZ w eT (g := mkF m pc L (.int z :: S)) rfl hd rfl q (cap := cap) (by omega) hb hc hl
  refine (k T' h' _ rfl X' e' E' ⟨_, A', by rw [sz_new, zn], fun i hi => ?_⟩).go st
  show (Array.replicate z.toNatClampNeg (defaultValue (newarray.typeOf aty)))[i]? = _
  rw [zn, hdv, Array.getElem?_replicate, if_pos hi]
theorem g_iastore (X : Stand p l e R s m args below meth c T locs cells slots) (hx : p.tables.exec = Jvm.exec) (hZ : Z.Warmed39 s.vm) (eT : T.heap = h) {a : Addr} {n : Nat} {f : Nat → Int32} {j x : Int32} (V : own_IA Z h a .int n f) (hj : 0 ≤ j.toInt ∧ j.toInt < n) (hd : decode c.code pc = .ok (.iastore, 1)) (hp : pc + 1 = pc')
    (k : ∀ (T' : State) (h' : Heap), Stand p l e R s m args below meth c T' (locs ++ [⟨a, j.toNatClampNeg⟩]) cells slots → T'.heap = h' → Wr h h' a j.toNatClampNeg (.int x) → own_IA Z h' a .int n (fun i => if i = j.toNatClampNeg then x else f i) → own_Gl p e below s Q kc ks (T'.setTop (mkF m pc' L S))) :
    own_Gl p e below s Q kc ks (T.setTop (mkF m pc L (.int x :: .int j :: .ref a :: S))) := by
  subst hp
  have V' := V
  obtain ⟨cl, A, Sz, H⟩ := V
  obtain ⟨T', h', X', e', W', st⟩ := stI X hx hZ eT A (own_in Sz hj) (g := mkF m pc L (.int x :: .int j :: .ref a :: S)) rfl rfl hd
  exact (k T' h' X' e' W' (V'.set W')).go st
theorem g_bastore (X : Stand p l e R s m args below meth c T locs cells slots) (hx : p.tables.exec = Jvm.exec) (hZ : Z.Warmed39 s.vm) (eT : T.heap = h) {a : Addr} {n : Nat} {f : Nat → Int32} {j x : Int32} (V : own_IA Z h a .byte n f) (hj : 0 ≤ j.toInt ∧ j.toInt < n) (hd : decode c.code pc = .ok (.bastore, 1)) (hp : pc + 1 = pc')
    (k : ∀ (T' : State) (h' : Heap), Stand p l e R s m args below meth c T' (locs ++ [⟨a, j.toNatClampNeg⟩]) cells slots → T'.heap = h' → Wr h h' a j.toNatClampNeg (.int x.toInt8.toInt32) → own_IA Z h' a .byte n (fun i => if i = j.toNatClampNeg then x.toInt8.toInt32 else f i) → own_Gl p e below s Q kc ks (T'.setTop (mkF m pc' L S))) :
    own_Gl p e below s Q kc ks (T.setTop (mkF m pc L (.int x :: .int j :: .ref a :: S))) := by
  subst hp
  have V' := V
  obtain ⟨cl, A, Sz, H⟩ := V
  obtain ⟨T', h', X', e', W', st⟩ := stB X hx hZ eT A (own_in Sz hj) (g := mkF m pc L (.int x :: .int j :: .ref a :: S)) rfl rfl hd
  exact (k T' h' X' e' W' (V'.set W')).go st
theorem g_zastore (X : Stand p l e R s m args below meth c T locs cells slots) (hx : p.tables.exec = Jvm.exec) (hZ : Z.Warmed39 s.vm) (eT : T.heap = h) {a : Addr} {n : Nat} {f : Nat → Int32} {j x x' : Int32} (V : own_IA Z h a .boolean n f) (hj : 0 ≤ j.toInt ∧ j.toInt < n) (hv : nar .boolean x = x') (hd : decode c.code pc = .ok (.bastore, 1)) (hp : pc + 1 = pc')
    (k : ∀ (T' : State) (h' : Heap), Stand p l e R s m args below meth c T' (locs ++ [⟨a, j.toNatClampNeg⟩]) cells slots → T'.heap = h' → Wr h h' a j.toNatClampNeg (.int x') → own_IA Z h' a .boolean n (fun i => if i = j.toNatClampNeg then x' else f i) → own_Gl p e below s Q kc ks (T'.setTop (mkF m pc' L S))) :
    own_Gl p e below s Q kc ks (T.setTop (mkF m pc L (.int x :: .int j :: .ref a :: S))) := by
  subst hp hv
  have V' := V
  obtain ⟨cl, A, Sz, H⟩ := V
  obtain ⟨T', h', X', e', W', st⟩ := stZ X hx hZ eT A (own_in Sz hj) (g := mkF m pc L (.int x :: .int j :: .ref a :: S)) rfl rfl hd
  exact (k T' h' X' e' W' (V'.set W')).go st
theorem own_at {a : Addr} {ty : FieldType} {n : Nat} {f : Nat → Int32} {c : Cell} (S : c.slots.size = n) (H : ∀ i, i < n → c.slots[i]? = some (.int (f i))) {j v : Int32} (hj : 0 ≤ j.toInt ∧ j.toInt < n) (hv : f j.toInt.toNat = v) : c.slots[j.toNatClampNeg]? = some (.int v) := by
  rw [own_clamp, H _ (by omega), hv]
theorem g_iaload (X : Stand p l e R s m args below meth c T locs cells slots) (hx : p.tables.exec = Jvm.exec) (hZ : Z.Warmed39 s.vm) (eT : T.heap = h) {a : Addr} {n : Nat} {f : Nat → Int32} {j v : Int32} (V : own_IA Z h a .int n f) (hj : 0 ≤ j.toInt ∧ j.toInt < n) (hv : f j.toInt.toNat = v) (hd : decode c.code pc = .ok (.iaload, 1)) (hp : pc + 1 = pc')
    (hr : own_Gl p e below s Q kc ks (T.setTop (mkF m pc' L (.int v :: S)))) : own_Gl p e below s Q kc ks (T.setTop (mkF m pc L (.int j :: .ref a :: S))) := by
  subst hp
  obtain ⟨cl, A, Sz, H⟩ := V
  exact hr.go fun t k => X.iaload hx (by rw [eT]; exact A.1) (State.isArrayOf_alike hZ.alike A.2.1) A.2.2 (own_in Sz hj) (own_at (a := a) (ty := .int) Sz H hj hv) (g := mkF m pc L (.int j :: .ref a :: S)) rfl rfl hd t k
theorem g_baload (X : Stand p l e R s m args below meth c T locs cells slots) (hx : p.tables.exec = Jvm.exec) (hZ : Z.Warmed39 s.vm) (eT : T.heap = h) {a : Addr} {n : Nat} {f : Nat → Int32} {j v : Int32} (V : own_IA Z h a .byte n f) (hj : 0 ≤ j.toInt ∧ j.toInt < n) (hv : f j.toInt.toNat = v) (hd : decode c.code pc = .ok (.baload, 1)) (hp : pc + 1 = pc')
    (hr : own_Gl p e below s Q kc ks (T.setTop (mkF m pc' L (.int v :: S)))) : own_Gl p e below s Q kc ks (T.setTop (mkF m pc L (.int j :: .ref a :: S))) := by
  subst hp
  obtain ⟨cl, A, Sz, H⟩ := V
  exact hr.go fun t k => X.baloadBytes hx (by rw [eT]; exact A.1) (State.isArrayOf_alike hZ.alike A.2.1) A.2.2 (own_in Sz hj) (own_at (a := a) (ty := .byte) Sz H hj hv) (g := mkF m pc L (.int j :: .ref a :: S)) rfl rfl hd t k
theorem g_zaload (X : Stand p l e R s m args below meth c T locs cells slots) (hx : p.tables.exec = Jvm.exec) (hZ : Z.Warmed39 s.vm) (eT : T.heap = h) {a : Addr} {n : Nat} {f : Nat → Int32} {j v : Int32} (V : own_IA Z h a .boolean n f) (hj : 0 ≤ j.toInt ∧ j.toInt < n) (hv : f j.toInt.toNat = v) (hd : decode c.code pc = .ok (.baload, 1)) (hp : pc + 1 = pc')
    (hr : own_Gl p e below s Q kc ks (T.setTop (mkF m pc' L (.int v :: S)))) : own_Gl p e below s Q kc ks (T.setTop (mkF m pc L (.int j :: .ref a :: S))) := by
  subst hp
  obtain ⟨cl, A, Sz, H⟩ := V
  exact hr.go fun t k => X.baloadBooleans hx (by rw [eT]; exact A.1) (State.isArrayOf_alike hZ.alike A.2.1) A.2.2 (own_in Sz hj) (own_at (a := a) (ty := .boolean) Sz H hj hv) (g := mkF m pc L (.int j :: .ref a :: S)) rfl rfl hd t k
theorem g_arraylength (X : Stand p l e R s m args below meth c T locs cells slots) (hx : p.tables.exec = Jvm.exec) (hZ : Z.Warmed39 s.vm) (eT : T.heap = h) {a : Addr} {ty : FieldType} {n : Nat} {f : Nat → Int32} {z : Int32} (V : own_IA Z h a ty n f) (hz : n.toInt32 = z) (hd : decode c.code pc = .ok (.arraylength, 1)) (hp : pc + 1 = pc')
    (hr : own_Gl p e below s Q kc ks (T.setTop (mkF m pc' L (.int z :: S)))) : own_Gl p e below s Q kc ks (T.setTop (mkF m pc L (.ref a :: S))) := by
  subst hp hz
  obtain ⟨cl, A, Sz, H⟩ := V
  subst Sz
  exact hr.go fun t k => X.arraylength hx (by rw [eT]; exact A.1) (State.isArrayOf_alike hZ.alike A.2.1) (g := mkF m pc L (.ref a :: S)) rfl rfl hd t k
theorem g_initO (X : Stand p l e R s m args below meth c T locs cells slots) (hx : p.tables.exec = Jvm.exec) (hZ : Z.Warmed39 s.vm) {own : String} {idx : Nat} (hown : s.vm.findClass own = some m.cls) (w1 : (Jvm.Cond.methodLink own idx Lib.objectInit).before a0 Z = true) (w2 : (Jvm.Cond.instanceMethod Lib.objectInit).before a0 Z = true)
    (w3 : (Jvm.Cond.code Lib.objectInit ⟨#[0xb1]⟩ 1 none).before a0 Z = true) (eT : T.heap = h) {a : Addr} (hsize : L.size = c.maxLocals) (hd : decode c.code pc = .ok (.invokespecial idx, 3)) (hp : pc + 3 = pc')
    (hf : 1 ≤ R.frames) (W : Nat) (hW : (S.map fun v => v.category).sum ≤ W) (hl : W + 12 ≤ R.locals) (k : ∀ T' : State, Stand p l e R s m args below meth c T' locs cells slots → T'.heap = h → own_Gl p e below s Q kc ks (T'.setTop (mkF m pc' L S))) :
    own_Gl p e below s Q kc ks (T.setTop (mkF m pc L (.ref a :: S))) := by
  subst hp
  obtain ⟨T', X', e', st⟩ := initO X hx hZ hown w1 w2 w3 eT (g := mkF m pc L (.ref a :: S)) rfl hsize rfl hd hf (W := W) (by show 2 * 0 + _ ≤ _; omega) hl
  exact (k T' X' e').go st
/-- a constructor by its contract -/
theorem g_callI (X : Stand p l e R s m args below meth c T locs cells slots) (hx : p.tables.exec = Jvm.exec) (hZ : Z.Warmed39 s.vm) {own : String} {index : Nat} {y : MethodName} {bytes : ByteArray} {maxL : Nat} (hy1 : y.name = "<init>") (hown : s.vm.findClass own = some m.cls)
    (w1 : (Jvm.Cond.methodLink own index y).before a0 Z = true) (w2 : (Jvm.Cond.instanceMethod y).before a0 Z = true) (w3 : (Jvm.Cond.initialized y.cls).before a0 Z = true) (w4 : (Jvm.Cond.code y bytes maxL none).before a0 Z = true) (hy : y.cls ≠ "java/lang/invoke/MethodHandle" ∧ y.cls ≠ "java/lang/invoke/VarHandle")
    {rm : Room} {as' : Array Value} {Qc : Option Value → Heap → List Loc → Prop}
    (hM : MetFree l y (head1 [Jvm.Cond.code y bytes maxL none] rm) (fun a U => a = as' ∧ Z.Warmed39 U.vm ∧ U.heap = h) (fun _ _ _ _ _ => True) (fun _ U o U' => ∃ v L, o = .returned v ∧ Qc v U'.heap L ∧ FrameEnd U o U' L rm.cells rm.slots))
    (W : Nat) (hf : rm.frames + 1 ≤ R.frames) (hl : W + (maxL + 11) + rm.locals ≤ R.locals) (eT : T.heap = h) (hsize : L.size = c.maxLocals) {a : Addr} (argsL rest : List Value) (hlen : ∀ sig, parseMethodDescriptor y.desc = some sig → argsL.length = sig.parameters.length)
    (hst : S = argsL.reverse ++ .ref a :: rest) (has : (Value.ref a :: argsL).toArray = as') (hW : (rest.map fun v => v.category).sum ≤ W) (hd : decode c.code pc = .ok (.invokespecial index, 3)) (hp : pc + 3 = pc') {cells' slots' : Nat} (hcc : cells + rm.cells = cells') (hss : slots + rm.slots = slots') (hcl : cells' ≤ R.cells) (hsl : slots' ≤ R.slots)
    (k : ∀ (v : Option Value) (T' : State) (L' : List Loc), Stand p l e R s m args below meth c T' (locs ++ L') cells' slots' → Qc v T'.heap L' → own_Gl p e below s Q kc ks (T'.setTop (mkF m pc' L (v.toList ++ rest)))) :
    own_Gl p e below s Q kc ks (T.setTop (mkF m pc L S)) := by
  subst hp hst hcc hss
  obtain ⟨v, _, ⟨T', L', k', n'⟩, -, X', ⟨Lc, hQ, l', y', z'⟩, st⟩ := X.specialBack hx (y := y) hy1 hown (mvT hZ w1) (mvT hZ w2) (mvT hZ w4) hy (backOf (W := W) hM hZ w4 w3 hf hl) (g := mkF m pc L (argsL.reverse ++ .ref a :: rest)) rfl hsize (Steps.refl _) (a := a) (argsL := argsL) (rest := rest) hlen rfl (by show 2 * 0 + _ ≤ _; omega) hd (fun _ _ => ⟨has, eT, hcl, hsl⟩)
  dsimp only [Pt.U, Pt.locs, Pt.cells, Pt.slots] at X' l' y' z' st hQ
  subst l' y' z'
  exact (k v T' Lc X' hQ).go fun t q => st.trans q
/-- an instance method by its contract -/
theorem g_callV (X : Stand p l e R s m args below meth c T locs cells slots) (hx : p.tables.exec = Jvm.exec) (hZ : Z.Warmed39 s.vm) {own C : String} {index : Nat} {y z : MethodName} {bytes : ByteArray} {maxL : Nat} {ret : Option FieldType} (hown : s.vm.findClass own = some m.cls)
    (w1 : (Jvm.Cond.methodLink own index y).before a0 Z = true) (w2 : (Jvm.Cond.declares y).before a0 Z = true) (nf : NotFace s y) (w5 : (Jvm.Cond.selects C y z).before a0 Z = true) (w6 : (Jvm.Cond.instanceMethod z).before a0 Z = true) (w3 : (Jvm.Cond.initialized z.cls).before a0 Z = true) (w4 : (Jvm.Cond.code z bytes maxL ret).before a0 Z = true) (hy : y.cls ≠ "java/lang/invoke/MethodHandle" ∧ y.cls ≠ "java/lang/invoke/VarHandle")
    {rm : Room} {as' : Array Value} {Qc : Option Value → Heap → List Loc → Prop}
    (hM : MetFree l z (head1 [Jvm.Cond.code z bytes maxL ret] rm) (fun a U => a = as' ∧ Z.Warmed39 U.vm ∧ U.heap = h) (fun _ _ _ _ _ => True) (fun _ U o U' => ∃ v L, o = .returned v ∧ Qc v U'.heap L ∧ FrameEnd U o U' L rm.cells rm.slots))
    (W : Nat) (hf : rm.frames + 1 ≤ R.frames) (hl : W + (maxL + 11) + rm.locals ≤ R.locals) (eT : T.heap = h) {a : Addr} (E : Exa Z h a C) (hsize : L.size = c.maxLocals) (argsL rest : List Value) (hlen : ∀ sig, parseMethodDescriptor y.desc = some sig → argsL.length = sig.parameters.length)
    (hst : S = argsL.reverse ++ .ref a :: rest) (has : (Value.ref a :: argsL).toArray = as') (hW : (rest.map fun v => v.category).sum ≤ W) (hd : decode c.code pc = .ok (.invokevirtual index, 3)) (hp : pc + 3 = pc') {cells' slots' : Nat} (hcc : cells + rm.cells = cells') (hss : slots + rm.slots = slots') (hcl : cells' ≤ R.cells) (hsl : slots' ≤ R.slots)
    (k : ∀ (v : Option Value) (T' : State) (L' : List Loc), Stand p l e R s m args below meth c T' (locs ++ L') cells' slots' → Qc v T'.heap L' → own_Gl p e below s Q kc ks (T'.setTop (mkF m pc' L (v.toList ++ rest)))) :
    own_Gl p e below s Q kc ks (T.setTop (mkF m pc L S)) := by
  subst hp hst hcc hss
  obtain ⟨cq, kq, qa, qb, qc⟩ := isOf hZ eT E
  obtain ⟨v, _, ⟨T', L', k', n'⟩, -, X', ⟨Lc, hQ, l', y', z'⟩, st⟩ := X.virtualBack hx (y := y) (z := z) hown (mvT hZ w1) (mvT hZ w2) nf (mvT hZ w5) (mvT hZ w6) hy (backOf (W := W) hM hZ w4 w3 hf hl) qa qc (g := mkF m pc L (argsL.reverse ++ .ref a :: rest)) rfl hsize (Steps.refl _) (argsL := argsL) (rest := rest) hlen rfl (by show 2 * 0 + _ ≤ _; omega) hd (fun _ _ => ⟨has, eT, hcl, hsl⟩)
  dsimp only [Pt.U, Pt.locs, Pt.cells, Pt.slots] at X' l' y' z' st hQ
  subst l' y' z'
  exact (k v T' Lc X' hQ).go fun t q => st.trans q
theorem own_nameL {n0 : Nat} (X : Stand p l e R s m args below meth c T locs cells slots) (N : Fr n0 locs) : ∃ lc, Fr n0 lc ∧ Stand p l e R s m args below meth c T lc cells slots := ⟨locs, N, X⟩
theorem own_nf {y : MethodName} {C : String} (hZ : Z.Warmed39 s.vm) (w5 : (Jvm.Cond.selects C y y).before a0 Z = true) : NotFace s y := notFace_of_selects (args := #[]) (mvT hZ w5)
end OwnHeap
def own_Q0 (n0 : Nat) (v : Option Value) (h : Heap) (L : List Loc) : Prop := v = some (.int 1) ∧ Fr n0 L
def own_ct (g : Nat → Int32) (n p : Int32) (i : Nat) (k c : Int32) : Int32 := if k < n then (if g i < p then (c + (1 : Int32)) else c) else c
def f_cb (g : Nat → Int32) (x1 x2 : Int32) : Int32 := (own_ct g x1 x2 3 (3 : Int32) (own_ct g x1 x2 2 (2 : Int32) (own_ct g x1 x2 1 (1 : Int32) (own_ct g x1 x2 0 (0 : Int32) (0 : Int32)))))
theorem d1_61 : decode method_3_code 61 = .ok (.iload_n 3, 1) := by decide +kernel
theorem d1_62 : decode method_3_code 62 = .ok (.ireturn, 1) := by decide +kernel
theorem d1_46 : decode method_3_code 46 = .ok (.iload_n 1, 1) := by decide +kernel
theorem d1_47 : decode method_3_code 47 = .ok (.iconst 3, 1) := by decide +kernel
theorem d1_48 : decode method_3_code 48 = .ok (.if_icmp .le 13, 3) := by decide +kernel
theorem d1_51 : decode method_3_code 51 = .ok (.aload_n 0, 1) := by decide +kernel
theorem d1_52 : decode method_3_code 52 = .ok (.iconst 3, 1) := by decide +kernel
theorem d1_53 : decode method_3_code 53 = .ok (.iaload, 1) := by decide +kernel
theorem d1_54 : decode method_3_code 54 = .ok (.iload_n 2, 1) := by decide +kernel
theorem d1_55 : decode method_3_code 55 = .ok (.if_icmp .ge 6, 3) := by decide +kernel
theorem d1_58 : decode method_3_code 58 = .ok (.iinc 3 1, 3) := by decide +kernel
theorem d1_31 : decode method_3_code 31 = .ok (.iload_n 1, 1) := by decide +kernel
theorem d1_32 : decode method_3_code 32 = .ok (.iconst 2, 1) := by decide +kernel
theorem d1_33 : decode method_3_code 33 = .ok (.if_icmp .le 13, 3) := by decide +kernel
theorem d1_36 : decode method_3_code 36 = .ok (.aload_n 0, 1) := by decide +kernel
theorem d1_37 : decode method_3_code 37 = .ok (.iconst 2, 1) := by decide +kernel
theorem d1_38 : decode method_3_code 38 = .ok (.iaload, 1) := by decide +kernel
theorem d1_39 : decode method_3_code 39 = .ok (.iload_n 2, 1) := by decide +kernel
theorem d1_40 : decode method_3_code 40 = .ok (.if_icmp .ge 6, 3) := by decide +kernel
theorem d1_43 : decode method_3_code 43 = .ok (.iinc 3 1, 3) := by decide +kernel
theorem d1_16 : decode method_3_code 16 = .ok (.iload_n 1, 1) := by decide +kernel
theorem d1_17 : decode method_3_code 17 = .ok (.iconst 1, 1) := by decide +kernel
theorem d1_18 : decode method_3_code 18 = .ok (.if_icmp .le 13, 3) := by decide +kernel
theorem d1_21 : decode method_3_code 21 = .ok (.aload_n 0, 1) := by decide +kernel
theorem d1_22 : decode method_3_code 22 = .ok (.iconst 1, 1) := by decide +kernel
theorem d1_23 : decode method_3_code 23 = .ok (.iaload, 1) := by decide +kernel
theorem d1_24 : decode method_3_code 24 = .ok (.iload_n 2, 1) := by decide +kernel
theorem d1_25 : decode method_3_code 25 = .ok (.if_icmp .ge 6, 3) := by decide +kernel
theorem d1_28 : decode method_3_code 28 = .ok (.iinc 3 1, 3) := by decide +kernel
theorem d1_2 : decode method_3_code 2 = .ok (.iload_n 1, 1) := by decide +kernel
theorem d1_3 : decode method_3_code 3 = .ok (.ifCond .le 13, 3) := by decide +kernel
theorem d1_6 : decode method_3_code 6 = .ok (.aload_n 0, 1) := by decide +kernel
theorem d1_7 : decode method_3_code 7 = .ok (.iconst 0, 1) := by decide +kernel
theorem d1_8 : decode method_3_code 8 = .ok (.iaload, 1) := by decide +kernel
theorem d1_9 : decode method_3_code 9 = .ok (.iload_n 2, 1) := by decide +kernel
theorem d1_10 : decode method_3_code 10 = .ok (.if_icmp .ge 6, 3) := by decide +kernel
theorem d1_13 : decode method_3_code 13 = .ok (.iinc 3 1, 3) := by decide +kernel
theorem d1_0 : decode method_3_code 0 = .ok (.iconst 0, 1) := by decide +kernel
theorem d1_1 : decode method_3_code 1 = .ok (.istore_n 3, 1) := by decide +kernel
theorem pn_0 : plainName "com/example/ogma/ogma/store/internal/AncestryFirstBelowPinLaw" = true := by first | (simp [plainName, overriddenIn]; done) | decide +kernel
theorem ef_1 (m : MethodId) (x0 : Addr) (x1 : Int32) (x2 : Int32) : entryFrame m #[(.ref x0), (.int x1), (.int x2)] 4 = mkF m 0 #[.val (.ref x0), .val (.int x1), .val (.int x2), .unset] [] := by first | (simp [entryFrame, mkF, argsToLocals, Value.category]; done) | rfl
set_option maxRecDepth 65536 in
set_option maxHeartbeats 40000000 in
theorem rm1 (l : Launch) (Z : State) (a0 : Array Value) (hw : ∀ d ∈ tables_1, d.before a0 Z = true) (ws : List Jvm.Cond) (x0 : Addr) (x1 x2 : Int32) (nn : Nat) (g : Nat → Int32) (h0 : Heap) (V0 : own_IA Z h0 x0 .int nn g) (hn : x1.toInt = nn) :
    MetFree l (⟨"com/example/ogma/ogma/store/internal/AncestryFirstBelowPinLaw", "countBefore", "([III)I"⟩ : MethodName) (head1 (Jvm.Cond.code (⟨"com/example/ogma/ogma/store/internal/AncestryFirstBelowPinLaw", "countBefore", "([III)I"⟩ : MethodName) method_3_code 4 (some .int) :: ws) ({ frames := 0, cells := 0, slots := 0, locals := 0 } : Room)) (fun a U => a = #[(.ref x0), (.int x1), (.int x2)] ∧ Z.Warmed39 U.vm ∧ U.heap = h0) (fun _ _ _ _ _ => True) (fun _ U o U' => ∃ v L, o = .returned v ∧ (own_Pure (some (.int (f_cb g x1 x2))) h0) v U'.heap L ∧ FrameEnd U o U' L ({ frames := 0, cells := 0, slots := 0, locals := 0 } : Room).cells ({ frames := 0, cells := 0, slots := 0, locals := 0 } : Room).slots) := by
  refine own_body (own := "com/example/ogma/ogma/store/internal/AncestryFirstBelowPinLaw") pn_0 rfl (fun m => ef_1 m x0 x1 x2) ?_
  intro p e s m below meth c T0 hx hby hml hown hnm hlk hret hZ X0 e0
  have k61 : ∀ (c3 : Int32), ∀ (hk3 : c3 = f_cb g x1 x2), own_Gl p e below s (own_Pure (some (.int (f_cb g x1 x2))) h0) ({ frames := 0, cells := 0, slots := 0, locals := 0 } : Room).cells ({ frames := 0, cells := 0, slots := 0, locals := 0 } : Room).slots (T0.setTop (mkF m 61 #[.val (.ref x0), .val (.int x1), .val (.int x2), .val (.int c3)] [])) := by
    intro c3 hk3
    refine g_iloadN X0.here hx (Jvm.hb hby d1_61) (pc' := 62) rfl rfl ?_
    exact g_retI X0 hx hlk hret (Jvm.hb hby d1_62) (Nat.zero_le _) (Nat.zero_le _) ⟨congrArg (fun z => some (Value.int z)) hk3, rfl, e0⟩
  have k46 : ∀ (c3 : Int32), ∀ (hk3 : (own_ct g x1 x2 3 (3 : Int32) c3) = f_cb g x1 x2), own_Gl p e below s (own_Pure (some (.int (f_cb g x1 x2))) h0) ({ frames := 0, cells := 0, slots := 0, locals := 0 } : Room).cells ({ frames := 0, cells := 0, slots := 0, locals := 0 } : Room).slots (T0.setTop (mkF m 46 #[.val (.ref x0), .val (.int x1), .val (.int x2), .val (.int c3)] [])) := by
    intro c3 hk3
    refine g_iloadN X0.here hx (Jvm.hb hby d1_46) (pc' := 47) rfl rfl ?_
    refine g_iconst X0.here hx (Jvm.hb hby d1_47) (pc' := 48) rfl (z := (3 : Int32)) rfl ?_
    by_cases hc48 : (3 : Int32) < x1
    · refine g_icN X0.here hx (Jvm.hb hby d1_48) (pc' := 51) rfl (tlt hc48).2.2.2 ?_
      refine g_aloadN X0.here hx (Jvm.hb hby d1_51) (pc' := 52) rfl rfl rfl ?_
      refine g_iconst X0.here hx (Jvm.hb hby d1_52) (pc' := 53) rfl (z := (3 : Int32)) rfl ?_
      refine g_iaload X0 hx hZ e0 V0 ⟨by decide, by rw [Int32.lt_iff_toInt_lt] at hc48; simp only [Int32.reduceToInt] at hc48 ⊢; omega⟩ (v := (g 3)) rfl (Jvm.hb hby d1_53) (pc' := 54) rfl ?_
      refine g_iloadN X0.here hx (Jvm.hb hby d1_54) (pc' := 55) rfl rfl ?_
      by_cases hc55 : (g 3) < x2
      · refine g_icN X0.here hx (Jvm.hb hby d1_55) (pc' := 58) rfl (tlt hc55).2.1 ?_
        refine g_iinc X0.here hx (Jvm.hb hby d1_58) (pc' := 61) rfl (z := (1 : Int32)) rfl rfl (L' := #[.val (.ref x0), .val (.int x1), .val (.int x2), .val (.int (c3 + (1 : Int32)))]) rfl ?_
        exact k61 _ (by rw [own_ct, if_pos hc48, if_pos hc55] at hk3; exact hk3)
      · refine g_icY X0.here hx (Jvm.hb hby d1_55) (by decide) (pc' := 61) (by decide) (flt hc55).2.1 ?_
        exact k61 _ (by rw [own_ct, if_pos hc48, if_neg hc55] at hk3; exact hk3)
    · refine g_icY X0.here hx (Jvm.hb hby d1_48) (by decide) (pc' := 61) (by decide) (flt hc48).2.2.2 ?_
      exact k61 _ (by rw [own_ct, if_neg hc48] at hk3; exact hk3)
  have k31 : ∀ (c3 : Int32), ∀ (hk3 : (own_ct g x1 x2 3 (3 : Int32) (own_ct g x1 x2 2 (2 : Int32) c3)) = f_cb g x1 x2), own_Gl p e below s (own_Pure (some (.int (f_cb g x1 x2))) h0) ({ frames := 0, cells := 0, slots := 0, locals := 0 } : Room).cells ({ frames := 0, cells := 0, slots := 0, locals := 0 } : Room).slots (T0.setTop (mkF m 31 #[.val (.ref x0), .val (.int x1), .val (.int x2), .val (.int c3)] [])) := by
    intro c3 hk3
    refine g_iloadN X0.here hx (Jvm.hb hby d1_31) (pc' := 32) rfl rfl ?_
    refine g_iconst X0.here hx (Jvm.hb hby d1_32) (pc' := 33) rfl (z := (2 : Int32)) rfl ?_
    by_cases hc33 : (2 : Int32) < x1
    · refine g_icN X0.here hx (Jvm.hb hby d1_33) (pc' := 36) rfl (tlt hc33).2.2.2 ?_
      refine g_aloadN X0.here hx (Jvm.hb hby d1_36) (pc' := 37) rfl rfl rfl ?_
      refine g_iconst X0.here hx (Jvm.hb hby d1_37) (pc' := 38) rfl (z := (2 : Int32)) rfl ?_
      refine g_iaload X0 hx hZ e0 V0 ⟨by decide, by rw [Int32.lt_iff_toInt_lt] at hc33; simp only [Int32.reduceToInt] at hc33 ⊢; omega⟩ (v := (g 2)) rfl (Jvm.hb hby d1_38) (pc' := 39) rfl ?_
      refine g_iloadN X0.here hx (Jvm.hb hby d1_39) (pc' := 40) rfl rfl ?_
      by_cases hc40 : (g 2) < x2
      · refine g_icN X0.here hx (Jvm.hb hby d1_40) (pc' := 43) rfl (tlt hc40).2.1 ?_
        refine g_iinc X0.here hx (Jvm.hb hby d1_43) (pc' := 46) rfl (z := (1 : Int32)) rfl rfl (L' := #[.val (.ref x0), .val (.int x1), .val (.int x2), .val (.int (c3 + (1 : Int32)))]) rfl ?_
        exact k46 _ (by rw [← hk3]; rw [show own_ct g x1 x2 2 (2 : Int32) c3 = _ from (if_pos hc33).trans (if_pos hc40)])
      · refine g_icY X0.here hx (Jvm.hb hby d1_40) (by decide) (pc' := 46) (by decide) (flt hc40).2.1 ?_
        exact k46 _ (by rw [← hk3]; rw [show own_ct g x1 x2 2 (2 : Int32) c3 = _ from (if_pos hc33).trans (if_neg hc40)])
    · refine g_icY X0.here hx (Jvm.hb hby d1_33) (by decide) (pc' := 46) (by decide) (flt hc33).2.2.2 ?_
      exact k46 _ (by rw [← hk3]; rw [show own_ct g x1 x2 2 (2 : Int32) c3 = _ from if_neg hc33])
  have k16 : ∀ (c3 : Int32), ∀ (hk3 : (own_ct g x1 x2 3 (3 : Int32) (own_ct g x1 x2 2 (2 : Int32) (own_ct g x1 x2 1 (1 : Int32) c3))) = f_cb g x1 x2), own_Gl p e below s (own_Pure (some (.int (f_cb g x1 x2))) h0) ({ frames := 0, cells := 0, slots := 0, locals := 0 } : Room).cells ({ frames := 0, cells := 0, slots := 0, locals := 0 } : Room).slots (T0.setTop (mkF m 16 #[.val (.ref x0), .val (.int x1), .val (.int x2), .val (.int c3)] [])) := by
    intro c3 hk3
    refine g_iloadN X0.here hx (Jvm.hb hby d1_16) (pc' := 17) rfl rfl ?_
    refine g_iconst X0.here hx (Jvm.hb hby d1_17) (pc' := 18) rfl (z := (1 : Int32)) rfl ?_
    by_cases hc18 : (1 : Int32) < x1
    · refine g_icN X0.here hx (Jvm.hb hby d1_18) (pc' := 21) rfl (tlt hc18).2.2.2 ?_
      refine g_aloadN X0.here hx (Jvm.hb hby d1_21) (pc' := 22) rfl rfl rfl ?_
      refine g_iconst X0.here hx (Jvm.hb hby d1_22) (pc' := 23) rfl (z := (1 : Int32)) rfl ?_
      refine g_iaload X0 hx hZ e0 V0 ⟨by decide, by rw [Int32.lt_iff_toInt_lt] at hc18; simp only [Int32.reduceToInt] at hc18 ⊢; omega⟩ (v := (g 1)) rfl (Jvm.hb hby d1_23) (pc' := 24) rfl ?_
      refine g_iloadN X0.here hx (Jvm.hb hby d1_24) (pc' := 25) rfl rfl ?_
      by_cases hc25 : (g 1) < x2
      · refine g_icN X0.here hx (Jvm.hb hby d1_25) (pc' := 28) rfl (tlt hc25).2.1 ?_
        refine g_iinc X0.here hx (Jvm.hb hby d1_28) (pc' := 31) rfl (z := (1 : Int32)) rfl rfl (L' := #[.val (.ref x0), .val (.int x1), .val (.int x2), .val (.int (c3 + (1 : Int32)))]) rfl ?_
        exact k31 _ (by rw [← hk3]; rw [show own_ct g x1 x2 1 (1 : Int32) c3 = _ from (if_pos hc18).trans (if_pos hc25)])
      · refine g_icY X0.here hx (Jvm.hb hby d1_25) (by decide) (pc' := 31) (by decide) (flt hc25).2.1 ?_
        exact k31 _ (by rw [← hk3]; rw [show own_ct g x1 x2 1 (1 : Int32) c3 = _ from (if_pos hc18).trans (if_neg hc25)])
    · refine g_icY X0.here hx (Jvm.hb hby d1_18) (by decide) (pc' := 31) (by decide) (flt hc18).2.2.2 ?_
      exact k31 _ (by rw [← hk3]; rw [show own_ct g x1 x2 1 (1 : Int32) c3 = _ from if_neg hc18])
  have k2 : ∀ (c3 : Int32), ∀ (hk3 : (own_ct g x1 x2 3 (3 : Int32) (own_ct g x1 x2 2 (2 : Int32) (own_ct g x1 x2 1 (1 : Int32) (own_ct g x1 x2 0 (0 : Int32) c3)))) = f_cb g x1 x2), own_Gl p e below s (own_Pure (some (.int (f_cb g x1 x2))) h0) ({ frames := 0, cells := 0, slots := 0, locals := 0 } : Room).cells ({ frames := 0, cells := 0, slots := 0, locals := 0 } : Room).slots (T0.setTop (mkF m 2 #[.val (.ref x0), .val (.int x1), .val (.int x2), .val (.int c3)] [])) := by
    intro c3 hk3
    refine g_iloadN X0.here hx (Jvm.hb hby d1_2) (pc' := 3) rfl rfl ?_
    by_cases hc3 : (0 : Int32) < x1
    · refine g_ifN X0.here hx (Jvm.hb hby d1_3) (pc' := 6) rfl ((if0 _ _).trans (tlt hc3).2.2.2) ?_
      refine g_aloadN X0.here hx (Jvm.hb hby d1_6) (pc' := 7) rfl rfl rfl ?_
      refine g_iconst X0.here hx (Jvm.hb hby d1_7) (pc' := 8) rfl (z := (0 : Int32)) rfl ?_
      refine g_iaload X0 hx hZ e0 V0 ⟨by decide, by rw [Int32.lt_iff_toInt_lt] at hc3; simp only [Int32.reduceToInt] at hc3 ⊢; omega⟩ (v := (g 0)) rfl (Jvm.hb hby d1_8) (pc' := 9) rfl ?_
      refine g_iloadN X0.here hx (Jvm.hb hby d1_9) (pc' := 10) rfl rfl ?_
      by_cases hc10 : (g 0) < x2
      · refine g_icN X0.here hx (Jvm.hb hby d1_10) (pc' := 13) rfl (tlt hc10).2.1 ?_
        refine g_iinc X0.here hx (Jvm.hb hby d1_13) (pc' := 16) rfl (z := (1 : Int32)) rfl rfl (L' := #[.val (.ref x0), .val (.int x1), .val (.int x2), .val (.int (c3 + (1 : Int32)))]) rfl ?_
        exact k16 _ (by rw [← hk3]; rw [show own_ct g x1 x2 0 (0 : Int32) c3 = _ from (if_pos hc3).trans (if_pos hc10)])
      · refine g_icY X0.here hx (Jvm.hb hby d1_10) (by decide) (pc' := 16) (by decide) (flt hc10).2.1 ?_
        exact k16 _ (by rw [← hk3]; rw [show own_ct g x1 x2 0 (0 : Int32) c3 = _ from (if_pos hc3).trans (if_neg hc10)])
    · refine g_ifY X0.here hx (Jvm.hb hby d1_3) (by decide) (pc' := 16) (by decide) ((if0 _ _).trans (flt hc3).2.2.2) ?_
      exact k16 _ (by rw [← hk3]; rw [show own_ct g x1 x2 0 (0 : Int32) c3 = _ from if_neg hc3])
  refine g_iconst X0.here hx (Jvm.hb hby d1_0) (pc' := 1) rfl (z := (0 : Int32)) rfl ?_
  refine g_istoreN X0.here hx (Jvm.hb hby d1_1) (pc' := 2) rfl (L' := #[.val (.ref x0), .val (.int x1), .val (.int x2), .val (.int (0 : Int32))]) rfl ?_
  exact k2 (0 : Int32) rfl
def own_Q2 (Z : State) (n0 : Nat) (x0 x1 : Addr) (x2 : Int32) (h0 : Heap) (v : Option Value) (h : Heap) (L : List Loc) : Prop := v = none ∧ Fr n0 L ∧ Keep h0 h [x0] ∧ Exa Z h x0 "com/example/ogma/ogma/store/internal/Ancestry" ∧ Fld Z h x0 "com/example/ogma/ogma/store/internal/Ancestry" "ancestors" "[I" (.ref x1) ∧ Fld Z h x0 "com/example/ogma/ogma/store/internal/Ancestry" "above" "I" (.int x2) ∧ Fld Z h x0 "com/example/ogma/ogma/store/internal/Ancestry" "firsts" "[I" .null
theorem d2_0 : decode prog_125_method_1_code 0 = .ok (.aload_n 0, 1) := by decide +kernel
theorem d2_1 : decode prog_125_method_1_code 1 = .ok (.invokespecial 1, 3) := by decide +kernel
theorem d2_4 : decode prog_125_method_1_code 4 = .ok (.aload_n 0, 1) := by decide +kernel
theorem d2_5 : decode prog_125_method_1_code 5 = .ok (.aload_n 1, 1) := by decide +kernel
theorem d2_6 : decode prog_125_method_1_code 6 = .ok (.putfield 7, 3) := by decide +kernel
theorem d2_9 : decode prog_125_method_1_code 9 = .ok (.aload_n 0, 1) := by decide +kernel
theorem d2_10 : decode prog_125_method_1_code 10 = .ok (.iload_n 2, 1) := by decide +kernel
theorem d2_11 : decode prog_125_method_1_code 11 = .ok (.putfield 13, 3) := by decide +kernel
theorem d2_14 : decode prog_125_method_1_code 14 = .ok (.return_, 1) := by decide +kernel
theorem pn_1 : plainName "com/example/ogma/ogma/store/internal/Ancestry" = true := by first | (simp [plainName, overriddenIn]; done) | decide +kernel
theorem ef_2 (m : MethodId) (x0 : Addr) (x1 : Addr) (x2 : Int32) : entryFrame m #[(.ref x0), (.ref x1), (.int x2)] 3 = mkF m 0 #[.val (.ref x0), .val (.ref x1), .val (.int x2)] [] := by first | (simp [entryFrame, mkF, argsToLocals, Value.category]; done) | rfl
set_option maxRecDepth 65536 in
set_option maxHeartbeats 40000000 in
theorem rm2 (l : Launch) (Z : State) (a0 : Array Value) (hw : ∀ d ∈ tables_1, d.before a0 Z = true) (ws : List Jvm.Cond) (x0 x1 : Addr) (x2 : Int32) (h0 : Heap) (n0 : Nat) (Z0 : n0 ≤ h0.size) (g0 : n0 ≤ x0) (E0 : Exa Z h0 x0 "com/example/ogma/ogma/store/internal/Ancestry") (F_ancestors : Fld Z h0 x0 "com/example/ogma/ogma/store/internal/Ancestry" "ancestors" "[I" .null) (F_above : Fld Z h0 x0 "com/example/ogma/ogma/store/internal/Ancestry" "above" "I" (.int (0 : Int32))) (F_firsts : Fld Z h0 x0 "com/example/ogma/ogma/store/internal/Ancestry" "firsts" "[I" .null) :
    MetFree l (⟨"com/example/ogma/ogma/store/internal/Ancestry", "<init>", "([II)V"⟩ : MethodName) (head1 (Jvm.Cond.code (⟨"com/example/ogma/ogma/store/internal/Ancestry", "<init>", "([II)V"⟩ : MethodName) prog_125_method_1_code 3 none :: ws) ({ frames := 1, cells := 0, slots := 0, locals := 12 } : Room)) (fun a U => a = #[(.ref x0), (.ref x1), (.int x2)] ∧ Z.Warmed39 U.vm ∧ U.heap = h0) (fun _ _ _ _ _ => True) (fun _ U o U' => ∃ v L, o = .returned v ∧ (own_Q2 Z n0 x0 x1 x2 h0) v U'.heap L ∧ FrameEnd U o U' L ({ frames := 1, cells := 0, slots := 0, locals := 12 } : Room).cells ({ frames := 1, cells := 0, slots := 0, locals := 12 } : Room).slots) := by
  refine own_body (own := "com/example/ogma/ogma/store/internal/Ancestry") pn_1 rfl (fun m => ef_2 m x0 x1 x2) ?_
  intro p e s m below meth c T0 hx hby hml hown hnm hlk hret hZ X0 e0
  have w_7 := hw _ (List.mem_of_getElem? (i := 7) rfl)
  have w_12 := hw _ (List.mem_of_getElem? (i := 12) rfl)
  have w_13 := hw _ (List.mem_of_getElem? (i := 13) rfl)
  have w_14 := hw _ (List.mem_of_getElem? (i := 14) rfl)
  have w_15 := hw _ (List.mem_of_getElem? (i := 15) rfl)
  have w_16 := hw _ (List.mem_of_getElem? (i := 16) rfl)
  have w_17 := hw _ (List.mem_of_getElem? (i := 17) rfl)
  have w_18 := hw _ (List.mem_of_getElem? (i := 18) rfl)
  have w_25 := hw _ (List.mem_of_getElem? (i := 25) rfl)
  have N0 := Fr.nil n0
  refine g_aloadN X0.here hx (Jvm.hb hby d2_0) (pc' := 1) rfl rfl rfl ?_
  refine g_initO X0 hx hZ hown w_12 w_13 w_14 e0 (by rw [hml]; rfl) (Jvm.hb hby d2_1) (pc' := 4) rfl (by decide) 0 (by decide) (by decide) ?_
  intro T1 X1 e1
  refine g_aloadN X1.here hx (Jvm.hb hby d2_4) (pc' := 5) rfl rfl rfl ?_
  refine g_aloadN X1.here hx (Jvm.hb hby d2_5) (pc' := 6) rfl rfl rfl ?_
  refine g_putF X1 hx hZ hown (host := "") (Or.inl w_15) Via.refl e1 F_ancestors E0 (Or.inr ⟨w_16, rfl, hnm⟩) w_7 (ty := (.array .int)) (by decide) rfl rfl (Jvm.hb hby d2_6) (pc' := 9) rfl ?_
  intro T2 hh2 X2 e2 W2
  have Fw2 := F_ancestors.same W2
  have N2 := Fr.snoc X2 N0 g0
  have Z3 : n0 ≤ hh2.size := (by rw [W2.size]; exact Z0)
  have z4 : h0.size ≤ hh2.size := (by rw [W2.size]; exact (Nat.le_refl _))
  refine g_aloadN X2.here hx (Jvm.hb hby d2_9) (pc' := 10) rfl rfl rfl ?_
  refine g_iloadN X2.here hx (Jvm.hb hby d2_10) (pc' := 11) rfl rfl ?_
  have F5 := (F_above.other W2 (Or.inr (slot_ne (Or.inr w_18) (Or.inr w_16) (by decide) (t := .int) (t' := (.array .int)) (by decide) (by decide))))
  have F6 := (E0.wr W2)
  refine g_putF X2 hx hZ hown (host := "") (Or.inl w_17) Via.refl e2 F5 F6 (Or.inr ⟨w_18, rfl, hnm⟩) w_7 (ty := .int) (by decide) rfl rfl (Jvm.hb hby d2_11) (pc' := 14) rfl ?_
  intro T7 hh7 X7 e7 W7
  have Fw7 := F5.same W7
  have N7 := Fr.snoc X7 N2 g0
  have Z8 : n0 ≤ hh7.size := (by rw [W7.size]; exact Z3)
  have z9 : h0.size ≤ hh7.size := (by rw [W7.size]; exact z4)
  have F10 := (F6.wr W7)
  have F11 := (Fw2.other W7 (Or.inr (slot_ne (Or.inr w_16) (Or.inr w_18) (by decide) (t := (.array .int)) (t' := .int) (by decide) (by decide))))
  have F12 := ((F_firsts.other W2 (Or.inr (slot_ne (Or.inl w_25) (Or.inr w_16) (by decide) (t := (.array .int)) (t' := (.array .int)) (by decide) (by decide)))).other W7 (Or.inr (slot_ne (Or.inl w_25) (Or.inr w_18) (by decide) (t := (.array .int)) (t' := .int) (by decide) (by decide))))
  have KK := (((Keep.refl h0 [x0]).wr W2 (Or.inl (List.mem_of_getElem? (i := 0) rfl))).wr W7 (Or.inl (List.mem_of_getElem? (i := 0) rfl)))
  exact g_retV X7 hx hlk hret (Jvm.hb hby d2_14) (Nat.zero_le _) (Nat.zero_le _) (by rw [e7]; exact ⟨rfl, N7, KK, F10, F11, Fw7, F12⟩)
def own_P (g : Nat → Int32) (n : Nat) (i : Nat) (c : Int32) : Prop := 0 ≤ c.toInt ∧ c.toInt ≤ n ∧ (∀ j, j < c.toInt.toNat → (g j).toInt < i) ∧ (c.toInt = n ∨ ¬ (g c.toInt.toNat).toInt < i)
def own_Q4 (Z : State) (n0 : Nat) (x0 t : Addr) (x1 ab : Int32) (n : Nat) (g : Nat → Int32) (h0 : Heap) (v : Option Value) (h : Heap) (L : List Loc) : Prop := ∃ (b : Addr) (f : Nat → Int32), v = some (.int (f x1.toInt.toNat)) ∧ Fr n0 L ∧ Keep h0 h [x0] ∧ Exa Z h x0 "com/example/ogma/ogma/store/internal/Ancestry" ∧ Fld Z h x0 "com/example/ogma/ogma/store/internal/Ancestry" "firsts" "[I" (.ref b) ∧ own_IA Z h b .int (ab.toInt.toNat + 1) f ∧ (∀ i, i < ab.toInt.toNat + 1 → own_P g n i (f i))
theorem d4_0 : decode prog_125_method_4_code 0 = .ok (.aload_n 0, 1) := by decide +kernel
theorem d4_1 : decode prog_125_method_4_code 1 = .ok (.getfield 17, 3) := by decide +kernel
theorem d4_4 : decode prog_125_method_4_code 4 = .ok (.astore_n 2, 1) := by decide +kernel
theorem d4_5 : decode prog_125_method_4_code 5 = .ok (.aload_n 2, 1) := by decide +kernel
theorem d4_6 : decode prog_125_method_4_code 6 = .ok (.ifnonnull 68, 3) := by decide +kernel
theorem d4_9 : decode prog_125_method_4_code 9 = .ok (.aload_n 0, 1) := by decide +kernel
theorem d4_10 : decode prog_125_method_4_code 10 = .ok (.getfield 13, 3) := by decide +kernel
theorem d4_13 : decode prog_125_method_4_code 13 = .ok (.iconst 1, 1) := by decide +kernel
theorem d4_14 : decode prog_125_method_4_code 14 = .ok (.iadd, 1) := by decide +kernel
theorem d4_15 : decode prog_125_method_4_code 15 = .ok (.newarray .int, 2) := by decide +kernel
theorem d4_17 : decode prog_125_method_4_code 17 = .ok (.astore_n 2, 1) := by decide +kernel
theorem d4_18 : decode prog_125_method_4_code 18 = .ok (.iconst 0, 1) := by decide +kernel
theorem d4_19 : decode prog_125_method_4_code 19 = .ok (.istore_n 3, 1) := by decide +kernel
theorem d4_20 : decode prog_125_method_4_code 20 = .ok (.iconst 0, 1) := by decide +kernel
theorem d4_21 : decode prog_125_method_4_code 21 = .ok (.istore 4, 2) := by decide +kernel
theorem d4_23 : decode prog_125_method_4_code 23 = .ok (.iload 4, 2) := by decide +kernel
theorem d4_25 : decode prog_125_method_4_code 25 = .ok (.aload_n 0, 1) := by decide +kernel
theorem d4_26 : decode prog_125_method_4_code 26 = .ok (.getfield 13, 3) := by decide +kernel
theorem d4_29 : decode prog_125_method_4_code 29 = .ok (.if_icmp .gt 40, 3) := by decide +kernel
theorem d4_69 : decode prog_125_method_4_code 69 = .ok (.aload_n 0, 1) := by decide +kernel
theorem d4_70 : decode prog_125_method_4_code 70 = .ok (.aload_n 2, 1) := by decide +kernel
theorem d4_71 : decode prog_125_method_4_code 71 = .ok (.putfield 17, 3) := by decide +kernel
theorem d4_74 : decode prog_125_method_4_code 74 = .ok (.aload_n 2, 1) := by decide +kernel
theorem d4_75 : decode prog_125_method_4_code 75 = .ok (.iload_n 1, 1) := by decide +kernel
theorem d4_76 : decode prog_125_method_4_code 76 = .ok (.iaload, 1) := by decide +kernel
theorem d4_77 : decode prog_125_method_4_code 77 = .ok (.ireturn, 1) := by decide +kernel
theorem d4_58 : decode prog_125_method_4_code 58 = .ok (.aload_n 2, 1) := by decide +kernel
theorem d4_59 : decode prog_125_method_4_code 59 = .ok (.iload 4, 2) := by decide +kernel
theorem d4_61 : decode prog_125_method_4_code 61 = .ok (.iload_n 3, 1) := by decide +kernel
theorem d4_62 : decode prog_125_method_4_code 62 = .ok (.iastore, 1) := by decide +kernel
theorem d4_63 : decode prog_125_method_4_code 63 = .ok (.iinc 4 1, 3) := by decide +kernel
theorem d4_66 : decode prog_125_method_4_code 66 = .ok (.goto (-43), 3) := by decide +kernel
theorem d4_32 : decode prog_125_method_4_code 32 = .ok (.iload_n 3, 1) := by decide +kernel
theorem d4_33 : decode prog_125_method_4_code 33 = .ok (.aload_n 0, 1) := by decide +kernel
theorem d4_34 : decode prog_125_method_4_code 34 = .ok (.getfield 7, 3) := by decide +kernel
theorem d4_37 : decode prog_125_method_4_code 37 = .ok (.arraylength, 1) := by decide +kernel
theorem d4_38 : decode prog_125_method_4_code 38 = .ok (.if_icmp .ge 20, 3) := by decide +kernel
theorem d4_41 : decode prog_125_method_4_code 41 = .ok (.aload_n 0, 1) := by decide +kernel
theorem d4_42 : decode prog_125_method_4_code 42 = .ok (.getfield 7, 3) := by decide +kernel
theorem d4_45 : decode prog_125_method_4_code 45 = .ok (.iload_n 3, 1) := by decide +kernel
theorem d4_46 : decode prog_125_method_4_code 46 = .ok (.iaload, 1) := by decide +kernel
theorem d4_47 : decode prog_125_method_4_code 47 = .ok (.iload 4, 2) := by decide +kernel
theorem d4_49 : decode prog_125_method_4_code 49 = .ok (.if_icmp .ge 9, 3) := by decide +kernel
theorem d4_52 : decode prog_125_method_4_code 52 = .ok (.iinc 3 1, 3) := by decide +kernel
theorem d4_55 : decode prog_125_method_4_code 55 = .ok (.goto (-23), 3) := by decide +kernel
theorem ef_4 (m : MethodId) (x0 : Addr) (x1 : Int32) : entryFrame m #[(.ref x0), (.int x1)] 5 = mkF m 0 #[.val (.ref x0), .val (.int x1), .unset, .unset, .unset] [] := by first | (simp [entryFrame, mkF, argsToLocals, Value.category]; done) | rfl
set_option maxRecDepth 65536 in
set_option maxHeartbeats 40000000 in
theorem rm4a (l : Launch) (Z : State) (a0 : Array Value) (hw : ∀ d ∈ tables_1, d.before a0 Z = true) (ws : List Jvm.Cond) (x0 : Addr) (x1 : Int32) (t : Addr) (ab : Int32) (n : Nat) (g : Nat → Int32) (h0 : Heap) (n0 : Nat) (Z0 : n0 ≤ h0.size) (g0 : n0 ≤ x0) (E0 : Exa Z h0 x0 "com/example/ogma/ogma/store/internal/Ancestry") (F_ancestors : Fld Z h0 x0 "com/example/ogma/ogma/store/internal/Ancestry" "ancestors" "[I" (.ref t)) (F_above : Fld Z h0 x0 "com/example/ogma/ogma/store/internal/Ancestry" "above" "I" (.int ab)) (F_firsts : Fld Z h0 x0 "com/example/ogma/ogma/store/internal/Ancestry" "firsts" "[I" .null) (V0 : own_IA Z h0 t .int n g) (ne0 : t ≠ x0) (hab : 0 ≤ ab.toInt ∧ ab.toInt ≤ 20) (hpl : 0 ≤ x1.toInt ∧ x1.toInt ≤ ab.toInt) (hn4 : n ≤ 4) :
    MetFree l (⟨"com/example/ogma/ogma/store/internal/Ancestry", "firstBelow", "(I)I"⟩ : MethodName) (head1 (Jvm.Cond.code (⟨"com/example/ogma/ogma/store/internal/Ancestry", "firstBelow", "(I)I"⟩ : MethodName) prog_125_method_4_code 5 (some .int) :: ws) ({ frames := 0, cells := 1, slots := 21, locals := 0 } : Room)) (fun a U => a = #[(.ref x0), (.int x1)] ∧ Z.Warmed39 U.vm ∧ U.heap = h0) (fun _ _ _ _ _ => True) (fun _ U o U' => ∃ v L, o = .returned v ∧ (own_Q4 Z n0 x0 t x1 ab n g h0) v U'.heap L ∧ FrameEnd U o U' L ({ frames := 0, cells := 1, slots := 21, locals := 0 } : Room).cells ({ frames := 0, cells := 1, slots := 21, locals := 0 } : Room).slots) := by
  refine own_body (own := "com/example/ogma/ogma/store/internal/Ancestry") pn_1 rfl (fun m => ef_4 m x0 x1) ?_
  intro p e s m below meth c T0 hx hby hml hown hnm hlk hret hZ X0 e0
  have w_1 := hw _ (List.mem_of_getElem? (i := 1) rfl)
  have w_7 := hw _ (List.mem_of_getElem? (i := 7) rfl)
  have w_15 := hw _ (List.mem_of_getElem? (i := 15) rfl)
  have w_17 := hw _ (List.mem_of_getElem? (i := 17) rfl)
  have w_24 := hw _ (List.mem_of_getElem? (i := 24) rfl)
  have w_25 := hw _ (List.mem_of_getElem? (i := 25) rfl)
  have N0 := Fr.nil n0
  have hab1 : (ab + (1 : Int32)).toInt = ((ab.toInt.toNat + 1 : Nat) : Int) := by
    have e := c_iadd ab 1
    have r := rng32 (ab + 1)
    simp only [Int32.reduceToInt] at e
    omega
  have hnI : (n.toInt32).toInt = n := len_toInt (by omega)
  refine g_aloadN X0.here hx (Jvm.hb hby d4_0) (pc' := 1) rfl rfl rfl ?_
  refine g_getF X0 hx hZ hown (host := "") (Or.inl w_24) Via.refl e0 F_firsts (Jvm.hb hby d4_1) (pc' := 4) rfl ?_
  intro T1 X1 e1
  refine g_astoreN X1.here hx (Jvm.hb hby d4_4) (pc' := 5) rfl rfl (L' := #[.val (.ref x0), .val (.int x1), .val .null, .unset, .unset]) rfl ?_
  refine g_aloadN X1.here hx (Jvm.hb hby d4_5) (pc' := 6) rfl rfl rfl ?_
  refine g_ifnonnullN X1.here hx (Jvm.hb hby d4_6) (pc' := 9) rfl ?_
  refine g_aloadN X1.here hx (Jvm.hb hby d4_9) (pc' := 10) rfl rfl rfl ?_
  refine g_getF X1 hx hZ hown (host := "") (Or.inl w_17) Via.refl e1 F_above (Jvm.hb hby d4_10) (pc' := 13) rfl ?_
  intro T2 X2 e2
  refine g_iconst X2.here hx (Jvm.hb hby d4_13) (pc' := 14) rfl (z := (1 : Int32)) rfl ?_
  refine g_iadd X2.here hx (Jvm.hb hby d4_14) (pc' := 15) rfl ?_
  refine g_newarr X2 hx hZ (ty := .int) rfl rfl w_1 e2 (Jvm.hb hby d4_15) (pc' := 17) rfl (n := (ab.toInt.toNat + 1)) hab1 21 (by omega) (by decide) (cells' := 1) (slots' := 21) rfl rfl (by decide) (by decide) ?_
  intro T3 hh3 ad3 gb3 X3 e3 E3 V3
  have g_ad3 : n0 ≤ ad3 := by rw [gb3]; exact Z0
  have sz_ad3 : h0.size ≤ ad3 := by rw [gb3]; exact (Nat.le_refl _)
  have lt_x0_ad3 : @LT.lt Nat _ x0 ad3 := by rw [gb3]; exact E0.lt
  have ne_x0_ad3 : x0 ≠ ad3 := Nat.ne_of_lt lt_x0_ad3
  have lt_t_ad3 : @LT.lt Nat _ t ad3 := by rw [gb3]; exact V0.lt
  have ne_t_ad3 : t ≠ ad3 := Nat.ne_of_lt lt_t_ad3
  have Z4 : n0 ≤ hh3.size := Nat.le_trans Z0 E3.1
  have z5 : h0.size ≤ hh3.size := Nat.le_trans (Nat.le_refl _) E3.1
  refine g_astoreN X3.here hx (Jvm.hb hby d4_17) (pc' := 18) rfl rfl (L' := #[.val (.ref x0), .val (.int x1), .val (.ref ad3), .unset, .unset]) rfl ?_
  refine g_iconst X3.here hx (Jvm.hb hby d4_18) (pc' := 19) rfl (z := (0 : Int32)) rfl ?_
  refine g_istoreN X3.here hx (Jvm.hb hby d4_19) (pc' := 20) rfl (L' := #[.val (.ref x0), .val (.int x1), .val (.ref ad3), .val (.int (0 : Int32)), .unset]) rfl ?_
  refine g_iconst X3.here hx (Jvm.hb hby d4_20) (pc' := 21) rfl (z := (0 : Int32)) rfl ?_
  refine g_istore X3.here hx (Jvm.hb hby d4_21) (pc' := 23) rfl (L' := #[.val (.ref x0), .val (.int x1), .val (.ref ad3), .val (.int (0 : Int32)), .val (.int (0 : Int32))]) rfl ?_
  have F6 := (E0.ext E3)
  have F7 := (F_ancestors.ext E3)
  have F8 := (F_above.ext E3)
  have F9 := (F_firsts.ext E3)
  have F10 := (V0.ext E3)
  have lp : ∀ (k : Nat), ∀ (Tk11 : State), ∀ (hk11 : Heap), ∀ (lck11 : List Loc), ∀ (Xk11 : Stand p l e ({ frames := 0, cells := 1, slots := 21, locals := 0 } : Room) s m #[(.ref x0), (.int x1)] below meth c Tk11 lck11 1 21), ∀ (ek11 : Tk11.heap = hk11), ∀ (Nk11 : Fr n0 lck11), ∀ (Zk11 : n0 ≤ hk11.size), ∀ (f : Nat → Int32), ∀ (Fk11_0 : Exa Z hk11 x0 "com/example/ogma/ogma/store/internal/Ancestry"), ∀ (Fk11_1 : Fld Z hk11 x0 "com/example/ogma/ogma/store/internal/Ancestry" "ancestors" "[I" (.ref t)), ∀ (Fk11_2 : Fld Z hk11 x0 "com/example/ogma/ogma/store/internal/Ancestry" "above" "I" (.int ab)), ∀ (Fk11_3 : Fld Z hk11 x0 "com/example/ogma/ogma/store/internal/Ancestry" "firsts" "[I" .null), ∀ (Fk11_4 : own_IA Z hk11 t .int n g), ∀ (Fk11_5 : own_IA Z hk11 ad3 .int (ab.toInt.toNat + 1) f), ∀ (i : Nat), ∀ (iv : Int32), ∀ (cw : Int32), ∀ (KK : Keep h0 hk11 [x0]), ∀ (hiv : iv.toInt = i), ∀ (hik : i + k = ab.toInt.toNat + 1), ∀ (hcc : 0 ≤ cw.toInt ∧ cw.toInt ≤ n ∧ ∀ j, j < cw.toInt.toNat → (g j).toInt < i), ∀ (ht : ∀ i', i' < i → own_P g n i' (f i')), own_Gl p e below s (own_Q4 Z n0 x0 t x1 ab n g h0) ({ frames := 0, cells := 1, slots := 21, locals := 0 } : Room).cells ({ frames := 0, cells := 1, slots := 21, locals := 0 } : Room).slots (Tk11.setTop (mkF m 23 #[.val (.ref x0), .val (.int x1), .val (.ref ad3), .val (.int cw), .val (.int iv)] [])) := by
    intro k
    induction k with
    | zero =>
      intro Tk11 hk11 lck11 Xk11 ek11 Nk11 Zk11 f Fk11_0 Fk11_1 Fk11_2 Fk11_3 Fk11_4 Fk11_5 i iv cw KK hiv hik hcc ht
      refine g_iload Xk11.here hx (Jvm.hb hby d4_23) (pc' := 25) rfl rfl ?_
      refine g_aloadN Xk11.here hx (Jvm.hb hby d4_25) (pc' := 26) rfl rfl rfl ?_
      refine g_getF Xk11 hx hZ hown (host := "") (Or.inl w_17) Via.refl ek11 Fk11_2 (Jvm.hb hby d4_26) (pc' := 29) rfl ?_
      intro T12 X12 e12
      refine g_icY X12.here hx (Jvm.hb hby d4_29) (by decide) (pc' := 69) (by decide) (tlt (by rw [Int32.lt_iff_toInt_lt]; omega)).2.2.1 ?_
      refine g_aloadN X12.here hx (Jvm.hb hby d4_69) (pc' := 70) rfl rfl rfl ?_
      refine g_aloadN X12.here hx (Jvm.hb hby d4_70) (pc' := 71) rfl rfl rfl ?_
      refine g_putF X12 hx hZ hown (host := "") (Or.inl w_24) Via.refl e12 Fk11_3 Fk11_0 (Or.inl w_25) w_7 (ty := (.array .int)) (by decide) rfl rfl (Jvm.hb hby d4_71) (pc' := 74) rfl ?_
      intro T13 hh13 X13 e13 W13
      have Fw13 := Fk11_3.same W13
      have N13 := Fr.snoc X13 Nk11 g0
      have Z14 : n0 ≤ hh13.size := (by rw [W13.size]; exact Zk11)
      refine g_aloadN X13.here hx (Jvm.hb hby d4_74) (pc' := 75) rfl rfl rfl ?_
      refine g_iloadN X13.here hx (Jvm.hb hby d4_75) (pc' := 76) rfl rfl ?_
      have F15 := (Fk11_5.other W13 (Ne.symm ne_x0_ad3))
      refine g_iaload X13 hx hZ e13 F15 (by omega) (v := (f x1.toInt.toNat)) rfl (Jvm.hb hby d4_76) (pc' := 77) rfl ?_
      have F16 := (Fk11_0.wr W13)
      have K2 := KK.wr W13 (Or.inl (List.mem_of_getElem? (i := 0) rfl))
      exact g_retI X13 hx hlk hret (Jvm.hb hby d4_77) (by decide) (by decide) (by rw [e13]; exact ⟨ad3, f, rfl, N13, K2, F16, Fw13, F15, fun i' hi' => ht i' (by omega)⟩)
    | succ k ih =>
      intro Tk11 hk11 lck11 Xk11 ek11 Nk11 Zk11 f Fk11_0 Fk11_1 Fk11_2 Fk11_3 Fk11_4 Fk11_5 i iv cw KK hiv hik hcc ht
      refine g_iload Xk11.here hx (Jvm.hb hby d4_23) (pc' := 25) rfl rfl ?_
      refine g_aloadN Xk11.here hx (Jvm.hb hby d4_25) (pc' := 26) rfl rfl rfl ?_
      refine g_getF Xk11 hx hZ hown (host := "") (Or.inl w_17) Via.refl ek11 Fk11_2 (Jvm.hb hby d4_26) (pc' := 29) rfl ?_
      intro T17 X17 e17
      refine g_icN X17.here hx (Jvm.hb hby d4_29) (pc' := 32) rfl (flt (by rw [Int32.lt_iff_toInt_lt]; omega)).2.2.1 ?_
      have k58 : ∀ (Tk18 : State), ∀ (Xk18 : Stand p l e ({ frames := 0, cells := 1, slots := 21, locals := 0 } : Room) s m #[(.ref x0), (.int x1)] below meth c Tk18 lck11 1 21), ∀ (ek18 : Tk18.heap = hk11), ∀ (cw : Int32), ∀ (hP : own_P g n i cw), own_Gl p e below s (own_Q4 Z n0 x0 t x1 ab n g h0) ({ frames := 0, cells := 1, slots := 21, locals := 0 } : Room).cells ({ frames := 0, cells := 1, slots := 21, locals := 0 } : Room).slots (Tk18.setTop (mkF m 58 #[.val (.ref x0), .val (.int x1), .val (.ref ad3), .val (.int cw), .val (.int iv)] [])) := by
        intro Tk18 Xk18 ek18 cw hP
        refine g_aloadN Xk18.here hx (Jvm.hb hby d4_58) (pc' := 59) rfl rfl rfl ?_
        refine g_iload Xk18.here hx (Jvm.hb hby d4_59) (pc' := 61) rfl rfl ?_
        refine g_iloadN Xk18.here hx (Jvm.hb hby d4_61) (pc' := 62) rfl rfl ?_
        refine g_iastore Xk18 hx hZ ek18 Fk11_5 (by omega) (Jvm.hb hby d4_62) (pc' := 63) rfl ?_
        intro T19 hh19 X19 e19 W19 V19
        have N19 := Fr.snoc X19 Nk11 g_ad3
        have Z20 : n0 ≤ hh19.size := (by rw [W19.size]; exact Zk11)
        refine g_iinc X19.here hx (Jvm.hb hby d4_63) (pc' := 66) rfl (z := (1 : Int32)) rfl rfl (L' := #[.val (.ref x0), .val (.int x1), .val (.ref ad3), .val (.int cw), .val (.int (iv + (1 : Int32)))]) rfl ?_
        refine g_goto X19.here hx (Jvm.hb hby d4_66) (by decide) (pc' := 23) (by decide) ?_
        have F21 := (Fk11_0.wr W19)
        have F22 := (Fk11_1.other W19 (Or.inl ne_x0_ad3))
        have F23 := (Fk11_2.other W19 (Or.inl ne_x0_ad3))
        have F24 := (Fk11_3.other W19 (Or.inl ne_x0_ad3))
        have F25 := (Fk11_4.other W19 ne_t_ad3)
        refine ih T19 hh19 _ X19 e19 N19 Z20 _ F21 F22 F23 F24 F25 V19 (i + 1) _ _ (KK.wr W19 (Or.inr sz_ad3)) ?_ (by omega) ⟨hP.1, hP.2.1, fun j hj => Int.lt_trans (hP.2.2.1 j hj) (by omega)⟩ (fun i' hi' => ?_)
        · have e := c_iadd iv 1
          have r := rng32 (iv + 1)
          simp only [Int32.reduceToInt] at e
          omega
        · by_cases q : i' = iv.toNatClampNeg
          · rw [if_pos q]; rw [own_clamp] at q; rw [show i' = i by omega]; exact hP
          · rw [if_neg q]; rw [own_clamp] at q; exact ht i' (by omega)
      have lp2 : ∀ (k : Nat), ∀ (Tk26 : State), ∀ (Xk26 : Stand p l e ({ frames := 0, cells := 1, slots := 21, locals := 0 } : Room) s m #[(.ref x0), (.int x1)] below meth c Tk26 lck11 1 21), ∀ (ek26 : Tk26.heap = hk11), ∀ (cw : Int32), ∀ (hc2 : 0 ≤ cw.toInt ∧ cw.toInt + k = n), ∀ (hc3 : ∀ j, j < cw.toInt.toNat → (g j).toInt < i), own_Gl p e below s (own_Q4 Z n0 x0 t x1 ab n g h0) ({ frames := 0, cells := 1, slots := 21, locals := 0 } : Room).cells ({ frames := 0, cells := 1, slots := 21, locals := 0 } : Room).slots (Tk26.setTop (mkF m 32 #[.val (.ref x0), .val (.int x1), .val (.ref ad3), .val (.int cw), .val (.int iv)] [])) := by
        intro k
        induction k with
        | zero =>
          intro Tk26 Xk26 ek26 cw hc2 hc3
          refine g_iloadN Xk26.here hx (Jvm.hb hby d4_32) (pc' := 33) rfl rfl ?_
          refine g_aloadN Xk26.here hx (Jvm.hb hby d4_33) (pc' := 34) rfl rfl rfl ?_
          refine g_getF Xk26 hx hZ hown (host := "") (Or.inl w_15) Via.refl ek26 Fk11_1 (Jvm.hb hby d4_34) (pc' := 37) rfl ?_
          intro T27 X27 e27
          refine g_arraylength X27 hx hZ e27 Fk11_4 (z := n.toInt32) rfl (Jvm.hb hby d4_37) (pc' := 38) rfl ?_
          refine g_icY X27.here hx (Jvm.hb hby d4_38) (by decide) (pc' := 58) (by decide) (flt (by rw [Int32.lt_iff_toInt_lt, hnI]; omega)).2.1 ?_
          exact k58 T27 X27 e27 cw ⟨hc2.1, by omega, hc3, Or.inl (by omega)⟩
        | succ k ih =>
          intro Tk26 Xk26 ek26 cw hc2 hc3
          refine g_iloadN Xk26.here hx (Jvm.hb hby d4_32) (pc' := 33) rfl rfl ?_
          refine g_aloadN Xk26.here hx (Jvm.hb hby d4_33) (pc' := 34) rfl rfl rfl ?_
          refine g_getF Xk26 hx hZ hown (host := "") (Or.inl w_15) Via.refl ek26 Fk11_1 (Jvm.hb hby d4_34) (pc' := 37) rfl ?_
          intro T28 X28 e28
          refine g_arraylength X28 hx hZ e28 Fk11_4 (z := n.toInt32) rfl (Jvm.hb hby d4_37) (pc' := 38) rfl ?_
          refine g_icN X28.here hx (Jvm.hb hby d4_38) (pc' := 41) rfl (tlt (by rw [Int32.lt_iff_toInt_lt, hnI]; omega)).2.1 ?_
          refine g_aloadN X28.here hx (Jvm.hb hby d4_41) (pc' := 42) rfl rfl rfl ?_
          refine g_getF X28 hx hZ hown (host := "") (Or.inl w_15) Via.refl e28 Fk11_1 (Jvm.hb hby d4_42) (pc' := 45) rfl ?_
          intro T29 X29 e29
          refine g_iloadN X29.here hx (Jvm.hb hby d4_45) (pc' := 46) rfl rfl ?_
          refine g_iaload X29 hx hZ e29 Fk11_4 (by omega) (v := (g cw.toInt.toNat)) rfl (Jvm.hb hby d4_46) (pc' := 47) rfl ?_
          refine g_iload X29.here hx (Jvm.hb hby d4_47) (pc' := 49) rfl rfl ?_
          by_cases hc49 : (g cw.toInt.toNat) < iv
          · refine g_icN X29.here hx (Jvm.hb hby d4_49) (pc' := 52) rfl (tlt hc49).2.1 ?_
            refine g_iinc X29.here hx (Jvm.hb hby d4_52) (pc' := 55) rfl (z := (1 : Int32)) rfl rfl (L' := #[.val (.ref x0), .val (.int x1), .val (.ref ad3), .val (.int (cw + (1 : Int32))), .val (.int iv)]) rfl ?_
            refine g_goto X29.here hx (Jvm.hb hby d4_55) (by decide) (pc' := 32) (by decide) ?_
            rw [Int32.lt_iff_toInt_lt, hiv] at hc49
            have ec := c_iadd cw 1
            have rc := rng32 (cw + 1)
            simp only [Int32.reduceToInt] at ec
            have ec2 : (cw + 1).toInt = cw.toInt + 1 := by omega
            refine ih T29 X29 e29 _ ⟨by omega, by omega⟩ (fun j hj => ?_)
            by_cases q : j = cw.toInt.toNat
            · rw [q]; exact hc49
            · exact hc3 j (by omega)
          · refine g_icY X29.here hx (Jvm.hb hby d4_49) (by decide) (pc' := 58) (by decide) (flt hc49).2.1 ?_
            exact k58 T29 X29 e29 cw ⟨hc2.1, by omega, hc3, Or.inr (by rw [Int32.lt_iff_toInt_lt, hiv] at hc49; exact hc49)⟩
      exact lp2 (n - cw.toInt.toNat) T17 X17 e17 cw ⟨hcc.1, by omega⟩ hcc.2.2
  exact lp (ab.toInt.toNat + 1) T3 hh3 _ X3 e3 N0 Z4 _ F6 F7 F8 F9 F10 V3 0 (0 : Int32) (0 : Int32) ((Keep.refl h0 [x0]).ext E3) (by decide) (by omega) ⟨by decide, by simp, fun j hj => absurd hj (Nat.not_lt_zero j)⟩ (fun i' hi' => absurd hi' (Nat.not_lt_zero i'))
set_option maxRecDepth 65536 in
set_option maxHeartbeats 40000000 in
theorem rm4b (l : Launch) (Z : State) (a0 : Array Value) (hw : ∀ d ∈ tables_1, d.before a0 Z = true) (ws : List Jvm.Cond) (x0 : Addr) (x1 : Int32) (b : Addr) (m2 : Nat) (f : Nat → Int32) (h0 : Heap) (F_firsts : Fld Z h0 x0 "com/example/ogma/ogma/store/internal/Ancestry" "firsts" "[I" (.ref b)) (V0 : own_IA Z h0 b .int m2 f) (hpl : 0 ≤ x1.toInt ∧ x1.toInt < m2) :
    MetFree l (⟨"com/example/ogma/ogma/store/internal/Ancestry", "firstBelow", "(I)I"⟩ : MethodName) (head1 (Jvm.Cond.code (⟨"com/example/ogma/ogma/store/internal/Ancestry", "firstBelow", "(I)I"⟩ : MethodName) prog_125_method_4_code 5 (some .int) :: ws) ({ frames := 0, cells := 0, slots := 0, locals := 0 } : Room)) (fun a U => a = #[(.ref x0), (.int x1)] ∧ Z.Warmed39 U.vm ∧ U.heap = h0) (fun _ _ _ _ _ => True) (fun _ U o U' => ∃ v L, o = .returned v ∧ (own_Pure (some (.int (f x1.toInt.toNat))) h0) v U'.heap L ∧ FrameEnd U o U' L ({ frames := 0, cells := 0, slots := 0, locals := 0 } : Room).cells ({ frames := 0, cells := 0, slots := 0, locals := 0 } : Room).slots) := by
  refine own_body (own := "com/example/ogma/ogma/store/internal/Ancestry") pn_1 rfl (fun m => ef_4 m x0 x1) ?_
  intro p e s m below meth c T0 hx hby hml hown hnm hlk hret hZ X0 e0
  have w_24 := hw _ (List.mem_of_getElem? (i := 24) rfl)
  refine g_aloadN X0.here hx (Jvm.hb hby d4_0) (pc' := 1) rfl rfl rfl ?_
  refine g_getF X0 hx hZ hown (host := "") (Or.inl w_24) Via.refl e0 F_firsts (Jvm.hb hby d4_1) (pc' := 4) rfl ?_
  intro T1 X1 e1
  refine g_astoreN X1.here hx (Jvm.hb hby d4_4) (pc' := 5) rfl rfl (L' := #[.val (.ref x0), .val (.int x1), .val (.ref b), .unset, .unset]) rfl ?_
  refine g_aloadN X1.here hx (Jvm.hb hby d4_5) (pc' := 6) rfl rfl rfl ?_
  refine g_ifnonnullY X1.here hx (Jvm.hb hby d4_6) (by decide) (pc' := 74) (by decide) ?_
  refine g_aloadN X1.here hx (Jvm.hb hby d4_74) (pc' := 75) rfl rfl rfl ?_
  refine g_iloadN X1.here hx (Jvm.hb hby d4_75) (pc' := 76) rfl rfl ?_
  refine g_iaload X1 hx hZ e1 V0 hpl (v := (f x1.toInt.toNat)) rfl (Jvm.hb hby d4_76) (pc' := 77) rfl ?_
  exact g_retI X1 hx hlk hret (Jvm.hb hby d4_77) (Nat.zero_le _) (Nat.zero_le _) ⟨rfl, rfl, e1⟩
theorem own_ctI (g : Nat → Int32) (N : Nat) (n p c : Int32) (i : Nat) (k : Int32) (hn : n.toInt = N) (hk : k.toInt = i) (hi : i ≤ 3) (hc : 0 ≤ c.toInt ∧ c.toInt ≤ i) :
    (own_ct g n p i k c).toInt = c.toInt + (if i < N ∧ (g i).toInt < p.toInt then 1 else 0) ∧ 0 ≤ (own_ct g n p i k c).toInt ∧ (own_ct g n p i k c).toInt ≤ i + 1 := by
  have e1 := c_iadd c 1
  have r1 := rng32 (c + 1)
  simp only [Int32.reduceToInt] at e1
  simp only [own_ct, Int32.lt_iff_toInt_lt, hn, hk]
  by_cases q : (i : Int) < N
  · rw [if_pos q]
    by_cases q2 : (g i).toInt < p.toInt
    · rw [if_pos q2, if_pos ⟨by omega, q2⟩]; omega
    · rw [if_neg q2, if_neg (fun z => q2 z.2)]; omega
  · rw [if_neg q, if_neg (fun z => q (by omega))]; omega
theorem own_cb (g : Nat → Int32) (N : Nat) (n p c : Int32) (hN : N ≤ 4) (hn : n.toInt = N) (hs : ∀ i j, i < j → j < N → (g i).toInt ≤ (g j).toInt) (hp : 0 ≤ p.toInt) (h : own_P g N p.toInt.toNat c) : c = f_cb g n p := by
  obtain ⟨h1, h2, h3, h4⟩ := h
  have b0 := own_ctI g N n p 0 0 0 hn (by decide) (by decide) (by decide)
  have b1 := own_ctI g N n p _ 1 1 hn (by decide) (by decide) b0.2
  have b2 := own_ctI g N n p _ 2 2 hn (by decide) (by decide) b1.2
  have b3 := own_ctI g N n p _ 3 3 hn (by decide) (by decide) b2.2
  have s01 := hs 0 1 (by decide)
  have s12 := hs 1 2 (by decide)
  have s23 := hs 2 3 (by decide)
  apply Int32.toInt_inj.mp
  rw [f_cb, b3.1, b2.1, b1.1, b0.1]
  clear b0 b1 b2 b3 hs
  have t0 := h3 0
  have t1 := h3 1
  have t2 := h3 2
  have t3 := h3 3
  clear h3
  have k0 : (0 : Int32).toInt = 0 := by decide
  rw [k0]
  have hp2 : (p.toInt.toNat : Int) = p.toInt := by omega
  rw [hp2] at t0 t1 t2 t3 h4
  rcases (by omega : c.toInt = 0 ∨ c.toInt = 1 ∨ c.toInt = 2 ∨ c.toInt = 3 ∨ c.toInt = 4) with r | r | r | r | r <;> rw [r] at t0 t1 t2 t3 h4 ⊢ <;> simp only [Int.reduceToNat] at t0 t1 t2 t3 h4 <;>
    (split <;> split <;> split <;> split <;> omega)
theorem own_m3 (x : Int32) : 0 ≤ (x &&& (3 : Int32)).toInt ∧ (x &&& (3 : Int32)).toInt ≤ 3 := by
  have e := c_mask x 3 2 (by decide) (by decide)
  simp only [Nat.reducePow] at e
  omega
theorem own_rem (q d : Int32) (hd : 0 < d.toInt) : 0 ≤ ((q &&& (2147483647 : Int32)) % d).toInt ∧ ((q &&& (2147483647 : Int32)) % d).toInt < d.toInt := by
  have e := c_mask q 2147483647 31 (by decide) (by decide)
  simp only [Nat.reducePow] at e
  have r := (c_iremV (q &&& 2147483647) d).1 (by omega) hd
  omega
theorem pd_0 : parseMethodDescriptor "([III)I" = some ⟨[(.array .int), .int, .int], some .int⟩ := by decide +kernel
theorem pd_1 : parseMethodDescriptor "([II)V" = some ⟨[(.array .int), .int], none⟩ := by decide +kernel
theorem pd_2 : parseMethodDescriptor "(I)I" = some ⟨[.int], some .int⟩ := by decide +kernel
theorem ef_0 (m : MethodId) (x0 : Int32) (x1 : Int32) (x2 : Int32) (x3 : Int32) (x4 : Int32) : entryFrame m #[(.int x0), (.int x1), (.int x2), (.int x3), (.int x4)] maxLocals = mkF m 0 #[.val (.int x0), .val (.int x1), .val (.int x2), .val (.int x3), .val (.int x4), .unset, .unset, .unset, .unset, .unset, .unset, .unset, .unset, .unset, .unset, .unset, .unset] [] := by first | (simp [entryFrame, mkF, argsToLocals, Value.category, maxLocals]; done) | rfl
set_option maxRecDepth 65536 in
set_option maxHeartbeats 40000000 in
theorem rm0 (l : Launch) (Z : State) (a0 : Array Value) (hw : ∀ d ∈ tables_1, d.before a0 Z = true) (ws : List Jvm.Cond) (x0 : Int32) (x1 : Int32) (x2 : Int32) (x3 : Int32) (x4 : Int32) (h0 : Heap) (n0 : Nat) (Z0 : n0 ≤ h0.size) :
    MetFree l x (head1 (Jvm.Cond.code x code maxLocals ret :: ws) room_1) (fun a U => a = #[(.int x0), (.int x1), (.int x2), (.int x3), (.int x4)] ∧ Z.Warmed39 U.vm ∧ U.heap = h0) (fun _ _ _ _ _ => True) (fun _ U o U' => ∃ v L, o = .returned v ∧ (own_Q0 n0) v U'.heap L ∧ FrameEnd U o U' L room_1.cells room_1.slots) := by
  refine own_body (own := "com/example/ogma/ogma/store/internal/AncestryFirstBelowPinLaw") pn_0 rfl (fun m => ef_0 m x0 x1 x2 x3 x4) ?_
  intro p e s m below meth c T0 hx hby hml hown hnm hlk hret hZ X0 e0
  have w_0 := hw _ (List.mem_of_getElem? (i := 0) rfl)
  have w_1 := hw _ (List.mem_of_getElem? (i := 1) rfl)
  have w_2 := hw _ (List.mem_of_getElem? (i := 2) rfl)
  have w_3 := hw _ (List.mem_of_getElem? (i := 3) rfl)
  have w_4 := hw _ (List.mem_of_getElem? (i := 4) rfl)
  have w_5 := hw _ (List.mem_of_getElem? (i := 5) rfl)
  have w_6 := hw _ (List.mem_of_getElem? (i := 6) rfl)
  have w_7 := hw _ (List.mem_of_getElem? (i := 7) rfl)
  have w_8 := hw _ (List.mem_of_getElem? (i := 8) rfl)
  have w_9 := hw _ (List.mem_of_getElem? (i := 9) rfl)
  have w_10 := hw _ (List.mem_of_getElem? (i := 10) rfl)
  have w_11 := hw _ (List.mem_of_getElem? (i := 11) rfl)
  have w_16 := hw _ (List.mem_of_getElem? (i := 16) rfl)
  have w_18 := hw _ (List.mem_of_getElem? (i := 18) rfl)
  have w_19 := hw _ (List.mem_of_getElem? (i := 19) rfl)
  have w_20 := hw _ (List.mem_of_getElem? (i := 20) rfl)
  have w_21 := hw _ (List.mem_of_getElem? (i := 21) rfl)
  have w_22 := hw _ (List.mem_of_getElem? (i := 22) rfl)
  have w_23 := hw _ (List.mem_of_getElem? (i := 23) rfl)
  have w_25 := hw _ (List.mem_of_getElem? (i := 25) rfl)
  have N0 := Fr.nil n0
  refine g_iloadN X0.here hx (Jvm.hb hby at_0) (pc' := 1) rfl rfl ?_
  refine g_ldc X0 hx hZ hown w_0 (Jvm.hb hby at_1) (pc' := 3) rfl ?_
  refine g_iand X0.here hx (Jvm.hb hby at_3) (pc' := 4) rfl ?_
  refine g_iconst X0.here hx (Jvm.hb hby at_4) (pc' := 5) rfl (z := (5 : Int32)) rfl ?_
  refine g_irem X0 hx (Jvm.hb hby at_5) (pc' := 6) rfl (by decide) ?_
  refine g_istore X0.here hx (Jvm.hb hby at_6) (pc' := 8) rfl (L' := #[.val (.int x0), .val (.int x1), .val (.int x2), .val (.int x3), .val (.int x4), .val (.int ((x0 &&& (2147483647 : Int32)) % (5 : Int32))), .unset, .unset, .unset, .unset, .unset, .unset, .unset, .unset, .unset, .unset, .unset]) rfl ?_
  generalize hnn : ((x0 &&& (2147483647 : Int32)) % (5 : Int32)) = nn
  have hq : nn = (0 : Int32) ∨ nn = (1 : Int32) ∨ nn = (2 : Int32) ∨ nn = (3 : Int32) ∨ nn = (4 : Int32) := by
    have e := c_mask x0 2147483647 31 (by decide) (by decide)
    have e2 := c_irem (x0 &&& 2147483647) 5 5 (by decide)
    simp only [Nat.reducePow] at e
    rw [hnn] at e2
    simp only [← Int32.toInt_inj, Int32.reduceToInt]
    omega
  clear hnn
  rcases hq with rfl | rfl | rfl | rfl | rfl
  · refine g_iload X0.here hx (Jvm.hb hby at_8) (pc' := 10) rfl rfl ?_
    refine g_newarr X0 hx hZ (ty := .int) rfl rfl w_1 e0 (Jvm.hb hby at_10) (pc' := 12) rfl (n := 0) (by decide) 4 (by decide) (by decide) (cells' := 1) (slots' := 4) rfl rfl (by decide) (by decide) ?_
    intro T1 hh1 ad1 gb1 X1 e1 E1 V1
    have g_ad1 : n0 ≤ ad1 := by rw [gb1]; exact Z0
    have Z2 : n0 ≤ hh1.size := Nat.le_trans Z0 E1.1
    refine g_astore X1.here hx (Jvm.hb hby at_12) (pc' := 14) rfl rfl (L' := #[.val (.int x0), .val (.int x1), .val (.int x2), .val (.int x3), .val (.int x4), .val (.int (0 : Int32)), .val (.ref ad1), .unset, .unset, .unset, .unset, .unset, .unset, .unset, .unset, .unset, .unset]) rfl ?_
    refine g_iloadN X1.here hx (Jvm.hb hby at_14) (pc' := 15) rfl rfl ?_
    refine g_iconst X1.here hx (Jvm.hb hby at_15) (pc' := 16) rfl (z := (3 : Int32)) rfl ?_
    refine g_iand X1.here hx (Jvm.hb hby at_16) (pc' := 17) rfl ?_
    refine g_istore X1.here hx (Jvm.hb hby at_17) (pc' := 19) rfl (L' := #[.val (.int x0), .val (.int x1), .val (.int x2), .val (.int x3), .val (.int x4), .val (.int (0 : Int32)), .val (.ref ad1), .val (.int (x1 &&& (3 : Int32))), .unset, .unset, .unset, .unset, .unset, .unset, .unset, .unset, .unset]) rfl ?_
    generalize hv0 : (x1 &&& (3 : Int32)) = v0
    have b0 := own_m3 x1
    rw [hv0] at b0
    refine g_iload X1.here hx (Jvm.hb hby at_19) (pc' := 21) rfl rfl ?_
    refine g_ifY X1.here hx (Jvm.hb hby at_21) (by decide) (pc' := 30) (by decide) ((if0 _ _).trans (flt (by decide)).2.2.2) ?_
    refine g_iload X1.here hx (Jvm.hb hby at_30) (pc' := 32) rfl rfl ?_
    refine g_iloadN X1.here hx (Jvm.hb hby at_32) (pc' := 33) rfl rfl ?_
    refine g_iconst X1.here hx (Jvm.hb hby at_33) (pc' := 34) rfl (z := (2 : Int32)) rfl ?_
    refine g_iushr X1.here hx (Jvm.hb hby at_34) (pc' := 35) rfl ?_
    refine g_iconst X1.here hx (Jvm.hb hby at_35) (pc' := 36) rfl (z := (3 : Int32)) rfl ?_
    refine g_iand X1.here hx (Jvm.hb hby at_36) (pc' := 37) rfl ?_
    refine g_iadd X1.here hx (Jvm.hb hby at_37) (pc' := 38) rfl ?_
    refine g_istore X1.here hx (Jvm.hb hby at_38) (pc' := 40) rfl (L' := #[.val (.int x0), .val (.int x1), .val (.int x2), .val (.int x3), .val (.int x4), .val (.int (0 : Int32)), .val (.ref ad1), .val (.int (v0 + (((x1.toUInt32 >>> ((2 : Int32) &&& 31).toUInt32).toInt32) &&& (3 : Int32)))), .unset, .unset, .unset, .unset, .unset, .unset, .unset, .unset, .unset]) rfl ?_
    generalize hv1 : (v0 + (((x1.toUInt32 >>> ((2 : Int32) &&& 31).toUInt32).toInt32) &&& (3 : Int32))) = v1
    have b1 := own_m3 (((x1.toUInt32 >>> ((2 : Int32) &&& 31).toUInt32).toInt32))
    have a1 := c_iadd v0 (((x1.toUInt32 >>> ((2 : Int32) &&& 31).toUInt32).toInt32) &&& (3 : Int32))
    have r1 := rng32 v1
    rw [hv1] at a1
    have c1 : v0.toInt ≤ v1.toInt ∧ v1.toInt ≤ v0.toInt + 3 := by omega
    refine g_iload X1.here hx (Jvm.hb hby at_40) (pc' := 42) rfl rfl ?_
    refine g_iconst X1.here hx (Jvm.hb hby at_42) (pc' := 43) rfl (z := (1 : Int32)) rfl ?_
    refine g_icY X1.here hx (Jvm.hb hby at_43) (by decide) (pc' := 52) (by decide) (flt (by decide)).2.2.2 ?_
    refine g_iload X1.here hx (Jvm.hb hby at_52) (pc' := 54) rfl rfl ?_
    refine g_iloadN X1.here hx (Jvm.hb hby at_54) (pc' := 55) rfl rfl ?_
    refine g_iconst X1.here hx (Jvm.hb hby at_55) (pc' := 56) rfl (z := (4 : Int32)) rfl ?_
    refine g_iushr X1.here hx (Jvm.hb hby at_56) (pc' := 57) rfl ?_
    refine g_iconst X1.here hx (Jvm.hb hby at_57) (pc' := 58) rfl (z := (3 : Int32)) rfl ?_
    refine g_iand X1.here hx (Jvm.hb hby at_58) (pc' := 59) rfl ?_
    refine g_iadd X1.here hx (Jvm.hb hby at_59) (pc' := 60) rfl ?_
    refine g_istore X1.here hx (Jvm.hb hby at_60) (pc' := 62) rfl (L' := #[.val (.int x0), .val (.int x1), .val (.int x2), .val (.int x3), .val (.int x4), .val (.int (0 : Int32)), .val (.ref ad1), .val (.int (v1 + (((x1.toUInt32 >>> ((4 : Int32) &&& 31).toUInt32).toInt32) &&& (3 : Int32)))), .unset, .unset, .unset, .unset, .unset, .unset, .unset, .unset, .unset]) rfl ?_
    generalize hv2 : (v1 + (((x1.toUInt32 >>> ((4 : Int32) &&& 31).toUInt32).toInt32) &&& (3 : Int32))) = v2
    have b2 := own_m3 (((x1.toUInt32 >>> ((4 : Int32) &&& 31).toUInt32).toInt32))
    have a2 := c_iadd v1 (((x1.toUInt32 >>> ((4 : Int32) &&& 31).toUInt32).toInt32) &&& (3 : Int32))
    have r2 := rng32 v2
    rw [hv2] at a2
    have c2 : v1.toInt ≤ v2.toInt ∧ v2.toInt ≤ v1.toInt + 3 := by omega
    refine g_iload X1.here hx (Jvm.hb hby at_62) (pc' := 64) rfl rfl ?_
    refine g_iconst X1.here hx (Jvm.hb hby at_64) (pc' := 65) rfl (z := (2 : Int32)) rfl ?_
    refine g_icY X1.here hx (Jvm.hb hby at_65) (by decide) (pc' := 74) (by decide) (flt (by decide)).2.2.2 ?_
    refine g_iload X1.here hx (Jvm.hb hby at_74) (pc' := 76) rfl rfl ?_
    refine g_iloadN X1.here hx (Jvm.hb hby at_76) (pc' := 77) rfl rfl ?_
    refine g_bipush X1.here hx (Jvm.hb hby at_77) (pc' := 79) rfl (z := (6 : Int32)) rfl ?_
    refine g_iushr X1.here hx (Jvm.hb hby at_79) (pc' := 80) rfl ?_
    refine g_iconst X1.here hx (Jvm.hb hby at_80) (pc' := 81) rfl (z := (3 : Int32)) rfl ?_
    refine g_iand X1.here hx (Jvm.hb hby at_81) (pc' := 82) rfl ?_
    refine g_iadd X1.here hx (Jvm.hb hby at_82) (pc' := 83) rfl ?_
    refine g_istore X1.here hx (Jvm.hb hby at_83) (pc' := 85) rfl (L' := #[.val (.int x0), .val (.int x1), .val (.int x2), .val (.int x3), .val (.int x4), .val (.int (0 : Int32)), .val (.ref ad1), .val (.int (v2 + (((x1.toUInt32 >>> ((6 : Int32) &&& 31).toUInt32).toInt32) &&& (3 : Int32)))), .unset, .unset, .unset, .unset, .unset, .unset, .unset, .unset, .unset]) rfl ?_
    generalize hv3 : (v2 + (((x1.toUInt32 >>> ((6 : Int32) &&& 31).toUInt32).toInt32) &&& (3 : Int32))) = v3
    have b3 := own_m3 (((x1.toUInt32 >>> ((6 : Int32) &&& 31).toUInt32).toInt32))
    have a3 := c_iadd v2 (((x1.toUInt32 >>> ((6 : Int32) &&& 31).toUInt32).toInt32) &&& (3 : Int32))
    have r3 := rng32 v3
    rw [hv3] at a3
    have c3 : v2.toInt ≤ v3.toInt ∧ v3.toInt ≤ v2.toInt + 3 := by omega
    refine g_iload X1.here hx (Jvm.hb hby at_85) (pc' := 87) rfl rfl ?_
    refine g_iconst X1.here hx (Jvm.hb hby at_87) (pc' := 88) rfl (z := (3 : Int32)) rfl ?_
    refine g_icY X1.here hx (Jvm.hb hby at_88) (by decide) (pc' := 97) (by decide) (flt (by decide)).2.2.2 ?_
    obtain ⟨g, Vg⟩ : ∃ g : Nat → Int32, own_IA Z hh1 ad1 .int 0 g := ⟨_, V1⟩
    have hs : ∀ i j, i < j → j < 0 → (g i).toInt ≤ (g j).toInt := fun i j h1 h2 => by
      omega
    refine g_iload X1.here hx (Jvm.hb hby at_97) (pc' := 99) rfl rfl ?_
    refine g_ifY X1.here hx (Jvm.hb hby at_99) (by decide) (pc' := 114) (by decide) ((if0 _ _).trans (flt (by decide)).2.2.2) ?_
    refine g_iconst X1.here hx (Jvm.hb hby at_114) (pc' := 115) rfl (z := (0 : Int32)) rfl ?_
    refine g_istore X1.here hx (Jvm.hb hby at_115) (pc' := 117) rfl (L' := #[.val (.int x0), .val (.int x1), .val (.int x2), .val (.int x3), .val (.int x4), .val (.int (0 : Int32)), .val (.ref ad1), .val (.int v3), .val (.int (0 : Int32)), .unset, .unset, .unset, .unset, .unset, .unset, .unset, .unset]) rfl ?_
    refine g_iload X1.here hx (Jvm.hb hby at_117) (pc' := 119) rfl rfl ?_
    refine g_iloadN X1.here hx (Jvm.hb hby at_119) (pc' := 120) rfl rfl ?_
    refine g_iconst X1.here hx (Jvm.hb hby at_120) (pc' := 121) rfl (z := (3 : Int32)) rfl ?_
    refine g_iand X1.here hx (Jvm.hb hby at_121) (pc' := 122) rfl ?_
    refine g_iadd X1.here hx (Jvm.hb hby at_122) (pc' := 123) rfl ?_
    refine g_istore X1.here hx (Jvm.hb hby at_123) (pc' := 125) rfl (L' := #[.val (.int x0), .val (.int x1), .val (.int x2), .val (.int x3), .val (.int x4), .val (.int (0 : Int32)), .val (.ref ad1), .val (.int v3), .val (.int (0 : Int32)), .val (.int ((0 : Int32) + (x2 &&& (3 : Int32)))), .unset, .unset, .unset, .unset, .unset, .unset, .unset]) rfl ?_
    refine g_iloadN X1.here hx (Jvm.hb hby at_125) (pc' := 126) rfl rfl ?_
    refine g_ldc X1 hx hZ hown w_0 (Jvm.hb hby at_126) (pc' := 128) rfl ?_
    refine g_iand X1.here hx (Jvm.hb hby at_128) (pc' := 129) rfl ?_
    refine g_iload X1.here hx (Jvm.hb hby at_129) (pc' := 131) rfl rfl ?_
    refine g_iconst X1.here hx (Jvm.hb hby at_131) (pc' := 132) rfl (z := (1 : Int32)) rfl ?_
    refine g_iadd X1.here hx (Jvm.hb hby at_132) (pc' := 133) rfl ?_
    have ht3 : 0 ≤ (0 : Int32).toInt ∧ (0 : Int32).toInt ≤ 13 := by decide
    generalize hab : ((0 : Int32) + (x2 &&& (3 : Int32))) = ab
    have m0 := own_m3 x2
    have m1 := c_iadd (0 : Int32) (x2 &&& 3)
    have m2 := rng32 ab
    rw [hab] at m1
    have hab2 : 0 ≤ ab.toInt ∧ ab.toInt ≤ 20 := by omega
    have m3 := c_iadd ab 1
    have m4 := rng32 (ab + 1)
    simp only [Int32.reduceToInt] at m3
    have hab3 : (ab + 1).toInt = ab.toInt + 1 := by omega
    have hnz : ab + (1 : Int32) ≠ 0 := fun q => by rw [← Int32.toInt_inj, hab3] at q; simp only [Int32.reduceToInt] at q; omega
    refine g_irem X1 hx (Jvm.hb hby at_133) (pc' := 134) rfl hnz ?_
    refine g_istore X1.here hx (Jvm.hb hby at_134) (pc' := 136) rfl (L' := #[.val (.int x0), .val (.int x1), .val (.int x2), .val (.int x3), .val (.int x4), .val (.int (0 : Int32)), .val (.ref ad1), .val (.int v3), .val (.int (0 : Int32)), .val (.int ab), .val (.int ((x3 &&& (2147483647 : Int32)) % (ab + (1 : Int32)))), .unset, .unset, .unset, .unset, .unset, .unset]) rfl ?_
    generalize hp1 : ((x3 &&& (2147483647 : Int32)) % (ab + (1 : Int32))) = p1
    have P1 := own_rem x3 (ab + 1) (by omega)
    rw [hp1, hab3] at P1
    refine g_iload X1.here hx (Jvm.hb hby at_136) (pc' := 138) rfl rfl ?_
    refine g_ldc X1 hx hZ hown w_0 (Jvm.hb hby at_138) (pc' := 140) rfl ?_
    refine g_iand X1.here hx (Jvm.hb hby at_140) (pc' := 141) rfl ?_
    refine g_iload X1.here hx (Jvm.hb hby at_141) (pc' := 143) rfl rfl ?_
    refine g_iconst X1.here hx (Jvm.hb hby at_143) (pc' := 144) rfl (z := (1 : Int32)) rfl ?_
    refine g_iadd X1.here hx (Jvm.hb hby at_144) (pc' := 145) rfl ?_
    refine g_irem X1 hx (Jvm.hb hby at_145) (pc' := 146) rfl hnz ?_
    refine g_istore X1.here hx (Jvm.hb hby at_146) (pc' := 148) rfl (L' := #[.val (.int x0), .val (.int x1), .val (.int x2), .val (.int x3), .val (.int x4), .val (.int (0 : Int32)), .val (.ref ad1), .val (.int v3), .val (.int (0 : Int32)), .val (.int ab), .val (.int p1), .val (.int ((x4 &&& (2147483647 : Int32)) % (ab + (1 : Int32)))), .unset, .unset, .unset, .unset, .unset]) rfl ?_
    generalize hp2 : ((x4 &&& (2147483647 : Int32)) % (ab + (1 : Int32))) = p2
    have P2 := own_rem x4 (ab + 1) (by omega)
    rw [hp2, hab3] at P2
    refine g_aload X1.here hx (Jvm.hb hby at_148) (pc' := 150) rfl rfl rfl ?_
    refine g_iload X1.here hx (Jvm.hb hby at_150) (pc' := 152) rfl rfl ?_
    refine g_iload X1.here hx (Jvm.hb hby at_152) (pc' := 154) rfl rfl ?_
    refine g_callP X1 hx hZ hown w_2 w_3 w_4 w_5 (by decide) (rm1 l Z a0 hw [] ad1 (0 : Int32) p1 0 g hh1 Vg (by decide)) 0 (by decide) (by decide) e1 (by rw [hml]; rfl) [(.ref ad1), (.int (0 : Int32)), (.int p1)] [] (lenOf pd_0 rfl) rfl rfl (Nat.le_of_eq rfl) (Jvm.hb hby at_154) (pc' := 157) rfl (by decide) (by decide) ?_
    intro T3 X3 e3
    show own_Gl p e below s (own_Q0 n0) room_1.cells room_1.slots (T3.setTop (mkF m 157 #[.val (.int x0), .val (.int x1), .val (.int x2), .val (.int x3), .val (.int x4), .val (.int (0 : Int32)), .val (.ref ad1), .val (.int v3), .val (.int (0 : Int32)), .val (.int ab), .val (.int p1), .val (.int p2), .unset, .unset, .unset, .unset, .unset] [(.int (f_cb g (0 : Int32) p1))]))
    refine g_istore X3.here hx (Jvm.hb hby at_157) (pc' := 159) rfl (L' := #[.val (.int x0), .val (.int x1), .val (.int x2), .val (.int x3), .val (.int x4), .val (.int (0 : Int32)), .val (.ref ad1), .val (.int v3), .val (.int (0 : Int32)), .val (.int ab), .val (.int p1), .val (.int p2), .val (.int (f_cb g (0 : Int32) p1)), .unset, .unset, .unset, .unset]) rfl ?_
    refine g_aload X3.here hx (Jvm.hb hby at_159) (pc' := 161) rfl rfl rfl ?_
    refine g_iload X3.here hx (Jvm.hb hby at_161) (pc' := 163) rfl rfl ?_
    refine g_iload X3.here hx (Jvm.hb hby at_163) (pc' := 165) rfl rfl ?_
    refine g_callP X3 hx hZ hown w_2 w_3 w_4 w_5 (by decide) (rm1 l Z a0 hw [] ad1 (0 : Int32) p2 0 g hh1 Vg (by decide)) 0 (by decide) (by decide) e3 (by rw [hml]; rfl) [(.ref ad1), (.int (0 : Int32)), (.int p2)] [] (lenOf pd_0 rfl) rfl rfl (Nat.le_of_eq rfl) (Jvm.hb hby at_165) (pc' := 168) rfl (by decide) (by decide) ?_
    intro T4 X4 e4
    show own_Gl p e below s (own_Q0 n0) room_1.cells room_1.slots (T4.setTop (mkF m 168 #[.val (.int x0), .val (.int x1), .val (.int x2), .val (.int x3), .val (.int x4), .val (.int (0 : Int32)), .val (.ref ad1), .val (.int v3), .val (.int (0 : Int32)), .val (.int ab), .val (.int p1), .val (.int p2), .val (.int (f_cb g (0 : Int32) p1)), .unset, .unset, .unset, .unset] [(.int (f_cb g (0 : Int32) p2))]))
    refine g_istore X4.here hx (Jvm.hb hby at_168) (pc' := 170) rfl (L' := #[.val (.int x0), .val (.int x1), .val (.int x2), .val (.int x3), .val (.int x4), .val (.int (0 : Int32)), .val (.ref ad1), .val (.int v3), .val (.int (0 : Int32)), .val (.int ab), .val (.int p1), .val (.int p2), .val (.int (f_cb g (0 : Int32) p1)), .val (.int (f_cb g (0 : Int32) p2)), .unset, .unset, .unset]) rfl ?_
    refine g_new X4 hx hZ hown w_6 w_7 w_8 e4 (Jvm.hb hby at_170) (pc' := 173) rfl (cells' := 2) (slots' := 8) rfl rfl (by decide) (by decide) ?_
    intro T5 hh5 ad5 gb5 X5 e5 E5 A5 D5
    have g_ad5 : n0 ≤ ad5 := by rw [gb5]; exact Z2
    have lt_ad1_ad5 : @LT.lt Nat _ ad1 ad5 := by rw [gb5]; exact Vg.lt
    have ne_ad1_ad5 : ad1 ≠ ad5 := Nat.ne_of_lt lt_ad1_ad5
    have Z6 : n0 ≤ hh5.size := Nat.le_trans Z2 E5.1
    have F5_ancestors : Fld Z hh5 ad5 "com/example/ogma/ogma/store/internal/Ancestry" "ancestors" "[I" .null := D5 (Or.inr w_16) (ty := (.array .int)) (by decide)
    have F5_above : Fld Z hh5 ad5 "com/example/ogma/ogma/store/internal/Ancestry" "above" "I" (.int (0 : Int32)) := D5 (Or.inr w_18) (ty := .int) (by decide)
    have F5_firsts : Fld Z hh5 ad5 "com/example/ogma/ogma/store/internal/Ancestry" "firsts" "[I" .null := D5 (Or.inl w_25) (ty := (.array .int)) (by decide)
    refine g_dup X5.here hx (Jvm.hb hby at_173) (pc' := 174) rfl rfl ?_
    refine g_aload X5.here hx (Jvm.hb hby at_174) (pc' := 176) rfl rfl rfl ?_
    refine g_iload X5.here hx (Jvm.hb hby at_176) (pc' := 178) rfl rfl ?_
    refine g_callI X5 hx hZ rfl hown w_9 w_10 w_8 w_11 (by decide) (rm2 l Z a0 hw [] ad5 ad1 ab hh5 n0 Z6 g_ad5 A5 F5_ancestors F5_above F5_firsts) 1 (by decide) (by decide) e5 (by rw [hml]; rfl) [(.ref ad1), (.int ab)] [(.ref ad5)] (lenOf pd_1 rfl) rfl rfl (Nat.le_of_eq rfl) (Jvm.hb hby at_178) (pc' := 181) rfl (cells' := 2) (slots' := 8) rfl rfl (by decide) (by decide) ?_
    intro v7 T7 L7 X7 hQ7
    obtain ⟨rfl, Nq7, K7, E7, Fa7, Fb7, Fc7⟩ := hQ7
    have N7 := Fr.app N0 Nq7
    have Z8 : n0 ≤ T7.heap.size := Nat.le_trans Z6 K7.1
    show own_Gl p e below s (own_Q0 n0) room_1.cells room_1.slots (T7.setTop (mkF m 181 #[.val (.int x0), .val (.int x1), .val (.int x2), .val (.int x3), .val (.int x4), .val (.int (0 : Int32)), .val (.ref ad1), .val (.int v3), .val (.int (0 : Int32)), .val (.int ab), .val (.int p1), .val (.int p2), .val (.int (f_cb g (0 : Int32) p1)), .val (.int (f_cb g (0 : Int32) p2)), .unset, .unset, .unset] [(.ref ad5)]))
    refine g_astore X7.here hx (Jvm.hb hby at_181) (pc' := 183) rfl rfl (L' := #[.val (.int x0), .val (.int x1), .val (.int x2), .val (.int x3), .val (.int x4), .val (.int (0 : Int32)), .val (.ref ad1), .val (.int v3), .val (.int (0 : Int32)), .val (.int ab), .val (.int p1), .val (.int p2), .val (.int (f_cb g (0 : Int32) p1)), .val (.int (f_cb g (0 : Int32) p2)), .val (.ref ad5), .unset, .unset]) rfl ?_
    refine g_aload X7.here hx (Jvm.hb hby at_183) (pc' := 185) rfl rfl rfl ?_
    refine g_iload X7.here hx (Jvm.hb hby at_185) (pc' := 187) rfl rfl ?_
    have F9 := ((Vg.ext E5).keep K7 (ninS ne_ad1_ad5 nin0))
    refine g_callV X7 hx hZ hown w_19 w_20 (own_nf hZ w_22) w_22 w_21 w_8 w_23 (by decide) (rm4a l Z a0 hw [] ad5 p1 ad1 ab 0 g T7.heap n0 Z8 g_ad5 E7 Fa7 Fb7 Fc7 F9 ne_ad1_ad5 hab2 (by omega) (by decide)) 0 (by decide) (by decide) rfl E7 (by rw [hml]; rfl) [(.int p1)] [] (lenOf pd_2 rfl) rfl rfl (Nat.le_of_eq rfl) (Jvm.hb hby at_187) (pc' := 190) rfl (cells' := 3) (slots' := 29) rfl rfl (by decide) (by decide) ?_
    intro v10 T10 L10 X10 hQ10
    obtain ⟨b10, f, rfl, Nq10, K10, E10, Ff10, Vf10, hP⟩ := hQ10
    have N10 := Fr.app N7 Nq10
    have Z11 : n0 ≤ T10.heap.size := Nat.le_trans Z8 K10.1
    show own_Gl p e below s (own_Q0 n0) room_1.cells room_1.slots (T10.setTop (mkF m 190 #[.val (.int x0), .val (.int x1), .val (.int x2), .val (.int x3), .val (.int x4), .val (.int (0 : Int32)), .val (.ref ad1), .val (.int v3), .val (.int (0 : Int32)), .val (.int ab), .val (.int p1), .val (.int p2), .val (.int (f_cb g (0 : Int32) p1)), .val (.int (f_cb g (0 : Int32) p2)), .val (.ref ad5), .unset, .unset] [(.int (f p1.toInt.toNat))]))
    refine g_istore X10.here hx (Jvm.hb hby at_190) (pc' := 192) rfl (L' := #[.val (.int x0), .val (.int x1), .val (.int x2), .val (.int x3), .val (.int x4), .val (.int (0 : Int32)), .val (.ref ad1), .val (.int v3), .val (.int (0 : Int32)), .val (.int ab), .val (.int p1), .val (.int p2), .val (.int (f_cb g (0 : Int32) p1)), .val (.int (f_cb g (0 : Int32) p2)), .val (.ref ad5), .val (.int (f p1.toInt.toNat)), .unset]) rfl ?_
    refine g_aload X10.here hx (Jvm.hb hby at_192) (pc' := 194) rfl rfl rfl ?_
    refine g_iload X10.here hx (Jvm.hb hby at_194) (pc' := 196) rfl rfl ?_
    refine g_callV X10 hx hZ hown w_19 w_20 (own_nf hZ w_22) w_22 w_21 w_8 w_23 (by decide) (rm4b l Z a0 hw [] ad5 p2 b10 _ f T10.heap Ff10 Vf10 (by omega)) 0 (by decide) (by decide) rfl E10 (by rw [hml]; rfl) [(.int p2)] [] (lenOf pd_2 rfl) rfl rfl (Nat.le_of_eq rfl) (Jvm.hb hby at_196) (pc' := 199) rfl (cells' := 3) (slots' := 29) rfl rfl (by decide) (by decide) ?_
    intro v12 T12 L12 X12 hQ12
    obtain ⟨rfl, rfl, e12⟩ := hQ12
    rw [List.append_nil] at X12
    show own_Gl p e below s (own_Q0 n0) room_1.cells room_1.slots (T12.setTop (mkF m 199 #[.val (.int x0), .val (.int x1), .val (.int x2), .val (.int x3), .val (.int x4), .val (.int (0 : Int32)), .val (.ref ad1), .val (.int v3), .val (.int (0 : Int32)), .val (.int ab), .val (.int p1), .val (.int p2), .val (.int (f_cb g (0 : Int32) p1)), .val (.int (f_cb g (0 : Int32) p2)), .val (.ref ad5), .val (.int (f p1.toInt.toNat)), .unset] [(.int (f p2.toInt.toNat))]))
    refine g_istore X12.here hx (Jvm.hb hby at_199) (pc' := 201) rfl (L' := #[.val (.int x0), .val (.int x1), .val (.int x2), .val (.int x3), .val (.int x4), .val (.int (0 : Int32)), .val (.ref ad1), .val (.int v3), .val (.int (0 : Int32)), .val (.int ab), .val (.int p1), .val (.int p2), .val (.int (f_cb g (0 : Int32) p1)), .val (.int (f_cb g (0 : Int32) p2)), .val (.ref ad5), .val (.int (f p1.toInt.toNat)), .val (.int (f p2.toInt.toNat))]) rfl ?_
    refine g_iload X12.here hx (Jvm.hb hby at_201) (pc' := 203) rfl rfl ?_
    refine g_iload X12.here hx (Jvm.hb hby at_203) (pc' := 205) rfl rfl ?_
    refine g_icN X12.here hx (Jvm.hb hby at_205) (pc' := 208) rfl (teq (own_cb g 0 (0 : Int32) p1 _ (by decide) (by decide) hs (by omega) (hP _ (by omega)))).2 ?_
    refine g_iload X12.here hx (Jvm.hb hby at_208) (pc' := 210) rfl rfl ?_
    refine g_iload X12.here hx (Jvm.hb hby at_210) (pc' := 212) rfl rfl ?_
    refine g_icN X12.here hx (Jvm.hb hby at_212) (pc' := 215) rfl (teq (own_cb g 0 (0 : Int32) p2 _ (by decide) (by decide) hs (by omega) (hP _ (by omega)))).2 ?_
    refine g_iconst X12.here hx (Jvm.hb hby at_215) (pc' := 216) rfl (z := (1 : Int32)) rfl ?_
    refine g_goto X12.here hx (Jvm.hb hby at_216) (by decide) (pc' := 220) (by decide) ?_
    exact g_retN X12 hx hlk (t := .boolean) hret (by simp) (z' := (1 : Int32)) rfl (Jvm.hb hby at_220) (by decide) (by decide) ⟨rfl, N10⟩
  · refine g_iload X0.here hx (Jvm.hb hby at_8) (pc' := 10) rfl rfl ?_
    refine g_newarr X0 hx hZ (ty := .int) rfl rfl w_1 e0 (Jvm.hb hby at_10) (pc' := 12) rfl (n := 1) (by decide) 4 (by decide) (by decide) (cells' := 1) (slots' := 4) rfl rfl (by decide) (by decide) ?_
    intro T13 hh13 ad13 gb13 X13 e13 E13 V13
    have g_ad13 : n0 ≤ ad13 := by rw [gb13]; exact Z0
    have Z14 : n0 ≤ hh13.size := Nat.le_trans Z0 E13.1
    refine g_astore X13.here hx (Jvm.hb hby at_12) (pc' := 14) rfl rfl (L' := #[.val (.int x0), .val (.int x1), .val (.int x2), .val (.int x3), .val (.int x4), .val (.int (1 : Int32)), .val (.ref ad13), .unset, .unset, .unset, .unset, .unset, .unset, .unset, .unset, .unset, .unset]) rfl ?_
    refine g_iloadN X13.here hx (Jvm.hb hby at_14) (pc' := 15) rfl rfl ?_
    refine g_iconst X13.here hx (Jvm.hb hby at_15) (pc' := 16) rfl (z := (3 : Int32)) rfl ?_
    refine g_iand X13.here hx (Jvm.hb hby at_16) (pc' := 17) rfl ?_
    refine g_istore X13.here hx (Jvm.hb hby at_17) (pc' := 19) rfl (L' := #[.val (.int x0), .val (.int x1), .val (.int x2), .val (.int x3), .val (.int x4), .val (.int (1 : Int32)), .val (.ref ad13), .val (.int (x1 &&& (3 : Int32))), .unset, .unset, .unset, .unset, .unset, .unset, .unset, .unset, .unset]) rfl ?_
    generalize hv0 : (x1 &&& (3 : Int32)) = v0
    have b0 := own_m3 x1
    rw [hv0] at b0
    refine g_iload X13.here hx (Jvm.hb hby at_19) (pc' := 21) rfl rfl ?_
    refine g_ifN X13.here hx (Jvm.hb hby at_21) (pc' := 24) rfl ((if0 _ _).trans (tlt (by decide)).2.2.2) ?_
    refine g_aload X13.here hx (Jvm.hb hby at_24) (pc' := 26) rfl rfl rfl ?_
    refine g_iconst X13.here hx (Jvm.hb hby at_26) (pc' := 27) rfl (z := (0 : Int32)) rfl ?_
    refine g_iload X13.here hx (Jvm.hb hby at_27) (pc' := 29) rfl rfl ?_
    refine g_iastore X13 hx hZ e13 V13 ⟨by decide, by decide⟩ (Jvm.hb hby at_29) (pc' := 30) rfl ?_
    intro T15 hh15 X15 e15 W15 V15
    have N15 := Fr.snoc X15 N0 g_ad13
    have Z16 : n0 ≤ hh15.size := (by rw [W15.size]; exact Z14)
    refine g_iload X15.here hx (Jvm.hb hby at_30) (pc' := 32) rfl rfl ?_
    refine g_iloadN X15.here hx (Jvm.hb hby at_32) (pc' := 33) rfl rfl ?_
    refine g_iconst X15.here hx (Jvm.hb hby at_33) (pc' := 34) rfl (z := (2 : Int32)) rfl ?_
    refine g_iushr X15.here hx (Jvm.hb hby at_34) (pc' := 35) rfl ?_
    refine g_iconst X15.here hx (Jvm.hb hby at_35) (pc' := 36) rfl (z := (3 : Int32)) rfl ?_
    refine g_iand X15.here hx (Jvm.hb hby at_36) (pc' := 37) rfl ?_
    refine g_iadd X15.here hx (Jvm.hb hby at_37) (pc' := 38) rfl ?_
    refine g_istore X15.here hx (Jvm.hb hby at_38) (pc' := 40) rfl (L' := #[.val (.int x0), .val (.int x1), .val (.int x2), .val (.int x3), .val (.int x4), .val (.int (1 : Int32)), .val (.ref ad13), .val (.int (v0 + (((x1.toUInt32 >>> ((2 : Int32) &&& 31).toUInt32).toInt32) &&& (3 : Int32)))), .unset, .unset, .unset, .unset, .unset, .unset, .unset, .unset, .unset]) rfl ?_
    generalize hv1 : (v0 + (((x1.toUInt32 >>> ((2 : Int32) &&& 31).toUInt32).toInt32) &&& (3 : Int32))) = v1
    have b1 := own_m3 (((x1.toUInt32 >>> ((2 : Int32) &&& 31).toUInt32).toInt32))
    have a1 := c_iadd v0 (((x1.toUInt32 >>> ((2 : Int32) &&& 31).toUInt32).toInt32) &&& (3 : Int32))
    have r1 := rng32 v1
    rw [hv1] at a1
    have c1 : v0.toInt ≤ v1.toInt ∧ v1.toInt ≤ v0.toInt + 3 := by omega
    refine g_iload X15.here hx (Jvm.hb hby at_40) (pc' := 42) rfl rfl ?_
    refine g_iconst X15.here hx (Jvm.hb hby at_42) (pc' := 43) rfl (z := (1 : Int32)) rfl ?_
    refine g_icY X15.here hx (Jvm.hb hby at_43) (by decide) (pc' := 52) (by decide) (flt (by decide)).2.2.2 ?_
    refine g_iload X15.here hx (Jvm.hb hby at_52) (pc' := 54) rfl rfl ?_
    refine g_iloadN X15.here hx (Jvm.hb hby at_54) (pc' := 55) rfl rfl ?_
    refine g_iconst X15.here hx (Jvm.hb hby at_55) (pc' := 56) rfl (z := (4 : Int32)) rfl ?_
    refine g_iushr X15.here hx (Jvm.hb hby at_56) (pc' := 57) rfl ?_
    refine g_iconst X15.here hx (Jvm.hb hby at_57) (pc' := 58) rfl (z := (3 : Int32)) rfl ?_
    refine g_iand X15.here hx (Jvm.hb hby at_58) (pc' := 59) rfl ?_
    refine g_iadd X15.here hx (Jvm.hb hby at_59) (pc' := 60) rfl ?_
    refine g_istore X15.here hx (Jvm.hb hby at_60) (pc' := 62) rfl (L' := #[.val (.int x0), .val (.int x1), .val (.int x2), .val (.int x3), .val (.int x4), .val (.int (1 : Int32)), .val (.ref ad13), .val (.int (v1 + (((x1.toUInt32 >>> ((4 : Int32) &&& 31).toUInt32).toInt32) &&& (3 : Int32)))), .unset, .unset, .unset, .unset, .unset, .unset, .unset, .unset, .unset]) rfl ?_
    generalize hv2 : (v1 + (((x1.toUInt32 >>> ((4 : Int32) &&& 31).toUInt32).toInt32) &&& (3 : Int32))) = v2
    have b2 := own_m3 (((x1.toUInt32 >>> ((4 : Int32) &&& 31).toUInt32).toInt32))
    have a2 := c_iadd v1 (((x1.toUInt32 >>> ((4 : Int32) &&& 31).toUInt32).toInt32) &&& (3 : Int32))
    have r2 := rng32 v2
    rw [hv2] at a2
    have c2 : v1.toInt ≤ v2.toInt ∧ v2.toInt ≤ v1.toInt + 3 := by omega
    refine g_iload X15.here hx (Jvm.hb hby at_62) (pc' := 64) rfl rfl ?_
    refine g_iconst X15.here hx (Jvm.hb hby at_64) (pc' := 65) rfl (z := (2 : Int32)) rfl ?_
    refine g_icY X15.here hx (Jvm.hb hby at_65) (by decide) (pc' := 74) (by decide) (flt (by decide)).2.2.2 ?_
    refine g_iload X15.here hx (Jvm.hb hby at_74) (pc' := 76) rfl rfl ?_
    refine g_iloadN X15.here hx (Jvm.hb hby at_76) (pc' := 77) rfl rfl ?_
    refine g_bipush X15.here hx (Jvm.hb hby at_77) (pc' := 79) rfl (z := (6 : Int32)) rfl ?_
    refine g_iushr X15.here hx (Jvm.hb hby at_79) (pc' := 80) rfl ?_
    refine g_iconst X15.here hx (Jvm.hb hby at_80) (pc' := 81) rfl (z := (3 : Int32)) rfl ?_
    refine g_iand X15.here hx (Jvm.hb hby at_81) (pc' := 82) rfl ?_
    refine g_iadd X15.here hx (Jvm.hb hby at_82) (pc' := 83) rfl ?_
    refine g_istore X15.here hx (Jvm.hb hby at_83) (pc' := 85) rfl (L' := #[.val (.int x0), .val (.int x1), .val (.int x2), .val (.int x3), .val (.int x4), .val (.int (1 : Int32)), .val (.ref ad13), .val (.int (v2 + (((x1.toUInt32 >>> ((6 : Int32) &&& 31).toUInt32).toInt32) &&& (3 : Int32)))), .unset, .unset, .unset, .unset, .unset, .unset, .unset, .unset, .unset]) rfl ?_
    generalize hv3 : (v2 + (((x1.toUInt32 >>> ((6 : Int32) &&& 31).toUInt32).toInt32) &&& (3 : Int32))) = v3
    have b3 := own_m3 (((x1.toUInt32 >>> ((6 : Int32) &&& 31).toUInt32).toInt32))
    have a3 := c_iadd v2 (((x1.toUInt32 >>> ((6 : Int32) &&& 31).toUInt32).toInt32) &&& (3 : Int32))
    have r3 := rng32 v3
    rw [hv3] at a3
    have c3 : v2.toInt ≤ v3.toInt ∧ v3.toInt ≤ v2.toInt + 3 := by omega
    refine g_iload X15.here hx (Jvm.hb hby at_85) (pc' := 87) rfl rfl ?_
    refine g_iconst X15.here hx (Jvm.hb hby at_87) (pc' := 88) rfl (z := (3 : Int32)) rfl ?_
    refine g_icY X15.here hx (Jvm.hb hby at_88) (by decide) (pc' := 97) (by decide) (flt (by decide)).2.2.2 ?_
    obtain ⟨g, hg, Vg⟩ : ∃ g : Nat → Int32, g = (fun i => if i = 0 then v0 else (0 : Int32)) ∧ own_IA Z hh15 ad13 .int 1 g := ⟨_, rfl, V15.congr (fun i hi => by
      rcases (by omega : i = 0) with rfl <;> rfl)⟩
    have g0 : g 0 = v0 := by rw [hg]; rfl
    have hs : ∀ i j, i < j → j < 1 → (g i).toInt ≤ (g j).toInt := fun i j h1 h2 => by
      omega
    refine g_iload X15.here hx (Jvm.hb hby at_97) (pc' := 99) rfl rfl ?_
    refine g_ifN X15.here hx (Jvm.hb hby at_99) (pc' := 102) rfl ((if0 _ _).trans (tlt (by decide)).2.2.2) ?_
    refine g_aload X15.here hx (Jvm.hb hby at_102) (pc' := 104) rfl rfl rfl ?_
    refine g_iload X15.here hx (Jvm.hb hby at_104) (pc' := 106) rfl rfl ?_
    refine g_iconst X15.here hx (Jvm.hb hby at_106) (pc' := 107) rfl (z := (1 : Int32)) rfl ?_
    refine g_isub X15.here hx (Jvm.hb hby at_107) (pc' := 108) rfl ?_
    refine g_iaload X15 hx hZ e15 Vg ⟨by decide, by decide⟩ (v := v0) (by exact g0) (Jvm.hb hby at_108) (pc' := 109) rfl ?_
    refine g_iconst X15.here hx (Jvm.hb hby at_109) (pc' := 110) rfl (z := (1 : Int32)) rfl ?_
    refine g_iadd X15.here hx (Jvm.hb hby at_110) (pc' := 111) rfl ?_
    refine g_goto X15.here hx (Jvm.hb hby at_111) (by decide) (pc' := 115) (by decide) ?_
    refine g_istore X15.here hx (Jvm.hb hby at_115) (pc' := 117) rfl (L' := #[.val (.int x0), .val (.int x1), .val (.int x2), .val (.int x3), .val (.int x4), .val (.int (1 : Int32)), .val (.ref ad13), .val (.int v3), .val (.int (v0 + (1 : Int32))), .unset, .unset, .unset, .unset, .unset, .unset, .unset, .unset]) rfl ?_
    obtain ⟨top, htop⟩ : ∃ z, z = (v0 + (1 : Int32)) := ⟨_, rfl⟩
    rw [← htop]
    have ht1 := c_iadd v0 1
    have ht2 := rng32 top
    rw [← htop] at ht1
    simp only [Int32.reduceToInt] at ht1
    have ht3 : 0 ≤ top.toInt ∧ top.toInt ≤ 13 := by omega
    refine g_iload X15.here hx (Jvm.hb hby at_117) (pc' := 119) rfl rfl ?_
    refine g_iloadN X15.here hx (Jvm.hb hby at_119) (pc' := 120) rfl rfl ?_
    refine g_iconst X15.here hx (Jvm.hb hby at_120) (pc' := 121) rfl (z := (3 : Int32)) rfl ?_
    refine g_iand X15.here hx (Jvm.hb hby at_121) (pc' := 122) rfl ?_
    refine g_iadd X15.here hx (Jvm.hb hby at_122) (pc' := 123) rfl ?_
    refine g_istore X15.here hx (Jvm.hb hby at_123) (pc' := 125) rfl (L' := #[.val (.int x0), .val (.int x1), .val (.int x2), .val (.int x3), .val (.int x4), .val (.int (1 : Int32)), .val (.ref ad13), .val (.int v3), .val (.int top), .val (.int (top + (x2 &&& (3 : Int32)))), .unset, .unset, .unset, .unset, .unset, .unset, .unset]) rfl ?_
    generalize hab : (top + (x2 &&& (3 : Int32))) = ab
    have m0 := own_m3 x2
    have m1 := c_iadd top (x2 &&& 3)
    have m2 := rng32 ab
    rw [hab] at m1
    have hab2 : 0 ≤ ab.toInt ∧ ab.toInt ≤ 20 := by omega
    have m3 := c_iadd ab 1
    have m4 := rng32 (ab + 1)
    simp only [Int32.reduceToInt] at m3
    have hab3 : (ab + 1).toInt = ab.toInt + 1 := by omega
    have hnz : ab + (1 : Int32) ≠ 0 := fun q => by rw [← Int32.toInt_inj, hab3] at q; simp only [Int32.reduceToInt] at q; omega
    refine g_iloadN X15.here hx (Jvm.hb hby at_125) (pc' := 126) rfl rfl ?_
    refine g_ldc X15 hx hZ hown w_0 (Jvm.hb hby at_126) (pc' := 128) rfl ?_
    refine g_iand X15.here hx (Jvm.hb hby at_128) (pc' := 129) rfl ?_
    refine g_iload X15.here hx (Jvm.hb hby at_129) (pc' := 131) rfl rfl ?_
    refine g_iconst X15.here hx (Jvm.hb hby at_131) (pc' := 132) rfl (z := (1 : Int32)) rfl ?_
    refine g_iadd X15.here hx (Jvm.hb hby at_132) (pc' := 133) rfl ?_
    refine g_irem X15 hx (Jvm.hb hby at_133) (pc' := 134) rfl hnz ?_
    refine g_istore X15.here hx (Jvm.hb hby at_134) (pc' := 136) rfl (L' := #[.val (.int x0), .val (.int x1), .val (.int x2), .val (.int x3), .val (.int x4), .val (.int (1 : Int32)), .val (.ref ad13), .val (.int v3), .val (.int top), .val (.int ab), .val (.int ((x3 &&& (2147483647 : Int32)) % (ab + (1 : Int32)))), .unset, .unset, .unset, .unset, .unset, .unset]) rfl ?_
    generalize hp1 : ((x3 &&& (2147483647 : Int32)) % (ab + (1 : Int32))) = p1
    have P1 := own_rem x3 (ab + 1) (by omega)
    rw [hp1, hab3] at P1
    refine g_iload X15.here hx (Jvm.hb hby at_136) (pc' := 138) rfl rfl ?_
    refine g_ldc X15 hx hZ hown w_0 (Jvm.hb hby at_138) (pc' := 140) rfl ?_
    refine g_iand X15.here hx (Jvm.hb hby at_140) (pc' := 141) rfl ?_
    refine g_iload X15.here hx (Jvm.hb hby at_141) (pc' := 143) rfl rfl ?_
    refine g_iconst X15.here hx (Jvm.hb hby at_143) (pc' := 144) rfl (z := (1 : Int32)) rfl ?_
    refine g_iadd X15.here hx (Jvm.hb hby at_144) (pc' := 145) rfl ?_
    refine g_irem X15 hx (Jvm.hb hby at_145) (pc' := 146) rfl hnz ?_
    refine g_istore X15.here hx (Jvm.hb hby at_146) (pc' := 148) rfl (L' := #[.val (.int x0), .val (.int x1), .val (.int x2), .val (.int x3), .val (.int x4), .val (.int (1 : Int32)), .val (.ref ad13), .val (.int v3), .val (.int top), .val (.int ab), .val (.int p1), .val (.int ((x4 &&& (2147483647 : Int32)) % (ab + (1 : Int32)))), .unset, .unset, .unset, .unset, .unset]) rfl ?_
    generalize hp2 : ((x4 &&& (2147483647 : Int32)) % (ab + (1 : Int32))) = p2
    have P2 := own_rem x4 (ab + 1) (by omega)
    rw [hp2, hab3] at P2
    refine g_aload X15.here hx (Jvm.hb hby at_148) (pc' := 150) rfl rfl rfl ?_
    refine g_iload X15.here hx (Jvm.hb hby at_150) (pc' := 152) rfl rfl ?_
    refine g_iload X15.here hx (Jvm.hb hby at_152) (pc' := 154) rfl rfl ?_
    refine g_callP X15 hx hZ hown w_2 w_3 w_4 w_5 (by decide) (rm1 l Z a0 hw [] ad13 (1 : Int32) p1 1 g hh15 Vg (by decide)) 0 (by decide) (by decide) e15 (by rw [hml]; rfl) [(.ref ad13), (.int (1 : Int32)), (.int p1)] [] (lenOf pd_0 rfl) rfl rfl (Nat.le_of_eq rfl) (Jvm.hb hby at_154) (pc' := 157) rfl (by decide) (by decide) ?_
    intro T17 X17 e17
    show own_Gl p e below s (own_Q0 n0) room_1.cells room_1.slots (T17.setTop (mkF m 157 #[.val (.int x0), .val (.int x1), .val (.int x2), .val (.int x3), .val (.int x4), .val (.int (1 : Int32)), .val (.ref ad13), .val (.int v3), .val (.int top), .val (.int ab), .val (.int p1), .val (.int p2), .unset, .unset, .unset, .unset, .unset] [(.int (f_cb g (1 : Int32) p1))]))
    refine g_istore X17.here hx (Jvm.hb hby at_157) (pc' := 159) rfl (L' := #[.val (.int x0), .val (.int x1), .val (.int x2), .val (.int x3), .val (.int x4), .val (.int (1 : Int32)), .val (.ref ad13), .val (.int v3), .val (.int top), .val (.int ab), .val (.int p1), .val (.int p2), .val (.int (f_cb g (1 : Int32) p1)), .unset, .unset, .unset, .unset]) rfl ?_
    refine g_aload X17.here hx (Jvm.hb hby at_159) (pc' := 161) rfl rfl rfl ?_
    refine g_iload X17.here hx (Jvm.hb hby at_161) (pc' := 163) rfl rfl ?_
    refine g_iload X17.here hx (Jvm.hb hby at_163) (pc' := 165) rfl rfl ?_
    refine g_callP X17 hx hZ hown w_2 w_3 w_4 w_5 (by decide) (rm1 l Z a0 hw [] ad13 (1 : Int32) p2 1 g hh15 Vg (by decide)) 0 (by decide) (by decide) e17 (by rw [hml]; rfl) [(.ref ad13), (.int (1 : Int32)), (.int p2)] [] (lenOf pd_0 rfl) rfl rfl (Nat.le_of_eq rfl) (Jvm.hb hby at_165) (pc' := 168) rfl (by decide) (by decide) ?_
    intro T18 X18 e18
    show own_Gl p e below s (own_Q0 n0) room_1.cells room_1.slots (T18.setTop (mkF m 168 #[.val (.int x0), .val (.int x1), .val (.int x2), .val (.int x3), .val (.int x4), .val (.int (1 : Int32)), .val (.ref ad13), .val (.int v3), .val (.int top), .val (.int ab), .val (.int p1), .val (.int p2), .val (.int (f_cb g (1 : Int32) p1)), .unset, .unset, .unset, .unset] [(.int (f_cb g (1 : Int32) p2))]))
    refine g_istore X18.here hx (Jvm.hb hby at_168) (pc' := 170) rfl (L' := #[.val (.int x0), .val (.int x1), .val (.int x2), .val (.int x3), .val (.int x4), .val (.int (1 : Int32)), .val (.ref ad13), .val (.int v3), .val (.int top), .val (.int ab), .val (.int p1), .val (.int p2), .val (.int (f_cb g (1 : Int32) p1)), .val (.int (f_cb g (1 : Int32) p2)), .unset, .unset, .unset]) rfl ?_
    refine g_new X18 hx hZ hown w_6 w_7 w_8 e18 (Jvm.hb hby at_170) (pc' := 173) rfl (cells' := 2) (slots' := 8) rfl rfl (by decide) (by decide) ?_
    intro T19 hh19 ad19 gb19 X19 e19 E19 A19 D19
    have g_ad19 : n0 ≤ ad19 := by rw [gb19]; exact Z16
    have lt_ad13_ad19 : @LT.lt Nat _ ad13 ad19 := by rw [gb19]; exact Vg.lt
    have ne_ad13_ad19 : ad13 ≠ ad19 := Nat.ne_of_lt lt_ad13_ad19
    have Z20 : n0 ≤ hh19.size := Nat.le_trans Z16 E19.1
    have F19_ancestors : Fld Z hh19 ad19 "com/example/ogma/ogma/store/internal/Ancestry" "ancestors" "[I" .null := D19 (Or.inr w_16) (ty := (.array .int)) (by decide)
    have F19_above : Fld Z hh19 ad19 "com/example/ogma/ogma/store/internal/Ancestry" "above" "I" (.int (0 : Int32)) := D19 (Or.inr w_18) (ty := .int) (by decide)
    have F19_firsts : Fld Z hh19 ad19 "com/example/ogma/ogma/store/internal/Ancestry" "firsts" "[I" .null := D19 (Or.inl w_25) (ty := (.array .int)) (by decide)
    refine g_dup X19.here hx (Jvm.hb hby at_173) (pc' := 174) rfl rfl ?_
    refine g_aload X19.here hx (Jvm.hb hby at_174) (pc' := 176) rfl rfl rfl ?_
    refine g_iload X19.here hx (Jvm.hb hby at_176) (pc' := 178) rfl rfl ?_
    refine g_callI X19 hx hZ rfl hown w_9 w_10 w_8 w_11 (by decide) (rm2 l Z a0 hw [] ad19 ad13 ab hh19 n0 Z20 g_ad19 A19 F19_ancestors F19_above F19_firsts) 1 (by decide) (by decide) e19 (by rw [hml]; rfl) [(.ref ad13), (.int ab)] [(.ref ad19)] (lenOf pd_1 rfl) rfl rfl (Nat.le_of_eq rfl) (Jvm.hb hby at_178) (pc' := 181) rfl (cells' := 2) (slots' := 8) rfl rfl (by decide) (by decide) ?_
    intro v21 T21 L21 X21 hQ21
    obtain ⟨rfl, Nq21, K21, E21, Fa21, Fb21, Fc21⟩ := hQ21
    have N21 := Fr.app N15 Nq21
    have Z22 : n0 ≤ T21.heap.size := Nat.le_trans Z20 K21.1
    show own_Gl p e below s (own_Q0 n0) room_1.cells room_1.slots (T21.setTop (mkF m 181 #[.val (.int x0), .val (.int x1), .val (.int x2), .val (.int x3), .val (.int x4), .val (.int (1 : Int32)), .val (.ref ad13), .val (.int v3), .val (.int top), .val (.int ab), .val (.int p1), .val (.int p2), .val (.int (f_cb g (1 : Int32) p1)), .val (.int (f_cb g (1 : Int32) p2)), .unset, .unset, .unset] [(.ref ad19)]))
    refine g_astore X21.here hx (Jvm.hb hby at_181) (pc' := 183) rfl rfl (L' := #[.val (.int x0), .val (.int x1), .val (.int x2), .val (.int x3), .val (.int x4), .val (.int (1 : Int32)), .val (.ref ad13), .val (.int v3), .val (.int top), .val (.int ab), .val (.int p1), .val (.int p2), .val (.int (f_cb g (1 : Int32) p1)), .val (.int (f_cb g (1 : Int32) p2)), .val (.ref ad19), .unset, .unset]) rfl ?_
    refine g_aload X21.here hx (Jvm.hb hby at_183) (pc' := 185) rfl rfl rfl ?_
    refine g_iload X21.here hx (Jvm.hb hby at_185) (pc' := 187) rfl rfl ?_
    have F23 := ((Vg.ext E19).keep K21 (ninS ne_ad13_ad19 nin0))
    refine g_callV X21 hx hZ hown w_19 w_20 (own_nf hZ w_22) w_22 w_21 w_8 w_23 (by decide) (rm4a l Z a0 hw [] ad19 p1 ad13 ab 1 g T21.heap n0 Z22 g_ad19 E21 Fa21 Fb21 Fc21 F23 ne_ad13_ad19 hab2 (by omega) (by decide)) 0 (by decide) (by decide) rfl E21 (by rw [hml]; rfl) [(.int p1)] [] (lenOf pd_2 rfl) rfl rfl (Nat.le_of_eq rfl) (Jvm.hb hby at_187) (pc' := 190) rfl (cells' := 3) (slots' := 29) rfl rfl (by decide) (by decide) ?_
    intro v24 T24 L24 X24 hQ24
    obtain ⟨b24, f, rfl, Nq24, K24, E24, Ff24, Vf24, hP⟩ := hQ24
    have N24 := Fr.app N21 Nq24
    have Z25 : n0 ≤ T24.heap.size := Nat.le_trans Z22 K24.1
    show own_Gl p e below s (own_Q0 n0) room_1.cells room_1.slots (T24.setTop (mkF m 190 #[.val (.int x0), .val (.int x1), .val (.int x2), .val (.int x3), .val (.int x4), .val (.int (1 : Int32)), .val (.ref ad13), .val (.int v3), .val (.int top), .val (.int ab), .val (.int p1), .val (.int p2), .val (.int (f_cb g (1 : Int32) p1)), .val (.int (f_cb g (1 : Int32) p2)), .val (.ref ad19), .unset, .unset] [(.int (f p1.toInt.toNat))]))
    refine g_istore X24.here hx (Jvm.hb hby at_190) (pc' := 192) rfl (L' := #[.val (.int x0), .val (.int x1), .val (.int x2), .val (.int x3), .val (.int x4), .val (.int (1 : Int32)), .val (.ref ad13), .val (.int v3), .val (.int top), .val (.int ab), .val (.int p1), .val (.int p2), .val (.int (f_cb g (1 : Int32) p1)), .val (.int (f_cb g (1 : Int32) p2)), .val (.ref ad19), .val (.int (f p1.toInt.toNat)), .unset]) rfl ?_
    refine g_aload X24.here hx (Jvm.hb hby at_192) (pc' := 194) rfl rfl rfl ?_
    refine g_iload X24.here hx (Jvm.hb hby at_194) (pc' := 196) rfl rfl ?_
    refine g_callV X24 hx hZ hown w_19 w_20 (own_nf hZ w_22) w_22 w_21 w_8 w_23 (by decide) (rm4b l Z a0 hw [] ad19 p2 b24 _ f T24.heap Ff24 Vf24 (by omega)) 0 (by decide) (by decide) rfl E24 (by rw [hml]; rfl) [(.int p2)] [] (lenOf pd_2 rfl) rfl rfl (Nat.le_of_eq rfl) (Jvm.hb hby at_196) (pc' := 199) rfl (cells' := 3) (slots' := 29) rfl rfl (by decide) (by decide) ?_
    intro v26 T26 L26 X26 hQ26
    obtain ⟨rfl, rfl, e26⟩ := hQ26
    rw [List.append_nil] at X26
    show own_Gl p e below s (own_Q0 n0) room_1.cells room_1.slots (T26.setTop (mkF m 199 #[.val (.int x0), .val (.int x1), .val (.int x2), .val (.int x3), .val (.int x4), .val (.int (1 : Int32)), .val (.ref ad13), .val (.int v3), .val (.int top), .val (.int ab), .val (.int p1), .val (.int p2), .val (.int (f_cb g (1 : Int32) p1)), .val (.int (f_cb g (1 : Int32) p2)), .val (.ref ad19), .val (.int (f p1.toInt.toNat)), .unset] [(.int (f p2.toInt.toNat))]))
    refine g_istore X26.here hx (Jvm.hb hby at_199) (pc' := 201) rfl (L' := #[.val (.int x0), .val (.int x1), .val (.int x2), .val (.int x3), .val (.int x4), .val (.int (1 : Int32)), .val (.ref ad13), .val (.int v3), .val (.int top), .val (.int ab), .val (.int p1), .val (.int p2), .val (.int (f_cb g (1 : Int32) p1)), .val (.int (f_cb g (1 : Int32) p2)), .val (.ref ad19), .val (.int (f p1.toInt.toNat)), .val (.int (f p2.toInt.toNat))]) rfl ?_
    refine g_iload X26.here hx (Jvm.hb hby at_201) (pc' := 203) rfl rfl ?_
    refine g_iload X26.here hx (Jvm.hb hby at_203) (pc' := 205) rfl rfl ?_
    refine g_icN X26.here hx (Jvm.hb hby at_205) (pc' := 208) rfl (teq (own_cb g 1 (1 : Int32) p1 _ (by decide) (by decide) hs (by omega) (hP _ (by omega)))).2 ?_
    refine g_iload X26.here hx (Jvm.hb hby at_208) (pc' := 210) rfl rfl ?_
    refine g_iload X26.here hx (Jvm.hb hby at_210) (pc' := 212) rfl rfl ?_
    refine g_icN X26.here hx (Jvm.hb hby at_212) (pc' := 215) rfl (teq (own_cb g 1 (1 : Int32) p2 _ (by decide) (by decide) hs (by omega) (hP _ (by omega)))).2 ?_
    refine g_iconst X26.here hx (Jvm.hb hby at_215) (pc' := 216) rfl (z := (1 : Int32)) rfl ?_
    refine g_goto X26.here hx (Jvm.hb hby at_216) (by decide) (pc' := 220) (by decide) ?_
    exact g_retN X26 hx hlk (t := .boolean) hret (by simp) (z' := (1 : Int32)) rfl (Jvm.hb hby at_220) (by decide) (by decide) ⟨rfl, N24⟩
  · refine g_iload X0.here hx (Jvm.hb hby at_8) (pc' := 10) rfl rfl ?_
    refine g_newarr X0 hx hZ (ty := .int) rfl rfl w_1 e0 (Jvm.hb hby at_10) (pc' := 12) rfl (n := 2) (by decide) 4 (by decide) (by decide) (cells' := 1) (slots' := 4) rfl rfl (by decide) (by decide) ?_
    intro T27 hh27 ad27 gb27 X27 e27 E27 V27
    have g_ad27 : n0 ≤ ad27 := by rw [gb27]; exact Z0
    have Z28 : n0 ≤ hh27.size := Nat.le_trans Z0 E27.1
    refine g_astore X27.here hx (Jvm.hb hby at_12) (pc' := 14) rfl rfl (L' := #[.val (.int x0), .val (.int x1), .val (.int x2), .val (.int x3), .val (.int x4), .val (.int (2 : Int32)), .val (.ref ad27), .unset, .unset, .unset, .unset, .unset, .unset, .unset, .unset, .unset, .unset]) rfl ?_
    refine g_iloadN X27.here hx (Jvm.hb hby at_14) (pc' := 15) rfl rfl ?_
    refine g_iconst X27.here hx (Jvm.hb hby at_15) (pc' := 16) rfl (z := (3 : Int32)) rfl ?_
    refine g_iand X27.here hx (Jvm.hb hby at_16) (pc' := 17) rfl ?_
    refine g_istore X27.here hx (Jvm.hb hby at_17) (pc' := 19) rfl (L' := #[.val (.int x0), .val (.int x1), .val (.int x2), .val (.int x3), .val (.int x4), .val (.int (2 : Int32)), .val (.ref ad27), .val (.int (x1 &&& (3 : Int32))), .unset, .unset, .unset, .unset, .unset, .unset, .unset, .unset, .unset]) rfl ?_
    generalize hv0 : (x1 &&& (3 : Int32)) = v0
    have b0 := own_m3 x1
    rw [hv0] at b0
    refine g_iload X27.here hx (Jvm.hb hby at_19) (pc' := 21) rfl rfl ?_
    refine g_ifN X27.here hx (Jvm.hb hby at_21) (pc' := 24) rfl ((if0 _ _).trans (tlt (by decide)).2.2.2) ?_
    refine g_aload X27.here hx (Jvm.hb hby at_24) (pc' := 26) rfl rfl rfl ?_
    refine g_iconst X27.here hx (Jvm.hb hby at_26) (pc' := 27) rfl (z := (0 : Int32)) rfl ?_
    refine g_iload X27.here hx (Jvm.hb hby at_27) (pc' := 29) rfl rfl ?_
    refine g_iastore X27 hx hZ e27 V27 ⟨by decide, by decide⟩ (Jvm.hb hby at_29) (pc' := 30) rfl ?_
    intro T29 hh29 X29 e29 W29 V29
    have N29 := Fr.snoc X29 N0 g_ad27
    have Z30 : n0 ≤ hh29.size := (by rw [W29.size]; exact Z28)
    refine g_iload X29.here hx (Jvm.hb hby at_30) (pc' := 32) rfl rfl ?_
    refine g_iloadN X29.here hx (Jvm.hb hby at_32) (pc' := 33) rfl rfl ?_
    refine g_iconst X29.here hx (Jvm.hb hby at_33) (pc' := 34) rfl (z := (2 : Int32)) rfl ?_
    refine g_iushr X29.here hx (Jvm.hb hby at_34) (pc' := 35) rfl ?_
    refine g_iconst X29.here hx (Jvm.hb hby at_35) (pc' := 36) rfl (z := (3 : Int32)) rfl ?_
    refine g_iand X29.here hx (Jvm.hb hby at_36) (pc' := 37) rfl ?_
    refine g_iadd X29.here hx (Jvm.hb hby at_37) (pc' := 38) rfl ?_
    refine g_istore X29.here hx (Jvm.hb hby at_38) (pc' := 40) rfl (L' := #[.val (.int x0), .val (.int x1), .val (.int x2), .val (.int x3), .val (.int x4), .val (.int (2 : Int32)), .val (.ref ad27), .val (.int (v0 + (((x1.toUInt32 >>> ((2 : Int32) &&& 31).toUInt32).toInt32) &&& (3 : Int32)))), .unset, .unset, .unset, .unset, .unset, .unset, .unset, .unset, .unset]) rfl ?_
    generalize hv1 : (v0 + (((x1.toUInt32 >>> ((2 : Int32) &&& 31).toUInt32).toInt32) &&& (3 : Int32))) = v1
    have b1 := own_m3 (((x1.toUInt32 >>> ((2 : Int32) &&& 31).toUInt32).toInt32))
    have a1 := c_iadd v0 (((x1.toUInt32 >>> ((2 : Int32) &&& 31).toUInt32).toInt32) &&& (3 : Int32))
    have r1 := rng32 v1
    rw [hv1] at a1
    have c1 : v0.toInt ≤ v1.toInt ∧ v1.toInt ≤ v0.toInt + 3 := by omega
    refine g_iload X29.here hx (Jvm.hb hby at_40) (pc' := 42) rfl rfl ?_
    refine g_iconst X29.here hx (Jvm.hb hby at_42) (pc' := 43) rfl (z := (1 : Int32)) rfl ?_
    refine g_icN X29.here hx (Jvm.hb hby at_43) (pc' := 46) rfl (tlt (by decide)).2.2.2 ?_
    refine g_aload X29.here hx (Jvm.hb hby at_46) (pc' := 48) rfl rfl rfl ?_
    refine g_iconst X29.here hx (Jvm.hb hby at_48) (pc' := 49) rfl (z := (1 : Int32)) rfl ?_
    refine g_iload X29.here hx (Jvm.hb hby at_49) (pc' := 51) rfl rfl ?_
    refine g_iastore X29 hx hZ e29 V29 ⟨by decide, by decide⟩ (Jvm.hb hby at_51) (pc' := 52) rfl ?_
    intro T31 hh31 X31 e31 W31 V31
    have N31 := Fr.snoc X31 N29 g_ad27
    have Z32 : n0 ≤ hh31.size := (by rw [W31.size]; exact Z30)
    refine g_iload X31.here hx (Jvm.hb hby at_52) (pc' := 54) rfl rfl ?_
    refine g_iloadN X31.here hx (Jvm.hb hby at_54) (pc' := 55) rfl rfl ?_
    refine g_iconst X31.here hx (Jvm.hb hby at_55) (pc' := 56) rfl (z := (4 : Int32)) rfl ?_
    refine g_iushr X31.here hx (Jvm.hb hby at_56) (pc' := 57) rfl ?_
    refine g_iconst X31.here hx (Jvm.hb hby at_57) (pc' := 58) rfl (z := (3 : Int32)) rfl ?_
    refine g_iand X31.here hx (Jvm.hb hby at_58) (pc' := 59) rfl ?_
    refine g_iadd X31.here hx (Jvm.hb hby at_59) (pc' := 60) rfl ?_
    refine g_istore X31.here hx (Jvm.hb hby at_60) (pc' := 62) rfl (L' := #[.val (.int x0), .val (.int x1), .val (.int x2), .val (.int x3), .val (.int x4), .val (.int (2 : Int32)), .val (.ref ad27), .val (.int (v1 + (((x1.toUInt32 >>> ((4 : Int32) &&& 31).toUInt32).toInt32) &&& (3 : Int32)))), .unset, .unset, .unset, .unset, .unset, .unset, .unset, .unset, .unset]) rfl ?_
    generalize hv2 : (v1 + (((x1.toUInt32 >>> ((4 : Int32) &&& 31).toUInt32).toInt32) &&& (3 : Int32))) = v2
    have b2 := own_m3 (((x1.toUInt32 >>> ((4 : Int32) &&& 31).toUInt32).toInt32))
    have a2 := c_iadd v1 (((x1.toUInt32 >>> ((4 : Int32) &&& 31).toUInt32).toInt32) &&& (3 : Int32))
    have r2 := rng32 v2
    rw [hv2] at a2
    have c2 : v1.toInt ≤ v2.toInt ∧ v2.toInt ≤ v1.toInt + 3 := by omega
    refine g_iload X31.here hx (Jvm.hb hby at_62) (pc' := 64) rfl rfl ?_
    refine g_iconst X31.here hx (Jvm.hb hby at_64) (pc' := 65) rfl (z := (2 : Int32)) rfl ?_
    refine g_icY X31.here hx (Jvm.hb hby at_65) (by decide) (pc' := 74) (by decide) (flt (by decide)).2.2.2 ?_
    refine g_iload X31.here hx (Jvm.hb hby at_74) (pc' := 76) rfl rfl ?_
    refine g_iloadN X31.here hx (Jvm.hb hby at_76) (pc' := 77) rfl rfl ?_
    refine g_bipush X31.here hx (Jvm.hb hby at_77) (pc' := 79) rfl (z := (6 : Int32)) rfl ?_
    refine g_iushr X31.here hx (Jvm.hb hby at_79) (pc' := 80) rfl ?_
    refine g_iconst X31.here hx (Jvm.hb hby at_80) (pc' := 81) rfl (z := (3 : Int32)) rfl ?_
    refine g_iand X31.here hx (Jvm.hb hby at_81) (pc' := 82) rfl ?_
    refine g_iadd X31.here hx (Jvm.hb hby at_82) (pc' := 83) rfl ?_
    refine g_istore X31.here hx (Jvm.hb hby at_83) (pc' := 85) rfl (L' := #[.val (.int x0), .val (.int x1), .val (.int x2), .val (.int x3), .val (.int x4), .val (.int (2 : Int32)), .val (.ref ad27), .val (.int (v2 + (((x1.toUInt32 >>> ((6 : Int32) &&& 31).toUInt32).toInt32) &&& (3 : Int32)))), .unset, .unset, .unset, .unset, .unset, .unset, .unset, .unset, .unset]) rfl ?_
    generalize hv3 : (v2 + (((x1.toUInt32 >>> ((6 : Int32) &&& 31).toUInt32).toInt32) &&& (3 : Int32))) = v3
    have b3 := own_m3 (((x1.toUInt32 >>> ((6 : Int32) &&& 31).toUInt32).toInt32))
    have a3 := c_iadd v2 (((x1.toUInt32 >>> ((6 : Int32) &&& 31).toUInt32).toInt32) &&& (3 : Int32))
    have r3 := rng32 v3
    rw [hv3] at a3
    have c3 : v2.toInt ≤ v3.toInt ∧ v3.toInt ≤ v2.toInt + 3 := by omega
    refine g_iload X31.here hx (Jvm.hb hby at_85) (pc' := 87) rfl rfl ?_
    refine g_iconst X31.here hx (Jvm.hb hby at_87) (pc' := 88) rfl (z := (3 : Int32)) rfl ?_
    refine g_icY X31.here hx (Jvm.hb hby at_88) (by decide) (pc' := 97) (by decide) (flt (by decide)).2.2.2 ?_
    obtain ⟨g, hg, Vg⟩ : ∃ g : Nat → Int32, g = (fun i => if i = 0 then v0 else if i = 1 then v1 else (0 : Int32)) ∧ own_IA Z hh31 ad27 .int 2 g := ⟨_, rfl, V31.congr (fun i hi => by
      rcases (by omega : i = 0 ∨ i = 1) with rfl | rfl <;> rfl)⟩
    have g0 : g 0 = v0 := by rw [hg]; rfl
    have g1 : g 1 = v1 := by rw [hg]; rfl
    have hs : ∀ i j, i < j → j < 2 → (g i).toInt ≤ (g j).toInt := fun i j h1 h2 => by
      rcases (by omega : (i = 0 ∧ j = 1)) with ⟨rfl, rfl⟩ <;> simp only [g0, g1] <;> omega
    refine g_iload X31.here hx (Jvm.hb hby at_97) (pc' := 99) rfl rfl ?_
    refine g_ifN X31.here hx (Jvm.hb hby at_99) (pc' := 102) rfl ((if0 _ _).trans (tlt (by decide)).2.2.2) ?_
    refine g_aload X31.here hx (Jvm.hb hby at_102) (pc' := 104) rfl rfl rfl ?_
    refine g_iload X31.here hx (Jvm.hb hby at_104) (pc' := 106) rfl rfl ?_
    refine g_iconst X31.here hx (Jvm.hb hby at_106) (pc' := 107) rfl (z := (1 : Int32)) rfl ?_
    refine g_isub X31.here hx (Jvm.hb hby at_107) (pc' := 108) rfl ?_
    refine g_iaload X31 hx hZ e31 Vg ⟨by decide, by decide⟩ (v := v1) (by exact g1) (Jvm.hb hby at_108) (pc' := 109) rfl ?_
    refine g_iconst X31.here hx (Jvm.hb hby at_109) (pc' := 110) rfl (z := (1 : Int32)) rfl ?_
    refine g_iadd X31.here hx (Jvm.hb hby at_110) (pc' := 111) rfl ?_
    refine g_goto X31.here hx (Jvm.hb hby at_111) (by decide) (pc' := 115) (by decide) ?_
    refine g_istore X31.here hx (Jvm.hb hby at_115) (pc' := 117) rfl (L' := #[.val (.int x0), .val (.int x1), .val (.int x2), .val (.int x3), .val (.int x4), .val (.int (2 : Int32)), .val (.ref ad27), .val (.int v3), .val (.int (v1 + (1 : Int32))), .unset, .unset, .unset, .unset, .unset, .unset, .unset, .unset]) rfl ?_
    obtain ⟨top, htop⟩ : ∃ z, z = (v1 + (1 : Int32)) := ⟨_, rfl⟩
    rw [← htop]
    have ht1 := c_iadd v1 1
    have ht2 := rng32 top
    rw [← htop] at ht1
    simp only [Int32.reduceToInt] at ht1
    have ht3 : 0 ≤ top.toInt ∧ top.toInt ≤ 13 := by omega
    refine g_iload X31.here hx (Jvm.hb hby at_117) (pc' := 119) rfl rfl ?_
    refine g_iloadN X31.here hx (Jvm.hb hby at_119) (pc' := 120) rfl rfl ?_
    refine g_iconst X31.here hx (Jvm.hb hby at_120) (pc' := 121) rfl (z := (3 : Int32)) rfl ?_
    refine g_iand X31.here hx (Jvm.hb hby at_121) (pc' := 122) rfl ?_
    refine g_iadd X31.here hx (Jvm.hb hby at_122) (pc' := 123) rfl ?_
    refine g_istore X31.here hx (Jvm.hb hby at_123) (pc' := 125) rfl (L' := #[.val (.int x0), .val (.int x1), .val (.int x2), .val (.int x3), .val (.int x4), .val (.int (2 : Int32)), .val (.ref ad27), .val (.int v3), .val (.int top), .val (.int (top + (x2 &&& (3 : Int32)))), .unset, .unset, .unset, .unset, .unset, .unset, .unset]) rfl ?_
    generalize hab : (top + (x2 &&& (3 : Int32))) = ab
    have m0 := own_m3 x2
    have m1 := c_iadd top (x2 &&& 3)
    have m2 := rng32 ab
    rw [hab] at m1
    have hab2 : 0 ≤ ab.toInt ∧ ab.toInt ≤ 20 := by omega
    have m3 := c_iadd ab 1
    have m4 := rng32 (ab + 1)
    simp only [Int32.reduceToInt] at m3
    have hab3 : (ab + 1).toInt = ab.toInt + 1 := by omega
    have hnz : ab + (1 : Int32) ≠ 0 := fun q => by rw [← Int32.toInt_inj, hab3] at q; simp only [Int32.reduceToInt] at q; omega
    refine g_iloadN X31.here hx (Jvm.hb hby at_125) (pc' := 126) rfl rfl ?_
    refine g_ldc X31 hx hZ hown w_0 (Jvm.hb hby at_126) (pc' := 128) rfl ?_
    refine g_iand X31.here hx (Jvm.hb hby at_128) (pc' := 129) rfl ?_
    refine g_iload X31.here hx (Jvm.hb hby at_129) (pc' := 131) rfl rfl ?_
    refine g_iconst X31.here hx (Jvm.hb hby at_131) (pc' := 132) rfl (z := (1 : Int32)) rfl ?_
    refine g_iadd X31.here hx (Jvm.hb hby at_132) (pc' := 133) rfl ?_
    refine g_irem X31 hx (Jvm.hb hby at_133) (pc' := 134) rfl hnz ?_
    refine g_istore X31.here hx (Jvm.hb hby at_134) (pc' := 136) rfl (L' := #[.val (.int x0), .val (.int x1), .val (.int x2), .val (.int x3), .val (.int x4), .val (.int (2 : Int32)), .val (.ref ad27), .val (.int v3), .val (.int top), .val (.int ab), .val (.int ((x3 &&& (2147483647 : Int32)) % (ab + (1 : Int32)))), .unset, .unset, .unset, .unset, .unset, .unset]) rfl ?_
    generalize hp1 : ((x3 &&& (2147483647 : Int32)) % (ab + (1 : Int32))) = p1
    have P1 := own_rem x3 (ab + 1) (by omega)
    rw [hp1, hab3] at P1
    refine g_iload X31.here hx (Jvm.hb hby at_136) (pc' := 138) rfl rfl ?_
    refine g_ldc X31 hx hZ hown w_0 (Jvm.hb hby at_138) (pc' := 140) rfl ?_
    refine g_iand X31.here hx (Jvm.hb hby at_140) (pc' := 141) rfl ?_
    refine g_iload X31.here hx (Jvm.hb hby at_141) (pc' := 143) rfl rfl ?_
    refine g_iconst X31.here hx (Jvm.hb hby at_143) (pc' := 144) rfl (z := (1 : Int32)) rfl ?_
    refine g_iadd X31.here hx (Jvm.hb hby at_144) (pc' := 145) rfl ?_
    refine g_irem X31 hx (Jvm.hb hby at_145) (pc' := 146) rfl hnz ?_
    refine g_istore X31.here hx (Jvm.hb hby at_146) (pc' := 148) rfl (L' := #[.val (.int x0), .val (.int x1), .val (.int x2), .val (.int x3), .val (.int x4), .val (.int (2 : Int32)), .val (.ref ad27), .val (.int v3), .val (.int top), .val (.int ab), .val (.int p1), .val (.int ((x4 &&& (2147483647 : Int32)) % (ab + (1 : Int32)))), .unset, .unset, .unset, .unset, .unset]) rfl ?_
    generalize hp2 : ((x4 &&& (2147483647 : Int32)) % (ab + (1 : Int32))) = p2
    have P2 := own_rem x4 (ab + 1) (by omega)
    rw [hp2, hab3] at P2
    refine g_aload X31.here hx (Jvm.hb hby at_148) (pc' := 150) rfl rfl rfl ?_
    refine g_iload X31.here hx (Jvm.hb hby at_150) (pc' := 152) rfl rfl ?_
    refine g_iload X31.here hx (Jvm.hb hby at_152) (pc' := 154) rfl rfl ?_
    refine g_callP X31 hx hZ hown w_2 w_3 w_4 w_5 (by decide) (rm1 l Z a0 hw [] ad27 (2 : Int32) p1 2 g hh31 Vg (by decide)) 0 (by decide) (by decide) e31 (by rw [hml]; rfl) [(.ref ad27), (.int (2 : Int32)), (.int p1)] [] (lenOf pd_0 rfl) rfl rfl (Nat.le_of_eq rfl) (Jvm.hb hby at_154) (pc' := 157) rfl (by decide) (by decide) ?_
    intro T33 X33 e33
    show own_Gl p e below s (own_Q0 n0) room_1.cells room_1.slots (T33.setTop (mkF m 157 #[.val (.int x0), .val (.int x1), .val (.int x2), .val (.int x3), .val (.int x4), .val (.int (2 : Int32)), .val (.ref ad27), .val (.int v3), .val (.int top), .val (.int ab), .val (.int p1), .val (.int p2), .unset, .unset, .unset, .unset, .unset] [(.int (f_cb g (2 : Int32) p1))]))
    refine g_istore X33.here hx (Jvm.hb hby at_157) (pc' := 159) rfl (L' := #[.val (.int x0), .val (.int x1), .val (.int x2), .val (.int x3), .val (.int x4), .val (.int (2 : Int32)), .val (.ref ad27), .val (.int v3), .val (.int top), .val (.int ab), .val (.int p1), .val (.int p2), .val (.int (f_cb g (2 : Int32) p1)), .unset, .unset, .unset, .unset]) rfl ?_
    refine g_aload X33.here hx (Jvm.hb hby at_159) (pc' := 161) rfl rfl rfl ?_
    refine g_iload X33.here hx (Jvm.hb hby at_161) (pc' := 163) rfl rfl ?_
    refine g_iload X33.here hx (Jvm.hb hby at_163) (pc' := 165) rfl rfl ?_
    refine g_callP X33 hx hZ hown w_2 w_3 w_4 w_5 (by decide) (rm1 l Z a0 hw [] ad27 (2 : Int32) p2 2 g hh31 Vg (by decide)) 0 (by decide) (by decide) e33 (by rw [hml]; rfl) [(.ref ad27), (.int (2 : Int32)), (.int p2)] [] (lenOf pd_0 rfl) rfl rfl (Nat.le_of_eq rfl) (Jvm.hb hby at_165) (pc' := 168) rfl (by decide) (by decide) ?_
    intro T34 X34 e34
    show own_Gl p e below s (own_Q0 n0) room_1.cells room_1.slots (T34.setTop (mkF m 168 #[.val (.int x0), .val (.int x1), .val (.int x2), .val (.int x3), .val (.int x4), .val (.int (2 : Int32)), .val (.ref ad27), .val (.int v3), .val (.int top), .val (.int ab), .val (.int p1), .val (.int p2), .val (.int (f_cb g (2 : Int32) p1)), .unset, .unset, .unset, .unset] [(.int (f_cb g (2 : Int32) p2))]))
    refine g_istore X34.here hx (Jvm.hb hby at_168) (pc' := 170) rfl (L' := #[.val (.int x0), .val (.int x1), .val (.int x2), .val (.int x3), .val (.int x4), .val (.int (2 : Int32)), .val (.ref ad27), .val (.int v3), .val (.int top), .val (.int ab), .val (.int p1), .val (.int p2), .val (.int (f_cb g (2 : Int32) p1)), .val (.int (f_cb g (2 : Int32) p2)), .unset, .unset, .unset]) rfl ?_
    refine g_new X34 hx hZ hown w_6 w_7 w_8 e34 (Jvm.hb hby at_170) (pc' := 173) rfl (cells' := 2) (slots' := 8) rfl rfl (by decide) (by decide) ?_
    intro T35 hh35 ad35 gb35 X35 e35 E35 A35 D35
    have g_ad35 : n0 ≤ ad35 := by rw [gb35]; exact Z32
    have lt_ad27_ad35 : @LT.lt Nat _ ad27 ad35 := by rw [gb35]; exact Vg.lt
    have ne_ad27_ad35 : ad27 ≠ ad35 := Nat.ne_of_lt lt_ad27_ad35
    have Z36 : n0 ≤ hh35.size := Nat.le_trans Z32 E35.1
    have F35_ancestors : Fld Z hh35 ad35 "com/example/ogma/ogma/store/internal/Ancestry" "ancestors" "[I" .null := D35 (Or.inr w_16) (ty := (.array .int)) (by decide)
    have F35_above : Fld Z hh35 ad35 "com/example/ogma/ogma/store/internal/Ancestry" "above" "I" (.int (0 : Int32)) := D35 (Or.inr w_18) (ty := .int) (by decide)
    have F35_firsts : Fld Z hh35 ad35 "com/example/ogma/ogma/store/internal/Ancestry" "firsts" "[I" .null := D35 (Or.inl w_25) (ty := (.array .int)) (by decide)
    refine g_dup X35.here hx (Jvm.hb hby at_173) (pc' := 174) rfl rfl ?_
    refine g_aload X35.here hx (Jvm.hb hby at_174) (pc' := 176) rfl rfl rfl ?_
    refine g_iload X35.here hx (Jvm.hb hby at_176) (pc' := 178) rfl rfl ?_
    refine g_callI X35 hx hZ rfl hown w_9 w_10 w_8 w_11 (by decide) (rm2 l Z a0 hw [] ad35 ad27 ab hh35 n0 Z36 g_ad35 A35 F35_ancestors F35_above F35_firsts) 1 (by decide) (by decide) e35 (by rw [hml]; rfl) [(.ref ad27), (.int ab)] [(.ref ad35)] (lenOf pd_1 rfl) rfl rfl (Nat.le_of_eq rfl) (Jvm.hb hby at_178) (pc' := 181) rfl (cells' := 2) (slots' := 8) rfl rfl (by decide) (by decide) ?_
    intro v37 T37 L37 X37 hQ37
    obtain ⟨rfl, Nq37, K37, E37, Fa37, Fb37, Fc37⟩ := hQ37
    have N37 := Fr.app N31 Nq37
    have Z38 : n0 ≤ T37.heap.size := Nat.le_trans Z36 K37.1
    show own_Gl p e below s (own_Q0 n0) room_1.cells room_1.slots (T37.setTop (mkF m 181 #[.val (.int x0), .val (.int x1), .val (.int x2), .val (.int x3), .val (.int x4), .val (.int (2 : Int32)), .val (.ref ad27), .val (.int v3), .val (.int top), .val (.int ab), .val (.int p1), .val (.int p2), .val (.int (f_cb g (2 : Int32) p1)), .val (.int (f_cb g (2 : Int32) p2)), .unset, .unset, .unset] [(.ref ad35)]))
    refine g_astore X37.here hx (Jvm.hb hby at_181) (pc' := 183) rfl rfl (L' := #[.val (.int x0), .val (.int x1), .val (.int x2), .val (.int x3), .val (.int x4), .val (.int (2 : Int32)), .val (.ref ad27), .val (.int v3), .val (.int top), .val (.int ab), .val (.int p1), .val (.int p2), .val (.int (f_cb g (2 : Int32) p1)), .val (.int (f_cb g (2 : Int32) p2)), .val (.ref ad35), .unset, .unset]) rfl ?_
    refine g_aload X37.here hx (Jvm.hb hby at_183) (pc' := 185) rfl rfl rfl ?_
    refine g_iload X37.here hx (Jvm.hb hby at_185) (pc' := 187) rfl rfl ?_
    have F39 := ((Vg.ext E35).keep K37 (ninS ne_ad27_ad35 nin0))
    refine g_callV X37 hx hZ hown w_19 w_20 (own_nf hZ w_22) w_22 w_21 w_8 w_23 (by decide) (rm4a l Z a0 hw [] ad35 p1 ad27 ab 2 g T37.heap n0 Z38 g_ad35 E37 Fa37 Fb37 Fc37 F39 ne_ad27_ad35 hab2 (by omega) (by decide)) 0 (by decide) (by decide) rfl E37 (by rw [hml]; rfl) [(.int p1)] [] (lenOf pd_2 rfl) rfl rfl (Nat.le_of_eq rfl) (Jvm.hb hby at_187) (pc' := 190) rfl (cells' := 3) (slots' := 29) rfl rfl (by decide) (by decide) ?_
    intro v40 T40 L40 X40 hQ40
    obtain ⟨b40, f, rfl, Nq40, K40, E40, Ff40, Vf40, hP⟩ := hQ40
    have N40 := Fr.app N37 Nq40
    have Z41 : n0 ≤ T40.heap.size := Nat.le_trans Z38 K40.1
    show own_Gl p e below s (own_Q0 n0) room_1.cells room_1.slots (T40.setTop (mkF m 190 #[.val (.int x0), .val (.int x1), .val (.int x2), .val (.int x3), .val (.int x4), .val (.int (2 : Int32)), .val (.ref ad27), .val (.int v3), .val (.int top), .val (.int ab), .val (.int p1), .val (.int p2), .val (.int (f_cb g (2 : Int32) p1)), .val (.int (f_cb g (2 : Int32) p2)), .val (.ref ad35), .unset, .unset] [(.int (f p1.toInt.toNat))]))
    refine g_istore X40.here hx (Jvm.hb hby at_190) (pc' := 192) rfl (L' := #[.val (.int x0), .val (.int x1), .val (.int x2), .val (.int x3), .val (.int x4), .val (.int (2 : Int32)), .val (.ref ad27), .val (.int v3), .val (.int top), .val (.int ab), .val (.int p1), .val (.int p2), .val (.int (f_cb g (2 : Int32) p1)), .val (.int (f_cb g (2 : Int32) p2)), .val (.ref ad35), .val (.int (f p1.toInt.toNat)), .unset]) rfl ?_
    refine g_aload X40.here hx (Jvm.hb hby at_192) (pc' := 194) rfl rfl rfl ?_
    refine g_iload X40.here hx (Jvm.hb hby at_194) (pc' := 196) rfl rfl ?_
    refine g_callV X40 hx hZ hown w_19 w_20 (own_nf hZ w_22) w_22 w_21 w_8 w_23 (by decide) (rm4b l Z a0 hw [] ad35 p2 b40 _ f T40.heap Ff40 Vf40 (by omega)) 0 (by decide) (by decide) rfl E40 (by rw [hml]; rfl) [(.int p2)] [] (lenOf pd_2 rfl) rfl rfl (Nat.le_of_eq rfl) (Jvm.hb hby at_196) (pc' := 199) rfl (cells' := 3) (slots' := 29) rfl rfl (by decide) (by decide) ?_
    intro v42 T42 L42 X42 hQ42
    obtain ⟨rfl, rfl, e42⟩ := hQ42
    rw [List.append_nil] at X42
    show own_Gl p e below s (own_Q0 n0) room_1.cells room_1.slots (T42.setTop (mkF m 199 #[.val (.int x0), .val (.int x1), .val (.int x2), .val (.int x3), .val (.int x4), .val (.int (2 : Int32)), .val (.ref ad27), .val (.int v3), .val (.int top), .val (.int ab), .val (.int p1), .val (.int p2), .val (.int (f_cb g (2 : Int32) p1)), .val (.int (f_cb g (2 : Int32) p2)), .val (.ref ad35), .val (.int (f p1.toInt.toNat)), .unset] [(.int (f p2.toInt.toNat))]))
    refine g_istore X42.here hx (Jvm.hb hby at_199) (pc' := 201) rfl (L' := #[.val (.int x0), .val (.int x1), .val (.int x2), .val (.int x3), .val (.int x4), .val (.int (2 : Int32)), .val (.ref ad27), .val (.int v3), .val (.int top), .val (.int ab), .val (.int p1), .val (.int p2), .val (.int (f_cb g (2 : Int32) p1)), .val (.int (f_cb g (2 : Int32) p2)), .val (.ref ad35), .val (.int (f p1.toInt.toNat)), .val (.int (f p2.toInt.toNat))]) rfl ?_
    refine g_iload X42.here hx (Jvm.hb hby at_201) (pc' := 203) rfl rfl ?_
    refine g_iload X42.here hx (Jvm.hb hby at_203) (pc' := 205) rfl rfl ?_
    refine g_icN X42.here hx (Jvm.hb hby at_205) (pc' := 208) rfl (teq (own_cb g 2 (2 : Int32) p1 _ (by decide) (by decide) hs (by omega) (hP _ (by omega)))).2 ?_
    refine g_iload X42.here hx (Jvm.hb hby at_208) (pc' := 210) rfl rfl ?_
    refine g_iload X42.here hx (Jvm.hb hby at_210) (pc' := 212) rfl rfl ?_
    refine g_icN X42.here hx (Jvm.hb hby at_212) (pc' := 215) rfl (teq (own_cb g 2 (2 : Int32) p2 _ (by decide) (by decide) hs (by omega) (hP _ (by omega)))).2 ?_
    refine g_iconst X42.here hx (Jvm.hb hby at_215) (pc' := 216) rfl (z := (1 : Int32)) rfl ?_
    refine g_goto X42.here hx (Jvm.hb hby at_216) (by decide) (pc' := 220) (by decide) ?_
    exact g_retN X42 hx hlk (t := .boolean) hret (by simp) (z' := (1 : Int32)) rfl (Jvm.hb hby at_220) (by decide) (by decide) ⟨rfl, N40⟩
  · refine g_iload X0.here hx (Jvm.hb hby at_8) (pc' := 10) rfl rfl ?_
    refine g_newarr X0 hx hZ (ty := .int) rfl rfl w_1 e0 (Jvm.hb hby at_10) (pc' := 12) rfl (n := 3) (by decide) 4 (by decide) (by decide) (cells' := 1) (slots' := 4) rfl rfl (by decide) (by decide) ?_
    intro T43 hh43 ad43 gb43 X43 e43 E43 V43
    have g_ad43 : n0 ≤ ad43 := by rw [gb43]; exact Z0
    have Z44 : n0 ≤ hh43.size := Nat.le_trans Z0 E43.1
    refine g_astore X43.here hx (Jvm.hb hby at_12) (pc' := 14) rfl rfl (L' := #[.val (.int x0), .val (.int x1), .val (.int x2), .val (.int x3), .val (.int x4), .val (.int (3 : Int32)), .val (.ref ad43), .unset, .unset, .unset, .unset, .unset, .unset, .unset, .unset, .unset, .unset]) rfl ?_
    refine g_iloadN X43.here hx (Jvm.hb hby at_14) (pc' := 15) rfl rfl ?_
    refine g_iconst X43.here hx (Jvm.hb hby at_15) (pc' := 16) rfl (z := (3 : Int32)) rfl ?_
    refine g_iand X43.here hx (Jvm.hb hby at_16) (pc' := 17) rfl ?_
    refine g_istore X43.here hx (Jvm.hb hby at_17) (pc' := 19) rfl (L' := #[.val (.int x0), .val (.int x1), .val (.int x2), .val (.int x3), .val (.int x4), .val (.int (3 : Int32)), .val (.ref ad43), .val (.int (x1 &&& (3 : Int32))), .unset, .unset, .unset, .unset, .unset, .unset, .unset, .unset, .unset]) rfl ?_
    generalize hv0 : (x1 &&& (3 : Int32)) = v0
    have b0 := own_m3 x1
    rw [hv0] at b0
    refine g_iload X43.here hx (Jvm.hb hby at_19) (pc' := 21) rfl rfl ?_
    refine g_ifN X43.here hx (Jvm.hb hby at_21) (pc' := 24) rfl ((if0 _ _).trans (tlt (by decide)).2.2.2) ?_
    refine g_aload X43.here hx (Jvm.hb hby at_24) (pc' := 26) rfl rfl rfl ?_
    refine g_iconst X43.here hx (Jvm.hb hby at_26) (pc' := 27) rfl (z := (0 : Int32)) rfl ?_
    refine g_iload X43.here hx (Jvm.hb hby at_27) (pc' := 29) rfl rfl ?_
    refine g_iastore X43 hx hZ e43 V43 ⟨by decide, by decide⟩ (Jvm.hb hby at_29) (pc' := 30) rfl ?_
    intro T45 hh45 X45 e45 W45 V45
    have N45 := Fr.snoc X45 N0 g_ad43
    have Z46 : n0 ≤ hh45.size := (by rw [W45.size]; exact Z44)
    refine g_iload X45.here hx (Jvm.hb hby at_30) (pc' := 32) rfl rfl ?_
    refine g_iloadN X45.here hx (Jvm.hb hby at_32) (pc' := 33) rfl rfl ?_
    refine g_iconst X45.here hx (Jvm.hb hby at_33) (pc' := 34) rfl (z := (2 : Int32)) rfl ?_
    refine g_iushr X45.here hx (Jvm.hb hby at_34) (pc' := 35) rfl ?_
    refine g_iconst X45.here hx (Jvm.hb hby at_35) (pc' := 36) rfl (z := (3 : Int32)) rfl ?_
    refine g_iand X45.here hx (Jvm.hb hby at_36) (pc' := 37) rfl ?_
    refine g_iadd X45.here hx (Jvm.hb hby at_37) (pc' := 38) rfl ?_
    refine g_istore X45.here hx (Jvm.hb hby at_38) (pc' := 40) rfl (L' := #[.val (.int x0), .val (.int x1), .val (.int x2), .val (.int x3), .val (.int x4), .val (.int (3 : Int32)), .val (.ref ad43), .val (.int (v0 + (((x1.toUInt32 >>> ((2 : Int32) &&& 31).toUInt32).toInt32) &&& (3 : Int32)))), .unset, .unset, .unset, .unset, .unset, .unset, .unset, .unset, .unset]) rfl ?_
    generalize hv1 : (v0 + (((x1.toUInt32 >>> ((2 : Int32) &&& 31).toUInt32).toInt32) &&& (3 : Int32))) = v1
    have b1 := own_m3 (((x1.toUInt32 >>> ((2 : Int32) &&& 31).toUInt32).toInt32))
    have a1 := c_iadd v0 (((x1.toUInt32 >>> ((2 : Int32) &&& 31).toUInt32).toInt32) &&& (3 : Int32))
    have r1 := rng32 v1
    rw [hv1] at a1
    have c1 : v0.toInt ≤ v1.toInt ∧ v1.toInt ≤ v0.toInt + 3 := by omega
    refine g_iload X45.here hx (Jvm.hb hby at_40) (pc' := 42) rfl rfl ?_
    refine g_iconst X45.here hx (Jvm.hb hby at_42) (pc' := 43) rfl (z := (1 : Int32)) rfl ?_
    refine g_icN X45.here hx (Jvm.hb hby at_43) (pc' := 46) rfl (tlt (by decide)).2.2.2 ?_
    refine g_aload X45.here hx (Jvm.hb hby at_46) (pc' := 48) rfl rfl rfl ?_
    refine g_iconst X45.here hx (Jvm.hb hby at_48) (pc' := 49) rfl (z := (1 : Int32)) rfl ?_
    refine g_iload X45.here hx (Jvm.hb hby at_49) (pc' := 51) rfl rfl ?_
    refine g_iastore X45 hx hZ e45 V45 ⟨by decide, by decide⟩ (Jvm.hb hby at_51) (pc' := 52) rfl ?_
    intro T47 hh47 X47 e47 W47 V47
    have N47 := Fr.snoc X47 N45 g_ad43
    have Z48 : n0 ≤ hh47.size := (by rw [W47.size]; exact Z46)
    refine g_iload X47.here hx (Jvm.hb hby at_52) (pc' := 54) rfl rfl ?_
    refine g_iloadN X47.here hx (Jvm.hb hby at_54) (pc' := 55) rfl rfl ?_
    refine g_iconst X47.here hx (Jvm.hb hby at_55) (pc' := 56) rfl (z := (4 : Int32)) rfl ?_
    refine g_iushr X47.here hx (Jvm.hb hby at_56) (pc' := 57) rfl ?_
    refine g_iconst X47.here hx (Jvm.hb hby at_57) (pc' := 58) rfl (z := (3 : Int32)) rfl ?_
    refine g_iand X47.here hx (Jvm.hb hby at_58) (pc' := 59) rfl ?_
    refine g_iadd X47.here hx (Jvm.hb hby at_59) (pc' := 60) rfl ?_
    refine g_istore X47.here hx (Jvm.hb hby at_60) (pc' := 62) rfl (L' := #[.val (.int x0), .val (.int x1), .val (.int x2), .val (.int x3), .val (.int x4), .val (.int (3 : Int32)), .val (.ref ad43), .val (.int (v1 + (((x1.toUInt32 >>> ((4 : Int32) &&& 31).toUInt32).toInt32) &&& (3 : Int32)))), .unset, .unset, .unset, .unset, .unset, .unset, .unset, .unset, .unset]) rfl ?_
    generalize hv2 : (v1 + (((x1.toUInt32 >>> ((4 : Int32) &&& 31).toUInt32).toInt32) &&& (3 : Int32))) = v2
    have b2 := own_m3 (((x1.toUInt32 >>> ((4 : Int32) &&& 31).toUInt32).toInt32))
    have a2 := c_iadd v1 (((x1.toUInt32 >>> ((4 : Int32) &&& 31).toUInt32).toInt32) &&& (3 : Int32))
    have r2 := rng32 v2
    rw [hv2] at a2
    have c2 : v1.toInt ≤ v2.toInt ∧ v2.toInt ≤ v1.toInt + 3 := by omega
    refine g_iload X47.here hx (Jvm.hb hby at_62) (pc' := 64) rfl rfl ?_
    refine g_iconst X47.here hx (Jvm.hb hby at_64) (pc' := 65) rfl (z := (2 : Int32)) rfl ?_
    refine g_icN X47.here hx (Jvm.hb hby at_65) (pc' := 68) rfl (tlt (by decide)).2.2.2 ?_
    refine g_aload X47.here hx (Jvm.hb hby at_68) (pc' := 70) rfl rfl rfl ?_
    refine g_iconst X47.here hx (Jvm.hb hby at_70) (pc' := 71) rfl (z := (2 : Int32)) rfl ?_
    refine g_iload X47.here hx (Jvm.hb hby at_71) (pc' := 73) rfl rfl ?_
    refine g_iastore X47 hx hZ e47 V47 ⟨by decide, by decide⟩ (Jvm.hb hby at_73) (pc' := 74) rfl ?_
    intro T49 hh49 X49 e49 W49 V49
    have N49 := Fr.snoc X49 N47 g_ad43
    have Z50 : n0 ≤ hh49.size := (by rw [W49.size]; exact Z48)
    refine g_iload X49.here hx (Jvm.hb hby at_74) (pc' := 76) rfl rfl ?_
    refine g_iloadN X49.here hx (Jvm.hb hby at_76) (pc' := 77) rfl rfl ?_
    refine g_bipush X49.here hx (Jvm.hb hby at_77) (pc' := 79) rfl (z := (6 : Int32)) rfl ?_
    refine g_iushr X49.here hx (Jvm.hb hby at_79) (pc' := 80) rfl ?_
    refine g_iconst X49.here hx (Jvm.hb hby at_80) (pc' := 81) rfl (z := (3 : Int32)) rfl ?_
    refine g_iand X49.here hx (Jvm.hb hby at_81) (pc' := 82) rfl ?_
    refine g_iadd X49.here hx (Jvm.hb hby at_82) (pc' := 83) rfl ?_
    refine g_istore X49.here hx (Jvm.hb hby at_83) (pc' := 85) rfl (L' := #[.val (.int x0), .val (.int x1), .val (.int x2), .val (.int x3), .val (.int x4), .val (.int (3 : Int32)), .val (.ref ad43), .val (.int (v2 + (((x1.toUInt32 >>> ((6 : Int32) &&& 31).toUInt32).toInt32) &&& (3 : Int32)))), .unset, .unset, .unset, .unset, .unset, .unset, .unset, .unset, .unset]) rfl ?_
    generalize hv3 : (v2 + (((x1.toUInt32 >>> ((6 : Int32) &&& 31).toUInt32).toInt32) &&& (3 : Int32))) = v3
    have b3 := own_m3 (((x1.toUInt32 >>> ((6 : Int32) &&& 31).toUInt32).toInt32))
    have a3 := c_iadd v2 (((x1.toUInt32 >>> ((6 : Int32) &&& 31).toUInt32).toInt32) &&& (3 : Int32))
    have r3 := rng32 v3
    rw [hv3] at a3
    have c3 : v2.toInt ≤ v3.toInt ∧ v3.toInt ≤ v2.toInt + 3 := by omega
    refine g_iload X49.here hx (Jvm.hb hby at_85) (pc' := 87) rfl rfl ?_
    refine g_iconst X49.here hx (Jvm.hb hby at_87) (pc' := 88) rfl (z := (3 : Int32)) rfl ?_
    refine g_icY X49.here hx (Jvm.hb hby at_88) (by decide) (pc' := 97) (by decide) (flt (by decide)).2.2.2 ?_
    obtain ⟨g, hg, Vg⟩ : ∃ g : Nat → Int32, g = (fun i => if i = 0 then v0 else if i = 1 then v1 else if i = 2 then v2 else (0 : Int32)) ∧ own_IA Z hh49 ad43 .int 3 g := ⟨_, rfl, V49.congr (fun i hi => by
      rcases (by omega : i = 0 ∨ i = 1 ∨ i = 2) with rfl | rfl | rfl <;> rfl)⟩
    have g0 : g 0 = v0 := by rw [hg]; rfl
    have g1 : g 1 = v1 := by rw [hg]; rfl
    have g2 : g 2 = v2 := by rw [hg]; rfl
    have hs : ∀ i j, i < j → j < 3 → (g i).toInt ≤ (g j).toInt := fun i j h1 h2 => by
      rcases (by omega : (i = 0 ∧ j = 1) ∨ (i = 0 ∧ j = 2) ∨ (i = 1 ∧ j = 2)) with ⟨rfl, rfl⟩ | ⟨rfl, rfl⟩ | ⟨rfl, rfl⟩ <;> simp only [g0, g1, g2] <;> omega
    refine g_iload X49.here hx (Jvm.hb hby at_97) (pc' := 99) rfl rfl ?_
    refine g_ifN X49.here hx (Jvm.hb hby at_99) (pc' := 102) rfl ((if0 _ _).trans (tlt (by decide)).2.2.2) ?_
    refine g_aload X49.here hx (Jvm.hb hby at_102) (pc' := 104) rfl rfl rfl ?_
    refine g_iload X49.here hx (Jvm.hb hby at_104) (pc' := 106) rfl rfl ?_
    refine g_iconst X49.here hx (Jvm.hb hby at_106) (pc' := 107) rfl (z := (1 : Int32)) rfl ?_
    refine g_isub X49.here hx (Jvm.hb hby at_107) (pc' := 108) rfl ?_
    refine g_iaload X49 hx hZ e49 Vg ⟨by decide, by decide⟩ (v := v2) (by exact g2) (Jvm.hb hby at_108) (pc' := 109) rfl ?_
    refine g_iconst X49.here hx (Jvm.hb hby at_109) (pc' := 110) rfl (z := (1 : Int32)) rfl ?_
    refine g_iadd X49.here hx (Jvm.hb hby at_110) (pc' := 111) rfl ?_
    refine g_goto X49.here hx (Jvm.hb hby at_111) (by decide) (pc' := 115) (by decide) ?_
    refine g_istore X49.here hx (Jvm.hb hby at_115) (pc' := 117) rfl (L' := #[.val (.int x0), .val (.int x1), .val (.int x2), .val (.int x3), .val (.int x4), .val (.int (3 : Int32)), .val (.ref ad43), .val (.int v3), .val (.int (v2 + (1 : Int32))), .unset, .unset, .unset, .unset, .unset, .unset, .unset, .unset]) rfl ?_
    obtain ⟨top, htop⟩ : ∃ z, z = (v2 + (1 : Int32)) := ⟨_, rfl⟩
    rw [← htop]
    have ht1 := c_iadd v2 1
    have ht2 := rng32 top
    rw [← htop] at ht1
    simp only [Int32.reduceToInt] at ht1
    have ht3 : 0 ≤ top.toInt ∧ top.toInt ≤ 13 := by omega
    refine g_iload X49.here hx (Jvm.hb hby at_117) (pc' := 119) rfl rfl ?_
    refine g_iloadN X49.here hx (Jvm.hb hby at_119) (pc' := 120) rfl rfl ?_
    refine g_iconst X49.here hx (Jvm.hb hby at_120) (pc' := 121) rfl (z := (3 : Int32)) rfl ?_
    refine g_iand X49.here hx (Jvm.hb hby at_121) (pc' := 122) rfl ?_
    refine g_iadd X49.here hx (Jvm.hb hby at_122) (pc' := 123) rfl ?_
    refine g_istore X49.here hx (Jvm.hb hby at_123) (pc' := 125) rfl (L' := #[.val (.int x0), .val (.int x1), .val (.int x2), .val (.int x3), .val (.int x4), .val (.int (3 : Int32)), .val (.ref ad43), .val (.int v3), .val (.int top), .val (.int (top + (x2 &&& (3 : Int32)))), .unset, .unset, .unset, .unset, .unset, .unset, .unset]) rfl ?_
    generalize hab : (top + (x2 &&& (3 : Int32))) = ab
    have m0 := own_m3 x2
    have m1 := c_iadd top (x2 &&& 3)
    have m2 := rng32 ab
    rw [hab] at m1
    have hab2 : 0 ≤ ab.toInt ∧ ab.toInt ≤ 20 := by omega
    have m3 := c_iadd ab 1
    have m4 := rng32 (ab + 1)
    simp only [Int32.reduceToInt] at m3
    have hab3 : (ab + 1).toInt = ab.toInt + 1 := by omega
    have hnz : ab + (1 : Int32) ≠ 0 := fun q => by rw [← Int32.toInt_inj, hab3] at q; simp only [Int32.reduceToInt] at q; omega
    refine g_iloadN X49.here hx (Jvm.hb hby at_125) (pc' := 126) rfl rfl ?_
    refine g_ldc X49 hx hZ hown w_0 (Jvm.hb hby at_126) (pc' := 128) rfl ?_
    refine g_iand X49.here hx (Jvm.hb hby at_128) (pc' := 129) rfl ?_
    refine g_iload X49.here hx (Jvm.hb hby at_129) (pc' := 131) rfl rfl ?_
    refine g_iconst X49.here hx (Jvm.hb hby at_131) (pc' := 132) rfl (z := (1 : Int32)) rfl ?_
    refine g_iadd X49.here hx (Jvm.hb hby at_132) (pc' := 133) rfl ?_
    refine g_irem X49 hx (Jvm.hb hby at_133) (pc' := 134) rfl hnz ?_
    refine g_istore X49.here hx (Jvm.hb hby at_134) (pc' := 136) rfl (L' := #[.val (.int x0), .val (.int x1), .val (.int x2), .val (.int x3), .val (.int x4), .val (.int (3 : Int32)), .val (.ref ad43), .val (.int v3), .val (.int top), .val (.int ab), .val (.int ((x3 &&& (2147483647 : Int32)) % (ab + (1 : Int32)))), .unset, .unset, .unset, .unset, .unset, .unset]) rfl ?_
    generalize hp1 : ((x3 &&& (2147483647 : Int32)) % (ab + (1 : Int32))) = p1
    have P1 := own_rem x3 (ab + 1) (by omega)
    rw [hp1, hab3] at P1
    refine g_iload X49.here hx (Jvm.hb hby at_136) (pc' := 138) rfl rfl ?_
    refine g_ldc X49 hx hZ hown w_0 (Jvm.hb hby at_138) (pc' := 140) rfl ?_
    refine g_iand X49.here hx (Jvm.hb hby at_140) (pc' := 141) rfl ?_
    refine g_iload X49.here hx (Jvm.hb hby at_141) (pc' := 143) rfl rfl ?_
    refine g_iconst X49.here hx (Jvm.hb hby at_143) (pc' := 144) rfl (z := (1 : Int32)) rfl ?_
    refine g_iadd X49.here hx (Jvm.hb hby at_144) (pc' := 145) rfl ?_
    refine g_irem X49 hx (Jvm.hb hby at_145) (pc' := 146) rfl hnz ?_
    refine g_istore X49.here hx (Jvm.hb hby at_146) (pc' := 148) rfl (L' := #[.val (.int x0), .val (.int x1), .val (.int x2), .val (.int x3), .val (.int x4), .val (.int (3 : Int32)), .val (.ref ad43), .val (.int v3), .val (.int top), .val (.int ab), .val (.int p1), .val (.int ((x4 &&& (2147483647 : Int32)) % (ab + (1 : Int32)))), .unset, .unset, .unset, .unset, .unset]) rfl ?_
    generalize hp2 : ((x4 &&& (2147483647 : Int32)) % (ab + (1 : Int32))) = p2
    have P2 := own_rem x4 (ab + 1) (by omega)
    rw [hp2, hab3] at P2
    refine g_aload X49.here hx (Jvm.hb hby at_148) (pc' := 150) rfl rfl rfl ?_
    refine g_iload X49.here hx (Jvm.hb hby at_150) (pc' := 152) rfl rfl ?_
    refine g_iload X49.here hx (Jvm.hb hby at_152) (pc' := 154) rfl rfl ?_
    refine g_callP X49 hx hZ hown w_2 w_3 w_4 w_5 (by decide) (rm1 l Z a0 hw [] ad43 (3 : Int32) p1 3 g hh49 Vg (by decide)) 0 (by decide) (by decide) e49 (by rw [hml]; rfl) [(.ref ad43), (.int (3 : Int32)), (.int p1)] [] (lenOf pd_0 rfl) rfl rfl (Nat.le_of_eq rfl) (Jvm.hb hby at_154) (pc' := 157) rfl (by decide) (by decide) ?_
    intro T51 X51 e51
    show own_Gl p e below s (own_Q0 n0) room_1.cells room_1.slots (T51.setTop (mkF m 157 #[.val (.int x0), .val (.int x1), .val (.int x2), .val (.int x3), .val (.int x4), .val (.int (3 : Int32)), .val (.ref ad43), .val (.int v3), .val (.int top), .val (.int ab), .val (.int p1), .val (.int p2), .unset, .unset, .unset, .unset, .unset] [(.int (f_cb g (3 : Int32) p1))]))
    refine g_istore X51.here hx (Jvm.hb hby at_157) (pc' := 159) rfl (L' := #[.val (.int x0), .val (.int x1), .val (.int x2), .val (.int x3), .val (.int x4), .val (.int (3 : Int32)), .val (.ref ad43), .val (.int v3), .val (.int top), .val (.int ab), .val (.int p1), .val (.int p2), .val (.int (f_cb g (3 : Int32) p1)), .unset, .unset, .unset, .unset]) rfl ?_
    refine g_aload X51.here hx (Jvm.hb hby at_159) (pc' := 161) rfl rfl rfl ?_
    refine g_iload X51.here hx (Jvm.hb hby at_161) (pc' := 163) rfl rfl ?_
    refine g_iload X51.here hx (Jvm.hb hby at_163) (pc' := 165) rfl rfl ?_
    refine g_callP X51 hx hZ hown w_2 w_3 w_4 w_5 (by decide) (rm1 l Z a0 hw [] ad43 (3 : Int32) p2 3 g hh49 Vg (by decide)) 0 (by decide) (by decide) e51 (by rw [hml]; rfl) [(.ref ad43), (.int (3 : Int32)), (.int p2)] [] (lenOf pd_0 rfl) rfl rfl (Nat.le_of_eq rfl) (Jvm.hb hby at_165) (pc' := 168) rfl (by decide) (by decide) ?_
    intro T52 X52 e52
    show own_Gl p e below s (own_Q0 n0) room_1.cells room_1.slots (T52.setTop (mkF m 168 #[.val (.int x0), .val (.int x1), .val (.int x2), .val (.int x3), .val (.int x4), .val (.int (3 : Int32)), .val (.ref ad43), .val (.int v3), .val (.int top), .val (.int ab), .val (.int p1), .val (.int p2), .val (.int (f_cb g (3 : Int32) p1)), .unset, .unset, .unset, .unset] [(.int (f_cb g (3 : Int32) p2))]))
    refine g_istore X52.here hx (Jvm.hb hby at_168) (pc' := 170) rfl (L' := #[.val (.int x0), .val (.int x1), .val (.int x2), .val (.int x3), .val (.int x4), .val (.int (3 : Int32)), .val (.ref ad43), .val (.int v3), .val (.int top), .val (.int ab), .val (.int p1), .val (.int p2), .val (.int (f_cb g (3 : Int32) p1)), .val (.int (f_cb g (3 : Int32) p2)), .unset, .unset, .unset]) rfl ?_
    refine g_new X52 hx hZ hown w_6 w_7 w_8 e52 (Jvm.hb hby at_170) (pc' := 173) rfl (cells' := 2) (slots' := 8) rfl rfl (by decide) (by decide) ?_
    intro T53 hh53 ad53 gb53 X53 e53 E53 A53 D53
    have g_ad53 : n0 ≤ ad53 := by rw [gb53]; exact Z50
    have lt_ad43_ad53 : @LT.lt Nat _ ad43 ad53 := by rw [gb53]; exact Vg.lt
    have ne_ad43_ad53 : ad43 ≠ ad53 := Nat.ne_of_lt lt_ad43_ad53
    have Z54 : n0 ≤ hh53.size := Nat.le_trans Z50 E53.1
    have F53_ancestors : Fld Z hh53 ad53 "com/example/ogma/ogma/store/internal/Ancestry" "ancestors" "[I" .null := D53 (Or.inr w_16) (ty := (.array .int)) (by decide)
    have F53_above : Fld Z hh53 ad53 "com/example/ogma/ogma/store/internal/Ancestry" "above" "I" (.int (0 : Int32)) := D53 (Or.inr w_18) (ty := .int) (by decide)
    have F53_firsts : Fld Z hh53 ad53 "com/example/ogma/ogma/store/internal/Ancestry" "firsts" "[I" .null := D53 (Or.inl w_25) (ty := (.array .int)) (by decide)
    refine g_dup X53.here hx (Jvm.hb hby at_173) (pc' := 174) rfl rfl ?_
    refine g_aload X53.here hx (Jvm.hb hby at_174) (pc' := 176) rfl rfl rfl ?_
    refine g_iload X53.here hx (Jvm.hb hby at_176) (pc' := 178) rfl rfl ?_
    refine g_callI X53 hx hZ rfl hown w_9 w_10 w_8 w_11 (by decide) (rm2 l Z a0 hw [] ad53 ad43 ab hh53 n0 Z54 g_ad53 A53 F53_ancestors F53_above F53_firsts) 1 (by decide) (by decide) e53 (by rw [hml]; rfl) [(.ref ad43), (.int ab)] [(.ref ad53)] (lenOf pd_1 rfl) rfl rfl (Nat.le_of_eq rfl) (Jvm.hb hby at_178) (pc' := 181) rfl (cells' := 2) (slots' := 8) rfl rfl (by decide) (by decide) ?_
    intro v55 T55 L55 X55 hQ55
    obtain ⟨rfl, Nq55, K55, E55, Fa55, Fb55, Fc55⟩ := hQ55
    have N55 := Fr.app N49 Nq55
    have Z56 : n0 ≤ T55.heap.size := Nat.le_trans Z54 K55.1
    show own_Gl p e below s (own_Q0 n0) room_1.cells room_1.slots (T55.setTop (mkF m 181 #[.val (.int x0), .val (.int x1), .val (.int x2), .val (.int x3), .val (.int x4), .val (.int (3 : Int32)), .val (.ref ad43), .val (.int v3), .val (.int top), .val (.int ab), .val (.int p1), .val (.int p2), .val (.int (f_cb g (3 : Int32) p1)), .val (.int (f_cb g (3 : Int32) p2)), .unset, .unset, .unset] [(.ref ad53)]))
    refine g_astore X55.here hx (Jvm.hb hby at_181) (pc' := 183) rfl rfl (L' := #[.val (.int x0), .val (.int x1), .val (.int x2), .val (.int x3), .val (.int x4), .val (.int (3 : Int32)), .val (.ref ad43), .val (.int v3), .val (.int top), .val (.int ab), .val (.int p1), .val (.int p2), .val (.int (f_cb g (3 : Int32) p1)), .val (.int (f_cb g (3 : Int32) p2)), .val (.ref ad53), .unset, .unset]) rfl ?_
    refine g_aload X55.here hx (Jvm.hb hby at_183) (pc' := 185) rfl rfl rfl ?_
    refine g_iload X55.here hx (Jvm.hb hby at_185) (pc' := 187) rfl rfl ?_
    have F57 := ((Vg.ext E53).keep K55 (ninS ne_ad43_ad53 nin0))
    refine g_callV X55 hx hZ hown w_19 w_20 (own_nf hZ w_22) w_22 w_21 w_8 w_23 (by decide) (rm4a l Z a0 hw [] ad53 p1 ad43 ab 3 g T55.heap n0 Z56 g_ad53 E55 Fa55 Fb55 Fc55 F57 ne_ad43_ad53 hab2 (by omega) (by decide)) 0 (by decide) (by decide) rfl E55 (by rw [hml]; rfl) [(.int p1)] [] (lenOf pd_2 rfl) rfl rfl (Nat.le_of_eq rfl) (Jvm.hb hby at_187) (pc' := 190) rfl (cells' := 3) (slots' := 29) rfl rfl (by decide) (by decide) ?_
    intro v58 T58 L58 X58 hQ58
    obtain ⟨b58, f, rfl, Nq58, K58, E58, Ff58, Vf58, hP⟩ := hQ58
    have N58 := Fr.app N55 Nq58
    have Z59 : n0 ≤ T58.heap.size := Nat.le_trans Z56 K58.1
    show own_Gl p e below s (own_Q0 n0) room_1.cells room_1.slots (T58.setTop (mkF m 190 #[.val (.int x0), .val (.int x1), .val (.int x2), .val (.int x3), .val (.int x4), .val (.int (3 : Int32)), .val (.ref ad43), .val (.int v3), .val (.int top), .val (.int ab), .val (.int p1), .val (.int p2), .val (.int (f_cb g (3 : Int32) p1)), .val (.int (f_cb g (3 : Int32) p2)), .val (.ref ad53), .unset, .unset] [(.int (f p1.toInt.toNat))]))
    refine g_istore X58.here hx (Jvm.hb hby at_190) (pc' := 192) rfl (L' := #[.val (.int x0), .val (.int x1), .val (.int x2), .val (.int x3), .val (.int x4), .val (.int (3 : Int32)), .val (.ref ad43), .val (.int v3), .val (.int top), .val (.int ab), .val (.int p1), .val (.int p2), .val (.int (f_cb g (3 : Int32) p1)), .val (.int (f_cb g (3 : Int32) p2)), .val (.ref ad53), .val (.int (f p1.toInt.toNat)), .unset]) rfl ?_
    refine g_aload X58.here hx (Jvm.hb hby at_192) (pc' := 194) rfl rfl rfl ?_
    refine g_iload X58.here hx (Jvm.hb hby at_194) (pc' := 196) rfl rfl ?_
    refine g_callV X58 hx hZ hown w_19 w_20 (own_nf hZ w_22) w_22 w_21 w_8 w_23 (by decide) (rm4b l Z a0 hw [] ad53 p2 b58 _ f T58.heap Ff58 Vf58 (by omega)) 0 (by decide) (by decide) rfl E58 (by rw [hml]; rfl) [(.int p2)] [] (lenOf pd_2 rfl) rfl rfl (Nat.le_of_eq rfl) (Jvm.hb hby at_196) (pc' := 199) rfl (cells' := 3) (slots' := 29) rfl rfl (by decide) (by decide) ?_
    intro v60 T60 L60 X60 hQ60
    obtain ⟨rfl, rfl, e60⟩ := hQ60
    rw [List.append_nil] at X60
    show own_Gl p e below s (own_Q0 n0) room_1.cells room_1.slots (T60.setTop (mkF m 199 #[.val (.int x0), .val (.int x1), .val (.int x2), .val (.int x3), .val (.int x4), .val (.int (3 : Int32)), .val (.ref ad43), .val (.int v3), .val (.int top), .val (.int ab), .val (.int p1), .val (.int p2), .val (.int (f_cb g (3 : Int32) p1)), .val (.int (f_cb g (3 : Int32) p2)), .val (.ref ad53), .val (.int (f p1.toInt.toNat)), .unset] [(.int (f p2.toInt.toNat))]))
    refine g_istore X60.here hx (Jvm.hb hby at_199) (pc' := 201) rfl (L' := #[.val (.int x0), .val (.int x1), .val (.int x2), .val (.int x3), .val (.int x4), .val (.int (3 : Int32)), .val (.ref ad43), .val (.int v3), .val (.int top), .val (.int ab), .val (.int p1), .val (.int p2), .val (.int (f_cb g (3 : Int32) p1)), .val (.int (f_cb g (3 : Int32) p2)), .val (.ref ad53), .val (.int (f p1.toInt.toNat)), .val (.int (f p2.toInt.toNat))]) rfl ?_
    refine g_iload X60.here hx (Jvm.hb hby at_201) (pc' := 203) rfl rfl ?_
    refine g_iload X60.here hx (Jvm.hb hby at_203) (pc' := 205) rfl rfl ?_
    refine g_icN X60.here hx (Jvm.hb hby at_205) (pc' := 208) rfl (teq (own_cb g 3 (3 : Int32) p1 _ (by decide) (by decide) hs (by omega) (hP _ (by omega)))).2 ?_
    refine g_iload X60.here hx (Jvm.hb hby at_208) (pc' := 210) rfl rfl ?_
    refine g_iload X60.here hx (Jvm.hb hby at_210) (pc' := 212) rfl rfl ?_
    refine g_icN X60.here hx (Jvm.hb hby at_212) (pc' := 215) rfl (teq (own_cb g 3 (3 : Int32) p2 _ (by decide) (by decide) hs (by omega) (hP _ (by omega)))).2 ?_
    refine g_iconst X60.here hx (Jvm.hb hby at_215) (pc' := 216) rfl (z := (1 : Int32)) rfl ?_
    refine g_goto X60.here hx (Jvm.hb hby at_216) (by decide) (pc' := 220) (by decide) ?_
    exact g_retN X60 hx hlk (t := .boolean) hret (by simp) (z' := (1 : Int32)) rfl (Jvm.hb hby at_220) (by decide) (by decide) ⟨rfl, N58⟩
  · refine g_iload X0.here hx (Jvm.hb hby at_8) (pc' := 10) rfl rfl ?_
    refine g_newarr X0 hx hZ (ty := .int) rfl rfl w_1 e0 (Jvm.hb hby at_10) (pc' := 12) rfl (n := 4) (by decide) 4 (by decide) (by decide) (cells' := 1) (slots' := 4) rfl rfl (by decide) (by decide) ?_
    intro T61 hh61 ad61 gb61 X61 e61 E61 V61
    have g_ad61 : n0 ≤ ad61 := by rw [gb61]; exact Z0
    have Z62 : n0 ≤ hh61.size := Nat.le_trans Z0 E61.1
    refine g_astore X61.here hx (Jvm.hb hby at_12) (pc' := 14) rfl rfl (L' := #[.val (.int x0), .val (.int x1), .val (.int x2), .val (.int x3), .val (.int x4), .val (.int (4 : Int32)), .val (.ref ad61), .unset, .unset, .unset, .unset, .unset, .unset, .unset, .unset, .unset, .unset]) rfl ?_
    refine g_iloadN X61.here hx (Jvm.hb hby at_14) (pc' := 15) rfl rfl ?_
    refine g_iconst X61.here hx (Jvm.hb hby at_15) (pc' := 16) rfl (z := (3 : Int32)) rfl ?_
    refine g_iand X61.here hx (Jvm.hb hby at_16) (pc' := 17) rfl ?_
    refine g_istore X61.here hx (Jvm.hb hby at_17) (pc' := 19) rfl (L' := #[.val (.int x0), .val (.int x1), .val (.int x2), .val (.int x3), .val (.int x4), .val (.int (4 : Int32)), .val (.ref ad61), .val (.int (x1 &&& (3 : Int32))), .unset, .unset, .unset, .unset, .unset, .unset, .unset, .unset, .unset]) rfl ?_
    generalize hv0 : (x1 &&& (3 : Int32)) = v0
    have b0 := own_m3 x1
    rw [hv0] at b0
    refine g_iload X61.here hx (Jvm.hb hby at_19) (pc' := 21) rfl rfl ?_
    refine g_ifN X61.here hx (Jvm.hb hby at_21) (pc' := 24) rfl ((if0 _ _).trans (tlt (by decide)).2.2.2) ?_
    refine g_aload X61.here hx (Jvm.hb hby at_24) (pc' := 26) rfl rfl rfl ?_
    refine g_iconst X61.here hx (Jvm.hb hby at_26) (pc' := 27) rfl (z := (0 : Int32)) rfl ?_
    refine g_iload X61.here hx (Jvm.hb hby at_27) (pc' := 29) rfl rfl ?_
    refine g_iastore X61 hx hZ e61 V61 ⟨by decide, by decide⟩ (Jvm.hb hby at_29) (pc' := 30) rfl ?_
    intro T63 hh63 X63 e63 W63 V63
    have N63 := Fr.snoc X63 N0 g_ad61
    have Z64 : n0 ≤ hh63.size := (by rw [W63.size]; exact Z62)
    refine g_iload X63.here hx (Jvm.hb hby at_30) (pc' := 32) rfl rfl ?_
    refine g_iloadN X63.here hx (Jvm.hb hby at_32) (pc' := 33) rfl rfl ?_
    refine g_iconst X63.here hx (Jvm.hb hby at_33) (pc' := 34) rfl (z := (2 : Int32)) rfl ?_
    refine g_iushr X63.here hx (Jvm.hb hby at_34) (pc' := 35) rfl ?_
    refine g_iconst X63.here hx (Jvm.hb hby at_35) (pc' := 36) rfl (z := (3 : Int32)) rfl ?_
    refine g_iand X63.here hx (Jvm.hb hby at_36) (pc' := 37) rfl ?_
    refine g_iadd X63.here hx (Jvm.hb hby at_37) (pc' := 38) rfl ?_
    refine g_istore X63.here hx (Jvm.hb hby at_38) (pc' := 40) rfl (L' := #[.val (.int x0), .val (.int x1), .val (.int x2), .val (.int x3), .val (.int x4), .val (.int (4 : Int32)), .val (.ref ad61), .val (.int (v0 + (((x1.toUInt32 >>> ((2 : Int32) &&& 31).toUInt32).toInt32) &&& (3 : Int32)))), .unset, .unset, .unset, .unset, .unset, .unset, .unset, .unset, .unset]) rfl ?_
    generalize hv1 : (v0 + (((x1.toUInt32 >>> ((2 : Int32) &&& 31).toUInt32).toInt32) &&& (3 : Int32))) = v1
    have b1 := own_m3 (((x1.toUInt32 >>> ((2 : Int32) &&& 31).toUInt32).toInt32))
    have a1 := c_iadd v0 (((x1.toUInt32 >>> ((2 : Int32) &&& 31).toUInt32).toInt32) &&& (3 : Int32))
    have r1 := rng32 v1
    rw [hv1] at a1
    have c1 : v0.toInt ≤ v1.toInt ∧ v1.toInt ≤ v0.toInt + 3 := by omega
    refine g_iload X63.here hx (Jvm.hb hby at_40) (pc' := 42) rfl rfl ?_
    refine g_iconst X63.here hx (Jvm.hb hby at_42) (pc' := 43) rfl (z := (1 : Int32)) rfl ?_
    refine g_icN X63.here hx (Jvm.hb hby at_43) (pc' := 46) rfl (tlt (by decide)).2.2.2 ?_
    refine g_aload X63.here hx (Jvm.hb hby at_46) (pc' := 48) rfl rfl rfl ?_
    refine g_iconst X63.here hx (Jvm.hb hby at_48) (pc' := 49) rfl (z := (1 : Int32)) rfl ?_
    refine g_iload X63.here hx (Jvm.hb hby at_49) (pc' := 51) rfl rfl ?_
    refine g_iastore X63 hx hZ e63 V63 ⟨by decide, by decide⟩ (Jvm.hb hby at_51) (pc' := 52) rfl ?_
    intro T65 hh65 X65 e65 W65 V65
    have N65 := Fr.snoc X65 N63 g_ad61
    have Z66 : n0 ≤ hh65.size := (by rw [W65.size]; exact Z64)
    refine g_iload X65.here hx (Jvm.hb hby at_52) (pc' := 54) rfl rfl ?_
    refine g_iloadN X65.here hx (Jvm.hb hby at_54) (pc' := 55) rfl rfl ?_
    refine g_iconst X65.here hx (Jvm.hb hby at_55) (pc' := 56) rfl (z := (4 : Int32)) rfl ?_
    refine g_iushr X65.here hx (Jvm.hb hby at_56) (pc' := 57) rfl ?_
    refine g_iconst X65.here hx (Jvm.hb hby at_57) (pc' := 58) rfl (z := (3 : Int32)) rfl ?_
    refine g_iand X65.here hx (Jvm.hb hby at_58) (pc' := 59) rfl ?_
    refine g_iadd X65.here hx (Jvm.hb hby at_59) (pc' := 60) rfl ?_
    refine g_istore X65.here hx (Jvm.hb hby at_60) (pc' := 62) rfl (L' := #[.val (.int x0), .val (.int x1), .val (.int x2), .val (.int x3), .val (.int x4), .val (.int (4 : Int32)), .val (.ref ad61), .val (.int (v1 + (((x1.toUInt32 >>> ((4 : Int32) &&& 31).toUInt32).toInt32) &&& (3 : Int32)))), .unset, .unset, .unset, .unset, .unset, .unset, .unset, .unset, .unset]) rfl ?_
    generalize hv2 : (v1 + (((x1.toUInt32 >>> ((4 : Int32) &&& 31).toUInt32).toInt32) &&& (3 : Int32))) = v2
    have b2 := own_m3 (((x1.toUInt32 >>> ((4 : Int32) &&& 31).toUInt32).toInt32))
    have a2 := c_iadd v1 (((x1.toUInt32 >>> ((4 : Int32) &&& 31).toUInt32).toInt32) &&& (3 : Int32))
    have r2 := rng32 v2
    rw [hv2] at a2
    have c2 : v1.toInt ≤ v2.toInt ∧ v2.toInt ≤ v1.toInt + 3 := by omega
    refine g_iload X65.here hx (Jvm.hb hby at_62) (pc' := 64) rfl rfl ?_
    refine g_iconst X65.here hx (Jvm.hb hby at_64) (pc' := 65) rfl (z := (2 : Int32)) rfl ?_
    refine g_icN X65.here hx (Jvm.hb hby at_65) (pc' := 68) rfl (tlt (by decide)).2.2.2 ?_
    refine g_aload X65.here hx (Jvm.hb hby at_68) (pc' := 70) rfl rfl rfl ?_
    refine g_iconst X65.here hx (Jvm.hb hby at_70) (pc' := 71) rfl (z := (2 : Int32)) rfl ?_
    refine g_iload X65.here hx (Jvm.hb hby at_71) (pc' := 73) rfl rfl ?_
    refine g_iastore X65 hx hZ e65 V65 ⟨by decide, by decide⟩ (Jvm.hb hby at_73) (pc' := 74) rfl ?_
    intro T67 hh67 X67 e67 W67 V67
    have N67 := Fr.snoc X67 N65 g_ad61
    have Z68 : n0 ≤ hh67.size := (by rw [W67.size]; exact Z66)
    refine g_iload X67.here hx (Jvm.hb hby at_74) (pc' := 76) rfl rfl ?_
    refine g_iloadN X67.here hx (Jvm.hb hby at_76) (pc' := 77) rfl rfl ?_
    refine g_bipush X67.here hx (Jvm.hb hby at_77) (pc' := 79) rfl (z := (6 : Int32)) rfl ?_
    refine g_iushr X67.here hx (Jvm.hb hby at_79) (pc' := 80) rfl ?_
    refine g_iconst X67.here hx (Jvm.hb hby at_80) (pc' := 81) rfl (z := (3 : Int32)) rfl ?_
    refine g_iand X67.here hx (Jvm.hb hby at_81) (pc' := 82) rfl ?_
    refine g_iadd X67.here hx (Jvm.hb hby at_82) (pc' := 83) rfl ?_
    refine g_istore X67.here hx (Jvm.hb hby at_83) (pc' := 85) rfl (L' := #[.val (.int x0), .val (.int x1), .val (.int x2), .val (.int x3), .val (.int x4), .val (.int (4 : Int32)), .val (.ref ad61), .val (.int (v2 + (((x1.toUInt32 >>> ((6 : Int32) &&& 31).toUInt32).toInt32) &&& (3 : Int32)))), .unset, .unset, .unset, .unset, .unset, .unset, .unset, .unset, .unset]) rfl ?_
    generalize hv3 : (v2 + (((x1.toUInt32 >>> ((6 : Int32) &&& 31).toUInt32).toInt32) &&& (3 : Int32))) = v3
    have b3 := own_m3 (((x1.toUInt32 >>> ((6 : Int32) &&& 31).toUInt32).toInt32))
    have a3 := c_iadd v2 (((x1.toUInt32 >>> ((6 : Int32) &&& 31).toUInt32).toInt32) &&& (3 : Int32))
    have r3 := rng32 v3
    rw [hv3] at a3
    have c3 : v2.toInt ≤ v3.toInt ∧ v3.toInt ≤ v2.toInt + 3 := by omega
    refine g_iload X67.here hx (Jvm.hb hby at_85) (pc' := 87) rfl rfl ?_
    refine g_iconst X67.here hx (Jvm.hb hby at_87) (pc' := 88) rfl (z := (3 : Int32)) rfl ?_
    refine g_icN X67.here hx (Jvm.hb hby at_88) (pc' := 91) rfl (tlt (by decide)).2.2.2 ?_
    refine g_aload X67.here hx (Jvm.hb hby at_91) (pc' := 93) rfl rfl rfl ?_
    refine g_iconst X67.here hx (Jvm.hb hby at_93) (pc' := 94) rfl (z := (3 : Int32)) rfl ?_
    refine g_iload X67.here hx (Jvm.hb hby at_94) (pc' := 96) rfl rfl ?_
    refine g_iastore X67 hx hZ e67 V67 ⟨by decide, by decide⟩ (Jvm.hb hby at_96) (pc' := 97) rfl ?_
    intro T69 hh69 X69 e69 W69 V69
    have N69 := Fr.snoc X69 N67 g_ad61
    have Z70 : n0 ≤ hh69.size := (by rw [W69.size]; exact Z68)
    obtain ⟨g, hg, Vg⟩ : ∃ g : Nat → Int32, g = (fun i => if i = 0 then v0 else if i = 1 then v1 else if i = 2 then v2 else if i = 3 then v3 else (0 : Int32)) ∧ own_IA Z hh69 ad61 .int 4 g := ⟨_, rfl, V69.congr (fun i hi => by
      rcases (by omega : i = 0 ∨ i = 1 ∨ i = 2 ∨ i = 3) with rfl | rfl | rfl | rfl <;> rfl)⟩
    have g0 : g 0 = v0 := by rw [hg]; rfl
    have g1 : g 1 = v1 := by rw [hg]; rfl
    have g2 : g 2 = v2 := by rw [hg]; rfl
    have g3 : g 3 = v3 := by rw [hg]; rfl
    have hs : ∀ i j, i < j → j < 4 → (g i).toInt ≤ (g j).toInt := fun i j h1 h2 => by
      rcases (by omega : (i = 0 ∧ j = 1) ∨ (i = 0 ∧ j = 2) ∨ (i = 1 ∧ j = 2) ∨ (i = 0 ∧ j = 3) ∨ (i = 1 ∧ j = 3) ∨ (i = 2 ∧ j = 3)) with ⟨rfl, rfl⟩ | ⟨rfl, rfl⟩ | ⟨rfl, rfl⟩ | ⟨rfl, rfl⟩ | ⟨rfl, rfl⟩ | ⟨rfl, rfl⟩ <;> simp only [g0, g1, g2, g3] <;> omega
    refine g_iload X69.here hx (Jvm.hb hby at_97) (pc' := 99) rfl rfl ?_
    refine g_ifN X69.here hx (Jvm.hb hby at_99) (pc' := 102) rfl ((if0 _ _).trans (tlt (by decide)).2.2.2) ?_
    refine g_aload X69.here hx (Jvm.hb hby at_102) (pc' := 104) rfl rfl rfl ?_
    refine g_iload X69.here hx (Jvm.hb hby at_104) (pc' := 106) rfl rfl ?_
    refine g_iconst X69.here hx (Jvm.hb hby at_106) (pc' := 107) rfl (z := (1 : Int32)) rfl ?_
    refine g_isub X69.here hx (Jvm.hb hby at_107) (pc' := 108) rfl ?_
    refine g_iaload X69 hx hZ e69 Vg ⟨by decide, by decide⟩ (v := v3) (by exact g3) (Jvm.hb hby at_108) (pc' := 109) rfl ?_
    refine g_iconst X69.here hx (Jvm.hb hby at_109) (pc' := 110) rfl (z := (1 : Int32)) rfl ?_
    refine g_iadd X69.here hx (Jvm.hb hby at_110) (pc' := 111) rfl ?_
    refine g_goto X69.here hx (Jvm.hb hby at_111) (by decide) (pc' := 115) (by decide) ?_
    refine g_istore X69.here hx (Jvm.hb hby at_115) (pc' := 117) rfl (L' := #[.val (.int x0), .val (.int x1), .val (.int x2), .val (.int x3), .val (.int x4), .val (.int (4 : Int32)), .val (.ref ad61), .val (.int v3), .val (.int (v3 + (1 : Int32))), .unset, .unset, .unset, .unset, .unset, .unset, .unset, .unset]) rfl ?_
    obtain ⟨top, htop⟩ : ∃ z, z = (v3 + (1 : Int32)) := ⟨_, rfl⟩
    rw [← htop]
    have ht1 := c_iadd v3 1
    have ht2 := rng32 top
    rw [← htop] at ht1
    simp only [Int32.reduceToInt] at ht1
    have ht3 : 0 ≤ top.toInt ∧ top.toInt ≤ 13 := by omega
    refine g_iload X69.here hx (Jvm.hb hby at_117) (pc' := 119) rfl rfl ?_
    refine g_iloadN X69.here hx (Jvm.hb hby at_119) (pc' := 120) rfl rfl ?_
    refine g_iconst X69.here hx (Jvm.hb hby at_120) (pc' := 121) rfl (z := (3 : Int32)) rfl ?_
    refine g_iand X69.here hx (Jvm.hb hby at_121) (pc' := 122) rfl ?_
    refine g_iadd X69.here hx (Jvm.hb hby at_122) (pc' := 123) rfl ?_
    refine g_istore X69.here hx (Jvm.hb hby at_123) (pc' := 125) rfl (L' := #[.val (.int x0), .val (.int x1), .val (.int x2), .val (.int x3), .val (.int x4), .val (.int (4 : Int32)), .val (.ref ad61), .val (.int v3), .val (.int top), .val (.int (top + (x2 &&& (3 : Int32)))), .unset, .unset, .unset, .unset, .unset, .unset, .unset]) rfl ?_
    generalize hab : (top + (x2 &&& (3 : Int32))) = ab
    have m0 := own_m3 x2
    have m1 := c_iadd top (x2 &&& 3)
    have m2 := rng32 ab
    rw [hab] at m1
    have hab2 : 0 ≤ ab.toInt ∧ ab.toInt ≤ 20 := by omega
    have m3 := c_iadd ab 1
    have m4 := rng32 (ab + 1)
    simp only [Int32.reduceToInt] at m3
    have hab3 : (ab + 1).toInt = ab.toInt + 1 := by omega
    have hnz : ab + (1 : Int32) ≠ 0 := fun q => by rw [← Int32.toInt_inj, hab3] at q; simp only [Int32.reduceToInt] at q; omega
    refine g_iloadN X69.here hx (Jvm.hb hby at_125) (pc' := 126) rfl rfl ?_
    refine g_ldc X69 hx hZ hown w_0 (Jvm.hb hby at_126) (pc' := 128) rfl ?_
    refine g_iand X69.here hx (Jvm.hb hby at_128) (pc' := 129) rfl ?_
    refine g_iload X69.here hx (Jvm.hb hby at_129) (pc' := 131) rfl rfl ?_
    refine g_iconst X69.here hx (Jvm.hb hby at_131) (pc' := 132) rfl (z := (1 : Int32)) rfl ?_
    refine g_iadd X69.here hx (Jvm.hb hby at_132) (pc' := 133) rfl ?_
    refine g_irem X69 hx (Jvm.hb hby at_133) (pc' := 134) rfl hnz ?_
    refine g_istore X69.here hx (Jvm.hb hby at_134) (pc' := 136) rfl (L' := #[.val (.int x0), .val (.int x1), .val (.int x2), .val (.int x3), .val (.int x4), .val (.int (4 : Int32)), .val (.ref ad61), .val (.int v3), .val (.int top), .val (.int ab), .val (.int ((x3 &&& (2147483647 : Int32)) % (ab + (1 : Int32)))), .unset, .unset, .unset, .unset, .unset, .unset]) rfl ?_
    generalize hp1 : ((x3 &&& (2147483647 : Int32)) % (ab + (1 : Int32))) = p1
    have P1 := own_rem x3 (ab + 1) (by omega)
    rw [hp1, hab3] at P1
    refine g_iload X69.here hx (Jvm.hb hby at_136) (pc' := 138) rfl rfl ?_
    refine g_ldc X69 hx hZ hown w_0 (Jvm.hb hby at_138) (pc' := 140) rfl ?_
    refine g_iand X69.here hx (Jvm.hb hby at_140) (pc' := 141) rfl ?_
    refine g_iload X69.here hx (Jvm.hb hby at_141) (pc' := 143) rfl rfl ?_
    refine g_iconst X69.here hx (Jvm.hb hby at_143) (pc' := 144) rfl (z := (1 : Int32)) rfl ?_
    refine g_iadd X69.here hx (Jvm.hb hby at_144) (pc' := 145) rfl ?_
    refine g_irem X69 hx (Jvm.hb hby at_145) (pc' := 146) rfl hnz ?_
    refine g_istore X69.here hx (Jvm.hb hby at_146) (pc' := 148) rfl (L' := #[.val (.int x0), .val (.int x1), .val (.int x2), .val (.int x3), .val (.int x4), .val (.int (4 : Int32)), .val (.ref ad61), .val (.int v3), .val (.int top), .val (.int ab), .val (.int p1), .val (.int ((x4 &&& (2147483647 : Int32)) % (ab + (1 : Int32)))), .unset, .unset, .unset, .unset, .unset]) rfl ?_
    generalize hp2 : ((x4 &&& (2147483647 : Int32)) % (ab + (1 : Int32))) = p2
    have P2 := own_rem x4 (ab + 1) (by omega)
    rw [hp2, hab3] at P2
    refine g_aload X69.here hx (Jvm.hb hby at_148) (pc' := 150) rfl rfl rfl ?_
    refine g_iload X69.here hx (Jvm.hb hby at_150) (pc' := 152) rfl rfl ?_
    refine g_iload X69.here hx (Jvm.hb hby at_152) (pc' := 154) rfl rfl ?_
    refine g_callP X69 hx hZ hown w_2 w_3 w_4 w_5 (by decide) (rm1 l Z a0 hw [] ad61 (4 : Int32) p1 4 g hh69 Vg (by decide)) 0 (by decide) (by decide) e69 (by rw [hml]; rfl) [(.ref ad61), (.int (4 : Int32)), (.int p1)] [] (lenOf pd_0 rfl) rfl rfl (Nat.le_of_eq rfl) (Jvm.hb hby at_154) (pc' := 157) rfl (by decide) (by decide) ?_
    intro T71 X71 e71
    show own_Gl p e below s (own_Q0 n0) room_1.cells room_1.slots (T71.setTop (mkF m 157 #[.val (.int x0), .val (.int x1), .val (.int x2), .val (.int x3), .val (.int x4), .val (.int (4 : Int32)), .val (.ref ad61), .val (.int v3), .val (.int top), .val (.int ab), .val (.int p1), .val (.int p2), .unset, .unset, .unset, .unset, .unset] [(.int (f_cb g (4 : Int32) p1))]))
    refine g_istore X71.here hx (Jvm.hb hby at_157) (pc' := 159) rfl (L' := #[.val (.int x0), .val (.int x1), .val (.int x2), .val (.int x3), .val (.int x4), .val (.int (4 : Int32)), .val (.ref ad61), .val (.int v3), .val (.int top), .val (.int ab), .val (.int p1), .val (.int p2), .val (.int (f_cb g (4 : Int32) p1)), .unset, .unset, .unset, .unset]) rfl ?_
    refine g_aload X71.here hx (Jvm.hb hby at_159) (pc' := 161) rfl rfl rfl ?_
    refine g_iload X71.here hx (Jvm.hb hby at_161) (pc' := 163) rfl rfl ?_
    refine g_iload X71.here hx (Jvm.hb hby at_163) (pc' := 165) rfl rfl ?_
    refine g_callP X71 hx hZ hown w_2 w_3 w_4 w_5 (by decide) (rm1 l Z a0 hw [] ad61 (4 : Int32) p2 4 g hh69 Vg (by decide)) 0 (by decide) (by decide) e71 (by rw [hml]; rfl) [(.ref ad61), (.int (4 : Int32)), (.int p2)] [] (lenOf pd_0 rfl) rfl rfl (Nat.le_of_eq rfl) (Jvm.hb hby at_165) (pc' := 168) rfl (by decide) (by decide) ?_
    intro T72 X72 e72
    show own_Gl p e below s (own_Q0 n0) room_1.cells room_1.slots (T72.setTop (mkF m 168 #[.val (.int x0), .val (.int x1), .val (.int x2), .val (.int x3), .val (.int x4), .val (.int (4 : Int32)), .val (.ref ad61), .val (.int v3), .val (.int top), .val (.int ab), .val (.int p1), .val (.int p2), .val (.int (f_cb g (4 : Int32) p1)), .unset, .unset, .unset, .unset] [(.int (f_cb g (4 : Int32) p2))]))
    refine g_istore X72.here hx (Jvm.hb hby at_168) (pc' := 170) rfl (L' := #[.val (.int x0), .val (.int x1), .val (.int x2), .val (.int x3), .val (.int x4), .val (.int (4 : Int32)), .val (.ref ad61), .val (.int v3), .val (.int top), .val (.int ab), .val (.int p1), .val (.int p2), .val (.int (f_cb g (4 : Int32) p1)), .val (.int (f_cb g (4 : Int32) p2)), .unset, .unset, .unset]) rfl ?_
    refine g_new X72 hx hZ hown w_6 w_7 w_8 e72 (Jvm.hb hby at_170) (pc' := 173) rfl (cells' := 2) (slots' := 8) rfl rfl (by decide) (by decide) ?_
    intro T73 hh73 ad73 gb73 X73 e73 E73 A73 D73
    have g_ad73 : n0 ≤ ad73 := by rw [gb73]; exact Z70
    have lt_ad61_ad73 : @LT.lt Nat _ ad61 ad73 := by rw [gb73]; exact Vg.lt
    have ne_ad61_ad73 : ad61 ≠ ad73 := Nat.ne_of_lt lt_ad61_ad73
    have Z74 : n0 ≤ hh73.size := Nat.le_trans Z70 E73.1
    have F73_ancestors : Fld Z hh73 ad73 "com/example/ogma/ogma/store/internal/Ancestry" "ancestors" "[I" .null := D73 (Or.inr w_16) (ty := (.array .int)) (by decide)
    have F73_above : Fld Z hh73 ad73 "com/example/ogma/ogma/store/internal/Ancestry" "above" "I" (.int (0 : Int32)) := D73 (Or.inr w_18) (ty := .int) (by decide)
    have F73_firsts : Fld Z hh73 ad73 "com/example/ogma/ogma/store/internal/Ancestry" "firsts" "[I" .null := D73 (Or.inl w_25) (ty := (.array .int)) (by decide)
    refine g_dup X73.here hx (Jvm.hb hby at_173) (pc' := 174) rfl rfl ?_
    refine g_aload X73.here hx (Jvm.hb hby at_174) (pc' := 176) rfl rfl rfl ?_
    refine g_iload X73.here hx (Jvm.hb hby at_176) (pc' := 178) rfl rfl ?_
    refine g_callI X73 hx hZ rfl hown w_9 w_10 w_8 w_11 (by decide) (rm2 l Z a0 hw [] ad73 ad61 ab hh73 n0 Z74 g_ad73 A73 F73_ancestors F73_above F73_firsts) 1 (by decide) (by decide) e73 (by rw [hml]; rfl) [(.ref ad61), (.int ab)] [(.ref ad73)] (lenOf pd_1 rfl) rfl rfl (Nat.le_of_eq rfl) (Jvm.hb hby at_178) (pc' := 181) rfl (cells' := 2) (slots' := 8) rfl rfl (by decide) (by decide) ?_
    intro v75 T75 L75 X75 hQ75
    obtain ⟨rfl, Nq75, K75, E75, Fa75, Fb75, Fc75⟩ := hQ75
    have N75 := Fr.app N69 Nq75
    have Z76 : n0 ≤ T75.heap.size := Nat.le_trans Z74 K75.1
    show own_Gl p e below s (own_Q0 n0) room_1.cells room_1.slots (T75.setTop (mkF m 181 #[.val (.int x0), .val (.int x1), .val (.int x2), .val (.int x3), .val (.int x4), .val (.int (4 : Int32)), .val (.ref ad61), .val (.int v3), .val (.int top), .val (.int ab), .val (.int p1), .val (.int p2), .val (.int (f_cb g (4 : Int32) p1)), .val (.int (f_cb g (4 : Int32) p2)), .unset, .unset, .unset] [(.ref ad73)]))
    refine g_astore X75.here hx (Jvm.hb hby at_181) (pc' := 183) rfl rfl (L' := #[.val (.int x0), .val (.int x1), .val (.int x2), .val (.int x3), .val (.int x4), .val (.int (4 : Int32)), .val (.ref ad61), .val (.int v3), .val (.int top), .val (.int ab), .val (.int p1), .val (.int p2), .val (.int (f_cb g (4 : Int32) p1)), .val (.int (f_cb g (4 : Int32) p2)), .val (.ref ad73), .unset, .unset]) rfl ?_
    refine g_aload X75.here hx (Jvm.hb hby at_183) (pc' := 185) rfl rfl rfl ?_
    refine g_iload X75.here hx (Jvm.hb hby at_185) (pc' := 187) rfl rfl ?_
    have F77 := ((Vg.ext E73).keep K75 (ninS ne_ad61_ad73 nin0))
    refine g_callV X75 hx hZ hown w_19 w_20 (own_nf hZ w_22) w_22 w_21 w_8 w_23 (by decide) (rm4a l Z a0 hw [] ad73 p1 ad61 ab 4 g T75.heap n0 Z76 g_ad73 E75 Fa75 Fb75 Fc75 F77 ne_ad61_ad73 hab2 (by omega) (by decide)) 0 (by decide) (by decide) rfl E75 (by rw [hml]; rfl) [(.int p1)] [] (lenOf pd_2 rfl) rfl rfl (Nat.le_of_eq rfl) (Jvm.hb hby at_187) (pc' := 190) rfl (cells' := 3) (slots' := 29) rfl rfl (by decide) (by decide) ?_
    intro v78 T78 L78 X78 hQ78
    obtain ⟨b78, f, rfl, Nq78, K78, E78, Ff78, Vf78, hP⟩ := hQ78
    have N78 := Fr.app N75 Nq78
    have Z79 : n0 ≤ T78.heap.size := Nat.le_trans Z76 K78.1
    show own_Gl p e below s (own_Q0 n0) room_1.cells room_1.slots (T78.setTop (mkF m 190 #[.val (.int x0), .val (.int x1), .val (.int x2), .val (.int x3), .val (.int x4), .val (.int (4 : Int32)), .val (.ref ad61), .val (.int v3), .val (.int top), .val (.int ab), .val (.int p1), .val (.int p2), .val (.int (f_cb g (4 : Int32) p1)), .val (.int (f_cb g (4 : Int32) p2)), .val (.ref ad73), .unset, .unset] [(.int (f p1.toInt.toNat))]))
    refine g_istore X78.here hx (Jvm.hb hby at_190) (pc' := 192) rfl (L' := #[.val (.int x0), .val (.int x1), .val (.int x2), .val (.int x3), .val (.int x4), .val (.int (4 : Int32)), .val (.ref ad61), .val (.int v3), .val (.int top), .val (.int ab), .val (.int p1), .val (.int p2), .val (.int (f_cb g (4 : Int32) p1)), .val (.int (f_cb g (4 : Int32) p2)), .val (.ref ad73), .val (.int (f p1.toInt.toNat)), .unset]) rfl ?_
    refine g_aload X78.here hx (Jvm.hb hby at_192) (pc' := 194) rfl rfl rfl ?_
    refine g_iload X78.here hx (Jvm.hb hby at_194) (pc' := 196) rfl rfl ?_
    refine g_callV X78 hx hZ hown w_19 w_20 (own_nf hZ w_22) w_22 w_21 w_8 w_23 (by decide) (rm4b l Z a0 hw [] ad73 p2 b78 _ f T78.heap Ff78 Vf78 (by omega)) 0 (by decide) (by decide) rfl E78 (by rw [hml]; rfl) [(.int p2)] [] (lenOf pd_2 rfl) rfl rfl (Nat.le_of_eq rfl) (Jvm.hb hby at_196) (pc' := 199) rfl (cells' := 3) (slots' := 29) rfl rfl (by decide) (by decide) ?_
    intro v80 T80 L80 X80 hQ80
    obtain ⟨rfl, rfl, e80⟩ := hQ80
    rw [List.append_nil] at X80
    show own_Gl p e below s (own_Q0 n0) room_1.cells room_1.slots (T80.setTop (mkF m 199 #[.val (.int x0), .val (.int x1), .val (.int x2), .val (.int x3), .val (.int x4), .val (.int (4 : Int32)), .val (.ref ad61), .val (.int v3), .val (.int top), .val (.int ab), .val (.int p1), .val (.int p2), .val (.int (f_cb g (4 : Int32) p1)), .val (.int (f_cb g (4 : Int32) p2)), .val (.ref ad73), .val (.int (f p1.toInt.toNat)), .unset] [(.int (f p2.toInt.toNat))]))
    refine g_istore X80.here hx (Jvm.hb hby at_199) (pc' := 201) rfl (L' := #[.val (.int x0), .val (.int x1), .val (.int x2), .val (.int x3), .val (.int x4), .val (.int (4 : Int32)), .val (.ref ad61), .val (.int v3), .val (.int top), .val (.int ab), .val (.int p1), .val (.int p2), .val (.int (f_cb g (4 : Int32) p1)), .val (.int (f_cb g (4 : Int32) p2)), .val (.ref ad73), .val (.int (f p1.toInt.toNat)), .val (.int (f p2.toInt.toNat))]) rfl ?_
    refine g_iload X80.here hx (Jvm.hb hby at_201) (pc' := 203) rfl rfl ?_
    refine g_iload X80.here hx (Jvm.hb hby at_203) (pc' := 205) rfl rfl ?_
    refine g_icN X80.here hx (Jvm.hb hby at_205) (pc' := 208) rfl (teq (own_cb g 4 (4 : Int32) p1 _ (by decide) (by decide) hs (by omega) (hP _ (by omega)))).2 ?_
    refine g_iload X80.here hx (Jvm.hb hby at_208) (pc' := 210) rfl rfl ?_
    refine g_iload X80.here hx (Jvm.hb hby at_210) (pc' := 212) rfl rfl ?_
    refine g_icN X80.here hx (Jvm.hb hby at_212) (pc' := 215) rfl (teq (own_cb g 4 (4 : Int32) p2 _ (by decide) (by decide) hs (by omega) (hP _ (by omega)))).2 ?_
    refine g_iconst X80.here hx (Jvm.hb hby at_215) (pc' := 216) rfl (z := (1 : Int32)) rfl ?_
    refine g_goto X80.here hx (Jvm.hb hby at_216) (by decide) (pc' := 220) (by decide) ?_
    exact g_retN X80 hx hlk (t := .boolean) hret (by simp) (z' := (1 : Int32)) rfl (Jvm.hb hby at_220) (by decide) (by decide) ⟨rfl, N78⟩
set_option maxRecDepth 65536 in
set_option maxHeartbeats 40000000 in
theorem comes_1 {Post : Tables → Env → Array Value → State → Outcome → State → Prop} (hpost : ∀ tb e args s v u, (limb_1_1.after args s (.returned v) u = true ∧ limb_1_2.after args s (.returned v) u = true ∧ True) → FrameEnd s (.returned v) u (Jvm.fieldLocs frame_1_writes args s ++ Jvm.arrayLocs frame_1_arrays args s ++ Jvm.staticLocs frame_1_statics s) 16 128 → Post tb e args s (.returned v) u) :
    ArmFor flags0 classFile x code maxLocals ret World_1 tables_1 room_1 Calls_1 rest_1 Pre_1 Post := by
  intro l hfl _ _ p e ha hc hk s m args below hf hA hF happ hP
  obtain ⟨hcalls, hrest, hpre⟩ := hP
  obtain ⟨-, -, -, hnamed, -, -, -, hat⟩ := (Spec.applies_iff hf).mp happ
  obtain ⟨hg, hn⟩ := and_e (Cond.before_iff.mp (show (Jvm.Cond.and given_1 narrow_1).before args s = true from hpre))
  obtain ⟨g1, g2⟩ := and_e hg
  obtain ⟨g3, g4⟩ := and_e g2
  obtain ⟨g5, g6⟩ := and_e g4
  obtain ⟨g7, g8⟩ := and_e g6
  obtain ⟨g9, g10⟩ := and_e g8
  obtain ⟨w0, w1, w2, w3, w4, rfl⟩ : ∃ w0 w1 w2 w3 w4 : Value, args = #[w0, w1, w2, w3, w4] := by
    have hs : args.size = 5 := by simpa [Cond.value, given_1] using g1
    obtain ⟨L⟩ := args
    match L, hs with
    | [w0, w1, w2, w3, w4], _ => exact ⟨w0, w1, w2, w3, w4, rfl⟩
  have hw := fun d (hd : d ∈ tables_1) => atoms_spec (ws := Jvm.Cond.code x code maxLocals ret :: tables_1) hat d (List.mem_cons_of_mem _ hd)
  obtain ⟨i0, ei0⟩ := is_v g3
  obtain rfl : w0 = (.int i0) := Option.some.inj ei0
  obtain ⟨i1, ei1⟩ := is_v g5
  obtain rfl : w1 = (.int i1) := Option.some.inj ei1
  obtain ⟨i2, ei2⟩ := is_v g7
  obtain rfl : w2 = (.int i2) := Option.some.inj ei2
  obtain ⟨i3, ei3⟩ := is_v g9
  obtain rfl : w3 = (.int i3) := Option.some.inj ei3
  obtain ⟨i4, ei4⟩ := is_v g10
  obtain rfl : w4 = (.int i4) := Option.some.inj ei4
  obtain ⟨n, o, h1, h2, h3, _, L, rfl, ⟨rfl, N⟩, hq⟩ := rm0 l s _ hw tables_1 i0 i1 i2 i3 i4 s.heap s.heap.size (Nat.le_refl _) p e ha hc hk s m _ below hf ((Spec.applies_iff_loose hf).mp happ).1 ⟨rfl, State.Warmed39.refl s, rfl⟩ trivial
  refine ⟨n, _, h1, h2, h3, hpost _ _ _ _ _ _ ⟨Cond.after_iff.mpr rfl, Cond.after_iff.mpr (eq_i res_at (Term.int_eval (1)) rfl), trivial⟩ ⟨hq.1, hq.2.1, (hq.2.2.sift fun y hy => Or.inr (N y hy)).mono (by decide) (by decide)⟩⟩
theorem main_1_1 : Claimed_1_1 := comes_1 fun _ _ _ _ _ _ h hF => ⟨h.1, hF⟩
theorem main_1_2 : Claimed_1_2 := comes_1 fun _ _ _ _ _ _ h hF => ⟨h.2.1, hF⟩
end Jvm.Pilot.@@N@@
namespace Jvm.Pilot.@@N@@
open Jvm Jvm.ClassFile Sem Op Lib Jvm.Free Jvm.Stand Jvm.Pilot.@@N@@.Jvm.D
/-! MADE BY PROGRAM (witnessworld.py) out of the Statement's table words and the real class files: 9 classes; the members and pool entries that the words name. The judged class is class 1, her method 1. -/
namespace start1
open Jvm.ClassFile
def u (s : String) : CpInfo := .utf8 (stringToUtf16 s)
/-- a pool by its gaps: so many unusable entries, then the entry; so many at the end -/
def gap : Nat → List CpInfo → List CpInfo
  | 0, r => r
  | n + 1, r => .unusable :: gap n r
def poolList (es : List (Nat × CpInfo)) (last : Nat) : List CpInfo := es.foldr (fun e r => gap e.1 (e.2 :: r)) (gap last [])
def pool (es : List (Nat × CpInfo)) (last : Nat) : Array CpInfo := ⟨poolList es last⟩
def fileOf (pool : Array CpInfo) (this : Nat) (attrs : Array Attribute := #[]) (ms : Array MethodInfo := #[]) (fl : Nat := 33) (sup : Nat := 0) (ifs : Array Nat := #[]) (fds : Array FieldInfo := #[]) : ClassFile where
  minorVersion := 0
  majorVersion := 65
  constantPool := pool
  accessFlags := fl
  thisClass := this
  superClass := sup
  interfaces := ifs
  fields := fds
  methods := ms
  attributes := attrs
def plain (name : String) (sup : Option ClassId) : Class where
  name := name
  kind := .ordinary
  loader := none
  accessFlags := 33
  super := sup
  interfaces := #[]
  cf := none
  fields := #[]
  methods := #[]
  instanceTypes := #[]
  staticTypes := #[]
  resolved := #[]
  callSites := []
  init := .initialized
  statics := none
  mirror := none

def pool0 : Array CpInfo := pool [(5, u "<init>"), (0, u "()V"), (1, .class_ 10), (1, u "java/lang/Object")] 113

def k0c0 : Code := { maxStack := 0, maxLocals := 1, code := object_method_1_code, exceptionTable := #[], attributes := #[] }
def k0m0 : Method := { name := "<init>", desc := "()V", sig := { parameters := [], returnType := none }, accessFlags := 1, code := some k0c0 }
/-- java/lang/Object -/
def k0 : Class := { plain "java/lang/Object" none with
  accessFlags := 33
  interfaces := #[]
  cf := some (fileOf pool0 8 #[] #[{ accessFlags := 1, nameIndex := 5, descriptorIndex := 6, attributes := #[] }] 33 0 #[] #[])
  fields := #[]
  methods := #[k0m0]
  instanceTypes := #[]
  staticTypes := #[]
  resolved := Array.replicate 124 none
  statics := none }

def pool1 : Array CpInfo := pool [(2, .class_ 4), (1, u "java/lang/Object"), (0, u "<init>"), (0, u "()V"), (0, .integer 2147483647), (0, .methodref 9 10), (0, .class_ 11), (0, .nameAndType 12 13), (0, u "com/example/ogma/ogma/store/internal/AncestryFirstBelowPinLaw"), (0, u "countBefore"), (0, u "([III)I"), (0, .class_ 15), (0, u "com/example/ogma/ogma/store/internal/Ancestry"), (0, .methodref 14 17), (0, .nameAndType 5 18), (0, u "([II)V"), (0, .methodref 14 20), (0, .nameAndType 21 22), (0, u "firstBelow"), (0, u "(I)I"), (2, u "law"), (0, u "(IIIII)Z")] 5

def k1m0 : Method := { name := "<init>", desc := "()V", sig := { parameters := [], returnType := none }, accessFlags := 1, code := none }
def k1c1 : Code := { maxStack := 4, maxLocals := 17, code := code, exceptionTable := #[], attributes := #[] }
def k1m1 : Method := { name := "law", desc := "(IIIII)Z", sig := { parameters := [.int, .int, .int, .int, .int], returnType := some .boolean }, accessFlags := 9, code := some k1c1 }
def k1c2 : Code := { maxStack := 2, maxLocals := 4, code := method_3_code, exceptionTable := #[], attributes := #[] }
def k1m2 : Method := { name := "countBefore", desc := "([III)I", sig := { parameters := [(.array .int), .int, .int], returnType := some .int }, accessFlags := 10, code := some k1c2 }
/-- com/example/ogma/ogma/store/internal/AncestryFirstBelowPinLaw -/
def k1 : Class := { plain "com/example/ogma/ogma/store/internal/AncestryFirstBelowPinLaw" (some 0) with
  accessFlags := 49
  interfaces := #[]
  cf := some (fileOf pool1 9 #[] #[{ accessFlags := 1, nameIndex := 5, descriptorIndex := 6, attributes := #[] }, { accessFlags := 9, nameIndex := 25, descriptorIndex := 26, attributes := #[] }, { accessFlags := 10, nameIndex := 12, descriptorIndex := 13, attributes := #[] }] 49 2 #[] #[])
  fields := #[]
  methods := #[k1m0, k1m1, k1m2]
  instanceTypes := #[]
  staticTypes := #[]
  resolved := Array.replicate 32 none
  statics := none }

def pool2 : Array CpInfo := pool [(1, .methodref 2 3), (0, .class_ 4), (0, .nameAndType 5 6), (0, u "java/lang/Object"), (0, u "<init>"), (0, u "()V"), (0, .fieldref 8 9), (0, .class_ 10), (0, .nameAndType 11 12), (0, u "com/example/ogma/ogma/store/internal/Ancestry"), (0, u "ancestors"), (0, u "[I"), (0, .fieldref 8 14), (0, .nameAndType 15 16), (0, u "above"), (0, u "I"), (0, .fieldref 8 18), (0, .nameAndType 19 12), (0, u "firsts"), (2, u "ancestorsOfAll"), (0, u "Lcom/example/ogma/ogma/store/internal/NodeSet;"), (10, u "firstBelow"), (0, u "(I)I"), (9, u "([II)V")] 14

def k2c0 : Code := { maxStack := 2, maxLocals := 3, code := prog_125_method_1_code, exceptionTable := #[], attributes := #[] }
def k2m0 : Method := { name := "<init>", desc := "([II)V", sig := { parameters := [(.array .int), .int], returnType := none }, accessFlags := 1, code := some k2c0 }
def k2c1 : Code := { maxStack := 3, maxLocals := 5, code := prog_125_method_4_code, exceptionTable := #[], attributes := #[] }
def k2m1 : Method := { name := "firstBelow", desc := "(I)I", sig := { parameters := [.int], returnType := some .int }, accessFlags := 1, code := some k2c1 }
/-- com/example/ogma/ogma/store/internal/Ancestry -/
def k2 : Class := { plain "com/example/ogma/ogma/store/internal/Ancestry" (some 0) with
  accessFlags := 33
  interfaces := #[]
  cf := some (fileOf pool2 8 #[] #[{ accessFlags := 1, nameIndex := 5, descriptorIndex := 45, attributes := #[] }, { accessFlags := 1, nameIndex := 34, descriptorIndex := 35, attributes := #[] }] 33 2 #[] #[{ accessFlags := 18, nameIndex := 11, descriptorIndex := 12, attributes := #[] }, { accessFlags := 18, nameIndex := 15, descriptorIndex := 16, attributes := #[] }, { accessFlags := 2, nameIndex := 19, descriptorIndex := 12, attributes := #[] }, { accessFlags := 2, nameIndex := 22, descriptorIndex := 23, attributes := #[] }])
  fields := #[{ name := "ancestors", type := (.array .int), accessFlags := 18, slot := 0, constantValue := 0 }, { name := "above", type := .int, accessFlags := 18, slot := 1, constantValue := 0 }, { name := "firsts", type := (.array .int), accessFlags := 2, slot := 2, constantValue := 0 }, { name := "ancestorsOfAll", type := (.object "com/example/ogma/ogma/store/internal/NodeSet"), accessFlags := 2, slot := 3, constantValue := 0 }]
  methods := #[k2m0, k2m1]
  instanceTypes := #[(.array .int), .int, (.array .int), (.object "com/example/ogma/ogma/store/internal/NodeSet")]
  staticTypes := #[]
  resolved := Array.replicate 60 none
  statics := none }

def pool3 : Array CpInfo := pool [(1, u "java/lang/Cloneable"), (0, .class_ 1), (0, u "java/lang/Object"), (0, .class_ 3)] 3

/-- java/lang/Cloneable -/
def k3 : Class := { plain "java/lang/Cloneable" (some 0) with
  accessFlags := 1537
  interfaces := #[]
  cf := some (fileOf pool3 2 #[] #[] 1537 4 #[] #[])
  fields := #[]
  methods := #[]
  instanceTypes := #[]
  staticTypes := #[]
  resolved := Array.replicate 8 none
  statics := none }

def pool4 : Array CpInfo := pool [(1, u "java/io/Serializable"), (0, .class_ 1), (0, u "java/lang/Object"), (0, .class_ 3)] 3

/-- java/io/Serializable -/
def k4 : Class := { plain "java/io/Serializable" (some 0) with
  accessFlags := 1537
  interfaces := #[]
  cf := some (fileOf pool4 2 #[] #[] 1537 4 #[] #[])
  fields := #[]
  methods := #[]
  instanceTypes := #[]
  staticTypes := #[]
  resolved := Array.replicate 8 none
  statics := none }

/-- the primitive byte -/
def k5 : Class := { plain "byte" none with kind := .primitive 'B', accessFlags := 0x411 }
/-- [B -/
def k6 : Class := { plain "[B" (some 0) with kind := .array 5 .byte, interfaces := #[3, 4], accessFlags := 1041 }

/-- the primitive int -/
def k7 : Class := { plain "int" none with kind := .primitive 'I', accessFlags := 0x411 }
/-- [I -/
def k8 : Class := { plain "[I" (some 0) with kind := .array 7 .int, interfaces := #[3, 4], accessFlags := 1041 }

def heap : Heap := #[]
def classes : Array Class := #[k0, k1, k2, k3, k4, k5, k6, k7, k8]
def interned : List (Array UInt16 × Addr) := []
def slotsUsed : Nat := 0
def theMethod : MethodId := ⟨1, 1⟩
def args0 : Array Value := #[.int 5, .int 6, .int 3, .int 1, .int 2]
def aboutOver (below : List Frame) : State where
  vm := { classes := classes, interned := interned.toArray }
  heap := heap
  slotsUsed := slotsUsed
  threads := #[{ frames := .invoking theMethod args0 :: below }]
def below0 : List Frame := [.native { method := ⟨0, 0⟩, args := #[] }]
def about1 : State := aboutOver below0
def p0 : Program := .bare "" "" ""
def e0 : Env := launch0.env 0 0 0
theorem w_frames : about1.frames = Frame.invoking theMethod args0 :: below0 := rfl
set_option maxRecDepth 65536 in
theorem w_args : argsFit about1.vm theMethod args0 = true := by decide +kernel
set_option maxRecDepth 65536 in
theorem w_heap : heapFits about1 = true := by decide +kernel
set_option maxRecDepth 65536 in
theorem w_runnable : about1.curStatus? = some .runnable := by decide +kernel
set_option maxRecDepth 65536 in
theorem w_alone : about1.alone = true := by decide +kernel
set_option maxRecDepth 65536 in
theorem w_named : about1.methodNamed? x = some theMethod := by decide +kernel
set_option maxRecDepth 65536 in
theorem w_hears : about1.hears theMethod below0 = true := by decide +kernel
set_option maxRecDepth 65536 in
theorem w_ripe : about1.ripe theMethod args0 below0 = true := by decide +kernel
theorem w_running : about1.status = .running := rfl
set_option maxRecDepth 65536 in
theorem w_room : about1.hasRoom e0.platform room_1 = true :=
  launch0.hasRoom_least _ room_1 (by decide +kernel) (by decide +kernel) (by decide +kernel) (by decide +kernel) (by decide +kernel) (by decide +kernel)
theorem allAtoms_all (ts : List Jvm.Cond) (a : Array Jvm.Value) (st : Jvm.State) : (allAtoms ts).before a st = ts.all (fun c => c.before a st) := by
  induction ts with
  | nil => rfl
  | cons c t ih =>
    show (Jvm.Cond.and c (allAtoms t)).before a st = _
    rw [Jvm.Cond.before_and, ih, List.all_cons]
def words1 : List Jvm.Cond := Jvm.Cond.code x code maxLocals ret :: tables_1
/-- a 'code' word, met by the world's own term for the bytes: nothing is compared byte by byte -/
theorem code_word {y : MethodName} {bytes : ByteArray} {mx : Nat} {rt : Option FieldType} {a : Array Value} {s : State} {m : MethodId} {meth : Method} {c : Code} (h1 : s.methodNamed? y = some m) (h2 : s.vm.method? m = some meth) (h3 : meth.code = some c) (h4 : c.code = bytes)
    (h5 : (c.maxLocals == mx && c.exceptionTable.isEmpty && decide (c.maxStack ≤ mostOperands) && decide (meth.sig.returnType = rt) && !meth.locks && decide (parseMethodDescriptor y.desc = some meth.sig)) = true) : (Jvm.Cond.code y bytes mx rt).before a s = true := by
  simp only [Bool.and_eq_true, beq_iff_eq, Bool.not_eq_true', decide_eq_true_eq] at h5
  obtain ⟨⟨⟨⟨⟨g1, g2⟩, g3⟩, g4⟩, g5⟩, g6⟩ := h5
  simp [Cond.before, Cond.holds, Cond.value, h1, h2, h3, h4, g1, g2, g3, g4, g5, g6]
def isCode : Jvm.Cond → Bool
  | .code _ _ _ _ => true
  | _ => false
theorem all_split {L : List Jvm.Cond} {P : Jvm.Cond → Bool} (h1 : L.all (fun c => isCode c || P c) = true) (h2 : ∀ c ∈ L.filter isCode, P c = true) : L.all P = true := by
  refine List.all_eq_true.mpr fun c hc => ?_
  have h := List.all_eq_true.mp h1 c hc
  rcases Bool.eq_false_or_eq_true (isCode c) with hi | hi
  · exact h2 c (List.mem_filter.mpr ⟨hc, hi⟩)
  · simpa [hi] using h
set_option maxRecDepth 65536 in
theorem w_c0 : (Jvm.Cond.code x code maxLocals ret).before args0 about1 = true := code_word (m := ⟨1, 1⟩) (meth := k1m1) (c := k1c1) (by decide +kernel) rfl rfl rfl (by decide +kernel)
set_option maxRecDepth 65536 in
theorem w_c1 : (Jvm.Cond.code ({ cls := "com/example/ogma/ogma/store/internal/AncestryFirstBelowPinLaw", name := "countBefore", desc := "([III)I" } : Jvm.MethodName) method_3_code (4 : Nat) (Option.some Jvm.ClassFile.FieldType.int)).before args0 about1 = true := code_word (m := ⟨1, 2⟩) (meth := k1m2) (c := k1c2) (by decide +kernel) rfl rfl rfl (by decide +kernel)
set_option maxRecDepth 65536 in
theorem w_c2 : (Jvm.Cond.code ({ cls := "com/example/ogma/ogma/store/internal/Ancestry", name := "<init>", desc := "([II)V" } : Jvm.MethodName) prog_125_method_1_code (3 : Nat) (Option.none : Option Jvm.ClassFile.FieldType)).before args0 about1 = true := code_word (m := ⟨2, 0⟩) (meth := k2m0) (c := k2c0) (by decide +kernel) rfl rfl rfl (by decide +kernel)
set_option maxRecDepth 65536 in
theorem w_c3 : (Jvm.Cond.code ({ cls := "java/lang/Object", name := "<init>", desc := "()V" } : Jvm.MethodName) object_method_1_code (1 : Nat) (Option.none : Option Jvm.ClassFile.FieldType)).before args0 about1 = true := code_word (m := ⟨0, 0⟩) (meth := k0m0) (c := k0c0) (by decide +kernel) rfl rfl rfl (by decide +kernel)
set_option maxRecDepth 65536 in
theorem w_c4 : (Jvm.Cond.code ({ cls := "com/example/ogma/ogma/store/internal/Ancestry", name := "firstBelow", desc := "(I)I" } : Jvm.MethodName) prog_125_method_4_code (5 : Nat) (Option.some Jvm.ClassFile.FieldType.int)).before args0 about1 = true := code_word (m := ⟨2, 1⟩) (meth := k2m1) (c := k2c1) (by decide +kernel) rfl rfl rfl (by decide +kernel)
def codes1 : List Jvm.Cond := [Jvm.Cond.code x code maxLocals ret, Jvm.Cond.code ({ cls := "com/example/ogma/ogma/store/internal/AncestryFirstBelowPinLaw", name := "countBefore", desc := "([III)I" } : Jvm.MethodName) method_3_code (4 : Nat) (Option.some Jvm.ClassFile.FieldType.int), Jvm.Cond.code ({ cls := "com/example/ogma/ogma/store/internal/Ancestry", name := "<init>", desc := "([II)V" } : Jvm.MethodName) prog_125_method_1_code (3 : Nat) (Option.none : Option Jvm.ClassFile.FieldType), Jvm.Cond.code ({ cls := "java/lang/Object", name := "<init>", desc := "()V" } : Jvm.MethodName) object_method_1_code (1 : Nat) (Option.none : Option Jvm.ClassFile.FieldType), Jvm.Cond.code ({ cls := "com/example/ogma/ogma/store/internal/Ancestry", name := "firstBelow", desc := "(I)I" } : Jvm.MethodName) prog_125_method_4_code (5 : Nat) (Option.some Jvm.ClassFile.FieldType.int)]
set_option maxRecDepth 65536 in
theorem codes_eq : words1.filter isCode = codes1 := rfl
theorem w_codes : ∀ c ∈ words1.filter isCode, c.before args0 about1 = true := by
  rw [codes_eq]
  intro c hc
  simp only [codes1, List.mem_cons, List.not_mem_nil, or_false] at hc
  rcases hc with rfl | rfl | rfl | rfl | rfl
  · exact w_c0
  · exact w_c1
  · exact w_c2
  · exact w_c3
  · exact w_c4
set_option maxRecDepth 65536 in
theorem w_t1 : (words1.take 24).all (fun c => isCode c || c.before args0 about1) = true := by decide +kernel
set_option maxRecDepth 65536 in
theorem w_t2 : (words1.drop 24).all (fun c => isCode c || c.before args0 about1) = true := by decide +kernel
theorem w_tables : (allAtoms (Jvm.Cond.code x code maxLocals ret :: tables_1)).before args0 about1 = true := by
  rw [allAtoms_all]
  show words1.all (fun c => c.before args0 about1) = true
  refine all_split ?_ w_codes
  rw [← List.take_append_drop 24 words1, List.all_append, w_t1, w_t2]
  rfl
set_option maxRecDepth 65536 in
theorem w_case : (Jvm.Cond.and given_1 narrow_1).before args0 about1 = true := by decide +kernel
theorem w_applies : (headSpec (Jvm.Cond.code x code maxLocals ret :: tables_1) room_1).applies x e0.platform about1 = true :=
  (Spec.applies_iff w_frames).mpr ⟨w_running, w_runnable, w_alone, w_named, w_hears, w_ripe, w_room, w_tables⟩
theorem atStart : AtStart classFile x code maxLocals ret World_1 tables_1 room_1 Calls_1 rest_1 Pre_1 launch0 p0 e0 about1 theMethod args0 below0 :=
  ⟨lists_1, trivial, launch0.admits_env _ _ _, launch0.least_env, fairChoices_fair.cas, fairChoices_fair.clock, w_frames, w_args, w_heap, w_applies, trivial, trivial, w_case⟩
end start1
theorem witness_1 : WitnessClaimed_1 := ⟨start1.p0, start1.e0, start1.about1, start1.theMethod, start1.args0, start1.below0, start1.atStart⟩
end Jvm.Pilot.@@N@@
