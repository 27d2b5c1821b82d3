import JvmDerived
import JvmDerived.Pilot.@@N@@Statement
import JvmDerived.Pilot.@@N@@Code
set_option linter.unusedVariables false
set_option linter.unusedSimpArgs false
namespace Jvm.Pilot.@@N@@
open Jvm Jvm.ClassFile Sem Op Lib Jvm.Free Jvm.Stand Jvm.LawKit Jvm.RoadKit Bundle Jvm.Pilot.@@N@@.Jvm.D
set_option maxRecDepth 4000
section OwnKit
/-- the goal of a walk: from S the run comes to a return that Q allows, and nothing old is touched -/
def own_Gl (p : Program) (e : Env) (below : List Frame) (s : State) (Q : Option Value → Heap → List Loc → Prop) (kc ks : Nat) (S : State) : Prop :=
  ∃ s₂ o, Steps p.tables e below S s₂ ∧ s₂.status = .running ∧ Ended s₂ below o ∧ ∃ v L, o = .returned v ∧ Q v s₂.heap L ∧ FrameEnd s o s₂ L kc ks
variable {p : Program} {l : Launch} {e : Env} {R : Room} {s : State} {m : MethodId} {args : Array Value} {below : List Frame} {meth : Method} {c : Code} {T : State} {locs : List Loc} {cells slots : Nat} {Z : State} {a0 : Array Value} {h : Heap} {Q : Option Value → Heap → List Loc → Prop} {kc ks : Nat} {pc pc' : Nat} {L L' : Array Slot} {S : List Value}
theorem own_Gl.go {S S' : State} (h : own_Gl p e below s Q kc ks S') (st : ∀ t, Steps p.tables e below S' t → Steps p.tables e below S t) : own_Gl p e below s Q kc ks S := by
  obtain ⟨s₂, o, h1, h2⟩ := h
  exact ⟨s₂, o, st _ h1, h2⟩
/-- what a method leaves that writes nothing and makes nothing -/
def own_Pure (w : Option Value) (h0 : Heap) (v : Option Value) (h : Heap) (L : List Loc) : Prop := v = w ∧ L = [] ∧ h = h0
theorem own_body {l : Launch} {Z : State} {y : MethodName} {bytes : ByteArray} {maxL : Nat} {ret : Option FieldType} {ws : List Jvm.Cond} {rm : Room} {as' : Array Value} {h0 : Heap} {Q : Option Value → Heap → List Loc → Prop} {L0 : Array Slot} {own : String}
    (hpl : plainName y.cls = true) (hyc : y.cls = own) (hef : ∀ m, entryFrame m as' maxL = mkF m 0 L0 [])
    (body : ∀ p e s m below meth c T, p.tables.exec = Jvm.exec → c.code = bytes → c.maxLocals = maxL → s.vm.findClass own = some m.cls → meth.name = y.name → meth.locks = false → meth.sig.returnType = ret → Z.Warmed39 s.vm → Stand p l e rm s m as' below meth c T [] 0 0 → T.heap = h0 →
      own_Gl p e below s Q rm.cells rm.slots (T.setTop (mkF m 0 L0 []))) :
    MetFree l y (head1 (Jvm.Cond.code y bytes maxL ret :: ws) rm) (fun a U => a = as' ∧ Z.Warmed39 U.vm ∧ U.heap = h0) (fun _ _ _ _ _ => True) (fun _ U o U' => ∃ v L, o = .returned v ∧ Q v U'.heap L ∧ FrameEnd U o U' L rm.cells rm.slots) := by
  refine MetFree.of_bodySF (plainFor_of_name hpl) hisR ?_
  intro p e s m args below meth c s₁ Bd hml0 hP hK
  obtain ⟨rfl, hZ, hh⟩ := hP
  have hown : s.vm.findClass y.cls = some m.cls := findClass_of_methodNamed Bd.named
  have hnm := (name_of_methodNamed Bd.named Bd.method).1
  have X0 : Stand p l e rm s m _ below meth c s₁ [] 0 0 := Stand.of_body Bd
  have e0 : s₁.heap = h0 := by rw [← hh, Bd.state]; rfl
  obtain ⟨s₂, o, h1, h2⟩ := body p e s m below meth c s₁ Bd.exec Bd.bytes hml0 (hyc ▸ hown) hnm Bd.notSynchronized Bd.returns hZ X0 e0
  exact ⟨s₂, o, castTop (hef m) h1, h2⟩
theorem own_ret (X : Stand p l e R s m args below meth c T locs cells slots) (hlk : meth.locks = false) {v : Option Value} (hv : meth.sig.returnType = none → v = none) (hQ : Q v T.heap locs) (hc : cells ≤ kc) (hs : slots ≤ ks) {S : State}
    (st : ∀ fs, (∀ (f : JFrame) (acts : List Action), f.method = m → f.locked = none → f.entered = [] → (doReturn e (T.setTop f) acts v).1 = T.setFrames fs) → Steps p.tables e below S (T.setFrames fs)) : own_Gl p e below s Q kc ks S := by
  obtain ⟨fs, hr, hrun, hended, hW, hsame⟩ := X.leave (v := v) hv hlk
  exact ⟨_, _, st fs hr, hrun, hended, v, locs, rfl, hQ, ⟨_, rfl⟩, hW, hsame.mono hc hs⟩
theorem g_retI (X : Stand p l e R s m args below meth c T locs cells slots) (hx : p.tables.exec = Jvm.exec) (hlk : meth.locks = false) {z : Int32} (hret : meth.sig.returnType = some .int) (hd : decode c.code pc = .ok (.ireturn, 1)) (hc : cells ≤ kc) (hs : slots ≤ ks) (hQ : Q (some (.int z)) T.heap locs) :
    own_Gl p e below s Q kc ks (T.setTop (mkF m pc L (.int z :: S))) :=
  own_ret X hlk (fun h => by rw [hret] at h; cases h) hQ hc hs fun fs hr => retOut X hx hret rfl (Or.inl ⟨rfl, Or.inl rfl, z, rfl⟩) hd hr
theorem g_retN (X : Stand p l e R s m args below meth c T locs cells slots) (hx : p.tables.exec = Jvm.exec) (hlk : meth.locks = false) {z z' : Int32} {t : FieldType} (hret : meth.sig.returnType = some t) (ht : t = .boolean ∨ t = .byte ∨ t = .char ∨ t = .short) (hz : nar t z = z') (hd : decode c.code pc = .ok (.ireturn, 1)) (hc : cells ≤ kc) (hs : slots ≤ ks) (hQ : Q (some (.int z')) T.heap locs) :
    own_Gl p e below s Q kc ks (T.setTop (mkF m pc L (.int z :: S))) := by
  subst hz
  exact own_ret X hlk (fun h => by rw [hret] at h; cases h) hQ hc hs fun fs hr => retN X hx hret ht hd hr
theorem g_retL (X : Stand p l e R s m args below meth c T locs cells slots) (hx : p.tables.exec = Jvm.exec) (hlk : meth.locks = false) {z : Int64} (hret : meth.sig.returnType = some .long) (hd : decode c.code pc = .ok (.lreturn, 1)) (hc : cells ≤ kc) (hs : slots ≤ ks) (hQ : Q (some (.long z)) T.heap locs) :
    own_Gl p e below s Q kc ks (T.setTop (mkF m pc L (.long z :: S))) :=
  own_ret X hlk (fun h => by rw [hret] at h; cases h) hQ hc hs fun fs hr => retOut X hx hret rfl (Or.inr (Or.inl ⟨rfl, rfl, z, rfl⟩)) hd hr
theorem g_retV (X : Stand p l e R s m args below meth c T locs cells slots) (hx : p.tables.exec = Jvm.exec) (hlk : meth.locks = false) (hret : meth.sig.returnType = none) (hd : decode c.code pc = .ok (.return_, 1)) (hc : cells ≤ kc) (hs : slots ≤ ks) (hQ : Q none T.heap locs) :
    own_Gl p e below s Q kc ks (T.setTop (mkF m pc L [])) :=
  own_ret X hlk (fun _ => rfl) hQ hc hs fun fs hr => X.returnOut hx hret hd hr
/-- a static call by the callee's contract -/
theorem g_callS (X : Stand p l e R s m args below meth c T locs cells slots) (hx : p.tables.exec = Jvm.exec) (hZ : Z.Warmed39 s.vm) {own : String} {index : Nat} {y : MethodName} {bytes : ByteArray} {maxL : Nat} {ret : Option FieldType} (hown : s.vm.findClass own = some m.cls)
    (w1 : (Jvm.Cond.methodLink own index y).before a0 Z = true) (w2 : (Jvm.Cond.static y).before a0 Z = true) (w3 : (Jvm.Cond.initialized y.cls).before a0 Z = true) (w4 : (Jvm.Cond.code y bytes maxL ret).before a0 Z = true) (hy : y.cls ≠ "java/lang/invoke/MethodHandle" ∧ y.cls ≠ "java/lang/invoke/VarHandle")
    {rm : Room} {as' : Array Value} {Qc : Option Value → Heap → List Loc → Prop}
    (hM : MetFree l y (head1 [Jvm.Cond.code y bytes maxL ret] rm) (fun a U => a = as' ∧ Z.Warmed39 U.vm ∧ U.heap = h) (fun _ _ _ _ _ => True) (fun _ U o U' => ∃ v L, o = .returned v ∧ Qc v U'.heap L ∧ FrameEnd U o U' L rm.cells rm.slots))
    (W : Nat) (hf : rm.frames + 1 ≤ R.frames) (hl : W + (maxL + 11) + rm.locals ≤ R.locals) (eT : T.heap = h) (hsize : L.size = c.maxLocals) (argsL rest : List Value) (hlen : ∀ sig, parseMethodDescriptor y.desc = some sig → argsL.length = sig.parameters.length)
    (hst : S = argsL.reverse ++ rest) (has : argsL.toArray = as') (hW : (rest.map fun v => v.category).sum ≤ W) (hd : decode c.code pc = .ok (.invokestatic index, 3)) (hp : pc + 3 = pc') {cells' slots' : Nat} (hcc : cells + rm.cells = cells') (hss : slots + rm.slots = slots') (hcl : cells' ≤ R.cells) (hsl : slots' ≤ R.slots)
    (k : ∀ (v : Option Value) (T' : State) (L' : List Loc), Stand p l e R s m args below meth c T' (locs ++ L') cells' slots' → Qc v T'.heap L' → own_Gl p e below s Q kc ks (T'.setTop (mkF m pc' L (v.toList ++ rest)))) :
    own_Gl p e below s Q kc ks (T.setTop (mkF m pc L S)) := by
  subst hp hst hcc hss
  obtain ⟨v, _, ⟨T', L', k', n'⟩, -, X', ⟨Lc, hQ, l', y', z'⟩, st⟩ := Jvm.LawKit.callS X hx (y := y) hown (mvT hZ w1) (mvT hZ w2) (mvT hZ w3) (mvT hZ w4) hy (backOf (W := W) hM hZ w4 w3 hf hl) (g := mkF m pc L (argsL.reverse ++ rest)) rfl hsize (argsL := argsL) (rest := rest) hlen rfl (by show 2 * 0 + _ ≤ _; omega) hd (fun _ _ => ⟨has, eT, hcl, hsl⟩)
  dsimp only [Pt.U, Pt.locs, Pt.cells, Pt.slots] at X' l' y' z' st hQ
  subst l' y' z'
  exact (k v T' Lc X' hQ).go st
/-- the same of a method that writes nothing -/
theorem g_callP (X : Stand p l e R s m args below meth c T locs cells slots) (hx : p.tables.exec = Jvm.exec) (hZ : Z.Warmed39 s.vm) {own : String} {index : Nat} {y : MethodName} {bytes : ByteArray} {maxL : Nat} {ret : Option FieldType} (hown : s.vm.findClass own = some m.cls)
    (w1 : (Jvm.Cond.methodLink own index y).before a0 Z = true) (w2 : (Jvm.Cond.static y).before a0 Z = true) (w3 : (Jvm.Cond.initialized y.cls).before a0 Z = true) (w4 : (Jvm.Cond.code y bytes maxL ret).before a0 Z = true) (hy : y.cls ≠ "java/lang/invoke/MethodHandle" ∧ y.cls ≠ "java/lang/invoke/VarHandle")
    {fr lo : Nat} {as' : Array Value} {w : Option Value}
    (hM : MetFree l y (head1 [Jvm.Cond.code y bytes maxL ret] ({ frames := fr, cells := 0, slots := 0, locals := lo } : Room)) (fun a U => a = as' ∧ Z.Warmed39 U.vm ∧ U.heap = h) (fun _ _ _ _ _ => True) (fun _ U o U' => ∃ v L, o = .returned v ∧ own_Pure w h v U'.heap L ∧ FrameEnd U o U' L ({ frames := fr, cells := 0, slots := 0, locals := lo } : Room).cells ({ frames := fr, cells := 0, slots := 0, locals := lo } : Room).slots))
    (W : Nat) (hf : fr + 1 ≤ R.frames) (hl : W + (maxL + 11) + lo ≤ R.locals) (eT : T.heap = h) (hsize : L.size = c.maxLocals) (argsL rest : List Value) (hlen : ∀ sig, parseMethodDescriptor y.desc = some sig → argsL.length = sig.parameters.length)
    (hst : S = argsL.reverse ++ rest) (has : argsL.toArray = as') (hW : (rest.map fun v => v.category).sum ≤ W) (hd : decode c.code pc = .ok (.invokestatic index, 3)) (hp : pc + 3 = pc') (hcl : cells ≤ R.cells) (hsl : slots ≤ R.slots)
    (k : ∀ (T' : State), Stand p l e R s m args below meth c T' locs cells slots → T'.heap = h → own_Gl p e below s Q kc ks (T'.setTop (mkF m pc' L (w.toList ++ rest)))) :
    own_Gl p e below s Q kc ks (T.setTop (mkF m pc L S)) := by
  refine g_callS X hx hZ hown w1 w2 w3 w4 hy hM W hf hl eT hsize argsL rest hlen hst has hW hd hp (cells' := cells) (slots' := slots) rfl rfl hcl hsl ?_
  intro v T' L' X' hQ
  obtain ⟨rfl, rfl, e'⟩ := hQ
  rw [List.append_nil] at X'
  exact k T' X' e'
theorem own_tltL {x y : Int64} (h : x < y) : ifCond.holds .lt (lcmpW x y) = true ∧ ifCond.holds .ge (lcmpW x y) = false ∧ ifCond.holds .gt (lcmpW y x) = true ∧ ifCond.holds .le (lcmpW y x) = false := by
  have h1 := (lw_lt x y).mpr h
  have h2 := (lw_gt y x).mpr h
  rw [if0, if0, if0, if0]
  exact ⟨(tlt h1).1, (tlt h1).2.1, (tlt h2).2.2.1, (tlt h2).2.2.2⟩
theorem own_fltL {x y : Int64} (h : ¬ x < y) : ifCond.holds .lt (lcmpW x y) = false ∧ ifCond.holds .ge (lcmpW x y) = true ∧ ifCond.holds .gt (lcmpW y x) = false ∧ ifCond.holds .le (lcmpW y x) = true := by
  have h1 := fun q => h ((lw_lt x y).mp q)
  have h2 := fun q => h ((lw_gt y x).mp q)
  rw [if0, if0, if0, if0]
  exact ⟨(flt h1).1, (flt h1).2.1, (flt h2).2.2.1, (flt h2).2.2.2⟩
theorem own_teqL {x y : Int64} (h : x = y) : ifCond.holds .eq (lcmpW x y) = true ∧ ifCond.holds .ne (lcmpW x y) = false := by
  have h1 := (lw_eq x y).mpr h
  rw [if0, if0]
  exact ⟨(teq h1).1, (teq h1).2⟩
theorem own_feqL {x y : Int64} (h : ¬ x = y) : ifCond.holds .eq (lcmpW x y) = false ∧ ifCond.holds .ne (lcmpW x y) = true := by
  have h1 := fun q => h ((lw_eq x y).mp q)
  rw [if0, if0]
  exact ⟨(feq h1).1, (feq h1).2⟩
theorem g_iloadN (h : At T m c below) (hx : p.tables.exec = Jvm.exec) {j : Fin 4} {v : Int32} (hd : decode c.code pc = .ok (.iload_n j, 1)) (hp : pc + 1 = pc') (hl : L[j.val]? = some (.val (.int v))) (hr : own_Gl p e below s Q kc ks (T.setTop (mkF m pc' L (.int v :: S)))) : own_Gl p e below s Q kc ks (T.setTop (mkF m pc L S)) := by
  subst hp; exact hr.go fun t k => XS.iloadN h hx rfl hd hl k
theorem g_lloadN (h : At T m c below) (hx : p.tables.exec = Jvm.exec) {j : Fin 4} {v : Int64} (hd : decode c.code pc = .ok (.lload_n j, 1)) (hp : pc + 1 = pc') (hl : L[j.val]? = some (.val (.long v))) (hr : own_Gl p e below s Q kc ks (T.setTop (mkF m pc' L (.long v :: S)))) : own_Gl p e below s Q kc ks (T.setTop (mkF m pc L S)) := by
  subst hp; exact hr.go fun t k => XS.lloadN h hx rfl hd hl k
theorem g_aloadN (h : At T m c below) (hx : p.tables.exec = Jvm.exec) {j : Fin 4} {v : Value} (hd : decode c.code pc = .ok (.aload_n j, 1)) (hp : pc + 1 = pc') (hl : L[j.val]? = some (.val v)) (hv : v.isRef = true) (hr : own_Gl p e below s Q kc ks (T.setTop (mkF m pc' L (v :: S)))) : own_Gl p e below s Q kc ks (T.setTop (mkF m pc L S)) := by
  subst hp; exact hr.go fun t k => XS.aloadN h hx rfl hd hl hv k
theorem g_istoreN (h : At T m c below) (hx : p.tables.exec = Jvm.exec) {j : Fin 4} {v : Int32} (hd : decode c.code pc = .ok (.istore_n j, 1)) (hp : pc + 1 = pc') (hl : storeLocals L j.val (.int v) = some L') (hr : own_Gl p e below s Q kc ks (T.setTop (mkF m pc' L' S))) : own_Gl p e below s Q kc ks (T.setTop (mkF m pc L (.int v :: S))) := by
  subst hp; exact hr.go fun t k => XS.istoreN h hx rfl hd rfl hl k
theorem g_lstoreN (h : At T m c below) (hx : p.tables.exec = Jvm.exec) {j : Fin 4} {v : Int64} (hd : decode c.code pc = .ok (.lstore_n j, 1)) (hp : pc + 1 = pc') (hl : storeLocals L j.val (.long v) = some L') (hr : own_Gl p e below s Q kc ks (T.setTop (mkF m pc' L' S))) : own_Gl p e below s Q kc ks (T.setTop (mkF m pc L (.long v :: S))) := by
  subst hp; exact hr.go fun t k => XS.lstoreN h hx rfl hd rfl hl k
theorem g_astoreN (h : At T m c below) (hx : p.tables.exec = Jvm.exec) {j : Fin 4} {v : Value} (hd : decode c.code pc = .ok (.astore_n j, 1)) (hp : pc + 1 = pc') (hv : v.isRef = true) (hl : storeLocals L j.val v = some L') (hr : own_Gl p e below s Q kc ks (T.setTop (mkF m pc' L' S))) : own_Gl p e below s Q kc ks (T.setTop (mkF m pc L (v :: S))) := by
  subst hp; exact hr.go fun t k => XS.astoreN h hx rfl hd rfl hv hl k
theorem g_iload (h : At T m c below) (hx : p.tables.exec = Jvm.exec) {j : Nat} {v : Int32} (hd : decode c.code pc = .ok (.iload j, 2)) (hp : pc + 2 = pc') (hl : L[j]? = some (.val (.int v))) (hr : own_Gl p e below s Q kc ks (T.setTop (mkF m pc' L (.int v :: S)))) : own_Gl p e below s Q kc ks (T.setTop (mkF m pc L S)) := by
  subst hp; exact hr.go fun t k => XS.iload h hx rfl hd hl k
theorem g_lload (h : At T m c below) (hx : p.tables.exec = Jvm.exec) {j : Nat} {v : Int64} (hd : decode c.code pc = .ok (.lload j, 2)) (hp : pc + 2 = pc') (hl : L[j]? = some (.val (.long v))) (hr : own_Gl p e below s Q kc ks (T.setTop (mkF m pc' L (.long v :: S)))) : own_Gl p e below s Q kc ks (T.setTop (mkF m pc L S)) := by
  subst hp; exact hr.go fun t k => XS.lload h hx rfl hd hl k
theorem g_aload (h : At T m c below) (hx : p.tables.exec = Jvm.exec) {j : Nat} {v : Value} (hd : decode c.code pc = .ok (.aload j, 2)) (hp : pc + 2 = pc') (hl : L[j]? = some (.val v)) (hv : v.isRef = true) (hr : own_Gl p e below s Q kc ks (T.setTop (mkF m pc' L (v :: S)))) : own_Gl p e below s Q kc ks (T.setTop (mkF m pc L S)) := by
  subst hp; exact hr.go fun t k => XS.aload h hx rfl hd hl hv k
theorem g_istore (h : At T m c below) (hx : p.tables.exec = Jvm.exec) {j : Nat} {v : Int32} (hd : decode c.code pc = .ok (.istore j, 2)) (hp : pc + 2 = pc') (hl : storeLocals L j (.int v) = some L') (hr : own_Gl p e below s Q kc ks (T.setTop (mkF m pc' L' S))) : own_Gl p e below s Q kc ks (T.setTop (mkF m pc L (.int v :: S))) := by
  subst hp; exact hr.go fun t k => XS.istore h hx rfl hd rfl hl k
theorem g_lstore (h : At T m c below) (hx : p.tables.exec = Jvm.exec) {j : Nat} {v : Int64} (hd : decode c.code pc = .ok (.lstore j, 2)) (hp : pc + 2 = pc') (hl : storeLocals L j (.long v) = some L') (hr : own_Gl p e below s Q kc ks (T.setTop (mkF m pc' L' S))) : own_Gl p e below s Q kc ks (T.setTop (mkF m pc L (.long v :: S))) := by
  subst hp; exact hr.go fun t k => XS.lstore h hx rfl hd rfl hl k
theorem g_astore (h : At T m c below) (hx : p.tables.exec = Jvm.exec) {j : Nat} {v : Value} (hd : decode c.code pc = .ok (.astore j, 2)) (hp : pc + 2 = pc') (hv : v.isRef = true) (hl : storeLocals L j v = some L') (hr : own_Gl p e below s Q kc ks (T.setTop (mkF m pc' L' S))) : own_Gl p e below s Q kc ks (T.setTop (mkF m pc L (v :: S))) := by
  subst hp; exact hr.go fun t k => XS.astore h hx rfl hd rfl hv hl k
theorem g_iconst (h : At T m c below) (hx : p.tables.exec = Jvm.exec) {i : Int} {z : Int32} (hd : decode c.code pc = .ok (.iconst i, 1)) (hp : pc + 1 = pc') (hz : Int32.ofInt i = z) (hr : own_Gl p e below s Q kc ks (T.setTop (mkF m pc' L (.int z :: S)))) : own_Gl p e below s Q kc ks (T.setTop (mkF m pc L S)) := by
  subst hp hz; exact hr.go fun t k => XS.iconst h hx rfl hd k
theorem g_bipush (h : At T m c below) (hx : p.tables.exec = Jvm.exec) {i : Int} {z : Int32} (hd : decode c.code pc = .ok (.bipush i, 2)) (hp : pc + 2 = pc') (hz : (Int8.ofInt i).toInt32 = z) (hr : own_Gl p e below s Q kc ks (T.setTop (mkF m pc' L (.int z :: S)))) : own_Gl p e below s Q kc ks (T.setTop (mkF m pc L S)) := by
  subst hp hz; exact hr.go fun t k => XS.bipush h hx rfl hd k
theorem g_sipush (h : At T m c below) (hx : p.tables.exec = Jvm.exec) {i : Int} {z : Int32} (hd : decode c.code pc = .ok (.sipush i, 3)) (hp : pc + 3 = pc') (hz : (Int16.ofInt i).toInt32 = z) (hr : own_Gl p e below s Q kc ks (T.setTop (mkF m pc' L (.int z :: S)))) : own_Gl p e below s Q kc ks (T.setTop (mkF m pc L S)) := by
  subst hp hz; exact hr.go fun t k => XS.sipush h hx rfl hd k
theorem g_lconst (h : At T m c below) (hx : p.tables.exec = Jvm.exec) {i : Fin 2} {z : Int64} (hd : decode c.code pc = .ok (.lconst i, 1)) (hp : pc + 1 = pc') (hz : Int64.ofNat i = z) (hr : own_Gl p e below s Q kc ks (T.setTop (mkF m pc' L (.long z :: S)))) : own_Gl p e below s Q kc ks (T.setTop (mkF m pc L S)) := by
  subst hp hz; exact hr.go fun t k => XS.lconst h hx rfl hd k
theorem g_aconstNull (h : At T m c below) (hx : p.tables.exec = Jvm.exec)  (hd : decode c.code pc = .ok (.aconst_null, 1)) (hp : pc + 1 = pc')  (hr : own_Gl p e below s Q kc ks (T.setTop (mkF m pc' L (.null :: S)))) : own_Gl p e below s Q kc ks (T.setTop (mkF m pc L S)) := by
  subst hp; exact hr.go fun t k => XS.aconstNull h hx rfl hd k
theorem g_iadd (h : At T m c below) (hx : p.tables.exec = Jvm.exec) {u v : Int32} (hd : decode c.code pc = .ok (.iadd, 1)) (hp : pc + 1 = pc')  (hr : own_Gl p e below s Q kc ks (T.setTop (mkF m pc' L (.int (u + v) :: S)))) : own_Gl p e below s Q kc ks (T.setTop (mkF m pc L (.int v :: .int u :: S))) := by
  subst hp; exact hr.go fun t k => XS.iadd h hx rfl hd rfl k
theorem g_ladd (h : At T m c below) (hx : p.tables.exec = Jvm.exec) {u v : Int64} (hd : decode c.code pc = .ok (.ladd, 1)) (hp : pc + 1 = pc')  (hr : own_Gl p e below s Q kc ks (T.setTop (mkF m pc' L (.long (u + v) :: S)))) : own_Gl p e below s Q kc ks (T.setTop (mkF m pc L (.long v :: .long u :: S))) := by
  subst hp; exact hr.go fun t k => XS.ladd h hx rfl hd rfl k
theorem g_isub (h : At T m c below) (hx : p.tables.exec = Jvm.exec) {u v : Int32} (hd : decode c.code pc = .ok (.isub, 1)) (hp : pc + 1 = pc')  (hr : own_Gl p e below s Q kc ks (T.setTop (mkF m pc' L (.int (u - v) :: S)))) : own_Gl p e below s Q kc ks (T.setTop (mkF m pc L (.int v :: .int u :: S))) := by
  subst hp; exact hr.go fun t k => XS.isub h hx rfl hd rfl k
theorem g_lsub (h : At T m c below) (hx : p.tables.exec = Jvm.exec) {u v : Int64} (hd : decode c.code pc = .ok (.lsub, 1)) (hp : pc + 1 = pc')  (hr : own_Gl p e below s Q kc ks (T.setTop (mkF m pc' L (.long (u - v) :: S)))) : own_Gl p e below s Q kc ks (T.setTop (mkF m pc L (.long v :: .long u :: S))) := by
  subst hp; exact hr.go fun t k => XS.lsub h hx rfl hd rfl k
theorem g_imul (h : At T m c below) (hx : p.tables.exec = Jvm.exec) {u v : Int32} (hd : decode c.code pc = .ok (.imul, 1)) (hp : pc + 1 = pc')  (hr : own_Gl p e below s Q kc ks (T.setTop (mkF m pc' L (.int (u * v) :: S)))) : own_Gl p e below s Q kc ks (T.setTop (mkF m pc L (.int v :: .int u :: S))) := by
  subst hp; exact hr.go fun t k => XS.imul h hx rfl hd rfl k
theorem g_lmul (h : At T m c below) (hx : p.tables.exec = Jvm.exec) {u v : Int64} (hd : decode c.code pc = .ok (.lmul, 1)) (hp : pc + 1 = pc')  (hr : own_Gl p e below s Q kc ks (T.setTop (mkF m pc' L (.long (u * v) :: S)))) : own_Gl p e below s Q kc ks (T.setTop (mkF m pc L (.long v :: .long u :: S))) := by
  subst hp; exact hr.go fun t k => XS.lmul h hx rfl hd rfl k
theorem g_iand (h : At T m c below) (hx : p.tables.exec = Jvm.exec) {u v : Int32} (hd : decode c.code pc = .ok (.iand, 1)) (hp : pc + 1 = pc')  (hr : own_Gl p e below s Q kc ks (T.setTop (mkF m pc' L (.int (u &&& v) :: S)))) : own_Gl p e below s Q kc ks (T.setTop (mkF m pc L (.int v :: .int u :: S))) := by
  subst hp; exact hr.go fun t k => XS.iand h hx rfl hd rfl k
theorem g_land (h : At T m c below) (hx : p.tables.exec = Jvm.exec) {u v : Int64} (hd : decode c.code pc = .ok (.land, 1)) (hp : pc + 1 = pc')  (hr : own_Gl p e below s Q kc ks (T.setTop (mkF m pc' L (.long (u &&& v) :: S)))) : own_Gl p e below s Q kc ks (T.setTop (mkF m pc L (.long v :: .long u :: S))) := by
  subst hp; exact hr.go fun t k => XS.land h hx rfl hd rfl k
theorem g_ior (h : At T m c below) (hx : p.tables.exec = Jvm.exec) {u v : Int32} (hd : decode c.code pc = .ok (.ior, 1)) (hp : pc + 1 = pc')  (hr : own_Gl p e below s Q kc ks (T.setTop (mkF m pc' L (.int (u ||| v) :: S)))) : own_Gl p e below s Q kc ks (T.setTop (mkF m pc L (.int v :: .int u :: S))) := by
  subst hp; exact hr.go fun t k => XS.ior h hx rfl hd rfl k
theorem g_lor (h : At T m c below) (hx : p.tables.exec = Jvm.exec) {u v : Int64} (hd : decode c.code pc = .ok (.lor, 1)) (hp : pc + 1 = pc')  (hr : own_Gl p e below s Q kc ks (T.setTop (mkF m pc' L (.long (u ||| v) :: S)))) : own_Gl p e below s Q kc ks (T.setTop (mkF m pc L (.long v :: .long u :: S))) := by
  subst hp; exact hr.go fun t k => XS.lor h hx rfl hd rfl k
theorem g_ixor (h : At T m c below) (hx : p.tables.exec = Jvm.exec) {u v : Int32} (hd : decode c.code pc = .ok (.ixor, 1)) (hp : pc + 1 = pc')  (hr : own_Gl p e below s Q kc ks (T.setTop (mkF m pc' L (.int (u ^^^ v) :: S)))) : own_Gl p e below s Q kc ks (T.setTop (mkF m pc L (.int v :: .int u :: S))) := by
  subst hp; exact hr.go fun t k => XS.ixor h hx rfl hd rfl k
theorem g_lxor (h : At T m c below) (hx : p.tables.exec = Jvm.exec) {u v : Int64} (hd : decode c.code pc = .ok (.lxor, 1)) (hp : pc + 1 = pc')  (hr : own_Gl p e below s Q kc ks (T.setTop (mkF m pc' L (.long (u ^^^ v) :: S)))) : own_Gl p e below s Q kc ks (T.setTop (mkF m pc L (.long v :: .long u :: S))) := by
  subst hp; exact hr.go fun t k => XS.lxor h hx rfl hd rfl k
theorem g_ishl (h : At T m c below) (hx : p.tables.exec = Jvm.exec) {u v : Int32} (hd : decode c.code pc = .ok (.ishl, 1)) (hp : pc + 1 = pc')  (hr : own_Gl p e below s Q kc ks (T.setTop (mkF m pc' L (.int (u <<< (v &&& 31)) :: S)))) : own_Gl p e below s Q kc ks (T.setTop (mkF m pc L (.int v :: .int u :: S))) := by
  subst hp; exact hr.go fun t k => XS.ishl h hx rfl hd rfl k
theorem g_ishr (h : At T m c below) (hx : p.tables.exec = Jvm.exec) {u v : Int32} (hd : decode c.code pc = .ok (.ishr, 1)) (hp : pc + 1 = pc')  (hr : own_Gl p e below s Q kc ks (T.setTop (mkF m pc' L (.int (u >>> (v &&& 31)) :: S)))) : own_Gl p e below s Q kc ks (T.setTop (mkF m pc L (.int v :: .int u :: S))) := by
  subst hp; exact hr.go fun t k => XS.ishr h hx rfl hd rfl k
theorem g_iushr (h : At T m c below) (hx : p.tables.exec = Jvm.exec) {u v : Int32} (hd : decode c.code pc = .ok (.iushr, 1)) (hp : pc + 1 = pc')  (hr : own_Gl p e below s Q kc ks (T.setTop (mkF m pc' L (.int ((u.toUInt32 >>> (v &&& 31).toUInt32).toInt32) :: S)))) : own_Gl p e below s Q kc ks (T.setTop (mkF m pc L (.int v :: .int u :: S))) := by
  subst hp; exact hr.go fun t k => XS.iushr h hx rfl hd rfl k
theorem g_lshl (h : At T m c below) (hx : p.tables.exec = Jvm.exec) {u : Int64} {v : Int32} (hd : decode c.code pc = .ok (.lshl, 1)) (hp : pc + 1 = pc')  (hr : own_Gl p e below s Q kc ks (T.setTop (mkF m pc' L (.long (u <<< (v &&& 0x3f).toInt64) :: S)))) : own_Gl p e below s Q kc ks (T.setTop (mkF m pc L (.int v :: .long u :: S))) := by
  subst hp; exact hr.go fun t k => XS.lshl h hx rfl hd rfl k
theorem g_lshr (h : At T m c below) (hx : p.tables.exec = Jvm.exec) {u : Int64} {v : Int32} (hd : decode c.code pc = .ok (.lshr, 1)) (hp : pc + 1 = pc')  (hr : own_Gl p e below s Q kc ks (T.setTop (mkF m pc' L (.long (u >>> (v &&& 0x3f).toInt64) :: S)))) : own_Gl p e below s Q kc ks (T.setTop (mkF m pc L (.int v :: .long u :: S))) := by
  subst hp; exact hr.go fun t k => XS.lshr h hx rfl hd rfl k
theorem g_lushr (h : At T m c below) (hx : p.tables.exec = Jvm.exec) {u : Int64} {v : Int32} (hd : decode c.code pc = .ok (.lushr, 1)) (hp : pc + 1 = pc')  (hr : own_Gl p e below s Q kc ks (T.setTop (mkF m pc' L (.long ((u.toUInt64 >>> (v &&& 0x3f).toInt64.toUInt64).toInt64) :: S)))) : own_Gl p e below s Q kc ks (T.setTop (mkF m pc L (.int v :: .long u :: S))) := by
  subst hp; exact hr.go fun t k => XS.lushr h hx rfl hd rfl k
theorem g_idiv (h : At T m c below) (hx : p.tables.exec = Jvm.exec) {u v : Int32} (hd : decode c.code pc = .ok (.idiv, 1)) (hp : pc + 1 = pc') (hy : v ≠ 0) (hr : own_Gl p e below s Q kc ks (T.setTop (mkF m pc' L (.int (u / v) :: S)))) : own_Gl p e below s Q kc ks (T.setTop (mkF m pc L (.int v :: .int u :: S))) := by
  subst hp; exact hr.go fun t k => XS.idiv h hx rfl hd rfl hy k
theorem g_ldiv (h : At T m c below) (hx : p.tables.exec = Jvm.exec) {u v : Int64} (hd : decode c.code pc = .ok (.ldiv, 1)) (hp : pc + 1 = pc') (hy : v ≠ 0) (hr : own_Gl p e below s Q kc ks (T.setTop (mkF m pc' L (.long (u / v) :: S)))) : own_Gl p e below s Q kc ks (T.setTop (mkF m pc L (.long v :: .long u :: S))) := by
  subst hp; exact hr.go fun t k => XS.ldiv h hx rfl hd rfl hy k
theorem g_irem (X : Stand p l e R s m args below meth c T locs cells slots) (hx : p.tables.exec = Jvm.exec) {u v : Int32} (hd : decode c.code pc = .ok (.irem, 1)) (hp : pc + 1 = pc') (hy : v ≠ 0) (hr : own_Gl p e below s Q kc ks (T.setTop (mkF m pc' L (.int (u % v) :: S)))) : own_Gl p e below s Q kc ks (T.setTop (mkF m pc L (.int v :: .int u :: S))) := by
  subst hp; exact hr.go fun t k => iremM X hx rfl hd rfl hy k
theorem g_lrem (h : At T m c below) (hx : p.tables.exec = Jvm.exec) {u v : Int64} (hd : decode c.code pc = .ok (.lrem, 1)) (hp : pc + 1 = pc') (hy : v ≠ 0) (hr : own_Gl p e below s Q kc ks (T.setTop (mkF m pc' L (.long (u % v) :: S)))) : own_Gl p e below s Q kc ks (T.setTop (mkF m pc L (.long v :: .long u :: S))) := by
  subst hp; exact hr.go fun t k => XS.lrem h hx rfl hd rfl hy (by rw [lrem_mod]; exact k)
theorem g_ineg (h : At T m c below) (hx : p.tables.exec = Jvm.exec) {u : Int32} (hd : decode c.code pc = .ok (.ineg, 1)) (hp : pc + 1 = pc')  (hr : own_Gl p e below s Q kc ks (T.setTop (mkF m pc' L (.int (-u) :: S)))) : own_Gl p e below s Q kc ks (T.setTop (mkF m pc L (.int u :: S))) := by
  subst hp; exact hr.go fun t k => XS.ineg h hx rfl hd rfl k
theorem g_lneg (h : At T m c below) (hx : p.tables.exec = Jvm.exec) {u : Int64} (hd : decode c.code pc = .ok (.lneg, 1)) (hp : pc + 1 = pc')  (hr : own_Gl p e below s Q kc ks (T.setTop (mkF m pc' L (.long (-u) :: S)))) : own_Gl p e below s Q kc ks (T.setTop (mkF m pc L (.long u :: S))) := by
  subst hp; exact hr.go fun t k => XS.lneg h hx rfl hd rfl k
theorem g_i2l (h : At T m c below) (hx : p.tables.exec = Jvm.exec) {u : Int32} (hd : decode c.code pc = .ok (.i2l, 1)) (hp : pc + 1 = pc')  (hr : own_Gl p e below s Q kc ks (T.setTop (mkF m pc' L (.long u.toInt64 :: S)))) : own_Gl p e below s Q kc ks (T.setTop (mkF m pc L (.int u :: S))) := by
  subst hp; exact hr.go fun t k => XS.i2l h hx rfl hd rfl k
theorem g_l2i (h : At T m c below) (hx : p.tables.exec = Jvm.exec) {u : Int64} (hd : decode c.code pc = .ok (.l2i, 1)) (hp : pc + 1 = pc')  (hr : own_Gl p e below s Q kc ks (T.setTop (mkF m pc' L (.int u.toInt32 :: S)))) : own_Gl p e below s Q kc ks (T.setTop (mkF m pc L (.long u :: S))) := by
  subst hp; exact hr.go fun t k => XS.l2i h hx rfl hd rfl k
theorem g_i2b (h : At T m c below) (hx : p.tables.exec = Jvm.exec) {u : Int32} (hd : decode c.code pc = .ok (.i2b, 1)) (hp : pc + 1 = pc')  (hr : own_Gl p e below s Q kc ks (T.setTop (mkF m pc' L (.int u.toInt8.toInt32 :: S)))) : own_Gl p e below s Q kc ks (T.setTop (mkF m pc L (.int u :: S))) := by
  subst hp; exact hr.go fun t k => XS.i2b h hx rfl hd rfl k
theorem g_i2s (h : At T m c below) (hx : p.tables.exec = Jvm.exec) {u : Int32} (hd : decode c.code pc = .ok (.i2s, 1)) (hp : pc + 1 = pc')  (hr : own_Gl p e below s Q kc ks (T.setTop (mkF m pc' L (.int u.toInt16.toInt32 :: S)))) : own_Gl p e below s Q kc ks (T.setTop (mkF m pc L (.int u :: S))) := by
  subst hp; exact hr.go fun t k => XS.i2s h hx rfl hd rfl k
theorem g_i2c (h : At T m c below) (hx : p.tables.exec = Jvm.exec) {u : Int32} (hd : decode c.code pc = .ok (.i2c, 1)) (hp : pc + 1 = pc')  (hr : own_Gl p e below s Q kc ks (T.setTop (mkF m pc' L (.int u.toUInt32.toUInt16.toUInt32.toInt32 :: S)))) : own_Gl p e below s Q kc ks (T.setTop (mkF m pc L (.int u :: S))) := by
  subst hp; exact hr.go fun t k => XS.i2c h hx rfl hd rfl k
theorem g_lcmp (h : At T m c below) (hx : p.tables.exec = Jvm.exec) {u v : Int64} (hd : decode c.code pc = .ok (.lcmp, 1)) (hp : pc + 1 = pc')  (hr : own_Gl p e below s Q kc ks (T.setTop (mkF m pc' L (.int (lcmpW u v) :: S)))) : own_Gl p e below s Q kc ks (T.setTop (mkF m pc L (.long v :: .long u :: S))) := by
  subst hp; exact hr.go fun t k => XS.lcmp h hx rfl hd rfl k
theorem g_dup (h : At T m c below) (hx : p.tables.exec = Jvm.exec) {v : Value} (hd : decode c.code pc = .ok (.dup, 1)) (hp : pc + 1 = pc') (hc : v.category = 1) (hr : own_Gl p e below s Q kc ks (T.setTop (mkF m pc' L (v :: v :: S)))) : own_Gl p e below s Q kc ks (T.setTop (mkF m pc L (v :: S))) := by
  subst hp; exact hr.go fun t k => XS.dup h hx rfl hd rfl hc k
theorem g_pop (h : At T m c below) (hx : p.tables.exec = Jvm.exec) {v : Value} (hd : decode c.code pc = .ok (.pop, 1)) (hp : pc + 1 = pc') (hc : v.category = 1) (hr : own_Gl p e below s Q kc ks (T.setTop (mkF m pc' L S))) : own_Gl p e below s Q kc ks (T.setTop (mkF m pc L (v :: S))) := by
  subst hp; exact hr.go fun t k => XS.pop h hx rfl hd rfl hc k
theorem g_dupX1 (h : At T m c below) (hx : p.tables.exec = Jvm.exec) {v w : Value} (hd : decode c.code pc = .ok (.dup_x1, 1)) (hp : pc + 1 = pc') (hc : v.category = 1) (hc' : w.category = 1) (hr : own_Gl p e below s Q kc ks (T.setTop (mkF m pc' L (v :: w :: v :: S)))) : own_Gl p e below s Q kc ks (T.setTop (mkF m pc L (v :: w :: S))) := by
  subst hp; exact hr.go fun t k => XS.dupX1 h hx rfl hd rfl hc hc' k
theorem g_dup2 (h : At T m c below) (hx : p.tables.exec = Jvm.exec) {v w : Value} (hd : decode c.code pc = .ok (.dup2, 1)) (hp : pc + 1 = pc') (hc : v.category = 1) (hc' : w.category = 1) (hr : own_Gl p e below s Q kc ks (T.setTop (mkF m pc' L (v :: w :: v :: w :: S)))) : own_Gl p e below s Q kc ks (T.setTop (mkF m pc L (v :: w :: S))) := by
  subst hp; exact hr.go fun t k => XT.dup2 h hx rfl hd rfl hc hc' k
theorem g_dup2L (h : At T m c below) (hx : p.tables.exec = Jvm.exec) {v : Int64} (hd : decode c.code pc = .ok (.dup2, 1)) (hp : pc + 1 = pc')  (hr : own_Gl p e below s Q kc ks (T.setTop (mkF m pc' L (.long v :: .long v :: S)))) : own_Gl p e below s Q kc ks (T.setTop (mkF m pc L (.long v :: S))) := by
  subst hp; exact hr.go fun t k => XT.dup2L h hx rfl hd rfl k
theorem g_pop2L (h : At T m c below) (hx : p.tables.exec = Jvm.exec) {v : Int64} (hd : decode c.code pc = .ok (.pop2, 1)) (hp : pc + 1 = pc') (hr : own_Gl p e below s Q kc ks (T.setTop (mkF m pc' L S))) : own_Gl p e below s Q kc ks (T.setTop (mkF m pc L (.long v :: S))) := by
  subst hp
  refine hr.go fun t k => ?_
  jvm_step h [h.top, hx, hd, Value.category]
  exact k
theorem g_iinc (h : At T m c below) (hx : p.tables.exec = Jvm.exec) {j : Nat} {i : Int} {v z : Int32} (hd : decode c.code pc = .ok (.iinc j i, 3)) (hp : pc + 3 = pc') (hz : Int32.ofInt i = z) (hl : L[j]? = some (.val (.int v))) (hl' : storeLocals L j (.int (v + z)) = some L') (hr : own_Gl p e below s Q kc ks (T.setTop (mkF m pc' L' S))) : own_Gl p e below s Q kc ks (T.setTop (mkF m pc L S)) := by
  subst hp; exact hr.go fun t k => XS.iinc h hx rfl hd hl (by rw [hz]; exact hl') k
theorem g_goto (h : At T m c below) (hx : p.tables.exec = Jvm.exec) {i : Int} (hd : decode c.code pc = .ok (.goto i, 3)) (ho : 0 ≤ (pc : Int) + i) (hp : ((pc : Int) + i).toNat = pc') (hr : own_Gl p e below s Q kc ks (T.setTop (mkF m pc' L S))) : own_Gl p e below s Q kc ks (T.setTop (mkF m pc L S)) := hr.go fun t k => XS.goto h hx rfl (pc0 := pc) rfl hd ho hp k
theorem g_ifY (h : At T m c below) (hx : p.tables.exec = Jvm.exec) {cd : ClassFile.Cond} {i : Int} {x : Int32} (hd : decode c.code pc = .ok (.ifCond cd i, 3)) (ho : 0 ≤ (pc : Int) + i) (hp : ((pc : Int) + i).toNat = pc') (hc : ifCond.holds cd x = true) (hr : own_Gl p e below s Q kc ks (T.setTop (mkF m pc' L S))) : own_Gl p e below s Q kc ks (T.setTop (mkF m pc L (.int x :: S))) := hr.go fun t k => XS.ifYes h hx rfl (pc0 := pc) rfl hd rfl hc ho hp k
theorem g_ifN (h : At T m c below) (hx : p.tables.exec = Jvm.exec) {cd : ClassFile.Cond} {i : Int} {x : Int32} (hd : decode c.code pc = .ok (.ifCond cd i, 3)) (hp : pc + 3 = pc') (hc : ifCond.holds cd x = false) (hr : own_Gl p e below s Q kc ks (T.setTop (mkF m pc' L S))) : own_Gl p e below s Q kc ks (T.setTop (mkF m pc L (.int x :: S))) := by
  subst hp; exact hr.go fun t k => XS.ifNo h hx rfl hd rfl hc k
theorem g_icY (h : At T m c below) (hx : p.tables.exec = Jvm.exec) {cd : ClassFile.Cond} {i : Int} {x y : Int32} (hd : decode c.code pc = .ok (.if_icmp cd i, 3)) (ho : 0 ≤ (pc : Int) + i) (hp : ((pc : Int) + i).toNat = pc') (hc : if_icmp.holds cd x y = true) (hr : own_Gl p e below s Q kc ks (T.setTop (mkF m pc' L S))) : own_Gl p e below s Q kc ks (T.setTop (mkF m pc L (.int y :: .int x :: S))) := hr.go fun t k => XS.icmpYes h hx rfl (pc0 := pc) rfl hd rfl hc ho hp k
theorem g_icN (h : At T m c below) (hx : p.tables.exec = Jvm.exec) {cd : ClassFile.Cond} {i : Int} {x y : Int32} (hd : decode c.code pc = .ok (.if_icmp cd i, 3)) (hp : pc + 3 = pc') (hc : if_icmp.holds cd x y = false) (hr : own_Gl p e below s Q kc ks (T.setTop (mkF m pc' L S))) : own_Gl p e below s Q kc ks (T.setTop (mkF m pc L (.int y :: .int x :: S))) := by
  subst hp; exact hr.go fun t k => XS.icmpNo h hx rfl hd rfl hc k
theorem g_ifnullY (h : At T m c below) (hx : p.tables.exec = Jvm.exec)  {i : Int} (hd : decode c.code pc = .ok (.ifnull i, 3)) (ho : 0 ≤ (pc : Int) + i) (hp : ((pc : Int) + i).toNat = pc') (hr : own_Gl p e below s Q kc ks (T.setTop (mkF m pc' L S))) : own_Gl p e below s Q kc ks (T.setTop (mkF m pc L (.null :: S))) := hr.go fun t k => XS.ifnullYes h hx rfl (pc0 := pc) rfl hd rfl ho hp k
theorem g_ifnullN (h : At T m c below) (hx : p.tables.exec = Jvm.exec) {b : Addr} {i : Int} (hd : decode c.code pc = .ok (.ifnull i, 3)) (hp : pc + 3 = pc') (hr : own_Gl p e below s Q kc ks (T.setTop (mkF m pc' L S))) : own_Gl p e below s Q kc ks (T.setTop (mkF m pc L (.ref b :: S))) := by
  subst hp; exact hr.go fun t k => XS.ifnullNo h hx rfl hd rfl k
theorem g_ifnonnullY (h : At T m c below) (hx : p.tables.exec = Jvm.exec) {b : Addr} {i : Int} (hd : decode c.code pc = .ok (.ifnonnull i, 3)) (ho : 0 ≤ (pc : Int) + i) (hp : ((pc : Int) + i).toNat = pc') (hr : own_Gl p e below s Q kc ks (T.setTop (mkF m pc' L S))) : own_Gl p e below s Q kc ks (T.setTop (mkF m pc L (.ref b :: S))) := hr.go fun t k => XS.ifnonnullYes h hx rfl (pc0 := pc) rfl hd rfl ho hp k
theorem g_ifnonnullN (h : At T m c below) (hx : p.tables.exec = Jvm.exec)  {i : Int} (hd : decode c.code pc = .ok (.ifnonnull i, 3)) (hp : pc + 3 = pc') (hr : own_Gl p e below s Q kc ks (T.setTop (mkF m pc' L S))) : own_Gl p e below s Q kc ks (T.setTop (mkF m pc L (.null :: S))) := by
  subst hp; exact hr.go fun t k => XS.ifnonnullNo h hx rfl hd rfl k
theorem g_ldc (X : Stand p l e R s m args below meth c T locs cells slots) (hx : p.tables.exec = Jvm.exec) (hZ : Z.Warmed39 s.vm) {own : String} {index : Nat} {v : Int32} (hown : s.vm.findClass own = some m.cls) (w : (Jvm.Cond.constant own index v).before a0 Z = true) (hd : decode c.code pc = .ok (.ldc index, 2)) (hp : pc + 2 = pc') (hr : own_Gl p e below s Q kc ks (T.setTop (mkF m pc' L (.int v :: S)))) : own_Gl p e below s Q kc ks (T.setTop (mkF m pc L S)) := by
  subst hp; exact hr.go (X.ldcInt hx hown (mvT hZ w) (g := mkF m pc L S) rfl hd)
theorem g_ldcw (X : Stand p l e R s m args below meth c T locs cells slots) (hx : p.tables.exec = Jvm.exec) (hZ : Z.Warmed39 s.vm) {own : String} {index : Nat} {v : Int32} (hown : s.vm.findClass own = some m.cls) (w : (Jvm.Cond.constant own index v).before a0 Z = true) (hd : decode c.code pc = .ok (.ldc_w index, 3)) (hp : pc + 3 = pc') (hr : own_Gl p e below s Q kc ks (T.setTop (mkF m pc' L (.int v :: S)))) : own_Gl p e below s Q kc ks (T.setTop (mkF m pc L S)) := by
  subst hp; exact hr.go (X.ldcwInt hx hown (mvT hZ w) (g := mkF m pc L S) rfl hd)
theorem g_ldc2 (X : Stand p l e R s m args below meth c T locs cells slots) (hx : p.tables.exec = Jvm.exec) (hZ : Z.Warmed39 s.vm) {own : String} {index : Nat} {v : Int64} (hown : s.vm.findClass own = some m.cls) (w : (Jvm.Cond.constantLong own index v).before a0 Z = true) (hd : decode c.code pc = .ok (.ldc2_w index, 3)) (hp : pc + 3 = pc') (hr : own_Gl p e below s Q kc ks (T.setTop (mkF m pc' L (.long v :: S)))) : own_Gl p e below s Q kc ks (T.setTop (mkF m pc L S)) := by
  subst hp; exact hr.go (X.ldc2Long hx hown (mvT hZ w) (g := mkF m pc L S) rfl hd)
end OwnKit

section OwnHeap
variable {p : Program} {l : Launch} {e : Env} {R : Room} {s : State} {m : MethodId} {args : Array Value} {below : List Frame} {meth : Method} {c : Code} {T : State} {locs : List Loc} {cells slots : Nat} {Z : State} {a0 : Array Value} {h : Heap} {Q : Option Value → Heap → List Loc → Prop} {kc ks : Nat} {pc pc' : Nat} {L L' : Array Slot} {S : List Value}
/-- an array of ints, bytes or booleans by what each place holds -/
def own_IA (Z : State) (h : Heap) (a : Addr) (ty : FieldType) (n : Nat) (f : Nat → Int32) : Prop := ∃ c : Cell, Arr Z h a c ty ∧ c.slots.size = n ∧ ∀ i, i < n → c.slots[i]? = some (.int (f i))
theorem own_IA.lt {a : Addr} {ty : FieldType} {n : Nat} {f : Nat → Int32} (V : own_IA Z h a ty n f) : a < h.size := by obtain ⟨c, A, -⟩ := V; exact A.lt
theorem own_IA.ext {h' : Heap} {a : Addr} {ty : FieldType} {n : Nat} {f : Nat → Int32} (V : own_IA Z h a ty n f) (E : Ext h h') : own_IA Z h' a ty n f := by obtain ⟨c, A, r⟩ := V; exact ⟨c, A.ext E, r⟩
theorem own_IA.other {h' : Heap} {a b : Addr} {ty : FieldType} {n sl : Nat} {v : Value} {f : Nat → Int32} (V : own_IA Z h b ty n f) (W : Wr h h' a sl v) (q : b ≠ a) : own_IA Z h' b ty n f := by obtain ⟨c, A, r⟩ := V; exact ⟨c, A.other W q, r⟩
theorem own_IA.keep {h' : Heap} {ws : List Addr} {a : Addr} {ty : FieldType} {n : Nat} {f : Nat → Int32} (V : own_IA Z h a ty n f) (K : Keep h h' ws) (q : a ∉ ws) : own_IA Z h' a ty n f := by obtain ⟨c, A, r⟩ := V; exact ⟨c, ⟨K.2.1 a c A.1 q, A.2⟩, r⟩
theorem own_IA.congr {a : Addr} {ty : FieldType} {n : Nat} {f g : Nat → Int32} (V : own_IA Z h a ty n f) (q : ∀ i, i < n → f i = g i) : own_IA Z h a ty n g := by obtain ⟨c, A, S, H⟩ := V; exact ⟨c, A, S, fun i hi => by rw [H i hi, q i hi]⟩
theorem own_clamp (j : Int32) : j.toNatClampNeg = j.toInt.toNat := rfl
theorem own_in {c : Cell} {n : Nat} (S : c.slots.size = n) {j : Int32} (hj : 0 ≤ j.toInt ∧ j.toInt < n) : ¬ (j < 0 ∨ c.slots.size ≤ j.toNatClampNeg) := by
  have k : (0 : Int32).toInt = 0 := by decide
  rw [Int32.lt_iff_toInt_lt, own_clamp, S, k]; omega
theorem own_IA.set {h' : Heap} {a : Addr} {ty : FieldType} {n : Nat} {x : Int32} {k : Nat} {f : Nat → Int32} (V : own_IA Z h a ty n f) (W : Wr h h' a k (.int x)) : own_IA Z h' a ty n (fun i => if i = k then x else f i) := by
  obtain ⟨c, A, S, H⟩ := V
  refine ⟨c.setSlot k (.int x), A.same W, by rw [sz_set]; exact S, fun i hi => ?_⟩
  show (c.slots.setIfInBounds k (.int x))[i]? = some (Value.int (if i = k then x else f i))
  by_cases q : i = k
  · subst q
    rw [Array.getElem?_setIfInBounds_self_of_lt (by omega), if_pos rfl]
  · rw [Array.getElem?_setIfInBounds_ne (fun z => q z.symm), H i hi, if_neg q]
theorem g_getF (X : Stand p l e R s m args below meth c T locs cells slots) (hx : p.tables.exec = Jvm.exec) (hZ : Z.Warmed39 s.vm) {own R0 O n d host : String} {index : Nat} (hown : s.vm.findClass own = some m.cls) (w : (Jvm.Cond.fieldLink own index R0 n d).before a0 Z = true ∨ (Jvm.Cond.fieldLinkNest own index R0 n d host).before a0 Z = true) (via : Via Z R0 O n d)
    (eT : T.heap = h) {a : Addr} {v : Value} (F : Fld Z h a O n d v) (hd : decode c.code pc = .ok (.getfield index, 3)) (hp : pc + 3 = pc') (k : ∀ T' : State, Stand p l e R s m args below meth c T' locs cells slots → T'.heap = h → own_Gl p e below s Q kc ks (T'.setTop (mkF m pc' L (v :: S)))) :
    own_Gl p e below s Q kc ks (T.setTop (mkF m pc L (.ref a :: S))) := by
  subst hp
  obtain ⟨T', X', e', st⟩ := getF X hx hZ hown w via eT F (g := mkF m pc L (.ref a :: S)) rfl rfl hd
  exact (k T' X' e').go st
theorem g_putF (X : Stand p l e R s m args below meth c T locs cells slots) (hx : p.tables.exec = Jvm.exec) (hZ : Z.Warmed39 s.vm) {own R0 O n d host C : String} {index kk : Nat} {ty : FieldType} (hown : s.vm.findClass own = some m.cls) (w : (Jvm.Cond.fieldLink own index R0 n d).before a0 Z = true ∨ (Jvm.Cond.fieldLinkNest own index R0 n d host).before a0 Z = true) (via : Via Z R0 O n d)
    (eT : T.heap = h) {a : Addr} {v old : Value} (F : Fld Z h a O n d old) (E : Exa Z h a C) (Ly : (Jvm.Cond.lays C O n d).before a0 Z = true ∨ ((Jvm.Cond.laysFinal C O n d).before a0 Z = true ∧ own = O ∧ meth.name = "<init>")) (wi : (Jvm.Cond.instantiable C kk).before a0 Z = true)
    (hty : parseFieldDescriptor d = some ty) (hn : narrow ty v = v) (hf : fits ty v = true) (hd : decode c.code pc = .ok (.putfield index, 3)) (hp : pc + 3 = pc')
    (k : ∀ (T' : State) (h' : Heap), Stand p l e R s m args below meth c T' (locs ++ [⟨a, Jvm.RoadKit.slotOf Z O n d⟩]) cells slots → T'.heap = h' → Wr h h' a (Jvm.RoadKit.slotOf Z O n d) v → own_Gl p e below s Q kc ks (T'.setTop (mkF m pc' L S))) :
    own_Gl p e below s Q kc ks (T.setTop (mkF m pc L (v :: .ref a :: S))) := by
  subst hp
  obtain ⟨T', h', X', e', W', st⟩ := putF X hx hZ hown w via eT F E Ly wi hty hn hf (g := mkF m pc L (v :: .ref a :: S)) rfl rfl hd
  exact (k T' h' X' e' W').go st
theorem g_putFN (X : Stand p l e R s m args below meth c T locs cells slots) (hx : p.tables.exec = Jvm.exec) (hZ : Z.Warmed39 s.vm) {own R0 O n d C : String} {index kk : Nat} {ty : FieldType} (hown : s.vm.findClass own = some m.cls) (w : (Jvm.Cond.fieldLink own index R0 n d).before a0 Z = true) (via : Via Z R0 O n d)
    (eT : T.heap = h) {a : Addr} {v v' old : Value} (F : Fld Z h a O n d old) (E : Exa Z h a C) (Ly : (Jvm.Cond.lays C O n d).before a0 Z = true ∨ ((Jvm.Cond.laysFinal C O n d).before a0 Z = true ∧ own = O ∧ meth.name = "<init>")) (wi : (Jvm.Cond.instantiable C kk).before a0 Z = true)
    (hty : parseFieldDescriptor d = some ty) (hn : narrow ty v = v') (hf : fits ty v' = true) (hd : decode c.code pc = .ok (.putfield index, 3)) (hp : pc + 3 = pc')
    (k : ∀ (T' : State) (h' : Heap), Stand p l e R s m args below meth c T' (locs ++ [⟨a, Jvm.RoadKit.slotOf Z O n d⟩]) cells slots → T'.heap = h' → Wr h h' a (Jvm.RoadKit.slotOf Z O n d) v' → own_Gl p e below s Q kc ks (T'.setTop (mkF m pc' L S))) :
    own_Gl p e below s Q kc ks (T.setTop (mkF m pc L (v :: .ref a :: S))) := by
  subst hp
  obtain ⟨T', h', X', e', W', st⟩ := putFN X hx hZ hown w via eT F E Ly wi hty hn hf (g := mkF m pc L (v :: .ref a :: S)) rfl rfl hd
  exact (k T' h' X' e' W').go st
theorem g_new (X : Stand p l e R s m args below meth c T locs cells slots) (hx : p.tables.exec = Jvm.exec) (hZ : Z.Warmed39 s.vm) {own C : String} {index n : Nat} (hown : s.vm.findClass own = some m.cls) (w : (Jvm.Cond.classLink own index C).before a0 Z = true) (wi : (Jvm.Cond.instantiable C n).before a0 Z = true) (wz : (Jvm.Cond.initialized C).before a0 Z = true) (eT : T.heap = h)
    (hd : decode c.code pc = .ok (.new index, 3)) (hp : pc + 3 = pc') {cells' slots' : Nat} (hcc : cells + 1 = cells') (hss : slots + n = slots') (hc : cells' ≤ R.cells) (hl : slots' ≤ R.slots)
    (k : ∀ (T' : State) (h' : Heap) (b : Addr), b = h.size → Stand p l e R s m args below meth c T' locs cells' slots' → T'.heap = h' → Ext h h' → Exa Z h' b C → (∀ {O nm d : String} {ty : FieldType}, Laid Z a0 C O nm d → parseFieldDescriptor d = some ty → Fld Z h' b O nm d (defaultValue ty)) → own_Gl p e below s Q kc ks (T'.setTop (mkF m pc' L (.ref b :: S)))) :
    own_Gl p e below s Q kc ks (T.setTop (mkF m pc L S)) := by
  subst hp hcc hss
  obtain ⟨T', h', X', e', E', A', D', -, st⟩ := newO X hx hZ hown w wi wz eT (g := mkF m pc L S) rfl hd hc hl
  exact (k T' h' _ rfl X' e' E' A' D').go st
theorem g_newarr (X : Stand p l e R s m args below meth c T locs cells slots) (hx : p.tables.exec = Jvm.exec) (hZ : Z.Warmed39 s.vm) {aty : ArrayType} {ty : FieldType} (hty : newarray.typeOf aty = ty) (hdv : defaultValue ty = .int 0) (w : (Jvm.Cond.arrayClass ty).before a0 Z = true) (eT : T.heap = h)
    (hd : decode c.code pc = .ok (.newarray aty, 2)) (hp : pc + 2 = pc') {z : Int32} {n : Nat} (hn : z.toInt = n) (cap : Nat) (hcap : n ≤ cap) (hb : cap * 8 ≤ 536870912) {cells' slots' : Nat} (hcc : cells + 1 = cells') (hss : slots + cap = slots') (hc : cells' ≤ R.cells) (hl : slots' ≤ R.slots)
    (k : ∀ (T' : State) (h' : Heap) (b : Addr), b = h.size → Stand p l e R s m args below meth c T' locs cells' slots' → T'.heap = h' → Ext h h' → own_IA Z h' b ty n (fun _ => 0) → own_Gl p e below s Q kc ks (T'.setTop (mkF m pc' L (.ref b :: S)))) :
    own_Gl p e below s Q kc ks (T.setTop (mkF m pc L (.int z :: S))) := by
  subst hp hcc hss hty
  have q : ¬ z < 0 := by
    have k0 : (0 : Int32).toInt = 0 := by decide
    rw [Int32.lt_iff_toInt_lt, k0]; omega
  have zn : z.toNatClampNeg = n := by rw [own_clamp]; omega
  obtain ⟨T', h', cA, X', e', E', A', st⟩ := newP X hx hZ w eT (g := mkF m pc L (.int z :: S)) rfl hd rfl q (cap := cap) (by omega) hb hc hl
  refine (k T' h' _ rfl X' e' E' ⟨_, A', by rw [sz_new, zn], fun i hi => ?_⟩).go st
  show (Array.replicate z.toNatClampNeg (defaultValue (newarray.typeOf aty)))[i]? = _
  rw [zn, hdv, Array.getElem?_replicate, if_pos hi]
theorem g_iastore (X : Stand p l e R s m args below meth c T locs cells slots) (hx : p.tables.exec = Jvm.exec) (hZ : Z.Warmed39 s.vm) (eT : T.heap = h) {a : Addr} {n : Nat} {f : Nat → Int32} {j x : Int32} (V : own_IA Z h a .int n f) (hj : 0 ≤ j.toInt ∧ j.toInt < n) (hd : decode c.code pc = .ok (.iastore, 1)) (hp : pc + 1 = pc')
    (k : ∀ (T' : State) (h' : Heap), Stand p l e R s m args below meth c T' (locs ++ [⟨a, j.toNatClampNeg⟩]) cells slots → T'.heap = h' → Wr h h' a j.toNatClampNeg (.int x) → own_IA Z h' a .int n (fun i => if i = j.toNatClampNeg then x else f i) → own_Gl p e below s Q kc ks (T'.setTop (mkF m pc' L S))) :
    own_Gl p e below s Q kc ks (T.setTop (mkF m pc L (.int x :: .int j :: .ref a :: S))) := by
  subst hp
  have V' := V
  obtain ⟨cl, A, Sz, H⟩ := V
  obtain ⟨T', h', X', e', W', st⟩ := stI X hx hZ eT A (own_in Sz hj) (g := mkF m pc L (.int x :: .int j :: .ref a :: S)) rfl rfl hd
  exact (k T' h' X' e' W' (V'.set W')).go st
theorem g_bastore (X : Stand p l e R s m args below meth c T locs cells slots) (hx : p.tables.exec = Jvm.exec) (hZ : Z.Warmed39 s.vm) (eT : T.heap = h) {a : Addr} {n : Nat} {f : Nat → Int32} {j x : Int32} (V : own_IA Z h a .byte n f) (hj : 0 ≤ j.toInt ∧ j.toInt < n) (hd : decode c.code pc = .ok (.bastore, 1)) (hp : pc + 1 = pc')
    (k : ∀ (T' : State) (h' : Heap), Stand p l e R s m args below meth c T' (locs ++ [⟨a, j.toNatClampNeg⟩]) cells slots → T'.heap = h' → Wr h h' a j.toNatClampNeg (.int x.toInt8.toInt32) → own_IA Z h' a .byte n (fun i => if i = j.toNatClampNeg then x.toInt8.toInt32 else f i) → own_Gl p e below s Q kc ks (T'.setTop (mkF m pc' L S))) :
    own_Gl p e below s Q kc ks (T.setTop (mkF m pc L (.int x :: .int j :: .ref a :: S))) := by
  subst hp
  have V' := V
  obtain ⟨cl, A, Sz, H⟩ := V
  obtain ⟨T', h', X', e', W', st⟩ := stB X hx hZ eT A (own_in Sz hj) (g := mkF m pc L (.int x :: .int j :: .ref a :: S)) rfl rfl hd
  exact (k T' h' X' e' W' (V'.set W')).go st
theorem g_zastore (X : Stand p l e R s m args below meth c T locs cells slots) (hx : p.tables.exec = Jvm.exec) (hZ : Z.Warmed39 s.vm) (eT : T.heap = h) {a : Addr} {n : Nat} {f : Nat → Int32} {j x x' : Int32} (V : own_IA Z h a .boolean n f) (hj : 0 ≤ j.toInt ∧ j.toInt < n) (hv : nar .boolean x = x') (hd : decode c.code pc = .ok (.bastore, 1)) (hp : pc + 1 = pc')
    (k : ∀ (T' : State) (h' : Heap), Stand p l e R s m args below meth c T' (locs ++ [⟨a, j.toNatClampNeg⟩]) cells slots → T'.heap = h' → Wr h h' a j.toNatClampNeg (.int x') → own_IA Z h' a .boolean n (fun i => if i = j.toNatClampNeg then x' else f i) → own_Gl p e below s Q kc ks (T'.setTop (mkF m pc' L S))) :
    own_Gl p e below s Q kc ks (T.setTop (mkF m pc L (.int x :: .int j :: .ref a :: S))) := by
  subst hp hv
  have V' := V
  obtain ⟨cl, A, Sz, H⟩ := V
  obtain ⟨T', h', X', e', W', st⟩ := stZ X hx hZ eT A (own_in Sz hj) (g := mkF m pc L (.int x :: .int j :: .ref a :: S)) rfl rfl hd
  exact (k T' h' X' e' W' (V'.set W')).go st
theorem own_at {a : Addr} {ty : FieldType} {n : Nat} {f : Nat → Int32} {c : Cell} (S : c.slots.size = n) (H : ∀ i, i < n → c.slots[i]? = some (.int (f i))) {j v : Int32} (hj : 0 ≤ j.toInt ∧ j.toInt < n) (hv : f j.toInt.toNat = v) : c.slots[j.toNatClampNeg]? = some (.int v) := by
  rw [own_clamp, H _ (by omega), hv]
theorem g_iaload (X : Stand p l e R s m args below meth c T locs cells slots) (hx : p.tables.exec = Jvm.exec) (hZ : Z.Warmed39 s.vm) (eT : T.heap = h) {a : Addr} {n : Nat} {f : Nat → Int32} {j v : Int32} (V : own_IA Z h a .int n f) (hj : 0 ≤ j.toInt ∧ j.toInt < n) (hv : f j.toInt.toNat = v) (hd : decode c.code pc = .ok (.iaload, 1)) (hp : pc + 1 = pc')
    (hr : own_Gl p e below s Q kc ks (T.setTop (mkF m pc' L (.int v :: S)))) : own_Gl p e below s Q kc ks (T.setTop (mkF m pc L (.int j :: .ref a :: S))) := by
  subst hp
  obtain ⟨cl, A, Sz, H⟩ := V
  exact hr.go fun t k => X.iaload hx (by rw [eT]; exact A.1) (State.isArrayOf_alike hZ.alike A.2.1) A.2.2 (own_in Sz hj) (own_at (a := a) (ty := .int) Sz H hj hv) (g := mkF m pc L (.int j :: .ref a :: S)) rfl rfl hd t k
theorem g_baload (X : Stand p l e R s m args below meth c T locs cells slots) (hx : p.tables.exec = Jvm.exec) (hZ : Z.Warmed39 s.vm) (eT : T.heap = h) {a : Addr} {n : Nat} {f : Nat → Int32} {j v : Int32} (V : own_IA Z h a .byte n f) (hj : 0 ≤ j.toInt ∧ j.toInt < n) (hv : f j.toInt.toNat = v) (hd : decode c.code pc = .ok (.baload, 1)) (hp : pc + 1 = pc')
    (hr : own_Gl p e below s Q kc ks (T.setTop (mkF m pc' L (.int v :: S)))) : own_Gl p e below s Q kc ks (T.setTop (mkF m pc L (.int j :: .ref a :: S))) := by
  subst hp
  obtain ⟨cl, A, Sz, H⟩ := V
  exact hr.go fun t k => X.baloadBytes hx (by rw [eT]; exact A.1) (State.isArrayOf_alike hZ.alike A.2.1) A.2.2 (own_in Sz hj) (own_at (a := a) (ty := .byte) Sz H hj hv) (g := mkF m pc L (.int j :: .ref a :: S)) rfl rfl hd t k
theorem g_zaload (X : Stand p l e R s m args below meth c T locs cells slots) (hx : p.tables.exec = Jvm.exec) (hZ : Z.Warmed39 s.vm) (eT : T.heap = h) {a : Addr} {n : Nat} {f : Nat → Int32} {j v : Int32} (V : own_IA Z h a .boolean n f) (hj : 0 ≤ j.toInt ∧ j.toInt < n) (hv : f j.toInt.toNat = v) (hd : decode c.code pc = .ok (.baload, 1)) (hp : pc + 1 = pc')
    (hr : own_Gl p e below s Q kc ks (T.setTop (mkF m pc' L (.int v :: S)))) : own_Gl p e below s Q kc ks (T.setTop (mkF m pc L (.int j :: .ref a :: S))) := by
  subst hp
  obtain ⟨cl, A, Sz, H⟩ := V
  exact hr.go fun t k => X.baloadBooleans hx (by rw [eT]; exact A.1) (State.isArrayOf_alike hZ.alike A.2.1) A.2.2 (own_in Sz hj) (own_at (a := a) (ty := .boolean) Sz H hj hv) (g := mkF m pc L (.int j :: .ref a :: S)) rfl rfl hd t k
theorem g_arraylength (X : Stand p l e R s m args below meth c T locs cells slots) (hx : p.tables.exec = Jvm.exec) (hZ : Z.Warmed39 s.vm) (eT : T.heap = h) {a : Addr} {ty : FieldType} {n : Nat} {f : Nat → Int32} {z : Int32} (V : own_IA Z h a ty n f) (hz : n.toInt32 = z) (hd : decode c.code pc = .ok (.arraylength, 1)) (hp : pc + 1 = pc')
    (hr : own_Gl p e below s Q kc ks (T.setTop (mkF m pc' L (.int z :: S)))) : own_Gl p e below s Q kc ks (T.setTop (mkF m pc L (.ref a :: S))) := by
  subst hp hz
  obtain ⟨cl, A, Sz, H⟩ := V
  subst Sz
  exact hr.go fun t k => X.arraylength hx (by rw [eT]; exact A.1) (State.isArrayOf_alike hZ.alike A.2.1) (g := mkF m pc L (.ref a :: S)) rfl rfl hd t k
theorem g_initO (X : Stand p l e R s m args below meth c T locs cells slots) (hx : p.tables.exec = Jvm.exec) (hZ : Z.Warmed39 s.vm) {own : String} {idx : Nat} (hown : s.vm.findClass own = some m.cls) (w1 : (Jvm.Cond.methodLink own idx Lib.objectInit).before a0 Z = true) (w2 : (Jvm.Cond.instanceMethod Lib.objectInit).before a0 Z = true)
    (w3 : (Jvm.Cond.code Lib.objectInit ⟨#[0xb1]⟩ 1 none).before a0 Z = true) (eT : T.heap = h) {a : Addr} (hsize : L.size = c.maxLocals) (hd : decode c.code pc = .ok (.invokespecial idx, 3)) (hp : pc + 3 = pc')
    (hf : 1 ≤ R.frames) (W : Nat) (hW : (S.map fun v => v.category).sum ≤ W) (hl : W + 12 ≤ R.locals) (k : ∀ T' : State, Stand p l e R s m args below meth c T' locs cells slots → T'.heap = h → own_Gl p e below s Q kc ks (T'.setTop (mkF m pc' L S))) :
    own_Gl p e below s Q kc ks (T.setTop (mkF m pc L (.ref a :: S))) := by
  subst hp
  obtain ⟨T', X', e', st⟩ := initO X hx hZ hown w1 w2 w3 eT (g := mkF m pc L (.ref a :: S)) rfl hsize rfl hd hf (W := W) (by show 2 * 0 + _ ≤ _; omega) hl
  exact (k T' X' e').go st
/-- a constructor by its contract -/
theorem g_callI (X : Stand p l e R s m args below meth c T locs cells slots) (hx : p.tables.exec = Jvm.exec) (hZ : Z.Warmed39 s.vm) {own : String} {index : Nat} {y : MethodName} {bytes : ByteArray} {maxL : Nat} (hy1 : y.name = "<init>") (hown : s.vm.findClass own = some m.cls)
    (w1 : (Jvm.Cond.methodLink own index y).before a0 Z = true) (w2 : (Jvm.Cond.instanceMethod y).before a0 Z = true) (w3 : (Jvm.Cond.initialized y.cls).before a0 Z = true) (w4 : (Jvm.Cond.code y bytes maxL none).before a0 Z = true) (hy : y.cls ≠ "java/lang/invoke/MethodHandle" ∧ y.cls ≠ "java/lang/invoke/VarHandle")
    {rm : Room} {as' : Array Value} {Qc : Option Value → Heap → List Loc → Prop}
    (hM : MetFree l y (head1 [Jvm.Cond.code y bytes maxL none] rm) (fun a U => a = as' ∧ Z.Warmed39 U.vm ∧ U.heap = h) (fun _ _ _ _ _ => True) (fun _ U o U' => ∃ v L, o = .returned v ∧ Qc v U'.heap L ∧ FrameEnd U o U' L rm.cells rm.slots))
    (W : Nat) (hf : rm.frames + 1 ≤ R.frames) (hl : W + (maxL + 11) + rm.locals ≤ R.locals) (eT : T.heap = h) (hsize : L.size = c.maxLocals) {a : Addr} (argsL rest : List Value) (hlen : ∀ sig, parseMethodDescriptor y.desc = some sig → argsL.length = sig.parameters.length)
    (hst : S = argsL.reverse ++ .ref a :: rest) (has : (Value.ref a :: argsL).toArray = as') (hW : (rest.map fun v => v.category).sum ≤ W) (hd : decode c.code pc = .ok (.invokespecial index, 3)) (hp : pc + 3 = pc') {cells' slots' : Nat} (hcc : cells + rm.cells = cells') (hss : slots + rm.slots = slots') (hcl : cells' ≤ R.cells) (hsl : slots' ≤ R.slots)
    (k : ∀ (v : Option Value) (T' : State) (L' : List Loc), Stand p l e R s m args below meth c T' (locs ++ L') cells' slots' → Qc v T'.heap L' → own_Gl p e below s Q kc ks (T'.setTop (mkF m pc' L (v.toList ++ rest)))) :
    own_Gl p e below s Q kc ks (T.setTop (mkF m pc L S)) := by
  subst hp hst hcc hss
  obtain ⟨v, _, ⟨T', L', k', n'⟩, -, X', ⟨Lc, hQ, l', y', z'⟩, st⟩ := X.specialBack hx (y := y) hy1 hown (mvT hZ w1) (mvT hZ w2) (mvT hZ w4) hy (backOf (W := W) hM hZ w4 w3 hf hl) (g := mkF m pc L (argsL.reverse ++ .ref a :: rest)) rfl hsize (Steps.refl _) (a := a) (argsL := argsL) (rest := rest) hlen rfl (by show 2 * 0 + _ ≤ _; omega) hd (fun _ _ => ⟨has, eT, hcl, hsl⟩)
  dsimp only [Pt.U, Pt.locs, Pt.cells, Pt.slots] at X' l' y' z' st hQ
  subst l' y' z'
  exact (k v T' Lc X' hQ).go fun t q => st.trans q
/-- an instance method by its contract -/
theorem g_callV (X : Stand p l e R s m args below meth c T locs cells slots) (hx : p.tables.exec = Jvm.exec) (hZ : Z.Warmed39 s.vm) {own C : String} {index : Nat} {y z : MethodName} {bytes : ByteArray} {maxL : Nat} {ret : Option FieldType} (hown : s.vm.findClass own = some m.cls)
    (w1 : (Jvm.Cond.methodLink own index y).before a0 Z = true) (w2 : (Jvm.Cond.declares y).before a0 Z = true) (nf : NotFace s y) (w5 : (Jvm.Cond.selects C y z).before a0 Z = true) (w6 : (Jvm.Cond.instanceMethod z).before a0 Z = true) (w3 : (Jvm.Cond.initialized z.cls).before a0 Z = true) (w4 : (Jvm.Cond.code z bytes maxL ret).before a0 Z = true) (hy : y.cls ≠ "java/lang/invoke/MethodHandle" ∧ y.cls ≠ "java/lang/invoke/VarHandle")
    {rm : Room} {as' : Array Value} {Qc : Option Value → Heap → List Loc → Prop}
    (hM : MetFree l z (head1 [Jvm.Cond.code z bytes maxL ret] rm) (fun a U => a = as' ∧ Z.Warmed39 U.vm ∧ U.heap = h) (fun _ _ _ _ _ => True) (fun _ U o U' => ∃ v L, o = .returned v ∧ Qc v U'.heap L ∧ FrameEnd U o U' L rm.cells rm.slots))
    (W : Nat) (hf : rm.frames + 1 ≤ R.frames) (hl : W + (maxL + 11) + rm.locals ≤ R.locals) (eT : T.heap = h) {a : Addr} (E : Exa Z h a C) (hsize : L.size = c.maxLocals) (argsL rest : List Value) (hlen : ∀ sig, parseMethodDescriptor y.desc = some sig → argsL.length = sig.parameters.length)
    (hst : S = argsL.reverse ++ .ref a :: rest) (has : (Value.ref a :: argsL).toArray = as') (hW : (rest.map fun v => v.category).sum ≤ W) (hd : decode c.code pc = .ok (.invokevirtual index, 3)) (hp : pc + 3 = pc') {cells' slots' : Nat} (hcc : cells + rm.cells = cells') (hss : slots + rm.slots = slots') (hcl : cells' ≤ R.cells) (hsl : slots' ≤ R.slots)
    (k : ∀ (v : Option Value) (T' : State) (L' : List Loc), Stand p l e R s m args below meth c T' (locs ++ L') cells' slots' → Qc v T'.heap L' → own_Gl p e below s Q kc ks (T'.setTop (mkF m pc' L (v.toList ++ rest)))) :
    own_Gl p e below s Q kc ks (T.setTop (mkF m pc L S)) := by
  subst hp hst hcc hss
  obtain ⟨cq, kq, qa, qb, qc⟩ := isOf hZ eT E
  obtain ⟨v, _, ⟨T', L', k', n'⟩, -, X', ⟨Lc, hQ, l', y', z'⟩, st⟩ := X.virtualBack hx (y := y) (z := z) hown (mvT hZ w1) (mvT hZ w2) nf (mvT hZ w5) (mvT hZ w6) hy (backOf (W := W) hM hZ w4 w3 hf hl) qa qc (g := mkF m pc L (argsL.reverse ++ .ref a :: rest)) rfl hsize (Steps.refl _) (argsL := argsL) (rest := rest) hlen rfl (by show 2 * 0 + _ ≤ _; omega) hd (fun _ _ => ⟨has, eT, hcl, hsl⟩)
  dsimp only [Pt.U, Pt.locs, Pt.cells, Pt.slots] at X' l' y' z' st hQ
  subst l' y' z'
  exact (k v T' Lc X' hQ).go fun t q => st.trans q
theorem own_nameL {n0 : Nat} (X : Stand p l e R s m args below meth c T locs cells slots) (N : Fr n0 locs) : ∃ lc, Fr n0 lc ∧ Stand p l e R s m args below meth c T lc cells slots := ⟨locs, N, X⟩
theorem own_nf {y : MethodName} {C : String} (hZ : Z.Warmed39 s.vm) (w5 : (Jvm.Cond.selects C y y).before a0 Z = true) : NotFace s y := notFace_of_selects (args := #[]) (mvT hZ w5)
end OwnHeap
def own_Q0 (n0 : Nat) (v : Option Value) (h : Heap) (L : List Loc) : Prop := v = some (.int 1) ∧ Fr n0 L
def own_CR (Z : State) (h : Heap) (a : Addr) (f_block : Addr) (f_at : Int32) (f_limit : Int32) (f_position : Int64) (f_end : Int64) (f_runLeft : Int64) (f_runStep : Int64) (f_number : Int64) : Prop := Exa Z h a "com/example/ogma/ogma/store/ColumnReader" ∧ Fld Z h a "com/example/ogma/ogma/store/ColumnReader" "block" "[B" (.ref f_block) ∧ Fld Z h a "com/example/ogma/ogma/store/ColumnReader" "at" "I" (.int f_at) ∧ Fld Z h a "com/example/ogma/ogma/store/ColumnReader" "limit" "I" (.int f_limit) ∧ Fld Z h a "com/example/ogma/ogma/store/ColumnReader" "position" "J" (.long f_position) ∧ Fld Z h a "com/example/ogma/ogma/store/ColumnReader" "end" "J" (.long f_end) ∧ Fld Z h a "com/example/ogma/ogma/store/ColumnReader" "runLeft" "J" (.long f_runLeft) ∧ Fld Z h a "com/example/ogma/ogma/store/ColumnReader" "runStep" "J" (.long f_runStep) ∧ Fld Z h a "com/example/ogma/ogma/store/ColumnReader" "number" "J" (.long f_number)
theorem d3_0 : decode prog_80_method_3_code 0 = .ok (.aload_n 0, 1) := by decide +kernel
theorem d3_1 : decode prog_80_method_3_code 1 = .ok (.getfield 36, 3) := by decide +kernel
theorem d3_4 : decode prog_80_method_3_code 4 = .ok (.lconst 0, 1) := by decide +kernel
theorem d3_5 : decode prog_80_method_3_code 5 = .ok (.lcmp, 1) := by decide +kernel
theorem d3_6 : decode prog_80_method_3_code 6 = .ok (.ifCond .gt 26, 3) := by decide +kernel
theorem d3_32 : decode prog_80_method_3_code 32 = .ok (.iconst 1, 1) := by decide +kernel
theorem d3_33 : decode prog_80_method_3_code 33 = .ok (.goto 4, 3) := by decide +kernel
theorem d3_37 : decode prog_80_method_3_code 37 = .ok (.ireturn, 1) := by decide +kernel
theorem d3_9 : decode prog_80_method_3_code 9 = .ok (.aload_n 0, 1) := by decide +kernel
theorem d3_10 : decode prog_80_method_3_code 10 = .ok (.getfield 29, 3) := by decide +kernel
theorem d3_13 : decode prog_80_method_3_code 13 = .ok (.aload_n 0, 1) := by decide +kernel
theorem d3_14 : decode prog_80_method_3_code 14 = .ok (.getfield 33, 3) := by decide +kernel
theorem d3_17 : decode prog_80_method_3_code 17 = .ok (.if_icmp .lt 15, 3) := by decide +kernel
theorem d3_20 : decode prog_80_method_3_code 20 = .ok (.aload_n 0, 1) := by decide +kernel
theorem d3_21 : decode prog_80_method_3_code 21 = .ok (.getfield 23, 3) := by decide +kernel
theorem d3_24 : decode prog_80_method_3_code 24 = .ok (.aload_n 0, 1) := by decide +kernel
theorem d3_25 : decode prog_80_method_3_code 25 = .ok (.getfield 26, 3) := by decide +kernel
theorem d3_28 : decode prog_80_method_3_code 28 = .ok (.lcmp, 1) := by decide +kernel
theorem d3_29 : decode prog_80_method_3_code 29 = .ok (.ifCond .ge 7, 3) := by decide +kernel
theorem d3_36 : decode prog_80_method_3_code 36 = .ok (.iconst 0, 1) := by decide +kernel
def f_hn (w_runLeft : Int64) (w_at : Int32) (w_limit : Int32) (w_position : Int64) (w_end : Int64) : Int32 := (if (0 : Int64) < w_runLeft then (1 : Int32) else (if w_at < w_limit then (1 : Int32) else (if w_position < w_end then (1 : Int32) else (0 : Int32))))
theorem pn_0 : plainName "com/example/ogma/ogma/store/ColumnReader" = true := by first | (simp [plainName, overriddenIn]; done) | decide +kernel
theorem ef_3 (m : MethodId) (x0 : Addr) : entryFrame m #[(.ref x0)] 1 = mkF m 0 #[.val (.ref x0)] [] := by first | (simp [entryFrame, mkF, argsToLocals, Value.category]; done) | rfl
set_option maxRecDepth 65536 in
set_option maxHeartbeats 40000000 in
theorem rm3 (l : Launch) (Z : State) (a0 : Array Value) (hw : ∀ d ∈ tables_1, d.before a0 Z = true) (ws : List Jvm.Cond) (x0 : Addr) (w_runLeft : Int64) (w_at : Int32) (w_limit : Int32) (w_position : Int64) (w_end : Int64) (h0 : Heap) (F_runLeft : Fld Z h0 x0 "com/example/ogma/ogma/store/ColumnReader" "runLeft" "J" (.long w_runLeft)) (F_at : Fld Z h0 x0 "com/example/ogma/ogma/store/ColumnReader" "at" "I" (.int w_at)) (F_limit : Fld Z h0 x0 "com/example/ogma/ogma/store/ColumnReader" "limit" "I" (.int w_limit)) (F_position : Fld Z h0 x0 "com/example/ogma/ogma/store/ColumnReader" "position" "J" (.long w_position)) (F_end : Fld Z h0 x0 "com/example/ogma/ogma/store/ColumnReader" "end" "J" (.long w_end)) :
    MetFree l (⟨"com/example/ogma/ogma/store/ColumnReader", "hasNext", "()Z"⟩ : MethodName) (head1 (Jvm.Cond.code (⟨"com/example/ogma/ogma/store/ColumnReader", "hasNext", "()Z"⟩ : MethodName) prog_80_method_3_code 1 (some .boolean) :: ws) ({ frames := 0, cells := 0, slots := 0, locals := 0 } : Room)) (fun a U => a = #[(.ref x0)] ∧ Z.Warmed39 U.vm ∧ U.heap = h0) (fun _ _ _ _ _ => True) (fun _ U o U' => ∃ v L, o = .returned v ∧ (own_Pure (some (.int (f_hn w_runLeft w_at w_limit w_position w_end))) h0) v U'.heap L ∧ FrameEnd U o U' L ({ frames := 0, cells := 0, slots := 0, locals := 0 } : Room).cells ({ frames := 0, cells := 0, slots := 0, locals := 0 } : Room).slots) := by
  refine own_body (own := "com/example/ogma/ogma/store/ColumnReader") pn_0 rfl (fun m => ef_3 m x0) ?_
  intro p e s m below meth c T0 hx hby hml hown hnm hlk hret hZ X0 e0
  have w_17 := hw _ (List.mem_of_getElem? (i := 17) rfl)
  have w_19 := hw _ (List.mem_of_getElem? (i := 19) rfl)
  have w_21 := hw _ (List.mem_of_getElem? (i := 21) rfl)
  have w_23 := hw _ (List.mem_of_getElem? (i := 23) rfl)
  have w_30 := hw _ (List.mem_of_getElem? (i := 30) rfl)
  refine g_aloadN X0.here hx (Jvm.hb hby d3_0) (pc' := 1) rfl rfl rfl ?_
  refine g_getF X0 hx hZ hown (host := "") (Or.inl w_30) Via.refl e0 F_runLeft (Jvm.hb hby d3_1) (pc' := 4) rfl ?_
  intro T1 X1 e1
  refine g_lconst X1.here hx (Jvm.hb hby d3_4) (pc' := 5) rfl (z := (0 : Int64)) rfl ?_
  refine g_lcmp X1.here hx (Jvm.hb hby d3_5) (pc' := 6) rfl ?_
  by_cases hc6_0 : (0 : Int64) < w_runLeft
  · refine g_ifY X1.here hx (Jvm.hb hby d3_6) (by decide) (pc' := 32) (by decide) (own_tltL hc6_0).2.2.1 ?_
    refine g_iconst X1.here hx (Jvm.hb hby d3_32) (pc' := 33) rfl (z := (1 : Int32)) rfl ?_
    refine g_goto X1.here hx (Jvm.hb hby d3_33) (by decide) (pc' := 37) (by decide) ?_
    exact g_retN X1 hx hlk (t := .boolean) hret (by simp) (z' := (1 : Int32)) rfl (Jvm.hb hby d3_37) (Nat.zero_le _) (Nat.zero_le _) ⟨by simp only [f_hn, if_pos hc6_0], rfl, e1⟩
  · refine g_ifN X1.here hx (Jvm.hb hby d3_6) (pc' := 9) rfl (own_fltL hc6_0).2.2.1 ?_
    refine g_aloadN X1.here hx (Jvm.hb hby d3_9) (pc' := 10) rfl rfl rfl ?_
    refine g_getF X1 hx hZ hown (host := "") (Or.inl w_17) Via.refl e1 F_at (Jvm.hb hby d3_10) (pc' := 13) rfl ?_
    intro T2 X2 e2
    refine g_aloadN X2.here hx (Jvm.hb hby d3_13) (pc' := 14) rfl rfl rfl ?_
    refine g_getF X2 hx hZ hown (host := "") (Or.inl w_19) Via.refl e2 F_limit (Jvm.hb hby d3_14) (pc' := 17) rfl ?_
    intro T3 X3 e3
    by_cases hc17_1 : w_at < w_limit
    · refine g_icY X3.here hx (Jvm.hb hby d3_17) (by decide) (pc' := 32) (by decide) (tlt hc17_1).1 ?_
      refine g_iconst X3.here hx (Jvm.hb hby d3_32) (pc' := 33) rfl (z := (1 : Int32)) rfl ?_
      refine g_goto X3.here hx (Jvm.hb hby d3_33) (by decide) (pc' := 37) (by decide) ?_
      exact g_retN X3 hx hlk (t := .boolean) hret (by simp) (z' := (1 : Int32)) rfl (Jvm.hb hby d3_37) (Nat.zero_le _) (Nat.zero_le _) ⟨by simp only [f_hn, if_neg hc6_0, if_pos hc17_1], rfl, e3⟩
    · refine g_icN X3.here hx (Jvm.hb hby d3_17) (pc' := 20) rfl (flt hc17_1).1 ?_
      refine g_aloadN X3.here hx (Jvm.hb hby d3_20) (pc' := 21) rfl rfl rfl ?_
      refine g_getF X3 hx hZ hown (host := "") (Or.inl w_21) Via.refl e3 F_position (Jvm.hb hby d3_21) (pc' := 24) rfl ?_
      intro T4 X4 e4
      refine g_aloadN X4.here hx (Jvm.hb hby d3_24) (pc' := 25) rfl rfl rfl ?_
      refine g_getF X4 hx hZ hown (host := "") (Or.inl w_23) Via.refl e4 F_end (Jvm.hb hby d3_25) (pc' := 28) rfl ?_
      intro T5 X5 e5
      refine g_lcmp X5.here hx (Jvm.hb hby d3_28) (pc' := 29) rfl ?_
      by_cases hc29_2 : w_position < w_end
      · refine g_ifN X5.here hx (Jvm.hb hby d3_29) (pc' := 32) rfl (own_tltL hc29_2).2.1 ?_
        refine g_iconst X5.here hx (Jvm.hb hby d3_32) (pc' := 33) rfl (z := (1 : Int32)) rfl ?_
        refine g_goto X5.here hx (Jvm.hb hby d3_33) (by decide) (pc' := 37) (by decide) ?_
        exact g_retN X5 hx hlk (t := .boolean) hret (by simp) (z' := (1 : Int32)) rfl (Jvm.hb hby d3_37) (Nat.zero_le _) (Nat.zero_le _) ⟨by simp only [f_hn, if_neg hc6_0, if_neg hc17_1, if_pos hc29_2], rfl, e5⟩
      · refine g_ifY X5.here hx (Jvm.hb hby d3_29) (by decide) (pc' := 36) (by decide) (own_fltL hc29_2).2.1 ?_
        refine g_iconst X5.here hx (Jvm.hb hby d3_36) (pc' := 37) rfl (z := (0 : Int32)) rfl ?_
        exact g_retN X5 hx hlk (t := .boolean) hret (by simp) (z' := (0 : Int32)) rfl (Jvm.hb hby d3_37) (Nat.zero_le _) (Nat.zero_le _) ⟨by simp only [f_hn, if_neg hc6_0, if_neg hc17_1, if_neg hc29_2], rfl, e5⟩
def own_Q1 (Z : State) (n0 : Nat) (x0 x1 : Addr) (x2 x3 : Int32) (h0 : Heap) (v : Option Value) (h : Heap) (L : List Loc) : Prop := v = none ∧ Fr n0 L ∧ Keep h0 h [x0] ∧ own_CR Z h x0 x1 x2 x3 x3.toInt64 x3.toInt64 (0 : Int64) (0 : Int64) (-1 : Int64)
theorem d1_0 : decode prog_80_method_2_code 0 = .ok (.aload_n 0, 1) := by decide +kernel
theorem d1_1 : decode prog_80_method_2_code 1 = .ok (.invokespecial 1, 3) := by decide +kernel
theorem d1_4 : decode prog_80_method_2_code 4 = .ok (.aload_n 0, 1) := by decide +kernel
theorem d1_5 : decode prog_80_method_2_code 5 = .ok (.iconst 0, 1) := by decide +kernel
theorem d1_6 : decode prog_80_method_2_code 6 = .ok (.newarray .byte, 2) := by decide +kernel
theorem d1_8 : decode prog_80_method_2_code 8 = .ok (.putfield 7, 3) := by decide +kernel
theorem d1_11 : decode prog_80_method_2_code 11 = .ok (.aload_n 0, 1) := by decide +kernel
theorem d1_12 : decode prog_80_method_2_code 12 = .ok (.ldc2_w 13, 3) := by decide +kernel
theorem d1_15 : decode prog_80_method_2_code 15 = .ok (.putfield 15, 3) := by decide +kernel
theorem d1_18 : decode prog_80_method_2_code 18 = .ok (.aload_n 0, 1) := by decide +kernel
theorem d1_19 : decode prog_80_method_2_code 19 = .ok (.aconst_null, 1) := by decide +kernel
theorem d1_20 : decode prog_80_method_2_code 20 = .ok (.putfield 19, 3) := by decide +kernel
theorem d1_23 : decode prog_80_method_2_code 23 = .ok (.aload_n 0, 1) := by decide +kernel
theorem d1_24 : decode prog_80_method_2_code 24 = .ok (.aload_n 1, 1) := by decide +kernel
theorem d1_25 : decode prog_80_method_2_code 25 = .ok (.putfield 7, 3) := by decide +kernel
theorem d1_28 : decode prog_80_method_2_code 28 = .ok (.aload_n 0, 1) := by decide +kernel
theorem d1_29 : decode prog_80_method_2_code 29 = .ok (.iload_n 2, 1) := by decide +kernel
theorem d1_30 : decode prog_80_method_2_code 30 = .ok (.putfield 29, 3) := by decide +kernel
theorem d1_33 : decode prog_80_method_2_code 33 = .ok (.aload_n 0, 1) := by decide +kernel
theorem d1_34 : decode prog_80_method_2_code 34 = .ok (.iload_n 3, 1) := by decide +kernel
theorem d1_35 : decode prog_80_method_2_code 35 = .ok (.putfield 33, 3) := by decide +kernel
theorem d1_38 : decode prog_80_method_2_code 38 = .ok (.aload_n 0, 1) := by decide +kernel
theorem d1_39 : decode prog_80_method_2_code 39 = .ok (.iload_n 3, 1) := by decide +kernel
theorem d1_40 : decode prog_80_method_2_code 40 = .ok (.i2l, 1) := by decide +kernel
theorem d1_41 : decode prog_80_method_2_code 41 = .ok (.putfield 23, 3) := by decide +kernel
theorem d1_44 : decode prog_80_method_2_code 44 = .ok (.aload_n 0, 1) := by decide +kernel
theorem d1_45 : decode prog_80_method_2_code 45 = .ok (.iload_n 3, 1) := by decide +kernel
theorem d1_46 : decode prog_80_method_2_code 46 = .ok (.i2l, 1) := by decide +kernel
theorem d1_47 : decode prog_80_method_2_code 47 = .ok (.putfield 26, 3) := by decide +kernel
theorem d1_50 : decode prog_80_method_2_code 50 = .ok (.return_, 1) := by decide +kernel
theorem ef_1 (m : MethodId) (x0 : Addr) (x1 : Addr) (x2 : Int32) (x3 : Int32) : entryFrame m #[(.ref x0), (.ref x1), (.int x2), (.int x3)] 4 = mkF m 0 #[.val (.ref x0), .val (.ref x1), .val (.int x2), .val (.int x3)] [] := by first | (simp [entryFrame, mkF, argsToLocals, Value.category]; done) | rfl
set_option maxRecDepth 65536 in
set_option maxHeartbeats 40000000 in
theorem rm1 (l : Launch) (Z : State) (a0 : Array Value) (hw : ∀ d ∈ tables_1, d.before a0 Z = true) (ws : List Jvm.Cond) (x0 : Addr) (x1 : Addr) (x2 : Int32) (x3 : Int32) (h0 : Heap) (n0 : Nat) (Z0 : n0 ≤ h0.size) (g0 : n0 ≤ x0) (E0 : Exa Z h0 x0 "com/example/ogma/ogma/store/ColumnReader") (F_block : Fld Z h0 x0 "com/example/ogma/ogma/store/ColumnReader" "block" "[B" .null) (F_at : Fld Z h0 x0 "com/example/ogma/ogma/store/ColumnReader" "at" "I" (.int (0 : Int32))) (F_limit : Fld Z h0 x0 "com/example/ogma/ogma/store/ColumnReader" "limit" "I" (.int (0 : Int32))) (F_position : Fld Z h0 x0 "com/example/ogma/ogma/store/ColumnReader" "position" "J" (.long (0 : Int64))) (F_end : Fld Z h0 x0 "com/example/ogma/ogma/store/ColumnReader" "end" "J" (.long (0 : Int64))) (F_runLeft : Fld Z h0 x0 "com/example/ogma/ogma/store/ColumnReader" "runLeft" "J" (.long (0 : Int64))) (F_runStep : Fld Z h0 x0 "com/example/ogma/ogma/store/ColumnReader" "runStep" "J" (.long (0 : Int64))) (F_number : Fld Z h0 x0 "com/example/ogma/ogma/store/ColumnReader" "number" "J" (.long (0 : Int64))) (F_file : Fld Z h0 x0 "com/example/ogma/ogma/store/ColumnReader" "file" "Lcom/example/ogma/ogma/store/BlockFile;" .null) :
    MetFree l (⟨"com/example/ogma/ogma/store/ColumnReader", "<init>", "([BII)V"⟩ : MethodName) (head1 (Jvm.Cond.code (⟨"com/example/ogma/ogma/store/ColumnReader", "<init>", "([BII)V"⟩ : MethodName) prog_80_method_2_code 4 none :: ws) ({ frames := 1, cells := 1, slots := 0, locals := 13 } : Room)) (fun a U => a = #[(.ref x0), (.ref x1), (.int x2), (.int x3)] ∧ Z.Warmed39 U.vm ∧ U.heap = h0) (fun _ _ _ _ _ => True) (fun _ U o U' => ∃ v L, o = .returned v ∧ (own_Q1 Z n0 x0 x1 x2 x3 h0) v U'.heap L ∧ FrameEnd U o U' L ({ frames := 1, cells := 1, slots := 0, locals := 13 } : Room).cells ({ frames := 1, cells := 1, slots := 0, locals := 13 } : Room).slots) := by
  refine own_body (own := "com/example/ogma/ogma/store/ColumnReader") pn_0 rfl (fun m => ef_1 m x0 x1 x2 x3) ?_
  intro p e s m below meth c T0 hx hby hml hown hnm hlk hret hZ X0 e0
  have w_1 := hw _ (List.mem_of_getElem? (i := 1) rfl)
  have w_3 := hw _ (List.mem_of_getElem? (i := 3) rfl)
  have w_7 := hw _ (List.mem_of_getElem? (i := 7) rfl)
  have w_8 := hw _ (List.mem_of_getElem? (i := 8) rfl)
  have w_9 := hw _ (List.mem_of_getElem? (i := 9) rfl)
  have w_10 := hw _ (List.mem_of_getElem? (i := 10) rfl)
  have w_11 := hw _ (List.mem_of_getElem? (i := 11) rfl)
  have w_12 := hw _ (List.mem_of_getElem? (i := 12) rfl)
  have w_13 := hw _ (List.mem_of_getElem? (i := 13) rfl)
  have w_14 := hw _ (List.mem_of_getElem? (i := 14) rfl)
  have w_15 := hw _ (List.mem_of_getElem? (i := 15) rfl)
  have w_16 := hw _ (List.mem_of_getElem? (i := 16) rfl)
  have w_17 := hw _ (List.mem_of_getElem? (i := 17) rfl)
  have w_18 := hw _ (List.mem_of_getElem? (i := 18) rfl)
  have w_19 := hw _ (List.mem_of_getElem? (i := 19) rfl)
  have w_20 := hw _ (List.mem_of_getElem? (i := 20) rfl)
  have w_21 := hw _ (List.mem_of_getElem? (i := 21) rfl)
  have w_22 := hw _ (List.mem_of_getElem? (i := 22) rfl)
  have w_23 := hw _ (List.mem_of_getElem? (i := 23) rfl)
  have w_24 := hw _ (List.mem_of_getElem? (i := 24) rfl)
  have w_31 := hw _ (List.mem_of_getElem? (i := 31) rfl)
  have w_43 := hw _ (List.mem_of_getElem? (i := 43) rfl)
  have N0 := Fr.nil n0
  refine g_aloadN X0.here hx (Jvm.hb hby d1_0) (pc' := 1) rfl rfl rfl ?_
  refine g_initO X0 hx hZ hown w_7 w_8 w_9 e0 (by rw [hml]; rfl) (Jvm.hb hby d1_1) (pc' := 4) rfl (by decide) 0 (by decide) (by decide) ?_
  intro T1 X1 e1
  refine g_aloadN X1.here hx (Jvm.hb hby d1_4) (pc' := 5) rfl rfl rfl ?_
  refine g_iconst X1.here hx (Jvm.hb hby d1_5) (pc' := 6) rfl (z := (0 : Int32)) rfl ?_
  refine g_newarr X1 hx hZ (ty := .byte) rfl rfl w_3 e1 (Jvm.hb hby d1_6) (pc' := 8) rfl (n := 0) (by decide) 0 (by decide) (by decide) (cells' := 1) (slots' := 0) rfl rfl (by decide) (by decide) ?_
  intro T2 hh2 b2 gb2 X2 e2 E2 V2
  have g_b2 : n0 ≤ b2 := by rw [gb2]; exact Z0
  have sz_b2 : h0.size ≤ b2 := by rw [gb2]; exact (Nat.le_refl _)
  have lt_x0_b2 : @LT.lt Nat _ x0 b2 := by rw [gb2]; exact E0.lt
  have ne_x0_b2 : x0 ≠ b2 := Nat.ne_of_lt lt_x0_b2
  have Z3 : n0 ≤ hh2.size := Nat.le_trans Z0 E2.1
  have z4 : h0.size ≤ hh2.size := Nat.le_trans (Nat.le_refl _) E2.1
  have F5 := (F_block.ext E2)
  have F6 := (E0.ext E2)
  refine g_putF X2 hx hZ hown (host := "") (Or.inl w_10) Via.refl e2 F5 F6 (Or.inl w_11) w_1 (ty := (.array .byte)) (by decide) rfl rfl (Jvm.hb hby d1_8) (pc' := 11) rfl ?_
  intro T7 hh7 X7 e7 W7
  have Fw7 := F5.same W7
  have N7 := Fr.snoc X7 N0 g0
  have Z8 : n0 ≤ hh7.size := (by rw [W7.size]; exact Z3)
  have z9 : h0.size ≤ hh7.size := (by rw [W7.size]; exact z4)
  refine g_aloadN X7.here hx (Jvm.hb hby d1_11) (pc' := 12) rfl rfl rfl ?_
  refine g_ldc2 X7 hx hZ hown w_12 (Jvm.hb hby d1_12) (pc' := 15) rfl ?_
  have F10 := ((F_number.ext E2).other W7 (Or.inr (slot_ne (Or.inl w_14) (Or.inl w_11) (by decide) (t := .long) (t' := (.array .byte)) (by decide) (by decide))))
  have F11 := (F6.wr W7)
  refine g_putF X7 hx hZ hown (host := "") (Or.inl w_13) Via.refl e7 F10 F11 (Or.inl w_14) w_1 (ty := .long) (by decide) rfl rfl (Jvm.hb hby d1_15) (pc' := 18) rfl ?_
  intro T12 hh12 X12 e12 W12
  have Fw12 := F10.same W12
  have N12 := Fr.snoc X12 N7 g0
  have Z13 : n0 ≤ hh12.size := (by rw [W12.size]; exact Z8)
  have z14 : h0.size ≤ hh12.size := (by rw [W12.size]; exact z9)
  refine g_aloadN X12.here hx (Jvm.hb hby d1_18) (pc' := 19) rfl rfl rfl ?_
  refine g_aconstNull X12.here hx (Jvm.hb hby d1_19) (pc' := 20) rfl ?_
  have F15 := (((F_file.ext E2).other W7 (Or.inr (slot_ne (Or.inr w_16) (Or.inl w_11) (by decide) (t := (.object "com/example/ogma/ogma/store/BlockFile")) (t' := (.array .byte)) (by decide) (by decide)))).other W12 (Or.inr (slot_ne (Or.inr w_16) (Or.inl w_14) (by decide) (t := (.object "com/example/ogma/ogma/store/BlockFile")) (t' := .long) (by decide) (by decide))))
  have F16 := (F11.wr W12)
  refine g_putF X12 hx hZ hown (host := "") (Or.inl w_15) Via.refl e12 F15 F16 (Or.inr ⟨w_16, rfl, hnm⟩) w_1 (ty := (.object "com/example/ogma/ogma/store/BlockFile")) (by decide) rfl rfl (Jvm.hb hby d1_20) (pc' := 23) rfl ?_
  intro T17 hh17 X17 e17 W17
  have Fw17 := F15.same W17
  have N17 := Fr.snoc X17 N12 g0
  have Z18 : n0 ≤ hh17.size := (by rw [W17.size]; exact Z13)
  have z19 : h0.size ≤ hh17.size := (by rw [W17.size]; exact z14)
  refine g_aloadN X17.here hx (Jvm.hb hby d1_23) (pc' := 24) rfl rfl rfl ?_
  refine g_aloadN X17.here hx (Jvm.hb hby d1_24) (pc' := 25) rfl rfl rfl ?_
  have F20 := ((Fw7.other W12 (Or.inr (slot_ne (Or.inl w_11) (Or.inl w_14) (by decide) (t := (.array .byte)) (t' := .long) (by decide) (by decide)))).other W17 (Or.inr (slot_ne (Or.inl w_11) (Or.inr w_16) (by decide) (t := (.array .byte)) (t' := (.object "com/example/ogma/ogma/store/BlockFile")) (by decide) (by decide))))
  have F21 := (F16.wr W17)
  refine g_putF X17 hx hZ hown (host := "") (Or.inl w_10) Via.refl e17 F20 F21 (Or.inl w_11) w_1 (ty := (.array .byte)) (by decide) rfl rfl (Jvm.hb hby d1_25) (pc' := 28) rfl ?_
  intro T22 hh22 X22 e22 W22
  have Fw22 := F20.same W22
  have N22 := Fr.snoc X22 N17 g0
  have Z23 : n0 ≤ hh22.size := (by rw [W22.size]; exact Z18)
  have z24 : h0.size ≤ hh22.size := (by rw [W22.size]; exact z19)
  refine g_aloadN X22.here hx (Jvm.hb hby d1_28) (pc' := 29) rfl rfl rfl ?_
  refine g_iloadN X22.here hx (Jvm.hb hby d1_29) (pc' := 30) rfl rfl ?_
  have F25 := (((((F_at.ext E2).other W7 (Or.inr (slot_ne (Or.inl w_18) (Or.inl w_11) (by decide) (t := .int) (t' := (.array .byte)) (by decide) (by decide)))).other W12 (Or.inr (slot_ne (Or.inl w_18) (Or.inl w_14) (by decide) (t := .int) (t' := .long) (by decide) (by decide)))).other W17 (Or.inr (slot_ne (Or.inl w_18) (Or.inr w_16) (by decide) (t := .int) (t' := (.object "com/example/ogma/ogma/store/BlockFile")) (by decide) (by decide)))).other W22 (Or.inr (slot_ne (Or.inl w_18) (Or.inl w_11) (by decide) (t := .int) (t' := (.array .byte)) (by decide) (by decide))))
  have F26 := (F21.wr W22)
  refine g_putF X22 hx hZ hown (host := "") (Or.inl w_17) Via.refl e22 F25 F26 (Or.inl w_18) w_1 (ty := .int) (by decide) rfl rfl (Jvm.hb hby d1_30) (pc' := 33) rfl ?_
  intro T27 hh27 X27 e27 W27
  have Fw27 := F25.same W27
  have N27 := Fr.snoc X27 N22 g0
  have Z28 : n0 ≤ hh27.size := (by rw [W27.size]; exact Z23)
  have z29 : h0.size ≤ hh27.size := (by rw [W27.size]; exact z24)
  refine g_aloadN X27.here hx (Jvm.hb hby d1_33) (pc' := 34) rfl rfl rfl ?_
  refine g_iloadN X27.here hx (Jvm.hb hby d1_34) (pc' := 35) rfl rfl ?_
  have F30 := ((((((F_limit.ext E2).other W7 (Or.inr (slot_ne (Or.inl w_20) (Or.inl w_11) (by decide) (t := .int) (t' := (.array .byte)) (by decide) (by decide)))).other W12 (Or.inr (slot_ne (Or.inl w_20) (Or.inl w_14) (by decide) (t := .int) (t' := .long) (by decide) (by decide)))).other W17 (Or.inr (slot_ne (Or.inl w_20) (Or.inr w_16) (by decide) (t := .int) (t' := (.object "com/example/ogma/ogma/store/BlockFile")) (by decide) (by decide)))).other W22 (Or.inr (slot_ne (Or.inl w_20) (Or.inl w_11) (by decide) (t := .int) (t' := (.array .byte)) (by decide) (by decide)))).other W27 (Or.inr (slot_ne (Or.inl w_20) (Or.inl w_18) (by decide) (t := .int) (t' := .int) (by decide) (by decide))))
  have F31 := (F26.wr W27)
  refine g_putF X27 hx hZ hown (host := "") (Or.inl w_19) Via.refl e27 F30 F31 (Or.inl w_20) w_1 (ty := .int) (by decide) rfl rfl (Jvm.hb hby d1_35) (pc' := 38) rfl ?_
  intro T32 hh32 X32 e32 W32
  have Fw32 := F30.same W32
  have N32 := Fr.snoc X32 N27 g0
  have Z33 : n0 ≤ hh32.size := (by rw [W32.size]; exact Z28)
  have z34 : h0.size ≤ hh32.size := (by rw [W32.size]; exact z29)
  refine g_aloadN X32.here hx (Jvm.hb hby d1_38) (pc' := 39) rfl rfl rfl ?_
  refine g_iloadN X32.here hx (Jvm.hb hby d1_39) (pc' := 40) rfl rfl ?_
  refine g_i2l X32.here hx (Jvm.hb hby d1_40) (pc' := 41) rfl ?_
  have F35 := (((((((F_position.ext E2).other W7 (Or.inr (slot_ne (Or.inl w_22) (Or.inl w_11) (by decide) (t := .long) (t' := (.array .byte)) (by decide) (by decide)))).other W12 (Or.inr (slot_ne (Or.inl w_22) (Or.inl w_14) (by decide) (t := .long) (t' := .long) (by decide) (by decide)))).other W17 (Or.inr (slot_ne (Or.inl w_22) (Or.inr w_16) (by decide) (t := .long) (t' := (.object "com/example/ogma/ogma/store/BlockFile")) (by decide) (by decide)))).other W22 (Or.inr (slot_ne (Or.inl w_22) (Or.inl w_11) (by decide) (t := .long) (t' := (.array .byte)) (by decide) (by decide)))).other W27 (Or.inr (slot_ne (Or.inl w_22) (Or.inl w_18) (by decide) (t := .long) (t' := .int) (by decide) (by decide)))).other W32 (Or.inr (slot_ne (Or.inl w_22) (Or.inl w_20) (by decide) (t := .long) (t' := .int) (by decide) (by decide))))
  have F36 := (F31.wr W32)
  refine g_putF X32 hx hZ hown (host := "") (Or.inl w_21) Via.refl e32 F35 F36 (Or.inl w_22) w_1 (ty := .long) (by decide) rfl rfl (Jvm.hb hby d1_41) (pc' := 44) rfl ?_
  intro T37 hh37 X37 e37 W37
  have Fw37 := F35.same W37
  have N37 := Fr.snoc X37 N32 g0
  have Z38 : n0 ≤ hh37.size := (by rw [W37.size]; exact Z33)
  have z39 : h0.size ≤ hh37.size := (by rw [W37.size]; exact z34)
  refine g_aloadN X37.here hx (Jvm.hb hby d1_44) (pc' := 45) rfl rfl rfl ?_
  refine g_iloadN X37.here hx (Jvm.hb hby d1_45) (pc' := 46) rfl rfl ?_
  refine g_i2l X37.here hx (Jvm.hb hby d1_46) (pc' := 47) rfl ?_
  have F40 := ((((((((F_end.ext E2).other W7 (Or.inr (slot_ne (Or.inr w_24) (Or.inl w_11) (by decide) (t := .long) (t' := (.array .byte)) (by decide) (by decide)))).other W12 (Or.inr (slot_ne (Or.inr w_24) (Or.inl w_14) (by decide) (t := .long) (t' := .long) (by decide) (by decide)))).other W17 (Or.inr (slot_ne (Or.inr w_24) (Or.inr w_16) (by decide) (t := .long) (t' := (.object "com/example/ogma/ogma/store/BlockFile")) (by decide) (by decide)))).other W22 (Or.inr (slot_ne (Or.inr w_24) (Or.inl w_11) (by decide) (t := .long) (t' := (.array .byte)) (by decide) (by decide)))).other W27 (Or.inr (slot_ne (Or.inr w_24) (Or.inl w_18) (by decide) (t := .long) (t' := .int) (by decide) (by decide)))).other W32 (Or.inr (slot_ne (Or.inr w_24) (Or.inl w_20) (by decide) (t := .long) (t' := .int) (by decide) (by decide)))).other W37 (Or.inr (slot_ne (Or.inr w_24) (Or.inl w_22) (by decide) (t := .long) (t' := .long) (by decide) (by decide))))
  have F41 := (F36.wr W37)
  refine g_putF X37 hx hZ hown (host := "") (Or.inl w_23) Via.refl e37 F40 F41 (Or.inr ⟨w_24, rfl, hnm⟩) w_1 (ty := .long) (by decide) rfl rfl (Jvm.hb hby d1_47) (pc' := 50) rfl ?_
  intro T42 hh42 X42 e42 W42
  have Fw42 := F40.same W42
  have N42 := Fr.snoc X42 N37 g0
  have Z43 : n0 ≤ hh42.size := (by rw [W42.size]; exact Z38)
  have z44 : h0.size ≤ hh42.size := (by rw [W42.size]; exact z39)
  have F45 := (F41.wr W42)
  have F46 := ((((Fw22.other W27 (Or.inr (slot_ne (Or.inl w_11) (Or.inl w_18) (by decide) (t := (.array .byte)) (t' := .int) (by decide) (by decide)))).other W32 (Or.inr (slot_ne (Or.inl w_11) (Or.inl w_20) (by decide) (t := (.array .byte)) (t' := .int) (by decide) (by decide)))).other W37 (Or.inr (slot_ne (Or.inl w_11) (Or.inl w_22) (by decide) (t := (.array .byte)) (t' := .long) (by decide) (by decide)))).other W42 (Or.inr (slot_ne (Or.inl w_11) (Or.inr w_24) (by decide) (t := (.array .byte)) (t' := .long) (by decide) (by decide))))
  have F47 := (((Fw27.other W32 (Or.inr (slot_ne (Or.inl w_18) (Or.inl w_20) (by decide) (t := .int) (t' := .int) (by decide) (by decide)))).other W37 (Or.inr (slot_ne (Or.inl w_18) (Or.inl w_22) (by decide) (t := .int) (t' := .long) (by decide) (by decide)))).other W42 (Or.inr (slot_ne (Or.inl w_18) (Or.inr w_24) (by decide) (t := .int) (t' := .long) (by decide) (by decide))))
  have F48 := ((Fw32.other W37 (Or.inr (slot_ne (Or.inl w_20) (Or.inl w_22) (by decide) (t := .int) (t' := .long) (by decide) (by decide)))).other W42 (Or.inr (slot_ne (Or.inl w_20) (Or.inr w_24) (by decide) (t := .int) (t' := .long) (by decide) (by decide))))
  have F49 := (Fw37.other W42 (Or.inr (slot_ne (Or.inl w_22) (Or.inr w_24) (by decide) (t := .long) (t' := .long) (by decide) (by decide))))
  have F50 := (((((((((F_runLeft.ext E2).other W7 (Or.inr (slot_ne (Or.inl w_31) (Or.inl w_11) (by decide) (t := .long) (t' := (.array .byte)) (by decide) (by decide)))).other W12 (Or.inr (slot_ne (Or.inl w_31) (Or.inl w_14) (by decide) (t := .long) (t' := .long) (by decide) (by decide)))).other W17 (Or.inr (slot_ne (Or.inl w_31) (Or.inr w_16) (by decide) (t := .long) (t' := (.object "com/example/ogma/ogma/store/BlockFile")) (by decide) (by decide)))).other W22 (Or.inr (slot_ne (Or.inl w_31) (Or.inl w_11) (by decide) (t := .long) (t' := (.array .byte)) (by decide) (by decide)))).other W27 (Or.inr (slot_ne (Or.inl w_31) (Or.inl w_18) (by decide) (t := .long) (t' := .int) (by decide) (by decide)))).other W32 (Or.inr (slot_ne (Or.inl w_31) (Or.inl w_20) (by decide) (t := .long) (t' := .int) (by decide) (by decide)))).other W37 (Or.inr (slot_ne (Or.inl w_31) (Or.inl w_22) (by decide) (t := .long) (t' := .long) (by decide) (by decide)))).other W42 (Or.inr (slot_ne (Or.inl w_31) (Or.inr w_24) (by decide) (t := .long) (t' := .long) (by decide) (by decide))))
  have F51 := (((((((((F_runStep.ext E2).other W7 (Or.inr (slot_ne (Or.inl w_43) (Or.inl w_11) (by decide) (t := .long) (t' := (.array .byte)) (by decide) (by decide)))).other W12 (Or.inr (slot_ne (Or.inl w_43) (Or.inl w_14) (by decide) (t := .long) (t' := .long) (by decide) (by decide)))).other W17 (Or.inr (slot_ne (Or.inl w_43) (Or.inr w_16) (by decide) (t := .long) (t' := (.object "com/example/ogma/ogma/store/BlockFile")) (by decide) (by decide)))).other W22 (Or.inr (slot_ne (Or.inl w_43) (Or.inl w_11) (by decide) (t := .long) (t' := (.array .byte)) (by decide) (by decide)))).other W27 (Or.inr (slot_ne (Or.inl w_43) (Or.inl w_18) (by decide) (t := .long) (t' := .int) (by decide) (by decide)))).other W32 (Or.inr (slot_ne (Or.inl w_43) (Or.inl w_20) (by decide) (t := .long) (t' := .int) (by decide) (by decide)))).other W37 (Or.inr (slot_ne (Or.inl w_43) (Or.inl w_22) (by decide) (t := .long) (t' := .long) (by decide) (by decide)))).other W42 (Or.inr (slot_ne (Or.inl w_43) (Or.inr w_24) (by decide) (t := .long) (t' := .long) (by decide) (by decide))))
  have F52 := ((((((Fw12.other W17 (Or.inr (slot_ne (Or.inl w_14) (Or.inr w_16) (by decide) (t := .long) (t' := (.object "com/example/ogma/ogma/store/BlockFile")) (by decide) (by decide)))).other W22 (Or.inr (slot_ne (Or.inl w_14) (Or.inl w_11) (by decide) (t := .long) (t' := (.array .byte)) (by decide) (by decide)))).other W27 (Or.inr (slot_ne (Or.inl w_14) (Or.inl w_18) (by decide) (t := .long) (t' := .int) (by decide) (by decide)))).other W32 (Or.inr (slot_ne (Or.inl w_14) (Or.inl w_20) (by decide) (t := .long) (t' := .int) (by decide) (by decide)))).other W37 (Or.inr (slot_ne (Or.inl w_14) (Or.inl w_22) (by decide) (t := .long) (t' := .long) (by decide) (by decide)))).other W42 (Or.inr (slot_ne (Or.inl w_14) (Or.inr w_24) (by decide) (t := .long) (t' := .long) (by decide) (by decide))))
  have KK := ((((((((((Keep.refl h0 [x0]).ext E2).wr W7 (Or.inl (List.mem_of_getElem? (i := 0) rfl))).wr W12 (Or.inl (List.mem_of_getElem? (i := 0) rfl))).wr W17 (Or.inl (List.mem_of_getElem? (i := 0) rfl))).wr W22 (Or.inl (List.mem_of_getElem? (i := 0) rfl))).wr W27 (Or.inl (List.mem_of_getElem? (i := 0) rfl))).wr W32 (Or.inl (List.mem_of_getElem? (i := 0) rfl))).wr W37 (Or.inl (List.mem_of_getElem? (i := 0) rfl))).wr W42 (Or.inl (List.mem_of_getElem? (i := 0) rfl)))
  exact g_retV X42 hx hlk hret (Jvm.hb hby d1_50) (by decide) (by decide) (by rw [e42]; exact ⟨rfl, N42, KK, ⟨F45, F46, F47, F48, F49, Fw42, F50, F51, F52⟩⟩)
def f_nx (b : Int32) : Int64 := ((0 : Int64) ||| ((b &&& (127 : Int32)).toInt64 <<< ((0 : Int32) &&& 0x3f).toInt64))
def own_Q5 (Z : State) (n0 : Nat) (x0 : Addr) (bl : Addr) (ix li : Int32) (po en rl rs nu : Int64) (b : Int32) (h0 : Heap) (v : Option Value) (h : Heap) (L : List Loc) : Prop := v = some (.long (f_nx b)) ∧ Fr n0 L ∧ Keep h0 h [x0] ∧ own_CR Z h x0 bl (ix + (1 : Int32)) li po en rl rs nu
theorem d5_0 : decode prog_80_method_4_code 0 = .ok (.lconst 0, 1) := by decide +kernel
theorem d5_1 : decode prog_80_method_4_code 1 = .ok (.lstore_n 1, 1) := by decide +kernel
theorem d5_2 : decode prog_80_method_4_code 2 = .ok (.iconst 0, 1) := by decide +kernel
theorem d5_3 : decode prog_80_method_4_code 3 = .ok (.istore_n 3, 1) := by decide +kernel
theorem d5_4 : decode prog_80_method_4_code 4 = .ok (.aload_n 0, 1) := by decide +kernel
theorem d5_5 : decode prog_80_method_4_code 5 = .ok (.getfield 29, 3) := by decide +kernel
theorem d5_8 : decode prog_80_method_4_code 8 = .ok (.aload_n 0, 1) := by decide +kernel
theorem d5_9 : decode prog_80_method_4_code 9 = .ok (.getfield 33, 3) := by decide +kernel
theorem d5_12 : decode prog_80_method_4_code 12 = .ok (.if_icmp .ne 7, 3) := by decide +kernel
theorem d5_19 : decode prog_80_method_4_code 19 = .ok (.aload_n 0, 1) := by decide +kernel
theorem d5_20 : decode prog_80_method_4_code 20 = .ok (.getfield 7, 3) := by decide +kernel
theorem d5_23 : decode prog_80_method_4_code 23 = .ok (.aload_n 0, 1) := by decide +kernel
theorem d5_24 : decode prog_80_method_4_code 24 = .ok (.dup, 1) := by decide +kernel
theorem d5_25 : decode prog_80_method_4_code 25 = .ok (.getfield 29, 3) := by decide +kernel
theorem d5_28 : decode prog_80_method_4_code 28 = .ok (.dup_x1, 1) := by decide +kernel
theorem d5_29 : decode prog_80_method_4_code 29 = .ok (.iconst 1, 1) := by decide +kernel
theorem d5_30 : decode prog_80_method_4_code 30 = .ok (.iadd, 1) := by decide +kernel
theorem d5_31 : decode prog_80_method_4_code 31 = .ok (.putfield 29, 3) := by decide +kernel
theorem d5_34 : decode prog_80_method_4_code 34 = .ok (.baload, 1) := by decide +kernel
theorem d5_35 : decode prog_80_method_4_code 35 = .ok (.istore 4, 2) := by decide +kernel
theorem d5_37 : decode prog_80_method_4_code 37 = .ok (.lload_n 1, 1) := by decide +kernel
theorem d5_38 : decode prog_80_method_4_code 38 = .ok (.iload 4, 2) := by decide +kernel
theorem d5_40 : decode prog_80_method_4_code 40 = .ok (.bipush 127, 2) := by decide +kernel
theorem d5_42 : decode prog_80_method_4_code 42 = .ok (.iand, 1) := by decide +kernel
theorem d5_43 : decode prog_80_method_4_code 43 = .ok (.i2l, 1) := by decide +kernel
theorem d5_44 : decode prog_80_method_4_code 44 = .ok (.iload_n 3, 1) := by decide +kernel
theorem d5_45 : decode prog_80_method_4_code 45 = .ok (.lshl, 1) := by decide +kernel
theorem d5_46 : decode prog_80_method_4_code 46 = .ok (.lor, 1) := by decide +kernel
theorem d5_47 : decode prog_80_method_4_code 47 = .ok (.lstore_n 1, 1) := by decide +kernel
theorem d5_48 : decode prog_80_method_4_code 48 = .ok (.iload 4, 2) := by decide +kernel
theorem d5_50 : decode prog_80_method_4_code 50 = .ok (.ifCond .lt 5, 3) := by decide +kernel
theorem d5_53 : decode prog_80_method_4_code 53 = .ok (.lload_n 1, 1) := by decide +kernel
theorem d5_54 : decode prog_80_method_4_code 54 = .ok (.lreturn, 1) := by decide +kernel
theorem ef_5 (m : MethodId) (x0 : Addr) : entryFrame m #[(.ref x0)] 5 = mkF m 0 #[.val (.ref x0), .unset, .unset, .unset, .unset] [] := by first | (simp [entryFrame, mkF, argsToLocals, Value.category]; done) | rfl
set_option maxRecDepth 65536 in
set_option maxHeartbeats 40000000 in
theorem rm5 (l : Launch) (Z : State) (a0 : Array Value) (hw : ∀ d ∈ tables_1, d.before a0 Z = true) (ws : List Jvm.Cond) (x0 : Addr) (bl : Addr) (ix li : Int32) (po en rl rs nu : Int64) (n : Nat) (f : Nat → Int32) (b : Int32) (h0 : Heap) (n0 : Nat) (Z0 : n0 ≤ h0.size) (g0 : n0 ≤ x0) (B0 : own_CR Z h0 x0 bl ix li po en rl rs nu) (V0 : own_IA Z h0 bl .byte n f) (ne0 : bl ≠ x0) (hne : ¬ ix = li) (hi : 0 ≤ ix.toInt ∧ ix.toInt < n) (hb : f ix.toInt.toNat = b) (hpos : ¬ b < (0 : Int32)) :
    MetFree l (⟨"com/example/ogma/ogma/store/ColumnReader", "next", "()J"⟩ : MethodName) (head1 (Jvm.Cond.code (⟨"com/example/ogma/ogma/store/ColumnReader", "next", "()J"⟩ : MethodName) prog_80_method_4_code 5 (some .long) :: ws) ({ frames := 0, cells := 0, slots := 0, locals := 0 } : Room)) (fun a U => a = #[(.ref x0)] ∧ Z.Warmed39 U.vm ∧ U.heap = h0) (fun _ _ _ _ _ => True) (fun _ U o U' => ∃ v L, o = .returned v ∧ (own_Q5 Z n0 x0 bl ix li po en rl rs nu b h0) v U'.heap L ∧ FrameEnd U o U' L ({ frames := 0, cells := 0, slots := 0, locals := 0 } : Room).cells ({ frames := 0, cells := 0, slots := 0, locals := 0 } : Room).slots) := by
  refine own_body (own := "com/example/ogma/ogma/store/ColumnReader") pn_0 rfl (fun m => ef_5 m x0) ?_
  intro p e s m below meth c T0 hx hby hml hown hnm hlk hret hZ X0 e0
  have w_1 := hw _ (List.mem_of_getElem? (i := 1) rfl)
  have w_10 := hw _ (List.mem_of_getElem? (i := 10) rfl)
  have w_11 := hw _ (List.mem_of_getElem? (i := 11) rfl)
  have w_14 := hw _ (List.mem_of_getElem? (i := 14) rfl)
  have w_17 := hw _ (List.mem_of_getElem? (i := 17) rfl)
  have w_18 := hw _ (List.mem_of_getElem? (i := 18) rfl)
  have w_19 := hw _ (List.mem_of_getElem? (i := 19) rfl)
  have w_20 := hw _ (List.mem_of_getElem? (i := 20) rfl)
  have w_22 := hw _ (List.mem_of_getElem? (i := 22) rfl)
  have w_24 := hw _ (List.mem_of_getElem? (i := 24) rfl)
  have w_31 := hw _ (List.mem_of_getElem? (i := 31) rfl)
  have w_43 := hw _ (List.mem_of_getElem? (i := 43) rfl)
  have N0 := Fr.nil n0
  obtain ⟨EB1, FB1_block, FB1_at, FB1_limit, FB1_position, FB1_end, FB1_runLeft, FB1_runStep, FB1_number⟩ := B0
  refine g_lconst X0.here hx (Jvm.hb hby d5_0) (pc' := 1) rfl (z := (0 : Int64)) rfl ?_
  refine g_lstoreN X0.here hx (Jvm.hb hby d5_1) (pc' := 2) rfl (L' := #[.val (.ref x0), .val (.long (0 : Int64)), .second, .unset, .unset]) rfl ?_
  refine g_iconst X0.here hx (Jvm.hb hby d5_2) (pc' := 3) rfl (z := (0 : Int32)) rfl ?_
  refine g_istoreN X0.here hx (Jvm.hb hby d5_3) (pc' := 4) rfl (L' := #[.val (.ref x0), .val (.long (0 : Int64)), .second, .val (.int (0 : Int32)), .unset]) rfl ?_
  refine g_aloadN X0.here hx (Jvm.hb hby d5_4) (pc' := 5) rfl rfl rfl ?_
  refine g_getF X0 hx hZ hown (host := "") (Or.inl w_17) Via.refl e0 FB1_at (Jvm.hb hby d5_5) (pc' := 8) rfl ?_
  intro T2 X2 e2
  refine g_aloadN X2.here hx (Jvm.hb hby d5_8) (pc' := 9) rfl rfl rfl ?_
  refine g_getF X2 hx hZ hown (host := "") (Or.inl w_19) Via.refl e2 FB1_limit (Jvm.hb hby d5_9) (pc' := 12) rfl ?_
  intro T3 X3 e3
  refine g_icY X3.here hx (Jvm.hb hby d5_12) (by decide) (pc' := 19) (by decide) (feq hne).2 ?_
  refine g_aloadN X3.here hx (Jvm.hb hby d5_19) (pc' := 20) rfl rfl rfl ?_
  refine g_getF X3 hx hZ hown (host := "") (Or.inl w_10) Via.refl e3 FB1_block (Jvm.hb hby d5_20) (pc' := 23) rfl ?_
  intro T4 X4 e4
  refine g_aloadN X4.here hx (Jvm.hb hby d5_23) (pc' := 24) rfl rfl rfl ?_
  refine g_dup X4.here hx (Jvm.hb hby d5_24) (pc' := 25) rfl rfl ?_
  refine g_getF X4 hx hZ hown (host := "") (Or.inl w_17) Via.refl e4 FB1_at (Jvm.hb hby d5_25) (pc' := 28) rfl ?_
  intro T5 X5 e5
  refine g_dupX1 X5.here hx (Jvm.hb hby d5_28) (pc' := 29) rfl rfl rfl ?_
  refine g_iconst X5.here hx (Jvm.hb hby d5_29) (pc' := 30) rfl (z := (1 : Int32)) rfl ?_
  refine g_iadd X5.here hx (Jvm.hb hby d5_30) (pc' := 31) rfl ?_
  refine g_putF X5 hx hZ hown (host := "") (Or.inl w_17) Via.refl e5 FB1_at EB1 (Or.inl w_18) w_1 (ty := .int) (by decide) rfl rfl (Jvm.hb hby d5_31) (pc' := 34) rfl ?_
  intro T6 hh6 X6 e6 W6
  have Fw6 := FB1_at.same W6
  have N6 := Fr.snoc X6 N0 g0
  have Z7 : n0 ≤ hh6.size := (by rw [W6.size]; exact Z0)
  have z8 : h0.size ≤ hh6.size := (by rw [W6.size]; exact (Nat.le_refl _))
  have F9 := (V0.other W6 ne0)
  refine g_baload X6 hx hZ e6 F9 hi (v := b) hb (Jvm.hb hby d5_34) (pc' := 35) rfl ?_
  refine g_istore X6.here hx (Jvm.hb hby d5_35) (pc' := 37) rfl (L' := #[.val (.ref x0), .val (.long (0 : Int64)), .second, .val (.int (0 : Int32)), .val (.int b)]) rfl ?_
  refine g_lloadN X6.here hx (Jvm.hb hby d5_37) (pc' := 38) rfl rfl ?_
  refine g_iload X6.here hx (Jvm.hb hby d5_38) (pc' := 40) rfl rfl ?_
  refine g_bipush X6.here hx (Jvm.hb hby d5_40) (pc' := 42) rfl (z := (127 : Int32)) rfl ?_
  refine g_iand X6.here hx (Jvm.hb hby d5_42) (pc' := 43) rfl ?_
  refine g_i2l X6.here hx (Jvm.hb hby d5_43) (pc' := 44) rfl ?_
  refine g_iloadN X6.here hx (Jvm.hb hby d5_44) (pc' := 45) rfl rfl ?_
  refine g_lshl X6.here hx (Jvm.hb hby d5_45) (pc' := 46) rfl ?_
  refine g_lor X6.here hx (Jvm.hb hby d5_46) (pc' := 47) rfl ?_
  refine g_lstoreN X6.here hx (Jvm.hb hby d5_47) (pc' := 48) rfl (L' := #[.val (.ref x0), .val (.long ((0 : Int64) ||| (((b &&& (127 : Int32)).toInt64) <<< ((0 : Int32) &&& 0x3f).toInt64))), .second, .val (.int (0 : Int32)), .val (.int b)]) rfl ?_
  refine g_iload X6.here hx (Jvm.hb hby d5_48) (pc' := 50) rfl rfl ?_
  refine g_ifN X6.here hx (Jvm.hb hby d5_50) (pc' := 53) rfl ((if0 _ _).trans (flt hpos).1) ?_
  refine g_lloadN X6.here hx (Jvm.hb hby d5_53) (pc' := 54) rfl rfl ?_
  have F10 := (EB1.wr W6)
  have F11 := (FB1_block.other W6 (Or.inr (slot_ne (Or.inl w_11) (Or.inl w_18) (by decide) (t := (.array .byte)) (t' := .int) (by decide) (by decide))))
  have F12 := (FB1_limit.other W6 (Or.inr (slot_ne (Or.inl w_20) (Or.inl w_18) (by decide) (t := .int) (t' := .int) (by decide) (by decide))))
  have F13 := (FB1_position.other W6 (Or.inr (slot_ne (Or.inl w_22) (Or.inl w_18) (by decide) (t := .long) (t' := .int) (by decide) (by decide))))
  have F14 := (FB1_end.other W6 (Or.inr (slot_ne (Or.inr w_24) (Or.inl w_18) (by decide) (t := .long) (t' := .int) (by decide) (by decide))))
  have F15 := (FB1_runLeft.other W6 (Or.inr (slot_ne (Or.inl w_31) (Or.inl w_18) (by decide) (t := .long) (t' := .int) (by decide) (by decide))))
  have F16 := (FB1_runStep.other W6 (Or.inr (slot_ne (Or.inl w_43) (Or.inl w_18) (by decide) (t := .long) (t' := .int) (by decide) (by decide))))
  have F17 := (FB1_number.other W6 (Or.inr (slot_ne (Or.inl w_14) (Or.inl w_18) (by decide) (t := .long) (t' := .int) (by decide) (by decide))))
  have KK := ((Keep.refl h0 [x0]).wr W6 (Or.inl (List.mem_of_getElem? (i := 0) rfl)))
  exact g_retL X6 hx hlk hret (Jvm.hb hby d5_54) (Nat.zero_le _) (Nat.zero_le _) (by rw [e6]; exact ⟨rfl, N6, KK, ⟨F10, F11, Fw6, F12, F13, F14, F15, F16, F17⟩⟩)
def own_Q4 (Z : State) (n0 : Nat) (x0 bl : Addr) (ix li : Int32) (po en rl : Int64) (h0 : Heap) (v : Option Value) (h : Heap) (L : List Loc) : Prop := (∃ z, v = some (.long z)) ∧ Fr n0 L ∧ Keep h0 h [x0] ∧ ∃ rs nu, own_CR Z h x0 bl ix li po en rl rs nu
theorem d4_0 : decode prog_80_method_7_code 0 = .ok (.aload_n 0, 1) := by decide +kernel
theorem d4_1 : decode prog_80_method_7_code 1 = .ok (.getfield 36, 3) := by decide +kernel
theorem d4_4 : decode prog_80_method_7_code 4 = .ok (.lconst 0, 1) := by decide +kernel
theorem d4_5 : decode prog_80_method_7_code 5 = .ok (.lcmp, 1) := by decide +kernel
theorem d4_6 : decode prog_80_method_7_code 6 = .ok (.ifCond .le 29, 3) := by decide +kernel
theorem d4_35 : decode prog_80_method_7_code 35 = .ok (.aload_n 0, 1) := by decide +kernel
theorem d4_36 : decode prog_80_method_7_code 36 = .ok (.invokevirtual 55, 3) := by decide +kernel
theorem pd_0 : parseMethodDescriptor "()J" = some ⟨[], some .long⟩ := by decide +kernel
theorem d4_39 : decode prog_80_method_7_code 39 = .ok (.lstore_n 1, 1) := by decide +kernel
theorem d4_40 : decode prog_80_method_7_code 40 = .ok (.aload_n 0, 1) := by decide +kernel
theorem d4_41 : decode prog_80_method_7_code 41 = .ok (.dup, 1) := by decide +kernel
theorem d4_42 : decode prog_80_method_7_code 42 = .ok (.getfield 15, 3) := by decide +kernel
theorem d4_45 : decode prog_80_method_7_code 45 = .ok (.lload_n 1, 1) := by decide +kernel
theorem d4_46 : decode prog_80_method_7_code 46 = .ok (.iconst 1, 1) := by decide +kernel
theorem d4_47 : decode prog_80_method_7_code 47 = .ok (.lushr, 1) := by decide +kernel
theorem d4_48 : decode prog_80_method_7_code 48 = .ok (.lconst 1, 1) := by decide +kernel
theorem d4_49 : decode prog_80_method_7_code 49 = .ok (.ladd, 1) := by decide +kernel
theorem d4_50 : decode prog_80_method_7_code 50 = .ok (.ladd, 1) := by decide +kernel
theorem d4_51 : decode prog_80_method_7_code 51 = .ok (.putfield 15, 3) := by decide +kernel
theorem d4_54 : decode prog_80_method_7_code 54 = .ok (.lload_n 1, 1) := by decide +kernel
theorem d4_55 : decode prog_80_method_7_code 55 = .ok (.lconst 1, 1) := by decide +kernel
theorem d4_56 : decode prog_80_method_7_code 56 = .ok (.land, 1) := by decide +kernel
theorem d4_57 : decode prog_80_method_7_code 57 = .ok (.lconst 0, 1) := by decide +kernel
theorem d4_58 : decode prog_80_method_7_code 58 = .ok (.lcmp, 1) := by decide +kernel
theorem d4_59 : decode prog_80_method_7_code 59 = .ok (.ifCond .eq 20, 3) := by decide +kernel
theorem d4_62 : decode prog_80_method_7_code 62 = .ok (.aload_n 0, 1) := by decide +kernel
theorem d4_63 : decode prog_80_method_7_code 63 = .ok (.lload_n 1, 1) := by decide +kernel
theorem d4_64 : decode prog_80_method_7_code 64 = .ok (.iconst 1, 1) := by decide +kernel
theorem d4_65 : decode prog_80_method_7_code 65 = .ok (.lushr, 1) := by decide +kernel
theorem d4_66 : decode prog_80_method_7_code 66 = .ok (.lconst 1, 1) := by decide +kernel
theorem d4_67 : decode prog_80_method_7_code 67 = .ok (.ladd, 1) := by decide +kernel
theorem d4_68 : decode prog_80_method_7_code 68 = .ok (.putfield 64, 3) := by decide +kernel
theorem d4_71 : decode prog_80_method_7_code 71 = .ok (.aload_n 0, 1) := by decide +kernel
theorem d4_72 : decode prog_80_method_7_code 72 = .ok (.aload_n 0, 1) := by decide +kernel
theorem d4_73 : decode prog_80_method_7_code 73 = .ok (.invokevirtual 55, 3) := by decide +kernel
theorem d4_76 : decode prog_80_method_7_code 76 = .ok (.putfield 36, 3) := by decide +kernel
theorem d4_79 : decode prog_80_method_7_code 79 = .ok (.aload_n 0, 1) := by decide +kernel
theorem d4_80 : decode prog_80_method_7_code 80 = .ok (.getfield 15, 3) := by decide +kernel
theorem d4_83 : decode prog_80_method_7_code 83 = .ok (.lreturn, 1) := by decide +kernel
theorem ef_4 (m : MethodId) (x0 : Addr) : entryFrame m #[(.ref x0)] 3 = mkF m 0 #[.val (.ref x0), .unset, .unset] [] := by first | (simp [entryFrame, mkF, argsToLocals, Value.category]; done) | rfl
set_option maxRecDepth 65536 in
set_option maxHeartbeats 40000000 in
theorem rm4a (l : Launch) (Z : State) (a0 : Array Value) (hw : ∀ d ∈ tables_1, d.before a0 Z = true) (ws : List Jvm.Cond) (x0 : Addr) (bl : Addr) (ix li : Int32) (po en rl rs nu : Int64) (n : Nat) (f : Nat → Int32) (b c2 : Int32) (h0 : Heap) (n0 : Nat) (Z0 : n0 ≤ h0.size) (g0 : n0 ≤ x0) (B0 : own_CR Z h0 x0 bl ix li po en rl rs nu) (V0 : own_IA Z h0 bl .byte n f) (ne0 : bl ≠ x0) (hrl : ¬ (0 : Int64) < rl) (hne : ¬ ix = li) (hi : 0 ≤ ix.toInt ∧ ix.toInt < n) (hb : f ix.toInt.toNat = b) (hpos : ¬ b < (0 : Int32)) (hodd : ¬ (f_nx b &&& (1 : Int64)) = (0 : Int64)) (hne2 : ¬ (ix + (1 : Int32)) = li) (hi2 : 0 ≤ (ix + (1 : Int32)).toInt ∧ (ix + (1 : Int32)).toInt < n) (hc2 : f (ix + (1 : Int32)).toInt.toNat = c2) (hpos2 : ¬ c2 < (0 : Int32)) :
    MetFree l (⟨"com/example/ogma/ogma/store/ColumnReader", "nextNumber", "()J"⟩ : MethodName) (head1 (Jvm.Cond.code (⟨"com/example/ogma/ogma/store/ColumnReader", "nextNumber", "()J"⟩ : MethodName) prog_80_method_7_code 3 (some .long) :: ws) ({ frames := 1, cells := 0, slots := 0, locals := 19 } : Room)) (fun a U => a = #[(.ref x0)] ∧ Z.Warmed39 U.vm ∧ U.heap = h0) (fun _ _ _ _ _ => True) (fun _ U o U' => ∃ v L, o = .returned v ∧ (own_Q4 Z n0 x0 bl ((ix + (1 : Int32)) + (1 : Int32)) li po en (f_nx c2) h0) v U'.heap L ∧ FrameEnd U o U' L ({ frames := 1, cells := 0, slots := 0, locals := 19 } : Room).cells ({ frames := 1, cells := 0, slots := 0, locals := 19 } : Room).slots) := by
  refine own_body (own := "com/example/ogma/ogma/store/ColumnReader") pn_0 rfl (fun m => ef_4 m x0) ?_
  intro p e s m below meth c T0 hx hby hml hown hnm hlk hret hZ X0 e0
  have w_1 := hw _ (List.mem_of_getElem? (i := 1) rfl)
  have w_2 := hw _ (List.mem_of_getElem? (i := 2) rfl)
  have w_11 := hw _ (List.mem_of_getElem? (i := 11) rfl)
  have w_13 := hw _ (List.mem_of_getElem? (i := 13) rfl)
  have w_14 := hw _ (List.mem_of_getElem? (i := 14) rfl)
  have w_18 := hw _ (List.mem_of_getElem? (i := 18) rfl)
  have w_20 := hw _ (List.mem_of_getElem? (i := 20) rfl)
  have w_22 := hw _ (List.mem_of_getElem? (i := 22) rfl)
  have w_24 := hw _ (List.mem_of_getElem? (i := 24) rfl)
  have w_30 := hw _ (List.mem_of_getElem? (i := 30) rfl)
  have w_31 := hw _ (List.mem_of_getElem? (i := 31) rfl)
  have w_37 := hw _ (List.mem_of_getElem? (i := 37) rfl)
  have w_38 := hw _ (List.mem_of_getElem? (i := 38) rfl)
  have w_39 := hw _ (List.mem_of_getElem? (i := 39) rfl)
  have w_40 := hw _ (List.mem_of_getElem? (i := 40) rfl)
  have w_41 := hw _ (List.mem_of_getElem? (i := 41) rfl)
  have w_42 := hw _ (List.mem_of_getElem? (i := 42) rfl)
  have w_43 := hw _ (List.mem_of_getElem? (i := 43) rfl)
  have N0 := Fr.nil n0
  obtain ⟨EB1, FB1_block, FB1_at, FB1_limit, FB1_position, FB1_end, FB1_runLeft, FB1_runStep, FB1_number⟩ := B0
  refine g_aloadN X0.here hx (Jvm.hb hby d4_0) (pc' := 1) rfl rfl rfl ?_
  refine g_getF X0 hx hZ hown (host := "") (Or.inl w_30) Via.refl e0 FB1_runLeft (Jvm.hb hby d4_1) (pc' := 4) rfl ?_
  intro T2 X2 e2
  refine g_lconst X2.here hx (Jvm.hb hby d4_4) (pc' := 5) rfl (z := (0 : Int64)) rfl ?_
  refine g_lcmp X2.here hx (Jvm.hb hby d4_5) (pc' := 6) rfl ?_
  refine g_ifY X2.here hx (Jvm.hb hby d4_6) (by decide) (pc' := 35) (by decide) (own_fltL hrl).2.2.2 ?_
  refine g_aloadN X2.here hx (Jvm.hb hby d4_35) (pc' := 36) rfl rfl rfl ?_
  refine g_callV X2 hx hZ hown w_37 w_38 (own_nf hZ w_40) w_40 w_39 w_2 w_41 (by decide) (rm5 l Z a0 hw [] x0 bl ix li po en rl rs nu n f b h0 n0 Z0 g0 ⟨EB1, FB1_block, FB1_at, FB1_limit, FB1_position, FB1_end, FB1_runLeft, FB1_runStep, FB1_number⟩ V0 ne0 hne hi hb hpos) 0 (by decide) (by decide) e2 EB1 (by rw [hml]; rfl) [] [] (lenOf pd_0 rfl) rfl rfl (Nat.le_of_eq rfl) (Jvm.hb hby d4_36) (pc' := 39) rfl (cells' := 0) (slots' := 0) rfl rfl (by decide) (by decide) ?_
  intro v3 T3 L3 X3 hQ3
  obtain ⟨rfl, Nq3, K3, Bq3⟩ := hQ3
  have N3 := Fr.app N0 Nq3
  have Z4 : n0 ≤ T3.heap.size := Nat.le_trans Z0 K3.1
  have z5 : h0.size ≤ T3.heap.size := Nat.le_trans (Nat.le_refl _) K3.1
  obtain ⟨EB6, FB6_block, FB6_at, FB6_limit, FB6_position, FB6_end, FB6_runLeft, FB6_runStep, FB6_number⟩ := Bq3
  show own_Gl p e below s (own_Q4 Z n0 x0 bl ((ix + (1 : Int32)) + (1 : Int32)) li po en (f_nx c2) h0) ({ frames := 1, cells := 0, slots := 0, locals := 19 } : Room).cells ({ frames := 1, cells := 0, slots := 0, locals := 19 } : Room).slots (T3.setTop (mkF m 39 #[.val (.ref x0), .unset, .unset] [(.long (f_nx b))]))
  refine g_lstoreN X3.here hx (Jvm.hb hby d4_39) (pc' := 40) rfl (L' := #[.val (.ref x0), .val (.long (f_nx b)), .second]) rfl ?_
  refine g_aloadN X3.here hx (Jvm.hb hby d4_40) (pc' := 41) rfl rfl rfl ?_
  refine g_dup X3.here hx (Jvm.hb hby d4_41) (pc' := 42) rfl rfl ?_
  refine g_getF X3 hx hZ hown (host := "") (Or.inl w_13) Via.refl rfl FB6_number (Jvm.hb hby d4_42) (pc' := 45) rfl ?_
  intro T7 X7 e7
  refine g_lloadN X7.here hx (Jvm.hb hby d4_45) (pc' := 46) rfl rfl ?_
  refine g_iconst X7.here hx (Jvm.hb hby d4_46) (pc' := 47) rfl (z := (1 : Int32)) rfl ?_
  refine g_lushr X7.here hx (Jvm.hb hby d4_47) (pc' := 48) rfl ?_
  refine g_lconst X7.here hx (Jvm.hb hby d4_48) (pc' := 49) rfl (z := (1 : Int64)) rfl ?_
  refine g_ladd X7.here hx (Jvm.hb hby d4_49) (pc' := 50) rfl ?_
  refine g_ladd X7.here hx (Jvm.hb hby d4_50) (pc' := 51) rfl ?_
  refine g_putF X7 hx hZ hown (host := "") (Or.inl w_13) Via.refl e7 FB6_number EB6 (Or.inl w_14) w_1 (ty := .long) (by decide) rfl rfl (Jvm.hb hby d4_51) (pc' := 54) rfl ?_
  intro T8 hh8 X8 e8 W8
  have Fw8 := FB6_number.same W8
  have N8 := Fr.snoc X8 N3 g0
  have Z9 : n0 ≤ hh8.size := (by rw [W8.size]; exact Z4)
  have z10 : h0.size ≤ hh8.size := (by rw [W8.size]; exact z5)
  refine g_lloadN X8.here hx (Jvm.hb hby d4_54) (pc' := 55) rfl rfl ?_
  refine g_lconst X8.here hx (Jvm.hb hby d4_55) (pc' := 56) rfl (z := (1 : Int64)) rfl ?_
  refine g_land X8.here hx (Jvm.hb hby d4_56) (pc' := 57) rfl ?_
  refine g_lconst X8.here hx (Jvm.hb hby d4_57) (pc' := 58) rfl (z := (0 : Int64)) rfl ?_
  refine g_lcmp X8.here hx (Jvm.hb hby d4_58) (pc' := 59) rfl ?_
  refine g_ifN X8.here hx (Jvm.hb hby d4_59) (pc' := 62) rfl (own_feqL hodd).1 ?_
  refine g_aloadN X8.here hx (Jvm.hb hby d4_62) (pc' := 63) rfl rfl rfl ?_
  refine g_lloadN X8.here hx (Jvm.hb hby d4_63) (pc' := 64) rfl rfl ?_
  refine g_iconst X8.here hx (Jvm.hb hby d4_64) (pc' := 65) rfl (z := (1 : Int32)) rfl ?_
  refine g_lushr X8.here hx (Jvm.hb hby d4_65) (pc' := 66) rfl ?_
  refine g_lconst X8.here hx (Jvm.hb hby d4_66) (pc' := 67) rfl (z := (1 : Int64)) rfl ?_
  refine g_ladd X8.here hx (Jvm.hb hby d4_67) (pc' := 68) rfl ?_
  have F11 := (FB6_runStep.other W8 (Or.inr (slot_ne (Or.inl w_43) (Or.inl w_14) (by decide) (t := .long) (t' := .long) (by decide) (by decide))))
  have F12 := (EB6.wr W8)
  refine g_putF X8 hx hZ hown (host := "") (Or.inl w_42) Via.refl e8 F11 F12 (Or.inl w_43) w_1 (ty := .long) (by decide) rfl rfl (Jvm.hb hby d4_68) (pc' := 71) rfl ?_
  intro T13 hh13 X13 e13 W13
  have Fw13 := F11.same W13
  have N13 := Fr.snoc X13 N8 g0
  have Z14 : n0 ≤ hh13.size := (by rw [W13.size]; exact Z9)
  have z15 : h0.size ≤ hh13.size := (by rw [W13.size]; exact z10)
  refine g_aloadN X13.here hx (Jvm.hb hby d4_71) (pc' := 72) rfl rfl rfl ?_
  refine g_aloadN X13.here hx (Jvm.hb hby d4_72) (pc' := 73) rfl rfl rfl ?_
  have F16 := (F12.wr W13)
  have F17 := ((FB6_block.other W8 (Or.inr (slot_ne (Or.inl w_11) (Or.inl w_14) (by decide) (t := (.array .byte)) (t' := .long) (by decide) (by decide)))).other W13 (Or.inr (slot_ne (Or.inl w_11) (Or.inl w_43) (by decide) (t := (.array .byte)) (t' := .long) (by decide) (by decide))))
  have F18 := ((FB6_at.other W8 (Or.inr (slot_ne (Or.inl w_18) (Or.inl w_14) (by decide) (t := .int) (t' := .long) (by decide) (by decide)))).other W13 (Or.inr (slot_ne (Or.inl w_18) (Or.inl w_43) (by decide) (t := .int) (t' := .long) (by decide) (by decide))))
  have F19 := ((FB6_limit.other W8 (Or.inr (slot_ne (Or.inl w_20) (Or.inl w_14) (by decide) (t := .int) (t' := .long) (by decide) (by decide)))).other W13 (Or.inr (slot_ne (Or.inl w_20) (Or.inl w_43) (by decide) (t := .int) (t' := .long) (by decide) (by decide))))
  have F20 := ((FB6_position.other W8 (Or.inr (slot_ne (Or.inl w_22) (Or.inl w_14) (by decide) (t := .long) (t' := .long) (by decide) (by decide)))).other W13 (Or.inr (slot_ne (Or.inl w_22) (Or.inl w_43) (by decide) (t := .long) (t' := .long) (by decide) (by decide))))
  have F21 := ((FB6_end.other W8 (Or.inr (slot_ne (Or.inr w_24) (Or.inl w_14) (by decide) (t := .long) (t' := .long) (by decide) (by decide)))).other W13 (Or.inr (slot_ne (Or.inr w_24) (Or.inl w_43) (by decide) (t := .long) (t' := .long) (by decide) (by decide))))
  have F22 := ((FB6_runLeft.other W8 (Or.inr (slot_ne (Or.inl w_31) (Or.inl w_14) (by decide) (t := .long) (t' := .long) (by decide) (by decide)))).other W13 (Or.inr (slot_ne (Or.inl w_31) (Or.inl w_43) (by decide) (t := .long) (t' := .long) (by decide) (by decide))))
  have F23 := (Fw8.other W13 (Or.inr (slot_ne (Or.inl w_14) (Or.inl w_43) (by decide) (t := .long) (t' := .long) (by decide) (by decide))))
  have F24 := (((V0.keep K3 (ninS ne0 nin0)).other W8 ne0).other W13 ne0)
  refine g_callV X13 hx hZ hown w_37 w_38 (own_nf hZ w_40) w_40 w_39 w_2 w_41 (by decide) (rm5 l Z a0 hw [] x0 bl (ix + (1 : Int32)) li po en rl ((((f_nx b).toUInt64 >>> ((1 : Int32) &&& 0x3f).toInt64.toUInt64).toInt64) + (1 : Int64)) (nu + ((((f_nx b).toUInt64 >>> ((1 : Int32) &&& 0x3f).toInt64.toUInt64).toInt64) + (1 : Int64))) n f c2 hh13 n0 Z14 g0 ⟨F16, F17, F18, F19, F20, F21, F22, Fw13, F23⟩ F24 ne0 hne2 hi2 hc2 hpos2) 1 (by decide) (by decide) e13 F16 (by rw [hml]; rfl) [] [(.ref x0)] (lenOf pd_0 rfl) rfl rfl (Nat.le_of_eq rfl) (Jvm.hb hby d4_73) (pc' := 76) rfl (cells' := 0) (slots' := 0) rfl rfl (by decide) (by decide) ?_
  intro v25 T25 L25 X25 hQ25
  obtain ⟨rfl, Nq25, K25, Bq25⟩ := hQ25
  have N25 := Fr.app N13 Nq25
  have Z26 : n0 ≤ T25.heap.size := Nat.le_trans Z14 K25.1
  have z27 : h0.size ≤ T25.heap.size := Nat.le_trans z15 K25.1
  obtain ⟨EB28, FB28_block, FB28_at, FB28_limit, FB28_position, FB28_end, FB28_runLeft, FB28_runStep, FB28_number⟩ := Bq25
  show own_Gl p e below s (own_Q4 Z n0 x0 bl ((ix + (1 : Int32)) + (1 : Int32)) li po en (f_nx c2) h0) ({ frames := 1, cells := 0, slots := 0, locals := 19 } : Room).cells ({ frames := 1, cells := 0, slots := 0, locals := 19 } : Room).slots (T25.setTop (mkF m 76 #[.val (.ref x0), .val (.long (f_nx b)), .second] [(.long (f_nx c2)), (.ref x0)]))
  refine g_putF X25 hx hZ hown (host := "") (Or.inl w_30) Via.refl rfl FB28_runLeft EB28 (Or.inl w_31) w_1 (ty := .long) (by decide) rfl rfl (Jvm.hb hby d4_76) (pc' := 79) rfl ?_
  intro T29 hh29 X29 e29 W29
  have Fw29 := FB28_runLeft.same W29
  have N29 := Fr.snoc X29 N25 g0
  have Z30 : n0 ≤ hh29.size := (by rw [W29.size]; exact Z26)
  have z31 : h0.size ≤ hh29.size := (by rw [W29.size]; exact z27)
  refine g_aloadN X29.here hx (Jvm.hb hby d4_79) (pc' := 80) rfl rfl rfl ?_
  have F32 := (FB28_number.other W29 (Or.inr (slot_ne (Or.inl w_14) (Or.inl w_31) (by decide) (t := .long) (t' := .long) (by decide) (by decide))))
  refine g_getF X29 hx hZ hown (host := "") (Or.inl w_13) Via.refl e29 F32 (Jvm.hb hby d4_80) (pc' := 83) rfl ?_
  intro T33 X33 e33
  have F34 := (EB28.wr W29)
  have F35 := (FB28_block.other W29 (Or.inr (slot_ne (Or.inl w_11) (Or.inl w_31) (by decide) (t := (.array .byte)) (t' := .long) (by decide) (by decide))))
  have F36 := (FB28_at.other W29 (Or.inr (slot_ne (Or.inl w_18) (Or.inl w_31) (by decide) (t := .int) (t' := .long) (by decide) (by decide))))
  have F37 := (FB28_limit.other W29 (Or.inr (slot_ne (Or.inl w_20) (Or.inl w_31) (by decide) (t := .int) (t' := .long) (by decide) (by decide))))
  have F38 := (FB28_position.other W29 (Or.inr (slot_ne (Or.inl w_22) (Or.inl w_31) (by decide) (t := .long) (t' := .long) (by decide) (by decide))))
  have F39 := (FB28_end.other W29 (Or.inr (slot_ne (Or.inr w_24) (Or.inl w_31) (by decide) (t := .long) (t' := .long) (by decide) (by decide))))
  have F40 := (FB28_runStep.other W29 (Or.inr (slot_ne (Or.inl w_43) (Or.inl w_31) (by decide) (t := .long) (t' := .long) (by decide) (by decide))))
  have KK := ((((((Keep.refl h0 [x0]).trans K3 (allS (Or.inl (List.mem_of_getElem? (i := 0) rfl)) all0)).wr W8 (Or.inl (List.mem_of_getElem? (i := 0) rfl))).wr W13 (Or.inl (List.mem_of_getElem? (i := 0) rfl))).trans K25 (allS (Or.inl (List.mem_of_getElem? (i := 0) rfl)) all0)).wr W29 (Or.inl (List.mem_of_getElem? (i := 0) rfl)))
  exact g_retL X33 hx hlk hret (Jvm.hb hby d4_83) (Nat.zero_le _) (Nat.zero_le _) (by rw [e33]; exact ⟨⟨_, rfl⟩, N29, KK, ⟨_, _, ⟨F34, F35, F36, F37, F38, F39, Fw29, F40, F32⟩⟩⟩)
theorem d4_9 : decode prog_80_method_7_code 9 = .ok (.aload_n 0, 1) := by decide +kernel
theorem d4_10 : decode prog_80_method_7_code 10 = .ok (.dup, 1) := by decide +kernel
theorem d4_11 : decode prog_80_method_7_code 11 = .ok (.getfield 36, 3) := by decide +kernel
theorem d4_14 : decode prog_80_method_7_code 14 = .ok (.lconst 1, 1) := by decide +kernel
theorem d4_15 : decode prog_80_method_7_code 15 = .ok (.lsub, 1) := by decide +kernel
theorem d4_16 : decode prog_80_method_7_code 16 = .ok (.putfield 36, 3) := by decide +kernel
theorem d4_19 : decode prog_80_method_7_code 19 = .ok (.aload_n 0, 1) := by decide +kernel
theorem d4_20 : decode prog_80_method_7_code 20 = .ok (.dup, 1) := by decide +kernel
theorem d4_21 : decode prog_80_method_7_code 21 = .ok (.getfield 15, 3) := by decide +kernel
theorem d4_24 : decode prog_80_method_7_code 24 = .ok (.aload_n 0, 1) := by decide +kernel
theorem d4_25 : decode prog_80_method_7_code 25 = .ok (.getfield 64, 3) := by decide +kernel
theorem d4_28 : decode prog_80_method_7_code 28 = .ok (.ladd, 1) := by decide +kernel
theorem d4_29 : decode prog_80_method_7_code 29 = .ok (.putfield 15, 3) := by decide +kernel
theorem d4_32 : decode prog_80_method_7_code 32 = .ok (.goto 47, 3) := by decide +kernel
set_option maxRecDepth 65536 in
set_option maxHeartbeats 40000000 in
theorem rm4b (l : Launch) (Z : State) (a0 : Array Value) (hw : ∀ d ∈ tables_1, d.before a0 Z = true) (ws : List Jvm.Cond) (x0 : Addr) (bl : Addr) (ix li : Int32) (po en rl rs nu : Int64) (n : Nat) (f : Nat → Int32) (h0 : Heap) (n0 : Nat) (Z0 : n0 ≤ h0.size) (g0 : n0 ≤ x0) (B0 : own_CR Z h0 x0 bl ix li po en rl rs nu) (V0 : own_IA Z h0 bl .byte n f) (ne0 : bl ≠ x0) (hrl : (0 : Int64) < rl) :
    MetFree l (⟨"com/example/ogma/ogma/store/ColumnReader", "nextNumber", "()J"⟩ : MethodName) (head1 (Jvm.Cond.code (⟨"com/example/ogma/ogma/store/ColumnReader", "nextNumber", "()J"⟩ : MethodName) prog_80_method_7_code 3 (some .long) :: ws) ({ frames := 1, cells := 0, slots := 0, locals := 19 } : Room)) (fun a U => a = #[(.ref x0)] ∧ Z.Warmed39 U.vm ∧ U.heap = h0) (fun _ _ _ _ _ => True) (fun _ U o U' => ∃ v L, o = .returned v ∧ (own_Q4 Z n0 x0 bl ix li po en (rl - (1 : Int64)) h0) v U'.heap L ∧ FrameEnd U o U' L ({ frames := 1, cells := 0, slots := 0, locals := 19 } : Room).cells ({ frames := 1, cells := 0, slots := 0, locals := 19 } : Room).slots) := by
  refine own_body (own := "com/example/ogma/ogma/store/ColumnReader") pn_0 rfl (fun m => ef_4 m x0) ?_
  intro p e s m below meth c T0 hx hby hml hown hnm hlk hret hZ X0 e0
  have w_1 := hw _ (List.mem_of_getElem? (i := 1) rfl)
  have w_11 := hw _ (List.mem_of_getElem? (i := 11) rfl)
  have w_13 := hw _ (List.mem_of_getElem? (i := 13) rfl)
  have w_14 := hw _ (List.mem_of_getElem? (i := 14) rfl)
  have w_18 := hw _ (List.mem_of_getElem? (i := 18) rfl)
  have w_20 := hw _ (List.mem_of_getElem? (i := 20) rfl)
  have w_22 := hw _ (List.mem_of_getElem? (i := 22) rfl)
  have w_24 := hw _ (List.mem_of_getElem? (i := 24) rfl)
  have w_30 := hw _ (List.mem_of_getElem? (i := 30) rfl)
  have w_31 := hw _ (List.mem_of_getElem? (i := 31) rfl)
  have w_42 := hw _ (List.mem_of_getElem? (i := 42) rfl)
  have w_43 := hw _ (List.mem_of_getElem? (i := 43) rfl)
  have N0 := Fr.nil n0
  obtain ⟨EB1, FB1_block, FB1_at, FB1_limit, FB1_position, FB1_end, FB1_runLeft, FB1_runStep, FB1_number⟩ := B0
  refine g_aloadN X0.here hx (Jvm.hb hby d4_0) (pc' := 1) rfl rfl rfl ?_
  refine g_getF X0 hx hZ hown (host := "") (Or.inl w_30) Via.refl e0 FB1_runLeft (Jvm.hb hby d4_1) (pc' := 4) rfl ?_
  intro T2 X2 e2
  refine g_lconst X2.here hx (Jvm.hb hby d4_4) (pc' := 5) rfl (z := (0 : Int64)) rfl ?_
  refine g_lcmp X2.here hx (Jvm.hb hby d4_5) (pc' := 6) rfl ?_
  refine g_ifN X2.here hx (Jvm.hb hby d4_6) (pc' := 9) rfl (own_tltL hrl).2.2.2 ?_
  refine g_aloadN X2.here hx (Jvm.hb hby d4_9) (pc' := 10) rfl rfl rfl ?_
  refine g_dup X2.here hx (Jvm.hb hby d4_10) (pc' := 11) rfl rfl ?_
  refine g_getF X2 hx hZ hown (host := "") (Or.inl w_30) Via.refl e2 FB1_runLeft (Jvm.hb hby d4_11) (pc' := 14) rfl ?_
  intro T3 X3 e3
  refine g_lconst X3.here hx (Jvm.hb hby d4_14) (pc' := 15) rfl (z := (1 : Int64)) rfl ?_
  refine g_lsub X3.here hx (Jvm.hb hby d4_15) (pc' := 16) rfl ?_
  refine g_putF X3 hx hZ hown (host := "") (Or.inl w_30) Via.refl e3 FB1_runLeft EB1 (Or.inl w_31) w_1 (ty := .long) (by decide) rfl rfl (Jvm.hb hby d4_16) (pc' := 19) rfl ?_
  intro T4 hh4 X4 e4 W4
  have Fw4 := FB1_runLeft.same W4
  have N4 := Fr.snoc X4 N0 g0
  have Z5 : n0 ≤ hh4.size := (by rw [W4.size]; exact Z0)
  have z6 : h0.size ≤ hh4.size := (by rw [W4.size]; exact (Nat.le_refl _))
  refine g_aloadN X4.here hx (Jvm.hb hby d4_19) (pc' := 20) rfl rfl rfl ?_
  refine g_dup X4.here hx (Jvm.hb hby d4_20) (pc' := 21) rfl rfl ?_
  have F7 := (FB1_number.other W4 (Or.inr (slot_ne (Or.inl w_14) (Or.inl w_31) (by decide) (t := .long) (t' := .long) (by decide) (by decide))))
  refine g_getF X4 hx hZ hown (host := "") (Or.inl w_13) Via.refl e4 F7 (Jvm.hb hby d4_21) (pc' := 24) rfl ?_
  intro T8 X8 e8
  refine g_aloadN X8.here hx (Jvm.hb hby d4_24) (pc' := 25) rfl rfl rfl ?_
  have F9 := (FB1_runStep.other W4 (Or.inr (slot_ne (Or.inl w_43) (Or.inl w_31) (by decide) (t := .long) (t' := .long) (by decide) (by decide))))
  refine g_getF X8 hx hZ hown (host := "") (Or.inl w_42) Via.refl e8 F9 (Jvm.hb hby d4_25) (pc' := 28) rfl ?_
  intro T10 X10 e10
  refine g_ladd X10.here hx (Jvm.hb hby d4_28) (pc' := 29) rfl ?_
  have F11 := (EB1.wr W4)
  refine g_putF X10 hx hZ hown (host := "") (Or.inl w_13) Via.refl e10 F7 F11 (Or.inl w_14) w_1 (ty := .long) (by decide) rfl rfl (Jvm.hb hby d4_29) (pc' := 32) rfl ?_
  intro T12 hh12 X12 e12 W12
  have Fw12 := F7.same W12
  have N12 := Fr.snoc X12 N4 g0
  have Z13 : n0 ≤ hh12.size := (by rw [W12.size]; exact Z5)
  have z14 : h0.size ≤ hh12.size := (by rw [W12.size]; exact z6)
  refine g_goto X12.here hx (Jvm.hb hby d4_32) (by decide) (pc' := 79) (by decide) ?_
  refine g_aloadN X12.here hx (Jvm.hb hby d4_79) (pc' := 80) rfl rfl rfl ?_
  refine g_getF X12 hx hZ hown (host := "") (Or.inl w_13) Via.refl e12 Fw12 (Jvm.hb hby d4_80) (pc' := 83) rfl ?_
  intro T15 X15 e15
  have F16 := (F11.wr W12)
  have F17 := ((FB1_block.other W4 (Or.inr (slot_ne (Or.inl w_11) (Or.inl w_31) (by decide) (t := (.array .byte)) (t' := .long) (by decide) (by decide)))).other W12 (Or.inr (slot_ne (Or.inl w_11) (Or.inl w_14) (by decide) (t := (.array .byte)) (t' := .long) (by decide) (by decide))))
  have F18 := ((FB1_at.other W4 (Or.inr (slot_ne (Or.inl w_18) (Or.inl w_31) (by decide) (t := .int) (t' := .long) (by decide) (by decide)))).other W12 (Or.inr (slot_ne (Or.inl w_18) (Or.inl w_14) (by decide) (t := .int) (t' := .long) (by decide) (by decide))))
  have F19 := ((FB1_limit.other W4 (Or.inr (slot_ne (Or.inl w_20) (Or.inl w_31) (by decide) (t := .int) (t' := .long) (by decide) (by decide)))).other W12 (Or.inr (slot_ne (Or.inl w_20) (Or.inl w_14) (by decide) (t := .int) (t' := .long) (by decide) (by decide))))
  have F20 := ((FB1_position.other W4 (Or.inr (slot_ne (Or.inl w_22) (Or.inl w_31) (by decide) (t := .long) (t' := .long) (by decide) (by decide)))).other W12 (Or.inr (slot_ne (Or.inl w_22) (Or.inl w_14) (by decide) (t := .long) (t' := .long) (by decide) (by decide))))
  have F21 := ((FB1_end.other W4 (Or.inr (slot_ne (Or.inr w_24) (Or.inl w_31) (by decide) (t := .long) (t' := .long) (by decide) (by decide)))).other W12 (Or.inr (slot_ne (Or.inr w_24) (Or.inl w_14) (by decide) (t := .long) (t' := .long) (by decide) (by decide))))
  have F22 := (Fw4.other W12 (Or.inr (slot_ne (Or.inl w_31) (Or.inl w_14) (by decide) (t := .long) (t' := .long) (by decide) (by decide))))
  have F23 := (F9.other W12 (Or.inr (slot_ne (Or.inl w_43) (Or.inl w_14) (by decide) (t := .long) (t' := .long) (by decide) (by decide))))
  have KK := (((Keep.refl h0 [x0]).wr W4 (Or.inl (List.mem_of_getElem? (i := 0) rfl))).wr W12 (Or.inl (List.mem_of_getElem? (i := 0) rfl)))
  exact g_retL X15 hx hlk hret (Jvm.hb hby d4_83) (Nat.zero_le _) (Nat.zero_le _) (by rw [e15]; exact ⟨⟨_, rfl⟩, N12, KK, ⟨_, _, ⟨F16, F17, F18, F19, F20, F21, F22, F23, Fw12⟩⟩⟩)
set_option maxRecDepth 65536 in
set_option maxHeartbeats 40000000 in
theorem rm4c (l : Launch) (Z : State) (a0 : Array Value) (hw : ∀ d ∈ tables_1, d.before a0 Z = true) (ws : List Jvm.Cond) (x0 : Addr) (bl : Addr) (ix li : Int32) (po en rl rs nu : Int64) (n : Nat) (f : Nat → Int32) (b : Int32) (h0 : Heap) (n0 : Nat) (Z0 : n0 ≤ h0.size) (g0 : n0 ≤ x0) (B0 : own_CR Z h0 x0 bl ix li po en rl rs nu) (V0 : own_IA Z h0 bl .byte n f) (ne0 : bl ≠ x0) (hrl : ¬ (0 : Int64) < rl) (hne : ¬ ix = li) (hi : 0 ≤ ix.toInt ∧ ix.toInt < n) (hb : f ix.toInt.toNat = b) (hpos : ¬ b < (0 : Int32)) (heven : (f_nx b &&& (1 : Int64)) = (0 : Int64)) :
    MetFree l (⟨"com/example/ogma/ogma/store/ColumnReader", "nextNumber", "()J"⟩ : MethodName) (head1 (Jvm.Cond.code (⟨"com/example/ogma/ogma/store/ColumnReader", "nextNumber", "()J"⟩ : MethodName) prog_80_method_7_code 3 (some .long) :: ws) ({ frames := 1, cells := 0, slots := 0, locals := 19 } : Room)) (fun a U => a = #[(.ref x0)] ∧ Z.Warmed39 U.vm ∧ U.heap = h0) (fun _ _ _ _ _ => True) (fun _ U o U' => ∃ v L, o = .returned v ∧ (own_Q4 Z n0 x0 bl (ix + (1 : Int32)) li po en rl h0) v U'.heap L ∧ FrameEnd U o U' L ({ frames := 1, cells := 0, slots := 0, locals := 19 } : Room).cells ({ frames := 1, cells := 0, slots := 0, locals := 19 } : Room).slots) := by
  refine own_body (own := "com/example/ogma/ogma/store/ColumnReader") pn_0 rfl (fun m => ef_4 m x0) ?_
  intro p e s m below meth c T0 hx hby hml hown hnm hlk hret hZ X0 e0
  have w_1 := hw _ (List.mem_of_getElem? (i := 1) rfl)
  have w_2 := hw _ (List.mem_of_getElem? (i := 2) rfl)
  have w_11 := hw _ (List.mem_of_getElem? (i := 11) rfl)
  have w_13 := hw _ (List.mem_of_getElem? (i := 13) rfl)
  have w_14 := hw _ (List.mem_of_getElem? (i := 14) rfl)
  have w_18 := hw _ (List.mem_of_getElem? (i := 18) rfl)
  have w_20 := hw _ (List.mem_of_getElem? (i := 20) rfl)
  have w_22 := hw _ (List.mem_of_getElem? (i := 22) rfl)
  have w_24 := hw _ (List.mem_of_getElem? (i := 24) rfl)
  have w_30 := hw _ (List.mem_of_getElem? (i := 30) rfl)
  have w_31 := hw _ (List.mem_of_getElem? (i := 31) rfl)
  have w_37 := hw _ (List.mem_of_getElem? (i := 37) rfl)
  have w_38 := hw _ (List.mem_of_getElem? (i := 38) rfl)
  have w_39 := hw _ (List.mem_of_getElem? (i := 39) rfl)
  have w_40 := hw _ (List.mem_of_getElem? (i := 40) rfl)
  have w_41 := hw _ (List.mem_of_getElem? (i := 41) rfl)
  have w_43 := hw _ (List.mem_of_getElem? (i := 43) rfl)
  have N0 := Fr.nil n0
  obtain ⟨EB1, FB1_block, FB1_at, FB1_limit, FB1_position, FB1_end, FB1_runLeft, FB1_runStep, FB1_number⟩ := B0
  refine g_aloadN X0.here hx (Jvm.hb hby d4_0) (pc' := 1) rfl rfl rfl ?_
  refine g_getF X0 hx hZ hown (host := "") (Or.inl w_30) Via.refl e0 FB1_runLeft (Jvm.hb hby d4_1) (pc' := 4) rfl ?_
  intro T2 X2 e2
  refine g_lconst X2.here hx (Jvm.hb hby d4_4) (pc' := 5) rfl (z := (0 : Int64)) rfl ?_
  refine g_lcmp X2.here hx (Jvm.hb hby d4_5) (pc' := 6) rfl ?_
  refine g_ifY X2.here hx (Jvm.hb hby d4_6) (by decide) (pc' := 35) (by decide) (own_fltL hrl).2.2.2 ?_
  refine g_aloadN X2.here hx (Jvm.hb hby d4_35) (pc' := 36) rfl rfl rfl ?_
  refine g_callV X2 hx hZ hown w_37 w_38 (own_nf hZ w_40) w_40 w_39 w_2 w_41 (by decide) (rm5 l Z a0 hw [] x0 bl ix li po en rl rs nu n f b h0 n0 Z0 g0 ⟨EB1, FB1_block, FB1_at, FB1_limit, FB1_position, FB1_end, FB1_runLeft, FB1_runStep, FB1_number⟩ V0 ne0 hne hi hb hpos) 0 (by decide) (by decide) e2 EB1 (by rw [hml]; rfl) [] [] (lenOf pd_0 rfl) rfl rfl (Nat.le_of_eq rfl) (Jvm.hb hby d4_36) (pc' := 39) rfl (cells' := 0) (slots' := 0) rfl rfl (by decide) (by decide) ?_
  intro v3 T3 L3 X3 hQ3
  obtain ⟨rfl, Nq3, K3, Bq3⟩ := hQ3
  have N3 := Fr.app N0 Nq3
  have Z4 : n0 ≤ T3.heap.size := Nat.le_trans Z0 K3.1
  have z5 : h0.size ≤ T3.heap.size := Nat.le_trans (Nat.le_refl _) K3.1
  obtain ⟨EB6, FB6_block, FB6_at, FB6_limit, FB6_position, FB6_end, FB6_runLeft, FB6_runStep, FB6_number⟩ := Bq3
  show own_Gl p e below s (own_Q4 Z n0 x0 bl (ix + (1 : Int32)) li po en rl h0) ({ frames := 1, cells := 0, slots := 0, locals := 19 } : Room).cells ({ frames := 1, cells := 0, slots := 0, locals := 19 } : Room).slots (T3.setTop (mkF m 39 #[.val (.ref x0), .unset, .unset] [(.long (f_nx b))]))
  refine g_lstoreN X3.here hx (Jvm.hb hby d4_39) (pc' := 40) rfl (L' := #[.val (.ref x0), .val (.long (f_nx b)), .second]) rfl ?_
  refine g_aloadN X3.here hx (Jvm.hb hby d4_40) (pc' := 41) rfl rfl rfl ?_
  refine g_dup X3.here hx (Jvm.hb hby d4_41) (pc' := 42) rfl rfl ?_
  refine g_getF X3 hx hZ hown (host := "") (Or.inl w_13) Via.refl rfl FB6_number (Jvm.hb hby d4_42) (pc' := 45) rfl ?_
  intro T7 X7 e7
  refine g_lloadN X7.here hx (Jvm.hb hby d4_45) (pc' := 46) rfl rfl ?_
  refine g_iconst X7.here hx (Jvm.hb hby d4_46) (pc' := 47) rfl (z := (1 : Int32)) rfl ?_
  refine g_lushr X7.here hx (Jvm.hb hby d4_47) (pc' := 48) rfl ?_
  refine g_lconst X7.here hx (Jvm.hb hby d4_48) (pc' := 49) rfl (z := (1 : Int64)) rfl ?_
  refine g_ladd X7.here hx (Jvm.hb hby d4_49) (pc' := 50) rfl ?_
  refine g_ladd X7.here hx (Jvm.hb hby d4_50) (pc' := 51) rfl ?_
  refine g_putF X7 hx hZ hown (host := "") (Or.inl w_13) Via.refl e7 FB6_number EB6 (Or.inl w_14) w_1 (ty := .long) (by decide) rfl rfl (Jvm.hb hby d4_51) (pc' := 54) rfl ?_
  intro T8 hh8 X8 e8 W8
  have Fw8 := FB6_number.same W8
  have N8 := Fr.snoc X8 N3 g0
  have Z9 : n0 ≤ hh8.size := (by rw [W8.size]; exact Z4)
  have z10 : h0.size ≤ hh8.size := (by rw [W8.size]; exact z5)
  refine g_lloadN X8.here hx (Jvm.hb hby d4_54) (pc' := 55) rfl rfl ?_
  refine g_lconst X8.here hx (Jvm.hb hby d4_55) (pc' := 56) rfl (z := (1 : Int64)) rfl ?_
  refine g_land X8.here hx (Jvm.hb hby d4_56) (pc' := 57) rfl ?_
  refine g_lconst X8.here hx (Jvm.hb hby d4_57) (pc' := 58) rfl (z := (0 : Int64)) rfl ?_
  refine g_lcmp X8.here hx (Jvm.hb hby d4_58) (pc' := 59) rfl ?_
  refine g_ifY X8.here hx (Jvm.hb hby d4_59) (by decide) (pc' := 79) (by decide) (own_teqL heven).1 ?_
  refine g_aloadN X8.here hx (Jvm.hb hby d4_79) (pc' := 80) rfl rfl rfl ?_
  refine g_getF X8 hx hZ hown (host := "") (Or.inl w_13) Via.refl e8 Fw8 (Jvm.hb hby d4_80) (pc' := 83) rfl ?_
  intro T11 X11 e11
  have F12 := (EB6.wr W8)
  have F13 := (FB6_block.other W8 (Or.inr (slot_ne (Or.inl w_11) (Or.inl w_14) (by decide) (t := (.array .byte)) (t' := .long) (by decide) (by decide))))
  have F14 := (FB6_at.other W8 (Or.inr (slot_ne (Or.inl w_18) (Or.inl w_14) (by decide) (t := .int) (t' := .long) (by decide) (by decide))))
  have F15 := (FB6_limit.other W8 (Or.inr (slot_ne (Or.inl w_20) (Or.inl w_14) (by decide) (t := .int) (t' := .long) (by decide) (by decide))))
  have F16 := (FB6_position.other W8 (Or.inr (slot_ne (Or.inl w_22) (Or.inl w_14) (by decide) (t := .long) (t' := .long) (by decide) (by decide))))
  have F17 := (FB6_end.other W8 (Or.inr (slot_ne (Or.inr w_24) (Or.inl w_14) (by decide) (t := .long) (t' := .long) (by decide) (by decide))))
  have F18 := (FB6_runLeft.other W8 (Or.inr (slot_ne (Or.inl w_31) (Or.inl w_14) (by decide) (t := .long) (t' := .long) (by decide) (by decide))))
  have F19 := (FB6_runStep.other W8 (Or.inr (slot_ne (Or.inl w_43) (Or.inl w_14) (by decide) (t := .long) (t' := .long) (by decide) (by decide))))
  have KK := (((Keep.refl h0 [x0]).trans K3 (allS (Or.inl (List.mem_of_getElem? (i := 0) rfl)) all0)).wr W8 (Or.inl (List.mem_of_getElem? (i := 0) rfl)))
  exact g_retL X11 hx hlk hret (Jvm.hb hby d4_83) (Nat.zero_le _) (Nat.zero_le _) (by rw [e11]; exact ⟨⟨_, rfl⟩, N8, KK, ⟨_, _, ⟨F12, F13, F14, F15, F16, F17, F18, F19, Fw8⟩⟩⟩)
theorem own_nx (b : Int32) (h0 : ¬ b < (0 : Int32)) (h1 : b.toInt < 128) : (f_nx b).toInt = b.toInt ∧ (f_nx b &&& (1 : Int64)).toInt = b.toInt % 2 := by
  have e1 := c_mask b 127 7 (by decide) (by decide)
  have e2 := c_i2l (b &&& 127)
  have e3 := c_lshl ((b &&& 127).toInt64) 0 0 (by decide)
  have r := rng64 ((b &&& 127).toInt64 <<< ((0 : Int32) &&& 0x3f).toInt64)
  have e4 := c_maskL (f_nx b) 1 1 (by decide) (by decide)
  have k : f_nx b = ((b &&& 127).toInt64 <<< ((0 : Int32) &&& 0x3f).toInt64) := Int64.zero_or
  simp only [Nat.reducePow, Int32.lt_iff_toInt_lt, Int32.reduceToInt] at *
  rw [← k] at e3 r
  omega
theorem own_B0 (c : Int32) : 0 ≤ (((((c &&& (63 : Int32)) <<< ((1 : Int32) &&& 31)) ||| (1 : Int32)).toInt8.toInt32).toInt8.toInt32).toInt ∧ (((((c &&& (63 : Int32)) <<< ((1 : Int32) &&& 31)) ||| (1 : Int32)).toInt8.toInt32).toInt8.toInt32).toInt < 128 ∧ (((((c &&& (63 : Int32)) <<< ((1 : Int32) &&& 31)) ||| (1 : Int32)).toInt8.toInt32).toInt8.toInt32).toInt % 2 = 1 := by
  have e1 := c_mask c 63 6 (by decide) (by decide)
  have e2 := c_ishl (c &&& 63) 1 1 (by decide)
  have r2 := rng32 ((c &&& 63) <<< ((1 : Int32) &&& 31))
  simp only [Nat.reducePow] at e1 e2
  have e3 := c_or ((c &&& 63) <<< ((1 : Int32) &&& 31)) 1 1 (by decide) 2 (by decide) (by omega) (by decide) (by decide)
  have r3 := rng32 (((c &&& 63) <<< ((1 : Int32) &&& 31)) ||| 1)
  have e4 := c_i2b (((c &&& 63) <<< ((1 : Int32) &&& 31)) ||| 1)
  have e5 := c_i2b (((c &&& 63) <<< ((1 : Int32) &&& 31)) ||| 1).toInt8.toInt32
  simp only [Int32.reduceToInt] at e3
  omega
theorem own_B1 (d : Int32) : 0 ≤ (((d &&& (127 : Int32)).toInt8.toInt32).toInt8.toInt32).toInt ∧ (((d &&& (127 : Int32)).toInt8.toInt32).toInt8.toInt32).toInt < 128 ∧ (((d &&& (127 : Int32)).toInt8.toInt32).toInt8.toInt32).toInt = (d &&& (127 : Int32)).toInt := by
  have e1 := c_mask d 127 7 (by decide) (by decide)
  have e4 := c_i2b (d &&& 127)
  have e5 := c_i2b (d &&& 127).toInt8.toInt32
  simp only [Nat.reducePow] at e1
  omega
theorem own_B2 (c : Int32) : 0 ≤ ((((((c.toUInt32 >>> ((8 : Int32) &&& 31).toUInt32).toInt32) &&& (63 : Int32)) <<< ((1 : Int32) &&& 31)).toInt8.toInt32).toInt8.toInt32).toInt ∧ ((((((c.toUInt32 >>> ((8 : Int32) &&& 31).toUInt32).toInt32) &&& (63 : Int32)) <<< ((1 : Int32) &&& 31)).toInt8.toInt32).toInt8.toInt32).toInt < 128 ∧ ((((((c.toUInt32 >>> ((8 : Int32) &&& 31).toUInt32).toInt32) &&& (63 : Int32)) <<< ((1 : Int32) &&& 31)).toInt8.toInt32).toInt8.toInt32).toInt % 2 = 0 := by
  have e1 := c_mask ((c.toUInt32 >>> ((8 : Int32) &&& 31).toUInt32).toInt32) 63 6 (by decide) (by decide)
  have e2 := c_ishl (((c.toUInt32 >>> ((8 : Int32) &&& 31).toUInt32).toInt32) &&& 63) 1 1 (by decide)
  have r2 := rng32 ((((c.toUInt32 >>> ((8 : Int32) &&& 31).toUInt32).toInt32) &&& 63) <<< ((1 : Int32) &&& 31))
  have e4 := c_i2b ((((c.toUInt32 >>> ((8 : Int32) &&& 31).toUInt32).toInt32) &&& 63) <<< ((1 : Int32) &&& 31))
  have e5 := c_i2b ((((c.toUInt32 >>> ((8 : Int32) &&& 31).toUInt32).toInt32) &&& 63) <<< ((1 : Int32) &&& 31)).toInt8.toInt32
  simp only [Nat.reducePow] at e1 e2
  omega
theorem own_LI (c : Int32) : ((2 : Int32) + (((c.toUInt32 >>> ((16 : Int32) &&& 31).toUInt32).toInt32) &&& (1 : Int32))).toInt = 2 ∨ ((2 : Int32) + (((c.toUInt32 >>> ((16 : Int32) &&& 31).toUInt32).toInt32) &&& (1 : Int32))).toInt = 3 := by
  have e1 := c_mask ((c.toUInt32 >>> ((16 : Int32) &&& 31).toUInt32).toInt32) 1 1 (by decide) (by decide)
  have e2 := c_iadd 2 (((c.toUInt32 >>> ((16 : Int32) &&& 31).toUInt32).toInt32) &&& 1)
  have r2 := rng32 ((2 : Int32) + (((c.toUInt32 >>> ((16 : Int32) &&& 31).toUInt32).toInt32) &&& (1 : Int32)))
  simp only [Nat.reducePow, Int32.reduceToInt] at e1 e2
  omega
theorem own_hn (rl : Int64) (a l : Int32) : (f_hn rl a l l.toInt64 l.toInt64 = (1 : Int32) ↔ (0 < rl.toInt ∨ a.toInt < l.toInt)) ∧ (f_hn rl a l l.toInt64 l.toInt64 = (0 : Int32) ↔ ¬ (0 < rl.toInt ∨ a.toInt < l.toInt)) := by
  have k : (0 : Int64).toInt = 0 := by decide
  simp only [f_hn, Int64.lt_iff_toInt_lt, Int32.lt_iff_toInt_lt, k]
  repeat' split
  all_goals first | (exfalso; omega) | (refine ⟨⟨fun _ => ?_, fun _ => ?_⟩, ⟨fun q => ?_, fun q => ?_⟩⟩ <;> first | rfl | omega | (exact absurd q (by decide)) | (exfalso; omega)) | (refine ⟨⟨fun q => ?_, fun _ => ?_⟩, ⟨fun _ => ?_, fun _ => ?_⟩⟩ <;> first | rfl | omega | (exact absurd q (by decide)) | (exfalso; omega))
theorem pd_1 : parseMethodDescriptor "([BII)V" = some ⟨[(.array .byte), .int, .int], none⟩ := by decide +kernel
theorem pd_2 : parseMethodDescriptor "()Z" = some ⟨[], some .boolean⟩ := by decide +kernel
theorem pn_1 : plainName "com/example/ogma/ogma/store/ColumnReaderHasNextPinLaw" = true := by first | (simp [plainName, overriddenIn]; done) | decide +kernel
theorem ef_0 (m : MethodId) (x0 : Int32) (x1 : Int32) (x2 : Int32) (x3 : Int32) : entryFrame m #[(.int x0), (.int x1), (.int x2), (.int x3)] maxLocals = mkF m 0 #[.val (.int x0), .val (.int x1), .val (.int x2), .val (.int x3), .unset, .unset, .unset, .unset, .unset, .unset, .unset, .unset, .unset, .unset] [] := by first | (simp [entryFrame, mkF, argsToLocals, Value.category, maxLocals]; done) | rfl
set_option maxRecDepth 65536 in
set_option maxHeartbeats 40000000 in
theorem rm0 (l : Launch) (Z : State) (a0 : Array Value) (hw : ∀ d ∈ tables_1, d.before a0 Z = true) (ws : List Jvm.Cond) (x0 : Int32) (x1 : Int32) (x2 : Int32) (x3 : Int32) (h0 : Heap) (n0 : Nat) (Z0 : n0 ≤ h0.size) :
    MetFree l x (head1 (Jvm.Cond.code x code maxLocals ret :: ws) room_1) (fun a U => a = #[(.int x0), (.int x1), (.int x2), (.int x3)] ∧ Z.Warmed39 U.vm ∧ U.heap = h0) (fun _ _ _ _ _ => True) (fun _ U o U' => ∃ v L, o = .returned v ∧ (own_Q0 n0) v U'.heap L ∧ FrameEnd U o U' L room_1.cells room_1.slots) := by
  refine own_body (own := "com/example/ogma/ogma/store/ColumnReaderHasNextPinLaw") pn_1 rfl (fun m => ef_0 m x0 x1 x2 x3) ?_
  intro p e s m below meth c T0 hx hby hml hown hnm hlk hret hZ X0 e0
  have w_0 := hw _ (List.mem_of_getElem? (i := 0) rfl)
  have w_1 := hw _ (List.mem_of_getElem? (i := 1) rfl)
  have w_2 := hw _ (List.mem_of_getElem? (i := 2) rfl)
  have w_3 := hw _ (List.mem_of_getElem? (i := 3) rfl)
  have w_4 := hw _ (List.mem_of_getElem? (i := 4) rfl)
  have w_5 := hw _ (List.mem_of_getElem? (i := 5) rfl)
  have w_6 := hw _ (List.mem_of_getElem? (i := 6) rfl)
  have w_11 := hw _ (List.mem_of_getElem? (i := 11) rfl)
  have w_14 := hw _ (List.mem_of_getElem? (i := 14) rfl)
  have w_16 := hw _ (List.mem_of_getElem? (i := 16) rfl)
  have w_18 := hw _ (List.mem_of_getElem? (i := 18) rfl)
  have w_20 := hw _ (List.mem_of_getElem? (i := 20) rfl)
  have w_22 := hw _ (List.mem_of_getElem? (i := 22) rfl)
  have w_24 := hw _ (List.mem_of_getElem? (i := 24) rfl)
  have w_25 := hw _ (List.mem_of_getElem? (i := 25) rfl)
  have w_26 := hw _ (List.mem_of_getElem? (i := 26) rfl)
  have w_27 := hw _ (List.mem_of_getElem? (i := 27) rfl)
  have w_28 := hw _ (List.mem_of_getElem? (i := 28) rfl)
  have w_29 := hw _ (List.mem_of_getElem? (i := 29) rfl)
  have w_31 := hw _ (List.mem_of_getElem? (i := 31) rfl)
  have w_32 := hw _ (List.mem_of_getElem? (i := 32) rfl)
  have w_33 := hw _ (List.mem_of_getElem? (i := 33) rfl)
  have w_34 := hw _ (List.mem_of_getElem? (i := 34) rfl)
  have w_35 := hw _ (List.mem_of_getElem? (i := 35) rfl)
  have w_36 := hw _ (List.mem_of_getElem? (i := 36) rfl)
  have w_43 := hw _ (List.mem_of_getElem? (i := 43) rfl)
  have N0 := Fr.nil n0
  refine g_new X0 hx hZ hown w_0 w_1 w_2 e0 (Jvm.hb hby at_0) (pc' := 3) rfl (cells' := 1) (slots' := 10) rfl rfl (by decide) (by decide) ?_
  intro T1 hh1 b1 gb1 X1 e1 E1 A1 D1
  have g_b1 : n0 ≤ b1 := by rw [gb1]; exact Z0
  have Z2 : n0 ≤ hh1.size := Nat.le_trans Z0 E1.1
  have F1_block : Fld Z hh1 b1 "com/example/ogma/ogma/store/ColumnReader" "block" "[B" .null := D1 (Or.inl w_11) (ty := (.array .byte)) (by decide)
  have F1_number : Fld Z hh1 b1 "com/example/ogma/ogma/store/ColumnReader" "number" "J" (.long (0 : Int64)) := D1 (Or.inl w_14) (ty := .long) (by decide)
  have F1_file : Fld Z hh1 b1 "com/example/ogma/ogma/store/ColumnReader" "file" "Lcom/example/ogma/ogma/store/BlockFile;" .null := D1 (Or.inr w_16) (ty := (.object "com/example/ogma/ogma/store/BlockFile")) (by decide)
  have F1_at : Fld Z hh1 b1 "com/example/ogma/ogma/store/ColumnReader" "at" "I" (.int (0 : Int32)) := D1 (Or.inl w_18) (ty := .int) (by decide)
  have F1_limit : Fld Z hh1 b1 "com/example/ogma/ogma/store/ColumnReader" "limit" "I" (.int (0 : Int32)) := D1 (Or.inl w_20) (ty := .int) (by decide)
  have F1_position : Fld Z hh1 b1 "com/example/ogma/ogma/store/ColumnReader" "position" "J" (.long (0 : Int64)) := D1 (Or.inl w_22) (ty := .long) (by decide)
  have F1_end : Fld Z hh1 b1 "com/example/ogma/ogma/store/ColumnReader" "end" "J" (.long (0 : Int64)) := D1 (Or.inr w_24) (ty := .long) (by decide)
  have F1_runLeft : Fld Z hh1 b1 "com/example/ogma/ogma/store/ColumnReader" "runLeft" "J" (.long (0 : Int64)) := D1 (Or.inl w_31) (ty := .long) (by decide)
  have F1_runStep : Fld Z hh1 b1 "com/example/ogma/ogma/store/ColumnReader" "runStep" "J" (.long (0 : Int64)) := D1 (Or.inl w_43) (ty := .long) (by decide)
  refine g_dup X1.here hx (Jvm.hb hby at_3) (pc' := 4) rfl rfl ?_
  refine g_iconst X1.here hx (Jvm.hb hby at_4) (pc' := 5) rfl (z := (0 : Int32)) rfl ?_
  refine g_newarr X1 hx hZ (ty := .byte) rfl rfl w_3 e1 (Jvm.hb hby at_5) (pc' := 7) rfl (n := 0) (by decide) 0 (by decide) (by decide) (cells' := 2) (slots' := 10) rfl rfl (by decide) (by decide) ?_
  intro T3 hh3 b3 gb3 X3 e3 E3 V3
  have g_b3 : n0 ≤ b3 := by rw [gb3]; exact Z2
  have lt_b1_b3 : @LT.lt Nat _ b1 b3 := by rw [gb3]; exact A1.lt
  have ne_b1_b3 : b1 ≠ b3 := Nat.ne_of_lt lt_b1_b3
  have Z4 : n0 ≤ hh3.size := Nat.le_trans Z2 E3.1
  refine g_iloadN X3.here hx (Jvm.hb hby at_7) (pc' := 8) rfl rfl ?_
  refine g_iloadN X3.here hx (Jvm.hb hby at_8) (pc' := 9) rfl rfl ?_
  have F5 := (A1.ext E3)
  have F6 := (F1_block.ext E3)
  have F7 := (F1_at.ext E3)
  have F8 := (F1_limit.ext E3)
  have F9 := (F1_position.ext E3)
  have F10 := (F1_end.ext E3)
  have F11 := (F1_runLeft.ext E3)
  have F12 := (F1_runStep.ext E3)
  have F13 := (F1_number.ext E3)
  have F14 := (F1_file.ext E3)
  refine g_callI X3 hx hZ rfl hown w_4 w_5 w_2 w_6 (by decide) (rm1 l Z a0 hw [] b1 b3 x0 x1 hh3 n0 Z4 g_b1 F5 F6 F7 F8 F9 F10 F11 F12 F13 F14) 1 (by decide) (by decide) e3 (by rw [hml]; rfl) [(.ref b3), (.int x0), (.int x1)] [(.ref b1)] (lenOf pd_1 rfl) rfl rfl (Nat.le_of_eq rfl) (Jvm.hb hby at_9) (pc' := 12) rfl (cells' := 3) (slots' := 10) rfl rfl (by decide) (by decide) ?_
  intro v15 T15 L15 X15 hQ15
  obtain ⟨rfl, Nq15, K15, Bq15⟩ := hQ15
  have N15 := Fr.app N0 Nq15
  have Z16 : n0 ≤ T15.heap.size := Nat.le_trans Z4 K15.1
  obtain ⟨EB17, FB17_block, FB17_at, FB17_limit, FB17_position, FB17_end, FB17_runLeft, FB17_runStep, FB17_number⟩ := Bq15
  show own_Gl p e below s (own_Q0 n0) room_1.cells room_1.slots (T15.setTop (mkF m 12 #[.val (.int x0), .val (.int x1), .val (.int x2), .val (.int x3), .unset, .unset, .unset, .unset, .unset, .unset, .unset, .unset, .unset, .unset] [(.ref b1)]))
  refine g_astore X15.here hx (Jvm.hb hby at_12) (pc' := 14) rfl rfl (L' := #[.val (.int x0), .val (.int x1), .val (.int x2), .val (.int x3), .val (.ref b1), .unset, .unset, .unset, .unset, .unset, .unset, .unset, .unset, .unset]) rfl ?_
  refine g_aload X15.here hx (Jvm.hb hby at_14) (pc' := 16) rfl rfl rfl ?_
  refine g_callV X15 hx hZ hown w_25 w_26 (own_nf hZ w_28) w_28 w_27 w_2 w_29 (by decide) (rm3 l Z a0 hw [] b1 (0 : Int64) x0 x1 x1.toInt64 x1.toInt64 T15.heap FB17_runLeft FB17_at FB17_limit FB17_position FB17_end) 0 (by decide) (by decide) rfl EB17 (by rw [hml]; rfl) [] [] (lenOf pd_2 rfl) rfl rfl (Nat.le_of_eq rfl) (Jvm.hb hby at_16) (pc' := 19) rfl (cells' := 3) (slots' := 10) rfl rfl (by decide) (by decide) ?_
  intro v18 T18 L18 X18 hQ18
  obtain ⟨rfl, rfl, e18⟩ := hQ18
  rw [List.append_nil] at X18
  show own_Gl p e below s (own_Q0 n0) room_1.cells room_1.slots (T18.setTop (mkF m 19 #[.val (.int x0), .val (.int x1), .val (.int x2), .val (.int x3), .val (.ref b1), .unset, .unset, .unset, .unset, .unset, .unset, .unset, .unset, .unset] [(.int (f_hn (0 : Int64) x0 x1 x1.toInt64 x1.toInt64))]))
  have hf := own_hn (0 : Int64) x0 x1
  have k37 : own_Gl p e below s (own_Q0 n0) room_1.cells room_1.slots (T18.setTop (mkF m 37 #[.val (.int x0), .val (.int x1), .val (.int x2), .val (.int x3), .val (.ref b1), .unset, .unset, .unset, .unset, .unset, .unset, .unset, .unset, .unset] [(.int (1 : Int32))])) := by
    refine g_istore X18.here hx (Jvm.hb hby at_37) (pc' := 39) rfl (L' := #[.val (.int x0), .val (.int x1), .val (.int x2), .val (.int x3), .val (.ref b1), .val (.int (1 : Int32)), .unset, .unset, .unset, .unset, .unset, .unset, .unset, .unset]) rfl ?_
    refine g_iconst X18.here hx (Jvm.hb hby at_39) (pc' := 40) rfl (z := (3 : Int32)) rfl ?_
    have F19 := (V3.keep K15 (ninS (Ne.symm ne_b1_b3) nin0))
    refine g_newarr X18 hx hZ (ty := .byte) rfl rfl w_3 e18 (Jvm.hb hby at_40) (pc' := 42) rfl (n := 3) (by decide) 3 (by decide) (by decide) (cells' := 4) (slots' := 13) rfl rfl (by decide) (by decide) ?_
    intro T20 hh20 b20 gb20 X20 e20 E20 V20
    have g_b20 : n0 ≤ b20 := by rw [gb20]; exact Z16
    have lt_b1_b20 : @LT.lt Nat _ b1 b20 := by rw [gb20]; exact EB17.lt
    have ne_b1_b20 : b1 ≠ b20 := Nat.ne_of_lt lt_b1_b20
    have lt_b3_b20 : @LT.lt Nat _ b3 b20 := by rw [gb20]; exact F19.lt
    have ne_b3_b20 : b3 ≠ b20 := Nat.ne_of_lt lt_b3_b20
    have Z21 : n0 ≤ hh20.size := Nat.le_trans Z16 E20.1
    refine g_astore X20.here hx (Jvm.hb hby at_42) (pc' := 44) rfl rfl (L' := #[.val (.int x0), .val (.int x1), .val (.int x2), .val (.int x3), .val (.ref b1), .val (.int (1 : Int32)), .val (.ref b20), .unset, .unset, .unset, .unset, .unset, .unset, .unset]) rfl ?_
    refine g_aload X20.here hx (Jvm.hb hby at_44) (pc' := 46) rfl rfl rfl ?_
    refine g_iconst X20.here hx (Jvm.hb hby at_46) (pc' := 47) rfl (z := (0 : Int32)) rfl ?_
    refine g_iloadN X20.here hx (Jvm.hb hby at_47) (pc' := 48) rfl rfl ?_
    refine g_bipush X20.here hx (Jvm.hb hby at_48) (pc' := 50) rfl (z := (63 : Int32)) rfl ?_
    refine g_iand X20.here hx (Jvm.hb hby at_50) (pc' := 51) rfl ?_
    refine g_iconst X20.here hx (Jvm.hb hby at_51) (pc' := 52) rfl (z := (1 : Int32)) rfl ?_
    refine g_ishl X20.here hx (Jvm.hb hby at_52) (pc' := 53) rfl ?_
    refine g_iconst X20.here hx (Jvm.hb hby at_53) (pc' := 54) rfl (z := (1 : Int32)) rfl ?_
    refine g_ior X20.here hx (Jvm.hb hby at_54) (pc' := 55) rfl ?_
    refine g_i2b X20.here hx (Jvm.hb hby at_55) (pc' := 56) rfl ?_
    refine g_bastore X20 hx hZ e20 V20 ⟨by decide, by decide⟩ (Jvm.hb hby at_56) (pc' := 57) rfl ?_
    intro T22 hh22 X22 e22 W22 V22
    have N22 := Fr.snoc X22 N15 g_b20
    have Z23 : n0 ≤ hh22.size := (by rw [W22.size]; exact Z21)
    refine g_aload X22.here hx (Jvm.hb hby at_57) (pc' := 59) rfl rfl rfl ?_
    refine g_iconst X22.here hx (Jvm.hb hby at_59) (pc' := 60) rfl (z := (1 : Int32)) rfl ?_
    refine g_iloadN X22.here hx (Jvm.hb hby at_60) (pc' := 61) rfl rfl ?_
    refine g_bipush X22.here hx (Jvm.hb hby at_61) (pc' := 63) rfl (z := (127 : Int32)) rfl ?_
    refine g_iand X22.here hx (Jvm.hb hby at_63) (pc' := 64) rfl ?_
    refine g_i2b X22.here hx (Jvm.hb hby at_64) (pc' := 65) rfl ?_
    refine g_bastore X22 hx hZ e22 V22 ⟨by decide, by decide⟩ (Jvm.hb hby at_65) (pc' := 66) rfl ?_
    intro T24 hh24 X24 e24 W24 V24
    have N24 := Fr.snoc X24 N22 g_b20
    have Z25 : n0 ≤ hh24.size := (by rw [W24.size]; exact Z23)
    refine g_aload X24.here hx (Jvm.hb hby at_66) (pc' := 68) rfl rfl rfl ?_
    refine g_iconst X24.here hx (Jvm.hb hby at_68) (pc' := 69) rfl (z := (2 : Int32)) rfl ?_
    refine g_iloadN X24.here hx (Jvm.hb hby at_69) (pc' := 70) rfl rfl ?_
    refine g_bipush X24.here hx (Jvm.hb hby at_70) (pc' := 72) rfl (z := (8 : Int32)) rfl ?_
    refine g_iushr X24.here hx (Jvm.hb hby at_72) (pc' := 73) rfl ?_
    refine g_bipush X24.here hx (Jvm.hb hby at_73) (pc' := 75) rfl (z := (63 : Int32)) rfl ?_
    refine g_iand X24.here hx (Jvm.hb hby at_75) (pc' := 76) rfl ?_
    refine g_iconst X24.here hx (Jvm.hb hby at_76) (pc' := 77) rfl (z := (1 : Int32)) rfl ?_
    refine g_ishl X24.here hx (Jvm.hb hby at_77) (pc' := 78) rfl ?_
    refine g_i2b X24.here hx (Jvm.hb hby at_78) (pc' := 79) rfl ?_
    refine g_bastore X24 hx hZ e24 V24 ⟨by decide, by decide⟩ (Jvm.hb hby at_79) (pc' := 80) rfl ?_
    intro T26 hh26 X26 e26 W26 V26
    have N26 := Fr.snoc X26 N24 g_b20
    have Z27 : n0 ≤ hh26.size := (by rw [W26.size]; exact Z25)
    refine g_iconst X26.here hx (Jvm.hb hby at_80) (pc' := 81) rfl (z := (2 : Int32)) rfl ?_
    refine g_iloadN X26.here hx (Jvm.hb hby at_81) (pc' := 82) rfl rfl ?_
    refine g_bipush X26.here hx (Jvm.hb hby at_82) (pc' := 84) rfl (z := (16 : Int32)) rfl ?_
    refine g_iushr X26.here hx (Jvm.hb hby at_84) (pc' := 85) rfl ?_
    refine g_iconst X26.here hx (Jvm.hb hby at_85) (pc' := 86) rfl (z := (1 : Int32)) rfl ?_
    refine g_iand X26.here hx (Jvm.hb hby at_86) (pc' := 87) rfl ?_
    refine g_iadd X26.here hx (Jvm.hb hby at_87) (pc' := 88) rfl ?_
    refine g_istore X26.here hx (Jvm.hb hby at_88) (pc' := 90) rfl (L' := #[.val (.int x0), .val (.int x1), .val (.int x2), .val (.int x3), .val (.ref b1), .val (.int (1 : Int32)), .val (.ref b20), .val (.int ((2 : Int32) + (((x2.toUInt32 >>> ((16 : Int32) &&& 31).toUInt32).toInt32) &&& (1 : Int32)))), .unset, .unset, .unset, .unset, .unset, .unset]) rfl ?_
    generalize hli : ((2 : Int32) + (((x2.toUInt32 >>> ((16 : Int32) &&& 31).toUInt32).toInt32) &&& (1 : Int32))) = li
    have hl := own_LI x2
    rw [hli] at hl
    refine g_iloadN X26.here hx (Jvm.hb hby at_90) (pc' := 91) rfl rfl ?_
    refine g_bipush X26.here hx (Jvm.hb hby at_91) (pc' := 93) rfl (z := (127 : Int32)) rfl ?_
    refine g_iand X26.here hx (Jvm.hb hby at_93) (pc' := 94) rfl ?_
    refine g_istore X26.here hx (Jvm.hb hby at_94) (pc' := 96) rfl (L' := #[.val (.int x0), .val (.int x1), .val (.int x2), .val (.int x3), .val (.ref b1), .val (.int (1 : Int32)), .val (.ref b20), .val (.int li), .val (.int (x3 &&& (127 : Int32))), .unset, .unset, .unset, .unset, .unset]) rfl ?_
    generalize hkk : (x3 &&& (127 : Int32)) = kk
    have hB0 := own_B0 x2
    have hB1 := own_B1 x3
    have hB2 := own_B2 x2
    rw [hkk] at hB1 V26
    generalize h_c0 : (((((x2 &&& (63 : Int32)) <<< ((1 : Int32) &&& 31)) ||| (1 : Int32)).toInt8.toInt32).toInt8.toInt32) = c0 at *
    generalize h_c1 : ((kk.toInt8.toInt32).toInt8.toInt32) = c1 at *
    generalize h_c2 : ((((((x2.toUInt32 >>> ((8 : Int32) &&& 31).toUInt32).toInt32) &&& (63 : Int32)) <<< ((1 : Int32) &&& 31)).toInt8.toInt32).toInt8.toInt32) = c2 at *
    have F28 := ((((EB17.ext E20).wr W22).wr W24).wr W26)
    have F29 := ((((F19.ext E20).other W22 ne_b3_b20).other W24 ne_b3_b20).other W26 ne_b3_b20)
    refine g_new X26 hx hZ hown w_0 w_1 w_2 e26 (Jvm.hb hby at_96) (pc' := 99) rfl (cells' := 5) (slots' := 23) rfl rfl (by decide) (by decide) ?_
    intro T30 hh30 b30 gb30 X30 e30 E30 A30 D30
    have g_b30 : n0 ≤ b30 := by rw [gb30]; exact Z27
    have lt_b1_b30 : @LT.lt Nat _ b1 b30 := by rw [gb30]; exact F28.lt
    have ne_b1_b30 : b1 ≠ b30 := Nat.ne_of_lt lt_b1_b30
    have lt_b3_b30 : @LT.lt Nat _ b3 b30 := by rw [gb30]; exact F29.lt
    have ne_b3_b30 : b3 ≠ b30 := Nat.ne_of_lt lt_b3_b30
    have lt_b20_b30 : @LT.lt Nat _ b20 b30 := by rw [gb30]; exact V26.lt
    have ne_b20_b30 : b20 ≠ b30 := Nat.ne_of_lt lt_b20_b30
    have Z31 : n0 ≤ hh30.size := Nat.le_trans Z27 E30.1
    have F30_block : Fld Z hh30 b30 "com/example/ogma/ogma/store/ColumnReader" "block" "[B" .null := D30 (Or.inl w_11) (ty := (.array .byte)) (by decide)
    have F30_number : Fld Z hh30 b30 "com/example/ogma/ogma/store/ColumnReader" "number" "J" (.long (0 : Int64)) := D30 (Or.inl w_14) (ty := .long) (by decide)
    have F30_file : Fld Z hh30 b30 "com/example/ogma/ogma/store/ColumnReader" "file" "Lcom/example/ogma/ogma/store/BlockFile;" .null := D30 (Or.inr w_16) (ty := (.object "com/example/ogma/ogma/store/BlockFile")) (by decide)
    have F30_at : Fld Z hh30 b30 "com/example/ogma/ogma/store/ColumnReader" "at" "I" (.int (0 : Int32)) := D30 (Or.inl w_18) (ty := .int) (by decide)
    have F30_limit : Fld Z hh30 b30 "com/example/ogma/ogma/store/ColumnReader" "limit" "I" (.int (0 : Int32)) := D30 (Or.inl w_20) (ty := .int) (by decide)
    have F30_position : Fld Z hh30 b30 "com/example/ogma/ogma/store/ColumnReader" "position" "J" (.long (0 : Int64)) := D30 (Or.inl w_22) (ty := .long) (by decide)
    have F30_end : Fld Z hh30 b30 "com/example/ogma/ogma/store/ColumnReader" "end" "J" (.long (0 : Int64)) := D30 (Or.inr w_24) (ty := .long) (by decide)
    have F30_runLeft : Fld Z hh30 b30 "com/example/ogma/ogma/store/ColumnReader" "runLeft" "J" (.long (0 : Int64)) := D30 (Or.inl w_31) (ty := .long) (by decide)
    have F30_runStep : Fld Z hh30 b30 "com/example/ogma/ogma/store/ColumnReader" "runStep" "J" (.long (0 : Int64)) := D30 (Or.inl w_43) (ty := .long) (by decide)
    refine g_dup X30.here hx (Jvm.hb hby at_99) (pc' := 100) rfl rfl ?_
    refine g_aload X30.here hx (Jvm.hb hby at_100) (pc' := 102) rfl rfl rfl ?_
    refine g_iconst X30.here hx (Jvm.hb hby at_102) (pc' := 103) rfl (z := (0 : Int32)) rfl ?_
    refine g_iload X30.here hx (Jvm.hb hby at_103) (pc' := 105) rfl rfl ?_
    refine g_callI X30 hx hZ rfl hown w_4 w_5 w_2 w_6 (by decide) (rm1 l Z a0 hw [] b30 b20 (0 : Int32) li hh30 n0 Z31 g_b30 A30 F30_block F30_at F30_limit F30_position F30_end F30_runLeft F30_runStep F30_number F30_file) 1 (by decide) (by decide) e30 (by rw [hml]; rfl) [(.ref b20), (.int (0 : Int32)), (.int li)] [(.ref b30)] (lenOf pd_1 rfl) rfl rfl (Nat.le_of_eq rfl) (Jvm.hb hby at_105) (pc' := 108) rfl (cells' := 6) (slots' := 23) rfl rfl (by decide) (by decide) ?_
    intro v32 T32 L32 X32 hQ32
    obtain ⟨rfl, Nq32, K32, Bq32⟩ := hQ32
    have N32 := Fr.app N26 Nq32
    have Z33 : n0 ≤ T32.heap.size := Nat.le_trans Z31 K32.1
    obtain ⟨EB34, FB34_block, FB34_at, FB34_limit, FB34_position, FB34_end, FB34_runLeft, FB34_runStep, FB34_number⟩ := Bq32
    show own_Gl p e below s (own_Q0 n0) room_1.cells room_1.slots (T32.setTop (mkF m 108 #[.val (.int x0), .val (.int x1), .val (.int x2), .val (.int x3), .val (.ref b1), .val (.int (1 : Int32)), .val (.ref b20), .val (.int li), .val (.int kk), .unset, .unset, .unset, .unset, .unset] [(.ref b30)]))
    refine g_astore X32.here hx (Jvm.hb hby at_108) (pc' := 110) rfl rfl (L' := #[.val (.int x0), .val (.int x1), .val (.int x2), .val (.int x3), .val (.ref b1), .val (.int (1 : Int32)), .val (.ref b20), .val (.int li), .val (.int kk), .val (.ref b30), .unset, .unset, .unset, .unset]) rfl ?_
    refine g_aload X32.here hx (Jvm.hb hby at_110) (pc' := 112) rfl rfl rfl ?_
    refine g_callV X32 hx hZ hown w_25 w_26 (own_nf hZ w_28) w_28 w_27 w_2 w_29 (by decide) (rm3 l Z a0 hw [] b30 (0 : Int64) (0 : Int32) li li.toInt64 li.toInt64 T32.heap FB34_runLeft FB34_at FB34_limit FB34_position FB34_end) 0 (by decide) (by decide) rfl EB34 (by rw [hml]; rfl) [] [] (lenOf pd_2 rfl) rfl rfl (Nat.le_of_eq rfl) (Jvm.hb hby at_112) (pc' := 115) rfl (cells' := 6) (slots' := 23) rfl rfl (by decide) (by decide) ?_
    intro v35 T35 L35 X35 hQ35
    obtain ⟨rfl, rfl, e35⟩ := hQ35
    rw [List.append_nil] at X35
    show own_Gl p e below s (own_Q0 n0) room_1.cells room_1.slots (T35.setTop (mkF m 115 #[.val (.int x0), .val (.int x1), .val (.int x2), .val (.int x3), .val (.ref b1), .val (.int (1 : Int32)), .val (.ref b20), .val (.int li), .val (.int kk), .val (.ref b30), .unset, .unset, .unset, .unset] [(.int (f_hn (0 : Int64) (0 : Int32) li li.toInt64 li.toInt64))]))
    have hbef : f_hn (0 : Int64) (0 : Int32) li li.toInt64 li.toInt64 = (1 : Int32) := (own_hn _ _ _).1.mpr (Or.inr (by simp only [Int32.reduceToInt]; omega))
    rw [hbef]
    refine g_istore X35.here hx (Jvm.hb hby at_115) (pc' := 117) rfl (L' := #[.val (.int x0), .val (.int x1), .val (.int x2), .val (.int x3), .val (.ref b1), .val (.int (1 : Int32)), .val (.ref b20), .val (.int li), .val (.int kk), .val (.ref b30), .val (.int (1 : Int32)), .unset, .unset, .unset]) rfl ?_
    refine g_aload X35.here hx (Jvm.hb hby at_117) (pc' := 119) rfl rfl rfl ?_
    have p0 : ¬ c0 < (0 : Int32) := by simp only [Int32.lt_iff_toInt_lt, Int32.reduceToInt]; omega
    have p1 : ¬ c1 < (0 : Int32) := by simp only [Int32.lt_iff_toInt_lt, Int32.reduceToInt]; omega
    have p2 : ¬ c2 < (0 : Int32) := by simp only [Int32.lt_iff_toInt_lt, Int32.reduceToInt]; omega
    have q0 := own_nx c0 p0 hB0.2.1
    have q1 := own_nx c1 p1 hB1.2.1
    have q2 := own_nx c2 p2 hB2.2.1
    have kz : (0 : Int64).toInt = 0 := by decide
    have ho : ¬ (f_nx c0 &&& (1 : Int64)) = (0 : Int64) := by rw [← Int64.toInt_inj, q0.2, kz]; omega
    have he : (f_nx c2 &&& (1 : Int64)) = (0 : Int64) := by rw [← Int64.toInt_inj, q2.2, kz]; omega
    have l0 : ¬ (0 : Int32) = li := by rw [← Int32.toInt_inj]; simp only [Int32.reduceToInt]; omega
    have l1 : ¬ ((0 : Int32) + (1 : Int32)) = li := by rw [← Int32.toInt_inj]; simp only [Int32.reduceAdd, Int32.reduceToInt]; omega
    have F36 := ((V26.ext E30).keep K32 (ninS ne_b20_b30 nin0))
    refine g_callV X35 hx hZ hown w_32 w_33 (own_nf hZ w_35) w_35 w_34 w_2 w_36 (by decide) (rm4a l Z a0 hw [] b30 b20 (0 : Int32) li li.toInt64 li.toInt64 (0 : Int64) (0 : Int64) (-1 : Int64) 3 _ c0 c1 T32.heap n0 Z33 g_b30 ⟨EB34, FB34_block, FB34_at, FB34_limit, FB34_position, FB34_end, FB34_runLeft, FB34_runStep, FB34_number⟩ F36 ne_b20_b30 (by decide) l0 ⟨by decide, by decide⟩ rfl p0 ho l1 ⟨by decide, by decide⟩ rfl p1) 0 (by decide) (by decide) e35 EB34 (by rw [hml]; rfl) [] [] (lenOf pd_0 rfl) rfl rfl (Nat.le_of_eq rfl) (Jvm.hb hby at_119) (pc' := 122) rfl (cells' := 6) (slots' := 23) rfl rfl (by decide) (by decide) ?_
    intro v38 T38 L38 X38 hQ38
    obtain ⟨⟨z38, rfl⟩, Nq38, K38, ⟨rs38, nu38, Bq38⟩⟩ := hQ38
    have N38 := Fr.app N32 Nq38
    have Z39 : n0 ≤ T38.heap.size := Nat.le_trans Z33 K38.1
    obtain ⟨EB40, FB40_block, FB40_at, FB40_limit, FB40_position, FB40_end, FB40_runLeft, FB40_runStep, FB40_number⟩ := Bq38
    show own_Gl p e below s (own_Q0 n0) room_1.cells room_1.slots (T38.setTop (mkF m 122 #[.val (.int x0), .val (.int x1), .val (.int x2), .val (.int x3), .val (.ref b1), .val (.int (1 : Int32)), .val (.ref b20), .val (.int li), .val (.int kk), .val (.ref b30), .val (.int (1 : Int32)), .unset, .unset, .unset] [(.long z38)]))
    refine g_pop2L X38.here hx (Jvm.hb hby at_122) (pc' := 123) rfl ?_
    refine g_aload X38.here hx (Jvm.hb hby at_123) (pc' := 125) rfl rfl rfl ?_
    refine g_callV X38 hx hZ hown w_25 w_26 (own_nf hZ w_28) w_28 w_27 w_2 w_29 (by decide) (rm3 l Z a0 hw [] b30 (f_nx c1) ((0 : Int32) + (1 : Int32) + (1 : Int32)) li li.toInt64 li.toInt64 T38.heap FB40_runLeft FB40_at FB40_limit FB40_position FB40_end) 0 (by decide) (by decide) rfl EB40 (by rw [hml]; rfl) [] [] (lenOf pd_2 rfl) rfl rfl (Nat.le_of_eq rfl) (Jvm.hb hby at_125) (pc' := 128) rfl (cells' := 6) (slots' := 23) rfl rfl (by decide) (by decide) ?_
    intro v41 T41 L41 X41 hQ41
    obtain ⟨rfl, rfl, e41⟩ := hQ41
    rw [List.append_nil] at X41
    show own_Gl p e below s (own_Q0 n0) room_1.cells room_1.slots (T41.setTop (mkF m 128 #[.val (.int x0), .val (.int x1), .val (.int x2), .val (.int x3), .val (.ref b1), .val (.int (1 : Int32)), .val (.ref b20), .val (.int li), .val (.int kk), .val (.ref b30), .val (.int (1 : Int32)), .unset, .unset, .unset] [(.int (f_hn (f_nx c1) ((0 : Int32) + (1 : Int32) + (1 : Int32)) li li.toInt64 li.toInt64))]))
    refine g_iload X41.here hx (Jvm.hb hby at_128) (pc' := 130) rfl rfl ?_
    have hf2 := own_hn (f_nx c1) ((0 : Int32) + (1 : Int32) + (1 : Int32)) li
    have i2 : (((0 : Int32) + (1 : Int32) + (1 : Int32))).toInt = 2 := by decide
    rw [q1.1, hB1.2.2, i2] at hf2
    have kI : (0 : Int32) < kk ↔ 0 < kk.toInt := by rw [Int32.lt_iff_toInt_lt]; simp only [Int32.reduceToInt]
    have lI : (2 : Int32) < li ↔ 2 < li.toInt := by rw [Int32.lt_iff_toInt_lt]; simp only [Int32.reduceToInt]
    by_cases hc130 : (0 : Int32) < kk
    · refine g_ifY X41.here hx (Jvm.hb hby at_130) (by decide) (pc' := 139) (by decide) ((if0 _ _).trans (tlt hc130).2.2.1) ?_
      refine g_iconst X41.here hx (Jvm.hb hby at_139) (pc' := 140) rfl (z := (1 : Int32)) rfl ?_
      refine g_goto X41.here hx (Jvm.hb hby at_140) (by decide) (pc' := 144) (by decide) ?_
      refine g_icN X41.here hx (Jvm.hb hby at_144) (pc' := 147) rfl (teq (hf2.1.mpr (Or.inl (kI.mp hc130)))).2 ?_
      refine g_iconst X41.here hx (Jvm.hb hby at_147) (pc' := 148) rfl (z := (1 : Int32)) rfl ?_
      refine g_goto X41.here hx (Jvm.hb hby at_148) (by decide) (pc' := 152) (by decide) ?_
      refine g_istore X41.here hx (Jvm.hb hby at_152) (pc' := 154) rfl (L' := #[.val (.int x0), .val (.int x1), .val (.int x2), .val (.int x3), .val (.ref b1), .val (.int (1 : Int32)), .val (.ref b20), .val (.int li), .val (.int kk), .val (.ref b30), .val (.int (1 : Int32)), .val (.int (1 : Int32)), .unset, .unset]) rfl ?_
      refine g_iconst X41.here hx (Jvm.hb hby at_154) (pc' := 155) rfl (z := (1 : Int32)) rfl ?_
      refine g_istore X41.here hx (Jvm.hb hby at_155) (pc' := 157) rfl (L' := #[.val (.int x0), .val (.int x1), .val (.int x2), .val (.int x3), .val (.ref b1), .val (.int (1 : Int32)), .val (.ref b20), .val (.int li), .val (.int kk), .val (.ref b30), .val (.int (1 : Int32)), .val (.int (1 : Int32)), .val (.int (1 : Int32)), .unset]) rfl ?_
      refine g_iload X41.here hx (Jvm.hb hby at_157) (pc' := 159) rfl rfl ?_
      refine g_ifY X41.here hx (Jvm.hb hby at_159) (by decide) (pc' := 168) (by decide) ((if0 _ _).trans (tlt hc130).2.2.1) ?_
      refine g_aload X41.here hx (Jvm.hb hby at_168) (pc' := 170) rfl rfl rfl ?_
      have hrl : (0 : Int64) < f_nx c1 := by rw [Int64.lt_iff_toInt_lt, q1.1, hB1.2.2, kz]; exact kI.mp hc130
      have F42 := (F36.keep K38 (ninS ne_b20_b30 nin0))
      refine g_callV X41 hx hZ hown w_32 w_33 (own_nf hZ w_35) w_35 w_34 w_2 w_36 (by decide) (rm4b l Z a0 hw [] b30 b20 ((0 : Int32) + (1 : Int32) + (1 : Int32)) li li.toInt64 li.toInt64 (f_nx c1) rs38 nu38 3 _  T38.heap n0 Z39 g_b30 ⟨EB40, FB40_block, FB40_at, FB40_limit, FB40_position, FB40_end, FB40_runLeft, FB40_runStep, FB40_number⟩ F42 ne_b20_b30 hrl) 0 (by decide) (by decide) e41 EB40 (by rw [hml]; rfl) [] [] (lenOf pd_0 rfl) rfl rfl (Nat.le_of_eq rfl) (Jvm.hb hby at_170) (pc' := 173) rfl (cells' := 6) (slots' := 23) rfl rfl (by decide) (by decide) ?_
      intro v44 T44 L44 X44 hQ44
      obtain ⟨⟨z44, rfl⟩, Nq44, K44, ⟨rs44, nu44, Bq44⟩⟩ := hQ44
      have N44 := Fr.app N38 Nq44
      have Z45 : n0 ≤ T44.heap.size := Nat.le_trans Z39 K44.1
      obtain ⟨EB46, FB46_block, FB46_at, FB46_limit, FB46_position, FB46_end, FB46_runLeft, FB46_runStep, FB46_number⟩ := Bq44
      show own_Gl p e below s (own_Q0 n0) room_1.cells room_1.slots (T44.setTop (mkF m 173 #[.val (.int x0), .val (.int x1), .val (.int x2), .val (.int x3), .val (.ref b1), .val (.int (1 : Int32)), .val (.ref b20), .val (.int li), .val (.int kk), .val (.ref b30), .val (.int (1 : Int32)), .val (.int (1 : Int32)), .val (.int (1 : Int32)), .unset] [(.long z44)]))
      refine g_pop2L X44.here hx (Jvm.hb hby at_173) (pc' := 174) rfl ?_
      refine g_iload X44.here hx (Jvm.hb hby at_174) (pc' := 176) rfl rfl ?_
      refine g_ifN X44.here hx (Jvm.hb hby at_176) (pc' := 179) rfl ((if0 _ _).trans (tlt hc130).2.2.2) ?_
      refine g_iload X44.here hx (Jvm.hb hby at_179) (pc' := 181) rfl rfl ?_
      refine g_iconst X44.here hx (Jvm.hb hby at_181) (pc' := 182) rfl (z := (1 : Int32)) rfl ?_
      refine g_isub X44.here hx (Jvm.hb hby at_182) (pc' := 183) rfl ?_
      have hf3 := own_hn (f_nx c1 - (1 : Int64)) ((0 : Int32) + (1 : Int32) + (1 : Int32)) li
      have e3 := c_lsub (f_nx c1) 1
      have r3 := rng64 (f_nx c1 - 1)
      have k1 : (1 : Int64).toInt = 1 := by decide
      rw [q1.1, hB1.2.2, k1] at e3
      have e4 := c_isub kk 1
      have r4 := rng32 (kk - 1)
      simp only [Int32.reduceToInt] at e4
      have kp := kI.mp hc130
      have e5 : (f_nx c1 - 1).toInt = kk.toInt - 1 := by have := rng32 kk; omega
      have e6 : (kk - 1).toInt = kk.toInt - 1 := by have := rng32 kk; omega
      rw [e5, i2] at hf3
      have kJ : (0 : Int32) < (kk - (1 : Int32)) ↔ 0 < kk.toInt - 1 := by rw [Int32.lt_iff_toInt_lt, e6]; simp only [Int32.reduceToInt]
      by_cases hc183 : (0 : Int32) < (kk - (1 : Int32))
      · refine g_ifY X44.here hx (Jvm.hb hby at_183) (by decide) (pc' := 192) (by decide) ((if0 _ _).trans (tlt hc183).2.2.1) ?_
        refine g_iconst X44.here hx (Jvm.hb hby at_192) (pc' := 193) rfl (z := (1 : Int32)) rfl ?_
        refine g_goto X44.here hx (Jvm.hb hby at_193) (by decide) (pc' := 201) (by decide) ?_
        refine g_istore X44.here hx (Jvm.hb hby at_201) (pc' := 203) rfl (L' := #[.val (.int x0), .val (.int x1), .val (.int x2), .val (.int x3), .val (.ref b1), .val (.int (1 : Int32)), .val (.ref b20), .val (.int li), .val (.int kk), .val (.ref b30), .val (.int (1 : Int32)), .val (.int (1 : Int32)), .val (.int (1 : Int32)), .val (.int (1 : Int32))]) rfl ?_
        refine g_aload X44.here hx (Jvm.hb hby at_203) (pc' := 205) rfl rfl rfl ?_
        refine g_callV X44 hx hZ hown w_25 w_26 (own_nf hZ w_28) w_28 w_27 w_2 w_29 (by decide) (rm3 l Z a0 hw [] b30 (f_nx c1 - (1 : Int64)) ((0 : Int32) + (1 : Int32) + (1 : Int32)) li li.toInt64 li.toInt64 T44.heap FB46_runLeft FB46_at FB46_limit FB46_position FB46_end) 0 (by decide) (by decide) rfl EB46 (by rw [hml]; rfl) [] [] (lenOf pd_2 rfl) rfl rfl (Nat.le_of_eq rfl) (Jvm.hb hby at_205) (pc' := 208) rfl (cells' := 6) (slots' := 23) rfl rfl (by decide) (by decide) ?_
        intro v47 T47 L47 X47 hQ47
        obtain ⟨rfl, rfl, e47⟩ := hQ47
        rw [List.append_nil] at X47
        show own_Gl p e below s (own_Q0 n0) room_1.cells room_1.slots (T47.setTop (mkF m 208 #[.val (.int x0), .val (.int x1), .val (.int x2), .val (.int x3), .val (.ref b1), .val (.int (1 : Int32)), .val (.ref b20), .val (.int li), .val (.int kk), .val (.ref b30), .val (.int (1 : Int32)), .val (.int (1 : Int32)), .val (.int (1 : Int32)), .val (.int (1 : Int32))] [(.int (f_hn (f_nx c1 - (1 : Int64)) ((0 : Int32) + (1 : Int32) + (1 : Int32)) li li.toInt64 li.toInt64))]))
        refine g_iload X47.here hx (Jvm.hb hby at_208) (pc' := 210) rfl rfl ?_
        refine g_icN X47.here hx (Jvm.hb hby at_210) (pc' := 213) rfl (teq (hf3.1.mpr (Or.inl (kJ.mp hc183)))).2 ?_
        refine g_iconst X47.here hx (Jvm.hb hby at_213) (pc' := 214) rfl (z := (1 : Int32)) rfl ?_
        refine g_goto X47.here hx (Jvm.hb hby at_214) (by decide) (pc' := 218) (by decide) ?_
        refine g_istore X47.here hx (Jvm.hb hby at_218) (pc' := 220) rfl (L' := #[.val (.int x0), .val (.int x1), .val (.int x2), .val (.int x3), .val (.ref b1), .val (.int (1 : Int32)), .val (.ref b20), .val (.int li), .val (.int kk), .val (.ref b30), .val (.int (1 : Int32)), .val (.int (1 : Int32)), .val (.int (1 : Int32)), .val (.int (1 : Int32))]) rfl ?_
        refine g_iload X47.here hx (Jvm.hb hby at_220) (pc' := 222) rfl rfl ?_
        refine g_ifN X47.here hx (Jvm.hb hby at_222) (pc' := 225) rfl ((if0 _ _).trans (feq (by decide)).1) ?_
        refine g_iload X47.here hx (Jvm.hb hby at_225) (pc' := 227) rfl rfl ?_
        refine g_ifN X47.here hx (Jvm.hb hby at_227) (pc' := 230) rfl ((if0 _ _).trans (feq (by decide)).1) ?_
        refine g_iload X47.here hx (Jvm.hb hby at_230) (pc' := 232) rfl rfl ?_
        refine g_ifN X47.here hx (Jvm.hb hby at_232) (pc' := 235) rfl ((if0 _ _).trans (feq (by decide)).1) ?_
        refine g_iload X47.here hx (Jvm.hb hby at_235) (pc' := 237) rfl rfl ?_
        refine g_ifN X47.here hx (Jvm.hb hby at_237) (pc' := 240) rfl ((if0 _ _).trans (feq (by decide)).1) ?_
        refine g_iconst X47.here hx (Jvm.hb hby at_240) (pc' := 241) rfl (z := (1 : Int32)) rfl ?_
        refine g_goto X47.here hx (Jvm.hb hby at_241) (by decide) (pc' := 245) (by decide) ?_
        exact g_retN X47 hx hlk (t := .boolean) hret (by simp) (z' := (1 : Int32)) rfl (Jvm.hb hby at_245) (by decide) (by decide) ⟨rfl, N44⟩
      · refine g_ifN X44.here hx (Jvm.hb hby at_183) (pc' := 186) rfl ((if0 _ _).trans (flt hc183).2.2.1) ?_
        refine g_iload X44.here hx (Jvm.hb hby at_186) (pc' := 188) rfl rfl ?_
        refine g_iconst X44.here hx (Jvm.hb hby at_188) (pc' := 189) rfl (z := (2 : Int32)) rfl ?_
        by_cases hc189 : (2 : Int32) < li
        · refine g_icN X44.here hx (Jvm.hb hby at_189) (pc' := 192) rfl (tlt hc189).2.2.2 ?_
          refine g_iconst X44.here hx (Jvm.hb hby at_192) (pc' := 193) rfl (z := (1 : Int32)) rfl ?_
          refine g_goto X44.here hx (Jvm.hb hby at_193) (by decide) (pc' := 201) (by decide) ?_
          refine g_istore X44.here hx (Jvm.hb hby at_201) (pc' := 203) rfl (L' := #[.val (.int x0), .val (.int x1), .val (.int x2), .val (.int x3), .val (.ref b1), .val (.int (1 : Int32)), .val (.ref b20), .val (.int li), .val (.int kk), .val (.ref b30), .val (.int (1 : Int32)), .val (.int (1 : Int32)), .val (.int (1 : Int32)), .val (.int (1 : Int32))]) rfl ?_
          refine g_aload X44.here hx (Jvm.hb hby at_203) (pc' := 205) rfl rfl rfl ?_
          refine g_callV X44 hx hZ hown w_25 w_26 (own_nf hZ w_28) w_28 w_27 w_2 w_29 (by decide) (rm3 l Z a0 hw [] b30 (f_nx c1 - (1 : Int64)) ((0 : Int32) + (1 : Int32) + (1 : Int32)) li li.toInt64 li.toInt64 T44.heap FB46_runLeft FB46_at FB46_limit FB46_position FB46_end) 0 (by decide) (by decide) rfl EB46 (by rw [hml]; rfl) [] [] (lenOf pd_2 rfl) rfl rfl (Nat.le_of_eq rfl) (Jvm.hb hby at_205) (pc' := 208) rfl (cells' := 6) (slots' := 23) rfl rfl (by decide) (by decide) ?_
          intro v48 T48 L48 X48 hQ48
          obtain ⟨rfl, rfl, e48⟩ := hQ48
          rw [List.append_nil] at X48
          show own_Gl p e below s (own_Q0 n0) room_1.cells room_1.slots (T48.setTop (mkF m 208 #[.val (.int x0), .val (.int x1), .val (.int x2), .val (.int x3), .val (.ref b1), .val (.int (1 : Int32)), .val (.ref b20), .val (.int li), .val (.int kk), .val (.ref b30), .val (.int (1 : Int32)), .val (.int (1 : Int32)), .val (.int (1 : Int32)), .val (.int (1 : Int32))] [(.int (f_hn (f_nx c1 - (1 : Int64)) ((0 : Int32) + (1 : Int32) + (1 : Int32)) li li.toInt64 li.toInt64))]))
          refine g_iload X48.here hx (Jvm.hb hby at_208) (pc' := 210) rfl rfl ?_
          refine g_icN X48.here hx (Jvm.hb hby at_210) (pc' := 213) rfl (teq (hf3.1.mpr (Or.inr (lI.mp hc189)))).2 ?_
          refine g_iconst X48.here hx (Jvm.hb hby at_213) (pc' := 214) rfl (z := (1 : Int32)) rfl ?_
          refine g_goto X48.here hx (Jvm.hb hby at_214) (by decide) (pc' := 218) (by decide) ?_
          refine g_istore X48.here hx (Jvm.hb hby at_218) (pc' := 220) rfl (L' := #[.val (.int x0), .val (.int x1), .val (.int x2), .val (.int x3), .val (.ref b1), .val (.int (1 : Int32)), .val (.ref b20), .val (.int li), .val (.int kk), .val (.ref b30), .val (.int (1 : Int32)), .val (.int (1 : Int32)), .val (.int (1 : Int32)), .val (.int (1 : Int32))]) rfl ?_
          refine g_iload X48.here hx (Jvm.hb hby at_220) (pc' := 222) rfl rfl ?_
          refine g_ifN X48.here hx (Jvm.hb hby at_222) (pc' := 225) rfl ((if0 _ _).trans (feq (by decide)).1) ?_
          refine g_iload X48.here hx (Jvm.hb hby at_225) (pc' := 227) rfl rfl ?_
          refine g_ifN X48.here hx (Jvm.hb hby at_227) (pc' := 230) rfl ((if0 _ _).trans (feq (by decide)).1) ?_
          refine g_iload X48.here hx (Jvm.hb hby at_230) (pc' := 232) rfl rfl ?_
          refine g_ifN X48.here hx (Jvm.hb hby at_232) (pc' := 235) rfl ((if0 _ _).trans (feq (by decide)).1) ?_
          refine g_iload X48.here hx (Jvm.hb hby at_235) (pc' := 237) rfl rfl ?_
          refine g_ifN X48.here hx (Jvm.hb hby at_237) (pc' := 240) rfl ((if0 _ _).trans (feq (by decide)).1) ?_
          refine g_iconst X48.here hx (Jvm.hb hby at_240) (pc' := 241) rfl (z := (1 : Int32)) rfl ?_
          refine g_goto X48.here hx (Jvm.hb hby at_241) (by decide) (pc' := 245) (by decide) ?_
          exact g_retN X48 hx hlk (t := .boolean) hret (by simp) (z' := (1 : Int32)) rfl (Jvm.hb hby at_245) (by decide) (by decide) ⟨rfl, N44⟩
        · refine g_icY X44.here hx (Jvm.hb hby at_189) (by decide) (pc' := 196) (by decide) (flt hc189).2.2.2 ?_
          refine g_iconst X44.here hx (Jvm.hb hby at_196) (pc' := 197) rfl (z := (0 : Int32)) rfl ?_
          refine g_goto X44.here hx (Jvm.hb hby at_197) (by decide) (pc' := 201) (by decide) ?_
          refine g_istore X44.here hx (Jvm.hb hby at_201) (pc' := 203) rfl (L' := #[.val (.int x0), .val (.int x1), .val (.int x2), .val (.int x3), .val (.ref b1), .val (.int (1 : Int32)), .val (.ref b20), .val (.int li), .val (.int kk), .val (.ref b30), .val (.int (1 : Int32)), .val (.int (1 : Int32)), .val (.int (1 : Int32)), .val (.int (0 : Int32))]) rfl ?_
          refine g_aload X44.here hx (Jvm.hb hby at_203) (pc' := 205) rfl rfl rfl ?_
          refine g_callV X44 hx hZ hown w_25 w_26 (own_nf hZ w_28) w_28 w_27 w_2 w_29 (by decide) (rm3 l Z a0 hw [] b30 (f_nx c1 - (1 : Int64)) ((0 : Int32) + (1 : Int32) + (1 : Int32)) li li.toInt64 li.toInt64 T44.heap FB46_runLeft FB46_at FB46_limit FB46_position FB46_end) 0 (by decide) (by decide) rfl EB46 (by rw [hml]; rfl) [] [] (lenOf pd_2 rfl) rfl rfl (Nat.le_of_eq rfl) (Jvm.hb hby at_205) (pc' := 208) rfl (cells' := 6) (slots' := 23) rfl rfl (by decide) (by decide) ?_
          intro v49 T49 L49 X49 hQ49
          obtain ⟨rfl, rfl, e49⟩ := hQ49
          rw [List.append_nil] at X49
          show own_Gl p e below s (own_Q0 n0) room_1.cells room_1.slots (T49.setTop (mkF m 208 #[.val (.int x0), .val (.int x1), .val (.int x2), .val (.int x3), .val (.ref b1), .val (.int (1 : Int32)), .val (.ref b20), .val (.int li), .val (.int kk), .val (.ref b30), .val (.int (1 : Int32)), .val (.int (1 : Int32)), .val (.int (1 : Int32)), .val (.int (0 : Int32))] [(.int (f_hn (f_nx c1 - (1 : Int64)) ((0 : Int32) + (1 : Int32) + (1 : Int32)) li li.toInt64 li.toInt64))]))
          refine g_iload X49.here hx (Jvm.hb hby at_208) (pc' := 210) rfl rfl ?_
          refine g_icN X49.here hx (Jvm.hb hby at_210) (pc' := 213) rfl (teq (hf3.2.mpr (fun q => q.elim (fun z => hc183 (kJ.mpr z)) (fun z => hc189 (lI.mpr z))))).2 ?_
          refine g_iconst X49.here hx (Jvm.hb hby at_213) (pc' := 214) rfl (z := (1 : Int32)) rfl ?_
          refine g_goto X49.here hx (Jvm.hb hby at_214) (by decide) (pc' := 218) (by decide) ?_
          refine g_istore X49.here hx (Jvm.hb hby at_218) (pc' := 220) rfl (L' := #[.val (.int x0), .val (.int x1), .val (.int x2), .val (.int x3), .val (.ref b1), .val (.int (1 : Int32)), .val (.ref b20), .val (.int li), .val (.int kk), .val (.ref b30), .val (.int (1 : Int32)), .val (.int (1 : Int32)), .val (.int (1 : Int32)), .val (.int (0 : Int32))]) rfl ?_
          refine g_iload X49.here hx (Jvm.hb hby at_220) (pc' := 222) rfl rfl ?_
          refine g_ifN X49.here hx (Jvm.hb hby at_222) (pc' := 225) rfl ((if0 _ _).trans (feq (by decide)).1) ?_
          refine g_iload X49.here hx (Jvm.hb hby at_225) (pc' := 227) rfl rfl ?_
          refine g_ifN X49.here hx (Jvm.hb hby at_227) (pc' := 230) rfl ((if0 _ _).trans (feq (by decide)).1) ?_
          refine g_iload X49.here hx (Jvm.hb hby at_230) (pc' := 232) rfl rfl ?_
          refine g_ifN X49.here hx (Jvm.hb hby at_232) (pc' := 235) rfl ((if0 _ _).trans (feq (by decide)).1) ?_
          refine g_iload X49.here hx (Jvm.hb hby at_235) (pc' := 237) rfl rfl ?_
          refine g_ifN X49.here hx (Jvm.hb hby at_237) (pc' := 240) rfl ((if0 _ _).trans (feq (by decide)).1) ?_
          refine g_iconst X49.here hx (Jvm.hb hby at_240) (pc' := 241) rfl (z := (1 : Int32)) rfl ?_
          refine g_goto X49.here hx (Jvm.hb hby at_241) (by decide) (pc' := 245) (by decide) ?_
          exact g_retN X49 hx hlk (t := .boolean) hret (by simp) (z' := (1 : Int32)) rfl (Jvm.hb hby at_245) (by decide) (by decide) ⟨rfl, N44⟩
    · refine g_ifN X41.here hx (Jvm.hb hby at_130) (pc' := 133) rfl ((if0 _ _).trans (flt hc130).2.2.1) ?_
      refine g_iload X41.here hx (Jvm.hb hby at_133) (pc' := 135) rfl rfl ?_
      refine g_iconst X41.here hx (Jvm.hb hby at_135) (pc' := 136) rfl (z := (2 : Int32)) rfl ?_
      by_cases hc136 : (2 : Int32) < li
      · refine g_icN X41.here hx (Jvm.hb hby at_136) (pc' := 139) rfl (tlt hc136).2.2.2 ?_
        refine g_iconst X41.here hx (Jvm.hb hby at_139) (pc' := 140) rfl (z := (1 : Int32)) rfl ?_
        refine g_goto X41.here hx (Jvm.hb hby at_140) (by decide) (pc' := 144) (by decide) ?_
        refine g_icN X41.here hx (Jvm.hb hby at_144) (pc' := 147) rfl (teq (hf2.1.mpr (Or.inr (lI.mp hc136)))).2 ?_
        refine g_iconst X41.here hx (Jvm.hb hby at_147) (pc' := 148) rfl (z := (1 : Int32)) rfl ?_
        refine g_goto X41.here hx (Jvm.hb hby at_148) (by decide) (pc' := 152) (by decide) ?_
        refine g_istore X41.here hx (Jvm.hb hby at_152) (pc' := 154) rfl (L' := #[.val (.int x0), .val (.int x1), .val (.int x2), .val (.int x3), .val (.ref b1), .val (.int (1 : Int32)), .val (.ref b20), .val (.int li), .val (.int kk), .val (.ref b30), .val (.int (1 : Int32)), .val (.int (1 : Int32)), .unset, .unset]) rfl ?_
        refine g_iconst X41.here hx (Jvm.hb hby at_154) (pc' := 155) rfl (z := (1 : Int32)) rfl ?_
        refine g_istore X41.here hx (Jvm.hb hby at_155) (pc' := 157) rfl (L' := #[.val (.int x0), .val (.int x1), .val (.int x2), .val (.int x3), .val (.ref b1), .val (.int (1 : Int32)), .val (.ref b20), .val (.int li), .val (.int kk), .val (.ref b30), .val (.int (1 : Int32)), .val (.int (1 : Int32)), .val (.int (1 : Int32)), .unset]) rfl ?_
        refine g_iload X41.here hx (Jvm.hb hby at_157) (pc' := 159) rfl rfl ?_
        refine g_ifN X41.here hx (Jvm.hb hby at_159) (pc' := 162) rfl ((if0 _ _).trans (flt hc130).2.2.1) ?_
        refine g_iload X41.here hx (Jvm.hb hby at_162) (pc' := 164) rfl rfl ?_
        refine g_iconst X41.here hx (Jvm.hb hby at_164) (pc' := 165) rfl (z := (2 : Int32)) rfl ?_
        refine g_icN X41.here hx (Jvm.hb hby at_165) (pc' := 168) rfl (tlt hc136).2.2.2 ?_
        refine g_aload X41.here hx (Jvm.hb hby at_168) (pc' := 170) rfl rfl rfl ?_
        have hl3 : li.toInt = 3 := by have := lI.mp hc136; omega
        have hk0 : kk.toInt = 0 := by have q : ¬ (0 < kk.toInt) := fun z => hc130 (kI.mpr z)
                                      have q2 := hB1.2.2
                                      omega
        have hrl : ¬ (0 : Int64) < f_nx c1 := by rw [Int64.lt_iff_toInt_lt, q1.1, hB1.2.2, kz]; omega
        have l2 : ¬ ((0 : Int32) + (1 : Int32) + (1 : Int32)) = li := by rw [← Int32.toInt_inj, i2]; omega
        have F50 := (F36.keep K38 (ninS ne_b20_b30 nin0))
        refine g_callV X41 hx hZ hown w_32 w_33 (own_nf hZ w_35) w_35 w_34 w_2 w_36 (by decide) (rm4c l Z a0 hw [] b30 b20 ((0 : Int32) + (1 : Int32) + (1 : Int32)) li li.toInt64 li.toInt64 (f_nx c1) rs38 nu38 3 _ c2 T38.heap n0 Z39 g_b30 ⟨EB40, FB40_block, FB40_at, FB40_limit, FB40_position, FB40_end, FB40_runLeft, FB40_runStep, FB40_number⟩ F50 ne_b20_b30 hrl l2 ⟨by decide, by decide⟩ rfl p2 he) 0 (by decide) (by decide) e41 EB40 (by rw [hml]; rfl) [] [] (lenOf pd_0 rfl) rfl rfl (Nat.le_of_eq rfl) (Jvm.hb hby at_170) (pc' := 173) rfl (cells' := 6) (slots' := 23) rfl rfl (by decide) (by decide) ?_
        intro v52 T52 L52 X52 hQ52
        obtain ⟨⟨z52, rfl⟩, Nq52, K52, ⟨rs52, nu52, Bq52⟩⟩ := hQ52
        have N52 := Fr.app N38 Nq52
        have Z53 : n0 ≤ T52.heap.size := Nat.le_trans Z39 K52.1
        obtain ⟨EB54, FB54_block, FB54_at, FB54_limit, FB54_position, FB54_end, FB54_runLeft, FB54_runStep, FB54_number⟩ := Bq52
        show own_Gl p e below s (own_Q0 n0) room_1.cells room_1.slots (T52.setTop (mkF m 173 #[.val (.int x0), .val (.int x1), .val (.int x2), .val (.int x3), .val (.ref b1), .val (.int (1 : Int32)), .val (.ref b20), .val (.int li), .val (.int kk), .val (.ref b30), .val (.int (1 : Int32)), .val (.int (1 : Int32)), .val (.int (1 : Int32)), .unset] [(.long z52)]))
        refine g_pop2L X52.here hx (Jvm.hb hby at_173) (pc' := 174) rfl ?_
        refine g_iload X52.here hx (Jvm.hb hby at_174) (pc' := 176) rfl rfl ?_
        refine g_ifY X52.here hx (Jvm.hb hby at_176) (by decide) (pc' := 200) (by decide) ((if0 _ _).trans (flt hc130).2.2.2) ?_
        refine g_iconst X52.here hx (Jvm.hb hby at_200) (pc' := 201) rfl (z := (0 : Int32)) rfl ?_
        refine g_istore X52.here hx (Jvm.hb hby at_201) (pc' := 203) rfl (L' := #[.val (.int x0), .val (.int x1), .val (.int x2), .val (.int x3), .val (.ref b1), .val (.int (1 : Int32)), .val (.ref b20), .val (.int li), .val (.int kk), .val (.ref b30), .val (.int (1 : Int32)), .val (.int (1 : Int32)), .val (.int (1 : Int32)), .val (.int (0 : Int32))]) rfl ?_
        refine g_aload X52.here hx (Jvm.hb hby at_203) (pc' := 205) rfl rfl rfl ?_
        have hf3 := own_hn (f_nx c1) (((0 : Int32) + (1 : Int32) + (1 : Int32)) + (1 : Int32)) li
        have i3 : (((0 : Int32) + (1 : Int32) + (1 : Int32)) + (1 : Int32)).toInt = 3 := by decide
        rw [q1.1, hB1.2.2, i3] at hf3
        refine g_callV X52 hx hZ hown w_25 w_26 (own_nf hZ w_28) w_28 w_27 w_2 w_29 (by decide) (rm3 l Z a0 hw [] b30 (f_nx c1) (((0 : Int32) + (1 : Int32) + (1 : Int32)) + (1 : Int32)) li li.toInt64 li.toInt64 T52.heap FB54_runLeft FB54_at FB54_limit FB54_position FB54_end) 0 (by decide) (by decide) rfl EB54 (by rw [hml]; rfl) [] [] (lenOf pd_2 rfl) rfl rfl (Nat.le_of_eq rfl) (Jvm.hb hby at_205) (pc' := 208) rfl (cells' := 6) (slots' := 23) rfl rfl (by decide) (by decide) ?_
        intro v55 T55 L55 X55 hQ55
        obtain ⟨rfl, rfl, e55⟩ := hQ55
        rw [List.append_nil] at X55
        show own_Gl p e below s (own_Q0 n0) room_1.cells room_1.slots (T55.setTop (mkF m 208 #[.val (.int x0), .val (.int x1), .val (.int x2), .val (.int x3), .val (.ref b1), .val (.int (1 : Int32)), .val (.ref b20), .val (.int li), .val (.int kk), .val (.ref b30), .val (.int (1 : Int32)), .val (.int (1 : Int32)), .val (.int (1 : Int32)), .val (.int (0 : Int32))] [(.int (f_hn (f_nx c1) (((0 : Int32) + (1 : Int32) + (1 : Int32)) + (1 : Int32)) li li.toInt64 li.toInt64))]))
        refine g_iload X55.here hx (Jvm.hb hby at_208) (pc' := 210) rfl rfl ?_
        refine g_icN X55.here hx (Jvm.hb hby at_210) (pc' := 213) rfl (teq (hf3.2.mpr (by omega))).2 ?_
        refine g_iconst X55.here hx (Jvm.hb hby at_213) (pc' := 214) rfl (z := (1 : Int32)) rfl ?_
        refine g_goto X55.here hx (Jvm.hb hby at_214) (by decide) (pc' := 218) (by decide) ?_
        refine g_istore X55.here hx (Jvm.hb hby at_218) (pc' := 220) rfl (L' := #[.val (.int x0), .val (.int x1), .val (.int x2), .val (.int x3), .val (.ref b1), .val (.int (1 : Int32)), .val (.ref b20), .val (.int li), .val (.int kk), .val (.ref b30), .val (.int (1 : Int32)), .val (.int (1 : Int32)), .val (.int (1 : Int32)), .val (.int (0 : Int32))]) rfl ?_
        refine g_iload X55.here hx (Jvm.hb hby at_220) (pc' := 222) rfl rfl ?_
        refine g_ifN X55.here hx (Jvm.hb hby at_222) (pc' := 225) rfl ((if0 _ _).trans (feq (by decide)).1) ?_
        refine g_iload X55.here hx (Jvm.hb hby at_225) (pc' := 227) rfl rfl ?_
        refine g_ifN X55.here hx (Jvm.hb hby at_227) (pc' := 230) rfl ((if0 _ _).trans (feq (by decide)).1) ?_
        refine g_iload X55.here hx (Jvm.hb hby at_230) (pc' := 232) rfl rfl ?_
        refine g_ifN X55.here hx (Jvm.hb hby at_232) (pc' := 235) rfl ((if0 _ _).trans (feq (by decide)).1) ?_
        refine g_iload X55.here hx (Jvm.hb hby at_235) (pc' := 237) rfl rfl ?_
        refine g_ifN X55.here hx (Jvm.hb hby at_237) (pc' := 240) rfl ((if0 _ _).trans (feq (by decide)).1) ?_
        refine g_iconst X55.here hx (Jvm.hb hby at_240) (pc' := 241) rfl (z := (1 : Int32)) rfl ?_
        refine g_goto X55.here hx (Jvm.hb hby at_241) (by decide) (pc' := 245) (by decide) ?_
        exact g_retN X55 hx hlk (t := .boolean) hret (by simp) (z' := (1 : Int32)) rfl (Jvm.hb hby at_245) (by decide) (by decide) ⟨rfl, N52⟩
      · refine g_icY X41.here hx (Jvm.hb hby at_136) (by decide) (pc' := 143) (by decide) (flt hc136).2.2.2 ?_
        refine g_iconst X41.here hx (Jvm.hb hby at_143) (pc' := 144) rfl (z := (0 : Int32)) rfl ?_
        refine g_icN X41.here hx (Jvm.hb hby at_144) (pc' := 147) rfl (teq (hf2.2.mpr (fun q => q.elim (fun z => hc130 (kI.mpr z)) (fun z => hc136 (lI.mpr z))))).2 ?_
        refine g_iconst X41.here hx (Jvm.hb hby at_147) (pc' := 148) rfl (z := (1 : Int32)) rfl ?_
        refine g_goto X41.here hx (Jvm.hb hby at_148) (by decide) (pc' := 152) (by decide) ?_
        refine g_istore X41.here hx (Jvm.hb hby at_152) (pc' := 154) rfl (L' := #[.val (.int x0), .val (.int x1), .val (.int x2), .val (.int x3), .val (.ref b1), .val (.int (1 : Int32)), .val (.ref b20), .val (.int li), .val (.int kk), .val (.ref b30), .val (.int (1 : Int32)), .val (.int (1 : Int32)), .unset, .unset]) rfl ?_
        refine g_iconst X41.here hx (Jvm.hb hby at_154) (pc' := 155) rfl (z := (1 : Int32)) rfl ?_
        refine g_istore X41.here hx (Jvm.hb hby at_155) (pc' := 157) rfl (L' := #[.val (.int x0), .val (.int x1), .val (.int x2), .val (.int x3), .val (.ref b1), .val (.int (1 : Int32)), .val (.ref b20), .val (.int li), .val (.int kk), .val (.ref b30), .val (.int (1 : Int32)), .val (.int (1 : Int32)), .val (.int (1 : Int32)), .unset]) rfl ?_
        refine g_iload X41.here hx (Jvm.hb hby at_157) (pc' := 159) rfl rfl ?_
        refine g_ifN X41.here hx (Jvm.hb hby at_159) (pc' := 162) rfl ((if0 _ _).trans (flt hc130).2.2.1) ?_
        refine g_iload X41.here hx (Jvm.hb hby at_162) (pc' := 164) rfl rfl ?_
        refine g_iconst X41.here hx (Jvm.hb hby at_164) (pc' := 165) rfl (z := (2 : Int32)) rfl ?_
        refine g_icY X41.here hx (Jvm.hb hby at_165) (by decide) (pc' := 220) (by decide) (flt hc136).2.2.2 ?_
        refine g_iload X41.here hx (Jvm.hb hby at_220) (pc' := 222) rfl rfl ?_
        refine g_ifN X41.here hx (Jvm.hb hby at_222) (pc' := 225) rfl ((if0 _ _).trans (feq (by decide)).1) ?_
        refine g_iload X41.here hx (Jvm.hb hby at_225) (pc' := 227) rfl rfl ?_
        refine g_ifN X41.here hx (Jvm.hb hby at_227) (pc' := 230) rfl ((if0 _ _).trans (feq (by decide)).1) ?_
        refine g_iload X41.here hx (Jvm.hb hby at_230) (pc' := 232) rfl rfl ?_
        refine g_ifN X41.here hx (Jvm.hb hby at_232) (pc' := 235) rfl ((if0 _ _).trans (feq (by decide)).1) ?_
        refine g_iload X41.here hx (Jvm.hb hby at_235) (pc' := 237) rfl rfl ?_
        refine g_ifN X41.here hx (Jvm.hb hby at_237) (pc' := 240) rfl ((if0 _ _).trans (feq (by decide)).1) ?_
        refine g_iconst X41.here hx (Jvm.hb hby at_240) (pc' := 241) rfl (z := (1 : Int32)) rfl ?_
        refine g_goto X41.here hx (Jvm.hb hby at_241) (by decide) (pc' := 245) (by decide) ?_
        exact g_retN X41 hx hlk (t := .boolean) hret (by simp) (z' := (1 : Int32)) rfl (Jvm.hb hby at_245) (by decide) (by decide) ⟨rfl, N38⟩
  refine g_iloadN X18.here hx (Jvm.hb hby at_19) (pc' := 20) rfl rfl ?_
  refine g_iloadN X18.here hx (Jvm.hb hby at_20) (pc' := 21) rfl rfl ?_
  by_cases hc21 : x0 < x1
  · refine g_icN X18.here hx (Jvm.hb hby at_21) (pc' := 24) rfl (tlt hc21).2.1 ?_
    refine g_iconst X18.here hx (Jvm.hb hby at_24) (pc' := 25) rfl (z := (1 : Int32)) rfl ?_
    refine g_goto X18.here hx (Jvm.hb hby at_25) (by decide) (pc' := 29) (by decide) ?_
    refine g_icN X18.here hx (Jvm.hb hby at_29) (pc' := 32) rfl (teq (hf.1.mpr (Or.inr (Int32.lt_iff_toInt_lt.mp hc21)))).2 ?_
    refine g_iconst X18.here hx (Jvm.hb hby at_32) (pc' := 33) rfl (z := (1 : Int32)) rfl ?_
    refine g_goto X18.here hx (Jvm.hb hby at_33) (by decide) (pc' := 37) (by decide) ?_
    exact k37 
  · refine g_icY X18.here hx (Jvm.hb hby at_21) (by decide) (pc' := 28) (by decide) (flt hc21).2.1 ?_
    refine g_iconst X18.here hx (Jvm.hb hby at_28) (pc' := 29) rfl (z := (0 : Int32)) rfl ?_
    refine g_icN X18.here hx (Jvm.hb hby at_29) (pc' := 32) rfl (teq (hf.2.mpr (fun q => q.elim (fun z => absurd z (by decide)) (fun z => hc21 (Int32.lt_iff_toInt_lt.mpr z))))).2 ?_
    refine g_iconst X18.here hx (Jvm.hb hby at_32) (pc' := 33) rfl (z := (1 : Int32)) rfl ?_
    refine g_goto X18.here hx (Jvm.hb hby at_33) (by decide) (pc' := 37) (by decide) ?_
    exact k37 
set_option maxRecDepth 65536 in
set_option maxHeartbeats 40000000 in
theorem comes_1 {Post : Tables → Env → Array Value → State → Outcome → State → Prop} (hpost : ∀ tb e args s v u, (limb_1_1.after args s (.returned v) u = true ∧ limb_1_2.after args s (.returned v) u = true ∧ True) → FrameEnd s (.returned v) u (Jvm.fieldLocs frame_1_writes args s ++ Jvm.arrayLocs frame_1_arrays args s ++ Jvm.staticLocs frame_1_statics s) 24 128 → Post tb e args s (.returned v) u) :
    ArmFor flags0 classFile x code maxLocals ret World_1 tables_1 room_1 Calls_1 rest_1 Pre_1 Post := by
  intro l hfl _ _ p e ha hc hk s m args below hf hA hF happ hP
  obtain ⟨hcalls, hrest, hpre⟩ := hP
  obtain ⟨-, -, -, hnamed, -, -, -, hat⟩ := (Spec.applies_iff hf).mp happ
  obtain ⟨hg, hn⟩ := and_e (Cond.before_iff.mp (show (Jvm.Cond.and given_1 narrow_1).before args s = true from hpre))
  obtain ⟨g1, g2⟩ := and_e hg
  obtain ⟨g3, g4⟩ := and_e g2
  obtain ⟨g5, g6⟩ := and_e g4
  obtain ⟨g7, g8⟩ := and_e g6
  obtain ⟨w0, w1, w2, w3, rfl⟩ : ∃ w0 w1 w2 w3 : Value, args = #[w0, w1, w2, w3] := by
    have hs : args.size = 4 := by simpa [Cond.value, given_1] using g1
    obtain ⟨L⟩ := args
    match L, hs with
    | [w0, w1, w2, w3], _ => exact ⟨w0, w1, w2, w3, rfl⟩
  have hw := fun d (hd : d ∈ tables_1) => atoms_spec (ws := Jvm.Cond.code x code maxLocals ret :: tables_1) hat d (List.mem_cons_of_mem _ hd)
  obtain ⟨i0, ei0⟩ := is_v g3
  obtain rfl : w0 = (.int i0) := Option.some.inj ei0
  obtain ⟨i1, ei1⟩ := is_v g5
  obtain rfl : w1 = (.int i1) := Option.some.inj ei1
  obtain ⟨i2, ei2⟩ := is_v g7
  obtain rfl : w2 = (.int i2) := Option.some.inj ei2
  obtain ⟨i3, ei3⟩ := is_v g8
  obtain rfl : w3 = (.int i3) := Option.some.inj ei3
  obtain ⟨n, o, h1, h2, h3, _, L, rfl, ⟨rfl, N⟩, hq⟩ := rm0 l s _ hw tables_1 i0 i1 i2 i3 s.heap s.heap.size (Nat.le_refl _) p e ha hc hk s m _ below hf ((Spec.applies_iff_loose hf).mp happ).1 ⟨rfl, State.Warmed39.refl s, rfl⟩ trivial
  refine ⟨n, _, h1, h2, h3, hpost _ _ _ _ _ _ ⟨Cond.after_iff.mpr rfl, Cond.after_iff.mpr (eq_i res_at (Term.int_eval (1)) rfl), trivial⟩ ⟨hq.1, hq.2.1, (hq.2.2.sift fun y hy => Or.inr (N y hy)).mono (by decide) (by decide)⟩⟩
theorem main_1_1 : Claimed_1_1 := comes_1 fun _ _ _ _ _ _ h hF => ⟨h.1, hF⟩
theorem main_1_2 : Claimed_1_2 := comes_1 fun _ _ _ _ _ _ h hF => ⟨h.2.1, hF⟩
end Jvm.Pilot.@@N@@
namespace Jvm.Pilot.@@N@@
open Jvm Jvm.ClassFile Sem Op Lib Jvm.Free Jvm.Stand Jvm.Pilot.@@N@@.Jvm.D
/-! MADE BY PROGRAM (witnessworld.py) out of the Statement's table words and the real class files: 9 classes; the members and pool entries that the words name. The judged class is class 1, her method 1. -/
namespace start1
open Jvm.ClassFile
def u (s : String) : CpInfo := .utf8 (stringToUtf16 s)
/-- a pool by its gaps: so many unusable entries, then the entry; so many at the end -/
def gap : Nat → List CpInfo → List CpInfo
  | 0, r => r
  | n + 1, r => .unusable :: gap n r
def poolList (es : List (Nat × CpInfo)) (last : Nat) : List CpInfo := es.foldr (fun e r => gap e.1 (e.2 :: r)) (gap last [])
def pool (es : List (Nat × CpInfo)) (last : Nat) : Array CpInfo := ⟨poolList es last⟩
def fileOf (pool : Array CpInfo) (this : Nat) (attrs : Array Attribute := #[]) (ms : Array MethodInfo := #[]) (fl : Nat := 33) (sup : Nat := 0) (ifs : Array Nat := #[]) (fds : Array FieldInfo := #[]) : ClassFile where
  minorVersion := 0
  majorVersion := 65
  constantPool := pool
  accessFlags := fl
  thisClass := this
  superClass := sup
  interfaces := ifs
  fields := fds
  methods := ms
  attributes := attrs
def plain (name : String) (sup : Option ClassId) : Class where
  name := name
  kind := .ordinary
  loader := none
  accessFlags := 33
  super := sup
  interfaces := #[]
  cf := none
  fields := #[]
  methods := #[]
  instanceTypes := #[]
  staticTypes := #[]
  resolved := #[]
  callSites := []
  init := .initialized
  statics := none
  mirror := none

def pool0 : Array CpInfo := pool [(5, u "<init>"), (0, u "()V"), (1, .class_ 10), (1, u "java/lang/Object")] 113

def k0c0 : Code := { maxStack := 0, maxLocals := 1, code := object_method_1_code, exceptionTable := #[], attributes := #[] }
def k0m0 : Method := { name := "<init>", desc := "()V", sig := { parameters := [], returnType := none }, accessFlags := 1, code := some k0c0 }
/-- java/lang/Object -/
def k0 : Class := { plain "java/lang/Object" none with
  accessFlags := 33
  interfaces := #[]
  cf := some (fileOf pool0 8 #[] #[{ accessFlags := 1, nameIndex := 5, descriptorIndex := 6, attributes := #[] }] 33 0 #[] #[])
  fields := #[]
  methods := #[k0m0]
  instanceTypes := #[]
  staticTypes := #[]
  resolved := Array.replicate 124 none
  statics := none }

def pool1 : Array CpInfo := pool [(2, .class_ 4), (1, u "java/lang/Object"), (0, u "<init>"), (0, u "()V"), (0, .class_ 8), (0, u "com/example/ogma/ogma/store/ColumnReader"), (0, .methodref 7 10), (0, .nameAndType 5 11), (0, u "([BII)V"), (0, .methodref 7 13), (0, .nameAndType 14 15), (0, u "hasNext"), (0, u "()Z"), (0, .methodref 7 17), (0, .nameAndType 18 19), (0, u "nextNumber"), (0, u "()J"), (0, .class_ 21), (0, u "com/example/ogma/ogma/store/ColumnReaderHasNextPinLaw"), (2, u "law"), (0, u "(IIII)Z")] 8

def k1m0 : Method := { name := "<init>", desc := "()V", sig := { parameters := [], returnType := none }, accessFlags := 1, code := none }
def k1c1 : Code := { maxStack := 5, maxLocals := 14, code := code, exceptionTable := #[], attributes := #[] }
def k1m1 : Method := { name := "law", desc := "(IIII)Z", sig := { parameters := [.int, .int, .int, .int], returnType := some .boolean }, accessFlags := 9, code := some k1c1 }
/-- com/example/ogma/ogma/store/ColumnReaderHasNextPinLaw -/
def k1 : Class := { plain "com/example/ogma/ogma/store/ColumnReaderHasNextPinLaw" (some 0) with
  accessFlags := 49
  interfaces := #[]
  cf := some (fileOf pool1 20 #[] #[{ accessFlags := 1, nameIndex := 5, descriptorIndex := 6, attributes := #[] }, { accessFlags := 9, nameIndex := 24, descriptorIndex := 25, attributes := #[] }] 49 2 #[] #[])
  fields := #[]
  methods := #[k1m0, k1m1]
  instanceTypes := #[]
  staticTypes := #[]
  resolved := Array.replicate 34 none
  statics := none }

def pool2 : Array CpInfo := pool [(1, .methodref 2 3), (0, .class_ 4), (0, .nameAndType 5 6), (0, u "java/lang/Object"), (0, u "<init>"), (0, u "()V"), (0, .fieldref 8 9), (0, .class_ 10), (0, .nameAndType 11 12), (0, u "com/example/ogma/ogma/store/ColumnReader"), (0, u "block"), (0, u "[B"), (0, .long 18446744073709551615), (1, .fieldref 8 16), (0, .nameAndType 17 18), (0, u "number"), (0, u "J"), (0, .fieldref 8 20), (0, .nameAndType 21 22), (0, u "file"), (0, u "Lcom/example/ogma/ogma/store/BlockFile;"), (0, .fieldref 8 24), (0, .nameAndType 25 18), (0, u "position"), (0, .fieldref 8 27), (0, .nameAndType 28 18), (0, u "end"), (0, .fieldref 8 30), (0, .nameAndType 31 32), (0, u "at"), (0, u "I"), (0, .fieldref 8 34), (0, .nameAndType 35 32), (0, u "limit"), (0, .fieldref 8 37), (0, .nameAndType 38 18), (0, u "runLeft"), (16, .methodref 8 56), (0, .nameAndType 57 58), (0, u "next"), (0, u "()J"), (2, u "runDocument"), (2, .fieldref 8 65), (0, .nameAndType 66 18), (0, u "runStep"), (8, u "EIGHT_BYTES"), (0, u "Ljava/lang/invoke/VarHandle;"), (16, u "nextNumber"), (29, u "NUMBER_BYTES"), (2, u "HIGH_AND_LOW_BITS"), (3, u "([BII)V"), (0, u "hasNext"), (0, u "()Z")] 24

def k2c0 : Code := { maxStack := 3, maxLocals := 4, code := prog_80_method_2_code, exceptionTable := #[], attributes := #[] }
def k2m0 : Method := { name := "<init>", desc := "([BII)V", sig := { parameters := [(.array .byte), .int, .int], returnType := none }, accessFlags := 0, code := some k2c0 }
def k2c1 : Code := { maxStack := 4, maxLocals := 1, code := prog_80_method_3_code, exceptionTable := #[], attributes := #[] }
def k2m1 : Method := { name := "hasNext", desc := "()Z", sig := { parameters := [], returnType := some .boolean }, accessFlags := 0, code := some k2c1 }
def k2c2 : Code := { maxStack := 5, maxLocals := 5, code := prog_80_method_4_code, exceptionTable := #[], attributes := #[] }
def k2m2 : Method := { name := "next", desc := "()J", sig := { parameters := [], returnType := some .long }, accessFlags := 0, code := some k2c2 }
def k2c3 : Code := { maxStack := 7, maxLocals := 3, code := prog_80_method_7_code, exceptionTable := #[], attributes := #[] }
def k2m3 : Method := { name := "nextNumber", desc := "()J", sig := { parameters := [], returnType := some .long }, accessFlags := 0, code := some k2c3 }
/-- com/example/ogma/ogma/store/ColumnReader -/
def k2 : Class := { plain "com/example/ogma/ogma/store/ColumnReader" (some 0) with
  accessFlags := 32
  interfaces := #[]
  cf := some (fileOf pool2 8 #[] #[{ accessFlags := 0, nameIndex := 5, descriptorIndex := 130, attributes := #[] }, { accessFlags := 0, nameIndex := 131, descriptorIndex := 132, attributes := #[] }, { accessFlags := 0, nameIndex := 57, descriptorIndex := 58, attributes := #[] }, { accessFlags := 0, nameIndex := 93, descriptorIndex := 58, attributes := #[] }] 32 2 #[] #[{ accessFlags := 26, nameIndex := 123, descriptorIndex := 32, attributes := #[] }, { accessFlags := 26, nameIndex := 75, descriptorIndex := 76, attributes := #[] }, { accessFlags := 26, nameIndex := 126, descriptorIndex := 18, attributes := #[] }, { accessFlags := 18, nameIndex := 21, descriptorIndex := 22, attributes := #[] }, { accessFlags := 2, nameIndex := 25, descriptorIndex := 18, attributes := #[] }, { accessFlags := 18, nameIndex := 28, descriptorIndex := 18, attributes := #[] }, { accessFlags := 2, nameIndex := 11, descriptorIndex := 12, attributes := #[] }, { accessFlags := 2, nameIndex := 31, descriptorIndex := 32, attributes := #[] }, { accessFlags := 2, nameIndex := 35, descriptorIndex := 32, attributes := #[] }, { accessFlags := 2, nameIndex := 38, descriptorIndex := 18, attributes := #[] }, { accessFlags := 2, nameIndex := 61, descriptorIndex := 18, attributes := #[] }, { accessFlags := 2, nameIndex := 66, descriptorIndex := 18, attributes := #[] }, { accessFlags := 2, nameIndex := 17, descriptorIndex := 18, attributes := #[] }])
  fields := #[{ name := "NUMBER_BYTES", type := .int, accessFlags := 26, slot := 0, constantValue := 0 }, { name := "EIGHT_BYTES", type := (.object "java/lang/invoke/VarHandle"), accessFlags := 26, slot := 1, constantValue := 0 }, { name := "HIGH_AND_LOW_BITS", type := .long, accessFlags := 26, slot := 2, constantValue := 0 }, { name := "file", type := (.object "com/example/ogma/ogma/store/BlockFile"), accessFlags := 18, slot := 0, constantValue := 0 }, { name := "position", type := .long, accessFlags := 2, slot := 1, constantValue := 0 }, { name := "end", type := .long, accessFlags := 18, slot := 2, constantValue := 0 }, { name := "block", type := (.array .byte), accessFlags := 2, slot := 3, constantValue := 0 }, { name := "at", type := .int, accessFlags := 2, slot := 4, constantValue := 0 }, { name := "limit", type := .int, accessFlags := 2, slot := 5, constantValue := 0 }, { name := "runLeft", type := .long, accessFlags := 2, slot := 6, constantValue := 0 }, { name := "runDocument", type := .long, accessFlags := 2, slot := 7, constantValue := 0 }, { name := "runStep", type := .long, accessFlags := 2, slot := 8, constantValue := 0 }, { name := "number", type := .long, accessFlags := 2, slot := 9, constantValue := 0 }]
  methods := #[k2m0, k2m1, k2m2, k2m3]
  instanceTypes := #[(.object "com/example/ogma/ogma/store/BlockFile"), .long, .long, (.array .byte), .int, .int, .long, .long, .long, .long]
  staticTypes := #[.int, (.object "java/lang/invoke/VarHandle"), .long]
  resolved := Array.replicate 157 none
  statics := none }

def pool3 : Array CpInfo := pool [(1, u "java/lang/Cloneable"), (0, .class_ 1), (0, u "java/lang/Object"), (0, .class_ 3)] 3

/-- java/lang/Cloneable -/
def k3 : Class := { plain "java/lang/Cloneable" (some 0) with
  accessFlags := 1537
  interfaces := #[]
  cf := some (fileOf pool3 2 #[] #[] 1537 4 #[] #[])
  fields := #[]
  methods := #[]
  instanceTypes := #[]
  staticTypes := #[]
  resolved := Array.replicate 8 none
  statics := none }

def pool4 : Array CpInfo := pool [(1, u "java/io/Serializable"), (0, .class_ 1), (0, u "java/lang/Object"), (0, .class_ 3)] 3

/-- java/io/Serializable -/
def k4 : Class := { plain "java/io/Serializable" (some 0) with
  accessFlags := 1537
  interfaces := #[]
  cf := some (fileOf pool4 2 #[] #[] 1537 4 #[] #[])
  fields := #[]
  methods := #[]
  instanceTypes := #[]
  staticTypes := #[]
  resolved := Array.replicate 8 none
  statics := none }

/-- the primitive byte -/
def k5 : Class := { plain "byte" none with kind := .primitive 'B', accessFlags := 0x411 }
/-- [B -/
def k6 : Class := { plain "[B" (some 0) with kind := .array 5 .byte, interfaces := #[3, 4], accessFlags := 1041 }

/-- the primitive int -/
def k7 : Class := { plain "int" none with kind := .primitive 'I', accessFlags := 0x411 }
/-- [I -/
def k8 : Class := { plain "[I" (some 0) with kind := .array 7 .int, interfaces := #[3, 4], accessFlags := 1041 }

def heap : Heap := #[]
def classes : Array Class := #[k0, k1, k2, k3, k4, k5, k6, k7, k8]
def interned : List (Array UInt16 × Addr) := []
def slotsUsed : Nat := 0
def theMethod : MethodId := ⟨1, 1⟩
def args0 : Array Value := #[.int 5, .int 6, .int 3, .int 1]
def aboutOver (below : List Frame) : State where
  vm := { classes := classes, interned := interned.toArray }
  heap := heap
  slotsUsed := slotsUsed
  threads := #[{ frames := .invoking theMethod args0 :: below }]
def below0 : List Frame := [.native { method := ⟨0, 0⟩, args := #[] }]
def about1 : State := aboutOver below0
def p0 : Program := .bare "" "" ""
def e0 : Env := launch0.env 0 0 0
theorem w_frames : about1.frames = Frame.invoking theMethod args0 :: below0 := rfl
set_option maxRecDepth 65536 in
theorem w_args : argsFit about1.vm theMethod args0 = true := by decide +kernel
set_option maxRecDepth 65536 in
theorem w_heap : heapFits about1 = true := by decide +kernel
set_option maxRecDepth 65536 in
theorem w_runnable : about1.curStatus? = some .runnable := by decide +kernel
set_option maxRecDepth 65536 in
theorem w_alone : about1.alone = true := by decide +kernel
set_option maxRecDepth 65536 in
theorem w_named : about1.methodNamed? x = some theMethod := by decide +kernel
set_option maxRecDepth 65536 in
theorem w_hears : about1.hears theMethod below0 = true := by decide +kernel
set_option maxRecDepth 65536 in
theorem w_ripe : about1.ripe theMethod args0 below0 = true := by decide +kernel
theorem w_running : about1.status = .running := rfl
set_option maxRecDepth 65536 in
theorem w_room : about1.hasRoom e0.platform room_1 = true :=
  launch0.hasRoom_least _ room_1 (by decide +kernel) (by decide +kernel) (by decide +kernel) (by decide +kernel) (by decide +kernel) (by decide +kernel)
theorem allAtoms_all (ts : List Jvm.Cond) (a : Array Jvm.Value) (st : Jvm.State) : (allAtoms ts).before a st = ts.all (fun c => c.before a st) := by
  induction ts with
  | nil => rfl
  | cons c t ih =>
    show (Jvm.Cond.and c (allAtoms t)).before a st = _
    rw [Jvm.Cond.before_and, ih, List.all_cons]
def words1 : List Jvm.Cond := Jvm.Cond.code x code maxLocals ret :: tables_1
/-- a 'code' word, met by the world's own term for the bytes: nothing is compared byte by byte -/
theorem code_word {y : MethodName} {bytes : ByteArray} {mx : Nat} {rt : Option FieldType} {a : Array Value} {s : State} {m : MethodId} {meth : Method} {c : Code} (h1 : s.methodNamed? y = some m) (h2 : s.vm.method? m = some meth) (h3 : meth.code = some c) (h4 : c.code = bytes)
    (h5 : (c.maxLocals == mx && c.exceptionTable.isEmpty && decide (c.maxStack ≤ mostOperands) && decide (meth.sig.returnType = rt) && !meth.locks && decide (parseMethodDescriptor y.desc = some meth.sig)) = true) : (Jvm.Cond.code y bytes mx rt).before a s = true := by
  simp only [Bool.and_eq_true, beq_iff_eq, Bool.not_eq_true', decide_eq_true_eq] at h5
  obtain ⟨⟨⟨⟨⟨g1, g2⟩, g3⟩, g4⟩, g5⟩, g6⟩ := h5
  simp [Cond.before, Cond.holds, Cond.value, h1, h2, h3, h4, g1, g2, g3, g4, g5, g6]
def isCode : Jvm.Cond → Bool
  | .code _ _ _ _ => true
  | _ => false
theorem all_split {L : List Jvm.Cond} {P : Jvm.Cond → Bool} (h1 : L.all (fun c => isCode c || P c) = true) (h2 : ∀ c ∈ L.filter isCode, P c = true) : L.all P = true := by
  refine List.all_eq_true.mpr fun c hc => ?_
  have h := List.all_eq_true.mp h1 c hc
  rcases Bool.eq_false_or_eq_true (isCode c) with hi | hi
  · exact h2 c (List.mem_filter.mpr ⟨hc, hi⟩)
  · simpa [hi] using h
set_option maxRecDepth 65536 in
theorem w_c0 : (Jvm.Cond.code x code maxLocals ret).before args0 about1 = true := code_word (m := ⟨1, 1⟩) (meth := k1m1) (c := k1c1) (by decide +kernel) rfl rfl rfl (by decide +kernel)
set_option maxRecDepth 65536 in
theorem w_c1 : (Jvm.Cond.code ({ cls := "com/example/ogma/ogma/store/ColumnReader", name := "<init>", desc := "([BII)V" } : Jvm.MethodName) prog_80_method_2_code (4 : Nat) (Option.none : Option Jvm.ClassFile.FieldType)).before args0 about1 = true := code_word (m := ⟨2, 0⟩) (meth := k2m0) (c := k2c0) (by decide +kernel) rfl rfl rfl (by decide +kernel)
set_option maxRecDepth 65536 in
theorem w_c2 : (Jvm.Cond.code ({ cls := "java/lang/Object", name := "<init>", desc := "()V" } : Jvm.MethodName) object_method_1_code (1 : Nat) (Option.none : Option Jvm.ClassFile.FieldType)).before args0 about1 = true := code_word (m := ⟨0, 0⟩) (meth := k0m0) (c := k0c0) (by decide +kernel) rfl rfl rfl (by decide +kernel)
set_option maxRecDepth 65536 in
theorem w_c3 : (Jvm.Cond.code ({ cls := "com/example/ogma/ogma/store/ColumnReader", name := "hasNext", desc := "()Z" } : Jvm.MethodName) prog_80_method_3_code (1 : Nat) (Option.some Jvm.ClassFile.FieldType.boolean)).before args0 about1 = true := code_word (m := ⟨2, 1⟩) (meth := k2m1) (c := k2c1) (by decide +kernel) rfl rfl rfl (by decide +kernel)
set_option maxRecDepth 65536 in
theorem w_c4 : (Jvm.Cond.code ({ cls := "com/example/ogma/ogma/store/ColumnReader", name := "nextNumber", desc := "()J" } : Jvm.MethodName) prog_80_method_7_code (3 : Nat) (Option.some Jvm.ClassFile.FieldType.long)).before args0 about1 = true := code_word (m := ⟨2, 3⟩) (meth := k2m3) (c := k2c3) (by decide +kernel) rfl rfl rfl (by decide +kernel)
set_option maxRecDepth 65536 in
theorem w_c5 : (Jvm.Cond.code ({ cls := "com/example/ogma/ogma/store/ColumnReader", name := "next", desc := "()J" } : Jvm.MethodName) prog_80_method_4_code (5 : Nat) (Option.some Jvm.ClassFile.FieldType.long)).before args0 about1 = true := code_word (m := ⟨2, 2⟩) (meth := k2m2) (c := k2c2) (by decide +kernel) rfl rfl rfl (by decide +kernel)
def codes1 : List Jvm.Cond := [Jvm.Cond.code x code maxLocals ret, Jvm.Cond.code ({ cls := "com/example/ogma/ogma/store/ColumnReader", name := "<init>", desc := "([BII)V" } : Jvm.MethodName) prog_80_method_2_code (4 : Nat) (Option.none : Option Jvm.ClassFile.FieldType), Jvm.Cond.code ({ cls := "java/lang/Object", name := "<init>", desc := "()V" } : Jvm.MethodName) object_method_1_code (1 : Nat) (Option.none : Option Jvm.ClassFile.FieldType), Jvm.Cond.code ({ cls := "com/example/ogma/ogma/store/ColumnReader", name := "hasNext", desc := "()Z" } : Jvm.MethodName) prog_80_method_3_code (1 : Nat) (Option.some Jvm.ClassFile.FieldType.boolean), Jvm.Cond.code ({ cls := "com/example/ogma/ogma/store/ColumnReader", name := "nextNumber", desc := "()J" } : Jvm.MethodName) prog_80_method_7_code (3 : Nat) (Option.some Jvm.ClassFile.FieldType.long), Jvm.Cond.code ({ cls := "com/example/ogma/ogma/store/ColumnReader", name := "next", desc := "()J" } : Jvm.MethodName) prog_80_method_4_code (5 : Nat) (Option.some Jvm.ClassFile.FieldType.long)]
set_option maxRecDepth 65536 in
theorem codes_eq : words1.filter isCode = codes1 := rfl
theorem w_codes : ∀ c ∈ words1.filter isCode, c.before args0 about1 = true := by
  rw [codes_eq]
  intro c hc
  simp only [codes1, List.mem_cons, List.not_mem_nil, or_false] at hc
  rcases hc with rfl | rfl | rfl | rfl | rfl | rfl
  · exact w_c0
  · exact w_c1
  · exact w_c2
  · exact w_c3
  · exact w_c4
  · exact w_c5
set_option maxRecDepth 65536 in
theorem w_t1 : (words1.take 24).all (fun c => isCode c || c.before args0 about1) = true := by decide +kernel
set_option maxRecDepth 65536 in
theorem w_t2 : (words1.drop 24).all (fun c => isCode c || c.before args0 about1) = true := by decide +kernel
theorem w_tables : (allAtoms (Jvm.Cond.code x code maxLocals ret :: tables_1)).before args0 about1 = true := by
  rw [allAtoms_all]
  show words1.all (fun c => c.before args0 about1) = true
  refine all_split ?_ w_codes
  rw [← List.take_append_drop 24 words1, List.all_append, w_t1, w_t2]
  rfl
set_option maxRecDepth 65536 in
theorem w_case : (Jvm.Cond.and given_1 narrow_1).before args0 about1 = true := by decide +kernel
theorem w_applies : (headSpec (Jvm.Cond.code x code maxLocals ret :: tables_1) room_1).applies x e0.platform about1 = true :=
  (Spec.applies_iff w_frames).mpr ⟨w_running, w_runnable, w_alone, w_named, w_hears, w_ripe, w_room, w_tables⟩
theorem atStart : AtStart classFile x code maxLocals ret World_1 tables_1 room_1 Calls_1 rest_1 Pre_1 launch0 p0 e0 about1 theMethod args0 below0 :=
  ⟨lists_1, trivial, launch0.admits_env _ _ _, launch0.least_env, fairChoices_fair.cas, fairChoices_fair.clock, w_frames, w_args, w_heap, w_applies, trivial, trivial, w_case⟩
end start1
theorem witness_1 : WitnessClaimed_1 := ⟨start1.p0, start1.e0, start1.about1, start1.theMethod, start1.args0, start1.below0, start1.atStart⟩
end Jvm.Pilot.@@N@@
