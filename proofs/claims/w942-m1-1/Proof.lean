import JvmDerived
import JvmDerived.Pilot.@@N@@Statement
import JvmDerived.Pilot.@@N@@Code
set_option linter.unusedVariables false
set_option linter.unusedSimpArgs false
namespace Jvm.Pilot.@@N@@
open Jvm Jvm.ClassFile Sem Op Lib Jvm.Free Jvm.Stand Jvm.LawKit Jvm.RoadKit Bundle Jvm.Pilot.@@N@@.Jvm.D
set_option maxRecDepth 4000
section OwnKit
/-- the goal of a walk: from S the run comes to a return that Q allows, and nothing old is touched -/
def own_Gl (p : Program) (e : Env) (below : List Frame) (s : State) (Q : Option Value → Heap → List Loc → Prop) (kc ks : Nat) (S : State) : Prop :=
  ∃ s₂ o, Steps p.tables e below S s₂ ∧ s₂.status = .running ∧ Ended s₂ below o ∧ ∃ v L, o = .returned v ∧ Q v s₂.heap L ∧ FrameEnd s o s₂ L kc ks
variable {p : Program} {l : Launch} {e : Env} {R : Room} {s : State} {m : MethodId} {args : Array Value} {below : List Frame} {meth : Method} {c : Code} {T : State} {locs : List Loc} {cells slots : Nat} {Z : State} {a0 : Array Value} {h : Heap} {Q : Option Value → Heap → List Loc → Prop} {kc ks : Nat} {pc pc' : Nat} {L L' : Array Slot} {S : List Value}
theorem own_Gl.go {S S' : State} (h : own_Gl p e below s Q kc ks S') (st : ∀ t, Steps p.tables e below S' t → Steps p.tables e below S t) : own_Gl p e below s Q kc ks S := by
  obtain ⟨s₂, o, h1, h2⟩ := h
  exact ⟨s₂, o, st _ h1, h2⟩
/-- what a method leaves that writes nothing and makes nothing -/
def own_Pure (w : Option Value) (h0 : Heap) (v : Option Value) (h : Heap) (L : List Loc) : Prop := v = w ∧ L = [] ∧ h = h0
theorem own_body {l : Launch} {Z : State} {y : MethodName} {bytes : ByteArray} {maxL : Nat} {ret : Option FieldType} {ws : List Jvm.Cond} {rm : Room} {as' : Array Value} {h0 : Heap} {Q : Option Value → Heap → List Loc → Prop} {L0 : Array Slot} {own : String}
    (hpl : plainName y.cls = true) (hyc : y.cls = own) (hef : ∀ m, entryFrame m as' maxL = mkF m 0 L0 [])
    (body : ∀ p e s m below meth c T, p.tables.exec = Jvm.exec → c.code = bytes → c.maxLocals = maxL → s.vm.findClass own = some m.cls → meth.name = y.name → meth.locks = false → meth.sig.returnType = ret → Z.Warmed39 s.vm → Stand p l e rm s m as' below meth c T [] 0 0 → T.heap = h0 →
      own_Gl p e below s Q rm.cells rm.slots (T.setTop (mkF m 0 L0 []))) :
    MetFree l y (head1 (Jvm.Cond.code y bytes maxL ret :: ws) rm) (fun a U => a = as' ∧ Z.Warmed39 U.vm ∧ U.heap = h0) (fun _ _ _ _ _ => True) (fun _ U o U' => ∃ v L, o = .returned v ∧ Q v U'.heap L ∧ FrameEnd U o U' L rm.cells rm.slots) := by
  refine MetFree.of_bodySF (plainFor_of_name hpl) hisR ?_
  intro p e s m args below meth c s₁ Bd hml0 hP hK
  obtain ⟨rfl, hZ, hh⟩ := hP
  have hown : s.vm.findClass y.cls = some m.cls := findClass_of_methodNamed Bd.named
  have hnm := (name_of_methodNamed Bd.named Bd.method).1
  have X0 : Stand p l e rm s m _ below meth c s₁ [] 0 0 := Stand.of_body Bd
  have e0 : s₁.heap = h0 := by rw [← hh, Bd.state]; rfl
  obtain ⟨s₂, o, h1, h2⟩ := body p e s m below meth c s₁ Bd.exec Bd.bytes hml0 (hyc ▸ hown) hnm Bd.notSynchronized Bd.returns hZ X0 e0
  exact ⟨s₂, o, castTop (hef m) h1, h2⟩
theorem own_ret (X : Stand p l e R s m args below meth c T locs cells slots) (hlk : meth.locks = false) {v : Option Value} (hv : meth.sig.returnType = none → v = none) (hQ : Q v T.heap locs) (hc : cells ≤ kc) (hs : slots ≤ ks) {S : State}
    (st : ∀ fs, (∀ (f : JFrame) (acts : List Action), f.method = m → f.locked = none → f.entered = [] → (doReturn e (T.setTop f) acts v).1 = T.setFrames fs) → Steps p.tables e below S (T.setFrames fs)) : own_Gl p e below s Q kc ks S := by
  obtain ⟨fs, hr, hrun, hended, hW, hsame⟩ := X.leave (v := v) hv hlk
  exact ⟨_, _, st fs hr, hrun, hended, v, locs, rfl, hQ, ⟨_, rfl⟩, hW, hsame.mono hc hs⟩
theorem g_retI (X : Stand p l e R s m args below meth c T locs cells slots) (hx : p.tables.exec = Jvm.exec) (hlk : meth.locks = false) {z : Int32} (hret : meth.sig.returnType = some .int) (hd : decode c.code pc = .ok (.ireturn, 1)) (hc : cells ≤ kc) (hs : slots ≤ ks) (hQ : Q (some (.int z)) T.heap locs) :
    own_Gl p e below s Q kc ks (T.setTop (mkF m pc L (.int z :: S))) :=
  own_ret X hlk (fun h => by rw [hret] at h; cases h) hQ hc hs fun fs hr => retOut X hx hret rfl (Or.inl ⟨rfl, Or.inl rfl, z, rfl⟩) hd hr
theorem g_retN (X : Stand p l e R s m args below meth c T locs cells slots) (hx : p.tables.exec = Jvm.exec) (hlk : meth.locks = false) {z z' : Int32} {t : FieldType} (hret : meth.sig.returnType = some t) (ht : t = .boolean ∨ t = .byte ∨ t = .char ∨ t = .short) (hz : nar t z = z') (hd : decode c.code pc = .ok (.ireturn, 1)) (hc : cells ≤ kc) (hs : slots ≤ ks) (hQ : Q (some (.int z')) T.heap locs) :
    own_Gl p e below s Q kc ks (T.setTop (mkF m pc L (.int z :: S))) := by
  subst hz
  exact own_ret X hlk (fun h => by rw [hret] at h; cases h) hQ hc hs fun fs hr => retN X hx hret ht hd hr
theorem g_retL (X : Stand p l e R s m args below meth c T locs cells slots) (hx : p.tables.exec = Jvm.exec) (hlk : meth.locks = false) {z : Int64} (hret : meth.sig.returnType = some .long) (hd : decode c.code pc = .ok (.lreturn, 1)) (hc : cells ≤ kc) (hs : slots ≤ ks) (hQ : Q (some (.long z)) T.heap locs) :
    own_Gl p e below s Q kc ks (T.setTop (mkF m pc L (.long z :: S))) :=
  own_ret X hlk (fun h => by rw [hret] at h; cases h) hQ hc hs fun fs hr => retOut X hx hret rfl (Or.inr (Or.inl ⟨rfl, rfl, z, rfl⟩)) hd hr
theorem g_retV (X : Stand p l e R s m args below meth c T locs cells slots) (hx : p.tables.exec = Jvm.exec) (hlk : meth.locks = false) (hret : meth.sig.returnType = none) (hd : decode c.code pc = .ok (.return_, 1)) (hc : cells ≤ kc) (hs : slots ≤ ks) (hQ : Q none T.heap locs) :
    own_Gl p e below s Q kc ks (T.setTop (mkF m pc L [])) :=
  own_ret X hlk (fun _ => rfl) hQ hc hs fun fs hr => X.returnOut hx hret hd hr
/-- a static call by the callee's contract -/
theorem g_callS (X : Stand p l e R s m args below meth c T locs cells slots) (hx : p.tables.exec = Jvm.exec) (hZ : Z.Warmed39 s.vm) {own : String} {index : Nat} {y : MethodName} {bytes : ByteArray} {maxL : Nat} {ret : Option FieldType} (hown : s.vm.findClass own = some m.cls)
    (w1 : (Jvm.Cond.methodLink own index y).before a0 Z = true) (w2 : (Jvm.Cond.static y).before a0 Z = true) (w3 : (Jvm.Cond.initialized y.cls).before a0 Z = true) (w4 : (Jvm.Cond.code y bytes maxL ret).before a0 Z = true) (hy : y.cls ≠ "java/lang/invoke/MethodHandle" ∧ y.cls ≠ "java/lang/invoke/VarHandle")
    {rm : Room} {as' : Array Value} {Qc : Option Value → Heap → List Loc → Prop}
    (hM : MetFree l y (head1 [Jvm.Cond.code y bytes maxL ret] rm) (fun a U => a = as' ∧ Z.Warmed39 U.vm ∧ U.heap = h) (fun _ _ _ _ _ => True) (fun _ U o U' => ∃ v L, o = .returned v ∧ Qc v U'.heap L ∧ FrameEnd U o U' L rm.cells rm.slots))
    (W : Nat) (hf : rm.frames + 1 ≤ R.frames) (hl : W + (maxL + 11) + rm.locals ≤ R.locals) (eT : T.heap = h) (hsize : L.size = c.maxLocals) (argsL rest : List Value) (hlen : ∀ sig, parseMethodDescriptor y.desc = some sig → argsL.length = sig.parameters.length)
    (hst : S = argsL.reverse ++ rest) (has : argsL.toArray = as') (hW : (rest.map fun v => v.category).sum ≤ W) (hd : decode c.code pc = .ok (.invokestatic index, 3)) (hp : pc + 3 = pc') {cells' slots' : Nat} (hcc : cells + rm.cells = cells') (hss : slots + rm.slots = slots') (hcl : cells' ≤ R.cells) (hsl : slots' ≤ R.slots)
    (k : ∀ (v : Option Value) (T' : State) (L' : List Loc), Stand p l e R s m args below meth c T' (locs ++ L') cells' slots' → Qc v T'.heap L' → own_Gl p e below s Q kc ks (T'.setTop (mkF m pc' L (v.toList ++ rest)))) :
    own_Gl p e below s Q kc ks (T.setTop (mkF m pc L S)) := by
  subst hp hst hcc hss
  obtain ⟨v, _, ⟨T', L', k', n'⟩, -, X', ⟨Lc, hQ, l', y', z'⟩, st⟩ := Jvm.LawKit.callS X hx (y := y) hown (mvT hZ w1) (mvT hZ w2) (mvT hZ w3) (mvT hZ w4) hy (backOf (W := W) hM hZ w4 w3 hf hl) (g := mkF m pc L (argsL.reverse ++ rest)) rfl hsize (argsL := argsL) (rest := rest) hlen rfl (by show 2 * 0 + _ ≤ _; omega) hd (fun _ _ => ⟨has, eT, hcl, hsl⟩)
  dsimp only [Pt.U, Pt.locs, Pt.cells, Pt.slots] at X' l' y' z' st hQ
  subst l' y' z'
  exact (k v T' Lc X' hQ).go st
/-- the same of a method that writes nothing -/
theorem g_callP (X : Stand p l e R s m args below meth c T locs cells slots) (hx : p.tables.exec = Jvm.exec) (hZ : Z.Warmed39 s.vm) {own : String} {index : Nat} {y : MethodName} {bytes : ByteArray} {maxL : Nat} {ret : Option FieldType} (hown : s.vm.findClass own = some m.cls)
    (w1 : (Jvm.Cond.methodLink own index y).before a0 Z = true) (w2 : (Jvm.Cond.static y).before a0 Z = true) (w3 : (Jvm.Cond.initialized y.cls).before a0 Z = true) (w4 : (Jvm.Cond.code y bytes maxL ret).before a0 Z = true) (hy : y.cls ≠ "java/lang/invoke/MethodHandle" ∧ y.cls ≠ "java/lang/invoke/VarHandle")
    {fr lo : Nat} {as' : Array Value} {w : Option Value}
    (hM : MetFree l y (head1 [Jvm.Cond.code y bytes maxL ret] ({ frames := fr, cells := 0, slots := 0, locals := lo } : Room)) (fun a U => a = as' ∧ Z.Warmed39 U.vm ∧ U.heap = h) (fun _ _ _ _ _ => True) (fun _ U o U' => ∃ v L, o = .returned v ∧ own_Pure w h v U'.heap L ∧ FrameEnd U o U' L ({ frames := fr, cells := 0, slots := 0, locals := lo } : Room).cells ({ frames := fr, cells := 0, slots := 0, locals := lo } : Room).slots))
    (W : Nat) (hf : fr + 1 ≤ R.frames) (hl : W + (maxL + 11) + lo ≤ R.locals) (eT : T.heap = h) (hsize : L.size = c.maxLocals) (argsL rest : List Value) (hlen : ∀ sig, parseMethodDescriptor y.desc = some sig → argsL.length = sig.parameters.length)
    (hst : S = argsL.reverse ++ rest) (has : argsL.toArray = as') (hW : (rest.map fun v => v.category).sum ≤ W) (hd : decode c.code pc = .ok (.invokestatic index, 3)) (hp : pc + 3 = pc') (hcl : cells ≤ R.cells) (hsl : slots ≤ R.slots)
    (k : ∀ (T' : State), Stand p l e R s m args below meth c T' locs cells slots → T'.heap = h → own_Gl p e below s Q kc ks (T'.setTop (mkF m pc' L (w.toList ++ rest)))) :
    own_Gl p e below s Q kc ks (T.setTop (mkF m pc L S)) := by
  refine g_callS X hx hZ hown w1 w2 w3 w4 hy hM W hf hl eT hsize argsL rest hlen hst has hW hd hp (cells' := cells) (slots' := slots) rfl rfl hcl hsl ?_
  intro v T' L' X' hQ
  obtain ⟨rfl, rfl, e'⟩ := hQ
  rw [List.append_nil] at X'
  exact k T' X' e'
theorem own_tltL {x y : Int64} (h : x < y) : ifCond.holds .lt (lcmpW x y) = true ∧ ifCond.holds .ge (lcmpW x y) = false ∧ ifCond.holds .gt (lcmpW y x) = true ∧ ifCond.holds .le (lcmpW y x) = false := by
  have h1 := (lw_lt x y).mpr h
  have h2 := (lw_gt y x).mpr h
  rw [if0, if0, if0, if0]
  exact ⟨(tlt h1).1, (tlt h1).2.1, (tlt h2).2.2.1, (tlt h2).2.2.2⟩
theorem own_fltL {x y : Int64} (h : ¬ x < y) : ifCond.holds .lt (lcmpW x y) = false ∧ ifCond.holds .ge (lcmpW x y) = true ∧ ifCond.holds .gt (lcmpW y x) = false ∧ ifCond.holds .le (lcmpW y x) = true := by
  have h1 := fun q => h ((lw_lt x y).mp q)
  have h2 := fun q => h ((lw_gt y x).mp q)
  rw [if0, if0, if0, if0]
  exact ⟨(flt h1).1, (flt h1).2.1, (flt h2).2.2.1, (flt h2).2.2.2⟩
theorem own_teqL {x y : Int64} (h : x = y) : ifCond.holds .eq (lcmpW x y) = true ∧ ifCond.holds .ne (lcmpW x y) = false := by
  have h1 := (lw_eq x y).mpr h
  rw [if0, if0]
  exact ⟨(teq h1).1, (teq h1).2⟩
theorem own_feqL {x y : Int64} (h : ¬ x = y) : ifCond.holds .eq (lcmpW x y) = false ∧ ifCond.holds .ne (lcmpW x y) = true := by
  have h1 := fun q => h ((lw_eq x y).mp q)
  rw [if0, if0]
  exact ⟨(feq h1).1, (feq h1).2⟩
theorem g_iloadN (h : At T m c below) (hx : p.tables.exec = Jvm.exec) {j : Fin 4} {v : Int32} (hd : decode c.code pc = .ok (.iload_n j, 1)) (hp : pc + 1 = pc') (hl : L[j.val]? = some (.val (.int v))) (hr : own_Gl p e below s Q kc ks (T.setTop (mkF m pc' L (.int v :: S)))) : own_Gl p e below s Q kc ks (T.setTop (mkF m pc L S)) := by
  subst hp; exact hr.go fun t k => XS.iloadN h hx rfl hd hl k
theorem g_lloadN (h : At T m c below) (hx : p.tables.exec = Jvm.exec) {j : Fin 4} {v : Int64} (hd : decode c.code pc = .ok (.lload_n j, 1)) (hp : pc + 1 = pc') (hl : L[j.val]? = some (.val (.long v))) (hr : own_Gl p e below s Q kc ks (T.setTop (mkF m pc' L (.long v :: S)))) : own_Gl p e below s Q kc ks (T.setTop (mkF m pc L S)) := by
  subst hp; exact hr.go fun t k => XS.lloadN h hx rfl hd hl k
theorem g_aloadN (h : At T m c below) (hx : p.tables.exec = Jvm.exec) {j : Fin 4} {v : Value} (hd : decode c.code pc = .ok (.aload_n j, 1)) (hp : pc + 1 = pc') (hl : L[j.val]? = some (.val v)) (hv : v.isRef = true) (hr : own_Gl p e below s Q kc ks (T.setTop (mkF m pc' L (v :: S)))) : own_Gl p e below s Q kc ks (T.setTop (mkF m pc L S)) := by
  subst hp; exact hr.go fun t k => XS.aloadN h hx rfl hd hl hv k
theorem g_istoreN (h : At T m c below) (hx : p.tables.exec = Jvm.exec) {j : Fin 4} {v : Int32} (hd : decode c.code pc = .ok (.istore_n j, 1)) (hp : pc + 1 = pc') (hl : storeLocals L j.val (.int v) = some L') (hr : own_Gl p e below s Q kc ks (T.setTop (mkF m pc' L' S))) : own_Gl p e below s Q kc ks (T.setTop (mkF m pc L (.int v :: S))) := by
  subst hp; exact hr.go fun t k => XS.istoreN h hx rfl hd rfl hl k
theorem g_lstoreN (h : At T m c below) (hx : p.tables.exec = Jvm.exec) {j : Fin 4} {v : Int64} (hd : decode c.code pc = .ok (.lstore_n j, 1)) (hp : pc + 1 = pc') (hl : storeLocals L j.val (.long v) = some L') (hr : own_Gl p e below s Q kc ks (T.setTop (mkF m pc' L' S))) : own_Gl p e below s Q kc ks (T.setTop (mkF m pc L (.long v :: S))) := by
  subst hp; exact hr.go fun t k => XS.lstoreN h hx rfl hd rfl hl k
theorem g_astoreN (h : At T m c below) (hx : p.tables.exec = Jvm.exec) {j : Fin 4} {v : Value} (hd : decode c.code pc = .ok (.astore_n j, 1)) (hp : pc + 1 = pc') (hv : v.isRef = true) (hl : storeLocals L j.val v = some L') (hr : own_Gl p e below s Q kc ks (T.setTop (mkF m pc' L' S))) : own_Gl p e below s Q kc ks (T.setTop (mkF m pc L (v :: S))) := by
  subst hp; exact hr.go fun t k => XS.astoreN h hx rfl hd rfl hv hl k
theorem g_iload (h : At T m c below) (hx : p.tables.exec = Jvm.exec) {j : Nat} {v : Int32} (hd : decode c.code pc = .ok (.iload j, 2)) (hp : pc + 2 = pc') (hl : L[j]? = some (.val (.int v))) (hr : own_Gl p e below s Q kc ks (T.setTop (mkF m pc' L (.int v :: S)))) : own_Gl p e below s Q kc ks (T.setTop (mkF m pc L S)) := by
  subst hp; exact hr.go fun t k => XS.iload h hx rfl hd hl k
theorem g_lload (h : At T m c below) (hx : p.tables.exec = Jvm.exec) {j : Nat} {v : Int64} (hd : decode c.code pc = .ok (.lload j, 2)) (hp : pc + 2 = pc') (hl : L[j]? = some (.val (.long v))) (hr : own_Gl p e below s Q kc ks (T.setTop (mkF m pc' L (.long v :: S)))) : own_Gl p e below s Q kc ks (T.setTop (mkF m pc L S)) := by
  subst hp; exact hr.go fun t k => XS.lload h hx rfl hd hl k
theorem g_aload (h : At T m c below) (hx : p.tables.exec = Jvm.exec) {j : Nat} {v : Value} (hd : decode c.code pc = .ok (.aload j, 2)) (hp : pc + 2 = pc') (hl : L[j]? = some (.val v)) (hv : v.isRef = true) (hr : own_Gl p e below s Q kc ks (T.setTop (mkF m pc' L (v :: S)))) : own_Gl p e below s Q kc ks (T.setTop (mkF m pc L S)) := by
  subst hp; exact hr.go fun t k => XS.aload h hx rfl hd hl hv k
theorem g_istore (h : At T m c below) (hx : p.tables.exec = Jvm.exec) {j : Nat} {v : Int32} (hd : decode c.code pc = .ok (.istore j, 2)) (hp : pc + 2 = pc') (hl : storeLocals L j (.int v) = some L') (hr : own_Gl p e below s Q kc ks (T.setTop (mkF m pc' L' S))) : own_Gl p e below s Q kc ks (T.setTop (mkF m pc L (.int v :: S))) := by
  subst hp; exact hr.go fun t k => XS.istore h hx rfl hd rfl hl k
theorem g_lstore (h : At T m c below) (hx : p.tables.exec = Jvm.exec) {j : Nat} {v : Int64} (hd : decode c.code pc = .ok (.lstore j, 2)) (hp : pc + 2 = pc') (hl : storeLocals L j (.long v) = some L') (hr : own_Gl p e below s Q kc ks (T.setTop (mkF m pc' L' S))) : own_Gl p e below s Q kc ks (T.setTop (mkF m pc L (.long v :: S))) := by
  subst hp; exact hr.go fun t k => XS.lstore h hx rfl hd rfl hl k
theorem g_astore (h : At T m c below) (hx : p.tables.exec = Jvm.exec) {j : Nat} {v : Value} (hd : decode c.code pc = .ok (.astore j, 2)) (hp : pc + 2 = pc') (hv : v.isRef = true) (hl : storeLocals L j v = some L') (hr : own_Gl p e below s Q kc ks (T.setTop (mkF m pc' L' S))) : own_Gl p e below s Q kc ks (T.setTop (mkF m pc L (v :: S))) := by
  subst hp; exact hr.go fun t k => XS.astore h hx rfl hd rfl hv hl k
theorem g_iconst (h : At T m c below) (hx : p.tables.exec = Jvm.exec) {i : Int} {z : Int32} (hd : decode c.code pc = .ok (.iconst i, 1)) (hp : pc + 1 = pc') (hz : Int32.ofInt i = z) (hr : own_Gl p e below s Q kc ks (T.setTop (mkF m pc' L (.int z :: S)))) : own_Gl p e below s Q kc ks (T.setTop (mkF m pc L S)) := by
  subst hp hz; exact hr.go fun t k => XS.iconst h hx rfl hd k
theorem g_bipush (h : At T m c below) (hx : p.tables.exec = Jvm.exec) {i : Int} {z : Int32} (hd : decode c.code pc = .ok (.bipush i, 2)) (hp : pc + 2 = pc') (hz : (Int8.ofInt i).toInt32 = z) (hr : own_Gl p e below s Q kc ks (T.setTop (mkF m pc' L (.int z :: S)))) : own_Gl p e below s Q kc ks (T.setTop (mkF m pc L S)) := by
  subst hp hz; exact hr.go fun t k => XS.bipush h hx rfl hd k
theorem g_sipush (h : At T m c below) (hx : p.tables.exec = Jvm.exec) {i : Int} {z : Int32} (hd : decode c.code pc = .ok (.sipush i, 3)) (hp : pc + 3 = pc') (hz : (Int16.ofInt i).toInt32 = z) (hr : own_Gl p e below s Q kc ks (T.setTop (mkF m pc' L (.int z :: S)))) : own_Gl p e below s Q kc ks (T.setTop (mkF m pc L S)) := by
  subst hp hz; exact hr.go fun t k => XS.sipush h hx rfl hd k
theorem g_lconst (h : At T m c below) (hx : p.tables.exec = Jvm.exec) {i : Fin 2} {z : Int64} (hd : decode c.code pc = .ok (.lconst i, 1)) (hp : pc + 1 = pc') (hz : Int64.ofNat i = z) (hr : own_Gl p e below s Q kc ks (T.setTop (mkF m pc' L (.long z :: S)))) : own_Gl p e below s Q kc ks (T.setTop (mkF m pc L S)) := by
  subst hp hz; exact hr.go fun t k => XS.lconst h hx rfl hd k
theorem g_aconstNull (h : At T m c below) (hx : p.tables.exec = Jvm.exec)  (hd : decode c.code pc = .ok (.aconst_null, 1)) (hp : pc + 1 = pc')  (hr : own_Gl p e below s Q kc ks (T.setTop (mkF m pc' L (.null :: S)))) : own_Gl p e below s Q kc ks (T.setTop (mkF m pc L S)) := by
  subst hp; exact hr.go fun t k => XS.aconstNull h hx rfl hd k
theorem g_iadd (h : At T m c below) (hx : p.tables.exec = Jvm.exec) {u v : Int32} (hd : decode c.code pc = .ok (.iadd, 1)) (hp : pc + 1 = pc')  (hr : own_Gl p e below s Q kc ks (T.setTop (mkF m pc' L (.int (u + v) :: S)))) : own_Gl p e below s Q kc ks (T.setTop (mkF m pc L (.int v :: .int u :: S))) := by
  subst hp; exact hr.go fun t k => XS.iadd h hx rfl hd rfl k
theorem g_ladd (h : At T m c below) (hx : p.tables.exec = Jvm.exec) {u v : Int64} (hd : decode c.code pc = .ok (.ladd, 1)) (hp : pc + 1 = pc')  (hr : own_Gl p e below s Q kc ks (T.setTop (mkF m pc' L (.long (u + v) :: S)))) : own_Gl p e below s Q kc ks (T.setTop (mkF m pc L (.long v :: .long u :: S))) := by
  subst hp; exact hr.go fun t k => XS.ladd h hx rfl hd rfl k
theorem g_isub (h : At T m c below) (hx : p.tables.exec = Jvm.exec) {u v : Int32} (hd : decode c.code pc = .ok (.isub, 1)) (hp : pc + 1 = pc')  (hr : own_Gl p e below s Q kc ks (T.setTop (mkF m pc' L (.int (u - v) :: S)))) : own_Gl p e below s Q kc ks (T.setTop (mkF m pc L (.int v :: .int u :: S))) := by
  subst hp; exact hr.go fun t k => XS.isub h hx rfl hd rfl k
theorem g_lsub (h : At T m c below) (hx : p.tables.exec = Jvm.exec) {u v : Int64} (hd : decode c.code pc = .ok (.lsub, 1)) (hp : pc + 1 = pc')  (hr : own_Gl p e below s Q kc ks (T.setTop (mkF m pc' L (.long (u - v) :: S)))) : own_Gl p e below s Q kc ks (T.setTop (mkF m pc L (.long v :: .long u :: S))) := by
  subst hp; exact hr.go fun t k => XS.lsub h hx rfl hd rfl k
theorem g_imul (h : At T m c below) (hx : p.tables.exec = Jvm.exec) {u v : Int32} (hd : decode c.code pc = .ok (.imul, 1)) (hp : pc + 1 = pc')  (hr : own_Gl p e below s Q kc ks (T.setTop (mkF m pc' L (.int (u * v) :: S)))) : own_Gl p e below s Q kc ks (T.setTop (mkF m pc L (.int v :: .int u :: S))) := by
  subst hp; exact hr.go fun t k => XS.imul h hx rfl hd rfl k
theorem g_lmul (h : At T m c below) (hx : p.tables.exec = Jvm.exec) {u v : Int64} (hd : decode c.code pc = .ok (.lmul, 1)) (hp : pc + 1 = pc')  (hr : own_Gl p e below s Q kc ks (T.setTop (mkF m pc' L (.long (u * v) :: S)))) : own_Gl p e below s Q kc ks (T.setTop (mkF m pc L (.long v :: .long u :: S))) := by
  subst hp; exact hr.go fun t k => XS.lmul h hx rfl hd rfl k
theorem g_iand (h : At T m c below) (hx : p.tables.exec = Jvm.exec) {u v : Int32} (hd : decode c.code pc = .ok (.iand, 1)) (hp : pc + 1 = pc')  (hr : own_Gl p e below s Q kc ks (T.setTop (mkF m pc' L (.int (u &&& v) :: S)))) : own_Gl p e below s Q kc ks (T.setTop (mkF m pc L (.int v :: .int u :: S))) := by
  subst hp; exact hr.go fun t k => XS.iand h hx rfl hd rfl k
theorem g_land (h : At T m c below) (hx : p.tables.exec = Jvm.exec) {u v : Int64} (hd : decode c.code pc = .ok (.land, 1)) (hp : pc + 1 = pc')  (hr : own_Gl p e below s Q kc ks (T.setTop (mkF m pc' L (.long (u &&& v) :: S)))) : own_Gl p e below s Q kc ks (T.setTop (mkF m pc L (.long v :: .long u :: S))) := by
  subst hp; exact hr.go fun t k => XS.land h hx rfl hd rfl k
theorem g_ior (h : At T m c below) (hx : p.tables.exec = Jvm.exec) {u v : Int32} (hd : decode c.code pc = .ok (.ior, 1)) (hp : pc + 1 = pc')  (hr : own_Gl p e below s Q kc ks (T.setTop (mkF m pc' L (.int (u ||| v) :: S)))) : own_Gl p e below s Q kc ks (T.setTop (mkF m pc L (.int v :: .int u :: S))) := by
  subst hp; exact hr.go fun t k => XS.ior h hx rfl hd rfl k
theorem g_lor (h : At T m c below) (hx : p.tables.exec = Jvm.exec) {u v : Int64} (hd : decode c.code pc = .ok (.lor, 1)) (hp : pc + 1 = pc')  (hr : own_Gl p e below s Q kc ks (T.setTop (mkF m pc' L (.long (u ||| v) :: S)))) : own_Gl p e below s Q kc ks (T.setTop (mkF m pc L (.long v :: .long u :: S))) := by
  subst hp; exact hr.go fun t k => XS.lor h hx rfl hd rfl k
theorem g_ixor (h : At T m c below) (hx : p.tables.exec = Jvm.exec) {u v : Int32} (hd : decode c.code pc = .ok (.ixor, 1)) (hp : pc + 1 = pc')  (hr : own_Gl p e below s Q kc ks (T.setTop (mkF m pc' L (.int (u ^^^ v) :: S)))) : own_Gl p e below s Q kc ks (T.setTop (mkF m pc L (.int v :: .int u :: S))) := by
  subst hp; exact hr.go fun t k => XS.ixor h hx rfl hd rfl k
theorem g_lxor (h : At T m c below) (hx : p.tables.exec = Jvm.exec) {u v : Int64} (hd : decode c.code pc = .ok (.lxor, 1)) (hp : pc + 1 = pc')  (hr : own_Gl p e below s Q kc ks (T.setTop (mkF m pc' L (.long (u ^^^ v) :: S)))) : own_Gl p e below s Q kc ks (T.setTop (mkF m pc L (.long v :: .long u :: S))) := by
  subst hp; exact hr.go fun t k => XS.lxor h hx rfl hd rfl k
theorem g_ishl (h : At T m c below) (hx : p.tables.exec = Jvm.exec) {u v : Int32} (hd : decode c.code pc = .ok (.ishl, 1)) (hp : pc + 1 = pc')  (hr : own_Gl p e below s Q kc ks (T.setTop (mkF m pc' L (.int (u <<< (v &&& 31)) :: S)))) : own_Gl p e below s Q kc ks (T.setTop (mkF m pc L (.int v :: .int u :: S))) := by
  subst hp; exact hr.go fun t k => XS.ishl h hx rfl hd rfl k
theorem g_ishr (h : At T m c below) (hx : p.tables.exec = Jvm.exec) {u v : Int32} (hd : decode c.code pc = .ok (.ishr, 1)) (hp : pc + 1 = pc')  (hr : own_Gl p e below s Q kc ks (T.setTop (mkF m pc' L (.int (u >>> (v &&& 31)) :: S)))) : own_Gl p e below s Q kc ks (T.setTop (mkF m pc L (.int v :: .int u :: S))) := by
  subst hp; exact hr.go fun t k => XS.ishr h hx rfl hd rfl k
theorem g_iushr (h : At T m c below) (hx : p.tables.exec = Jvm.exec) {u v : Int32} (hd : decode c.code pc = .ok (.iushr, 1)) (hp : pc + 1 = pc')  (hr : own_Gl p e below s Q kc ks (T.setTop (mkF m pc' L (.int ((u.toUInt32 >>> (v &&& 31).toUInt32).toInt32) :: S)))) : own_Gl p e below s Q kc ks (T.setTop (mkF m pc L (.int v :: .int u :: S))) := by
  subst hp; exact hr.go fun t k => XS.iushr h hx rfl hd rfl k
theorem g_lshl (h : At T m c below) (hx : p.tables.exec = Jvm.exec) {u : Int64} {v : Int32} (hd : decode c.code pc = .ok (.lshl, 1)) (hp : pc + 1 = pc')  (hr : own_Gl p e below s Q kc ks (T.setTop (mkF m pc' L (.long (u <<< (v &&& 0x3f).toInt64) :: S)))) : own_Gl p e below s Q kc ks (T.setTop (mkF m pc L (.int v :: .long u :: S))) := by
  subst hp; exact hr.go fun t k => XS.lshl h hx rfl hd rfl k
theorem g_lshr (h : At T m c below) (hx : p.tables.exec = Jvm.exec) {u : Int64} {v : Int32} (hd : decode c.code pc = .ok (.lshr, 1)) (hp : pc + 1 = pc')  (hr : own_Gl p e below s Q kc ks (T.setTop (mkF m pc' L (.long (u >>> (v &&& 0x3f).toInt64) :: S)))) : own_Gl p e below s Q kc ks (T.setTop (mkF m pc L (.int v :: .long u :: S))) := by
  subst hp; exact hr.go fun t k => XS.lshr h hx rfl hd rfl k
theorem g_lushr (h : At T m c below) (hx : p.tables.exec = Jvm.exec) {u : Int64} {v : Int32} (hd : decode c.code pc = .ok (.lushr, 1)) (hp : pc + 1 = pc')  (hr : own_Gl p e below s Q kc ks (T.setTop (mkF m pc' L (.long ((u.toUInt64 >>> (v &&& 0x3f).toInt64.toUInt64).toInt64) :: S)))) : own_Gl p e below s Q kc ks (T.setTop (mkF m pc L (.int v :: .long u :: S))) := by
  subst hp; exact hr.go fun t k => XS.lushr h hx rfl hd rfl k
theorem g_idiv (h : At T m c below) (hx : p.tables.exec = Jvm.exec) {u v : Int32} (hd : decode c.code pc = .ok (.idiv, 1)) (hp : pc + 1 = pc') (hy : v ≠ 0) (hr : own_Gl p e below s Q kc ks (T.setTop (mkF m pc' L (.int (u / v) :: S)))) : own_Gl p e below s Q kc ks (T.setTop (mkF m pc L (.int v :: .int u :: S))) := by
  subst hp; exact hr.go fun t k => XS.idiv h hx rfl hd rfl hy k
theorem g_ldiv (h : At T m c below) (hx : p.tables.exec = Jvm.exec) {u v : Int64} (hd : decode c.code pc = .ok (.ldiv, 1)) (hp : pc + 1 = pc') (hy : v ≠ 0) (hr : own_Gl p e below s Q kc ks (T.setTop (mkF m pc' L (.long (u / v) :: S)))) : own_Gl p e below s Q kc ks (T.setTop (mkF m pc L (.long v :: .long u :: S))) := by
  subst hp; exact hr.go fun t k => XS.ldiv h hx rfl hd rfl hy k
theorem g_irem (X : Stand p l e R s m args below meth c T locs cells slots) (hx : p.tables.exec = Jvm.exec) {u v : Int32} (hd : decode c.code pc = .ok (.irem, 1)) (hp : pc + 1 = pc') (hy : v ≠ 0) (hr : own_Gl p e below s Q kc ks (T.setTop (mkF m pc' L (.int (u % v) :: S)))) : own_Gl p e below s Q kc ks (T.setTop (mkF m pc L (.int v :: .int u :: S))) := by
  subst hp; exact hr.go fun t k => iremM X hx rfl hd rfl hy k
theorem g_lrem (h : At T m c below) (hx : p.tables.exec = Jvm.exec) {u v : Int64} (hd : decode c.code pc = .ok (.lrem, 1)) (hp : pc + 1 = pc') (hy : v ≠ 0) (hr : own_Gl p e below s Q kc ks (T.setTop (mkF m pc' L (.long (u % v) :: S)))) : own_Gl p e below s Q kc ks (T.setTop (mkF m pc L (.long v :: .long u :: S))) := by
  subst hp; exact hr.go fun t k => XS.lrem h hx rfl hd rfl hy (by rw [lrem_mod]; exact k)
theorem g_ineg (h : At T m c below) (hx : p.tables.exec = Jvm.exec) {u : Int32} (hd : decode c.code pc = .ok (.ineg, 1)) (hp : pc + 1 = pc')  (hr : own_Gl p e below s Q kc ks (T.setTop (mkF m pc' L (.int (-u) :: S)))) : own_Gl p e below s Q kc ks (T.setTop (mkF m pc L (.int u :: S))) := by
  subst hp; exact hr.go fun t k => XS.ineg h hx rfl hd rfl k
theorem g_lneg (h : At T m c below) (hx : p.tables.exec = Jvm.exec) {u : Int64} (hd : decode c.code pc = .ok (.lneg, 1)) (hp : pc + 1 = pc')  (hr : own_Gl p e below s Q kc ks (T.setTop (mkF m pc' L (.long (-u) :: S)))) : own_Gl p e below s Q kc ks (T.setTop (mkF m pc L (.long u :: S))) := by
  subst hp; exact hr.go fun t k => XS.lneg h hx rfl hd rfl k
theorem g_i2l (h : At T m c below) (hx : p.tables.exec = Jvm.exec) {u : Int32} (hd : decode c.code pc = .ok (.i2l, 1)) (hp : pc + 1 = pc')  (hr : own_Gl p e below s Q kc ks (T.setTop (mkF m pc' L (.long u.toInt64 :: S)))) : own_Gl p e below s Q kc ks (T.setTop (mkF m pc L (.int u :: S))) := by
  subst hp; exact hr.go fun t k => XS.i2l h hx rfl hd rfl k
theorem g_l2i (h : At T m c below) (hx : p.tables.exec = Jvm.exec) {u : Int64} (hd : decode c.code pc = .ok (.l2i, 1)) (hp : pc + 1 = pc')  (hr : own_Gl p e below s Q kc ks (T.setTop (mkF m pc' L (.int u.toInt32 :: S)))) : own_Gl p e below s Q kc ks (T.setTop (mkF m pc L (.long u :: S))) := by
  subst hp; exact hr.go fun t k => XS.l2i h hx rfl hd rfl k
theorem g_i2b (h : At T m c below) (hx : p.tables.exec = Jvm.exec) {u : Int32} (hd : decode c.code pc = .ok (.i2b, 1)) (hp : pc + 1 = pc')  (hr : own_Gl p e below s Q kc ks (T.setTop (mkF m pc' L (.int u.toInt8.toInt32 :: S)))) : own_Gl p e below s Q kc ks (T.setTop (mkF m pc L (.int u :: S))) := by
  subst hp; exact hr.go fun t k => XS.i2b h hx rfl hd rfl k
theorem g_i2s (h : At T m c below) (hx : p.tables.exec = Jvm.exec) {u : Int32} (hd : decode c.code pc = .ok (.i2s, 1)) (hp : pc + 1 = pc')  (hr : own_Gl p e below s Q kc ks (T.setTop (mkF m pc' L (.int u.toInt16.toInt32 :: S)))) : own_Gl p e below s Q kc ks (T.setTop (mkF m pc L (.int u :: S))) := by
  subst hp; exact hr.go fun t k => XS.i2s h hx rfl hd rfl k
theorem g_i2c (h : At T m c below) (hx : p.tables.exec = Jvm.exec) {u : Int32} (hd : decode c.code pc = .ok (.i2c, 1)) (hp : pc + 1 = pc')  (hr : own_Gl p e below s Q kc ks (T.setTop (mkF m pc' L (.int u.toUInt32.toUInt16.toUInt32.toInt32 :: S)))) : own_Gl p e below s Q kc ks (T.setTop (mkF m pc L (.int u :: S))) := by
  subst hp; exact hr.go fun t k => XS.i2c h hx rfl hd rfl k
theorem g_lcmp (h : At T m c below) (hx : p.tables.exec = Jvm.exec) {u v : Int64} (hd : decode c.code pc = .ok (.lcmp, 1)) (hp : pc + 1 = pc')  (hr : own_Gl p e below s Q kc ks (T.setTop (mkF m pc' L (.int (lcmpW u v) :: S)))) : own_Gl p e below s Q kc ks (T.setTop (mkF m pc L (.long v :: .long u :: S))) := by
  subst hp; exact hr.go fun t k => XS.lcmp h hx rfl hd rfl k
theorem g_dup (h : At T m c below) (hx : p.tables.exec = Jvm.exec) {v : Value} (hd : decode c.code pc = .ok (.dup, 1)) (hp : pc + 1 = pc') (hc : v.category = 1) (hr : own_Gl p e below s Q kc ks (T.setTop (mkF m pc' L (v :: v :: S)))) : own_Gl p e below s Q kc ks (T.setTop (mkF m pc L (v :: S))) := by
  subst hp; exact hr.go fun t k => XS.dup h hx rfl hd rfl hc k
theorem g_pop (h : At T m c below) (hx : p.tables.exec = Jvm.exec) {v : Value} (hd : decode c.code pc = .ok (.pop, 1)) (hp : pc + 1 = pc') (hc : v.category = 1) (hr : own_Gl p e below s Q kc ks (T.setTop (mkF m pc' L S))) : own_Gl p e below s Q kc ks (T.setTop (mkF m pc L (v :: S))) := by
  subst hp; exact hr.go fun t k => XS.pop h hx rfl hd rfl hc k
theorem g_dupX1 (h : At T m c below) (hx : p.tables.exec = Jvm.exec) {v w : Value} (hd : decode c.code pc = .ok (.dup_x1, 1)) (hp : pc + 1 = pc') (hc : v.category = 1) (hc' : w.category = 1) (hr : own_Gl p e below s Q kc ks (T.setTop (mkF m pc' L (v :: w :: v :: S)))) : own_Gl p e below s Q kc ks (T.setTop (mkF m pc L (v :: w :: S))) := by
  subst hp; exact hr.go fun t k => XS.dupX1 h hx rfl hd rfl hc hc' k
theorem g_dup2 (h : At T m c below) (hx : p.tables.exec = Jvm.exec) {v w : Value} (hd : decode c.code pc = .ok (.dup2, 1)) (hp : pc + 1 = pc') (hc : v.category = 1) (hc' : w.category = 1) (hr : own_Gl p e below s Q kc ks (T.setTop (mkF m pc' L (v :: w :: v :: w :: S)))) : own_Gl p e below s Q kc ks (T.setTop (mkF m pc L (v :: w :: S))) := by
  subst hp; exact hr.go fun t k => XT.dup2 h hx rfl hd rfl hc hc' k
theorem g_dup2L (h : At T m c below) (hx : p.tables.exec = Jvm.exec) {v : Int64} (hd : decode c.code pc = .ok (.dup2, 1)) (hp : pc + 1 = pc')  (hr : own_Gl p e below s Q kc ks (T.setTop (mkF m pc' L (.long v :: .long v :: S)))) : own_Gl p e below s Q kc ks (T.setTop (mkF m pc L (.long v :: S))) := by
  subst hp; exact hr.go fun t k => XT.dup2L h hx rfl hd rfl k
theorem g_pop2L (h : At T m c below) (hx : p.tables.exec = Jvm.exec) {v : Int64} (hd : decode c.code pc = .ok (.pop2, 1)) (hp : pc + 1 = pc') (hr : own_Gl p e below s Q kc ks (T.setTop (mkF m pc' L S))) : own_Gl p e below s Q kc ks (T.setTop (mkF m pc L (.long v :: S))) := by
  subst hp
  refine hr.go fun t k => ?_
  jvm_step h [h.top, hx, hd, Value.category]
  exact k
theorem g_iinc (h : At T m c below) (hx : p.tables.exec = Jvm.exec) {j : Nat} {i : Int} {v z : Int32} (hd : decode c.code pc = .ok (.iinc j i, 3)) (hp : pc + 3 = pc') (hz : Int32.ofInt i = z) (hl : L[j]? = some (.val (.int v))) (hl' : storeLocals L j (.int (v + z)) = some L') (hr : own_Gl p e below s Q kc ks (T.setTop (mkF m pc' L' S))) : own_Gl p e below s Q kc ks (T.setTop (mkF m pc L S)) := by
  subst hp; exact hr.go fun t k => XS.iinc h hx rfl hd hl (by rw [hz]; exact hl') k
theorem g_goto (h : At T m c below) (hx : p.tables.exec = Jvm.exec) {i : Int} (hd : decode c.code pc = .ok (.goto i, 3)) (ho : 0 ≤ (pc : Int) + i) (hp : ((pc : Int) + i).toNat = pc') (hr : own_Gl p e below s Q kc ks (T.setTop (mkF m pc' L S))) : own_Gl p e below s Q kc ks (T.setTop (mkF m pc L S)) := hr.go fun t k => XS.goto h hx rfl (pc0 := pc) rfl hd ho hp k
theorem g_ifY (h : At T m c below) (hx : p.tables.exec = Jvm.exec) {cd : ClassFile.Cond} {i : Int} {x : Int32} (hd : decode c.code pc = .ok (.ifCond cd i, 3)) (ho : 0 ≤ (pc : Int) + i) (hp : ((pc : Int) + i).toNat = pc') (hc : ifCond.holds cd x = true) (hr : own_Gl p e below s Q kc ks (T.setTop (mkF m pc' L S))) : own_Gl p e below s Q kc ks (T.setTop (mkF m pc L (.int x :: S))) := hr.go fun t k => XS.ifYes h hx rfl (pc0 := pc) rfl hd rfl hc ho hp k
theorem g_ifN (h : At T m c below) (hx : p.tables.exec = Jvm.exec) {cd : ClassFile.Cond} {i : Int} {x : Int32} (hd : decode c.code pc = .ok (.ifCond cd i, 3)) (hp : pc + 3 = pc') (hc : ifCond.holds cd x = false) (hr : own_Gl p e below s Q kc ks (T.setTop (mkF m pc' L S))) : own_Gl p e below s Q kc ks (T.setTop (mkF m pc L (.int x :: S))) := by
  subst hp; exact hr.go fun t k => XS.ifNo h hx rfl hd rfl hc k
theorem g_icY (h : At T m c below) (hx : p.tables.exec = Jvm.exec) {cd : ClassFile.Cond} {i : Int} {x y : Int32} (hd : decode c.code pc = .ok (.if_icmp cd i, 3)) (ho : 0 ≤ (pc : Int) + i) (hp : ((pc : Int) + i).toNat = pc') (hc : if_icmp.holds cd x y = true) (hr : own_Gl p e below s Q kc ks (T.setTop (mkF m pc' L S))) : own_Gl p e below s Q kc ks (T.setTop (mkF m pc L (.int y :: .int x :: S))) := hr.go fun t k => XS.icmpYes h hx rfl (pc0 := pc) rfl hd rfl hc ho hp k
theorem g_icN (h : At T m c below) (hx : p.tables.exec = Jvm.exec) {cd : ClassFile.Cond} {i : Int} {x y : Int32} (hd : decode c.code pc = .ok (.if_icmp cd i, 3)) (hp : pc + 3 = pc') (hc : if_icmp.holds cd x y = false) (hr : own_Gl p e below s Q kc ks (T.setTop (mkF m pc' L S))) : own_Gl p e below s Q kc ks (T.setTop (mkF m pc L (.int y :: .int x :: S))) := by
  subst hp; exact hr.go fun t k => XS.icmpNo h hx rfl hd rfl hc k
theorem g_ifnullY (h : At T m c below) (hx : p.tables.exec = Jvm.exec)  {i : Int} (hd : decode c.code pc = .ok (.ifnull i, 3)) (ho : 0 ≤ (pc : Int) + i) (hp : ((pc : Int) + i).toNat = pc') (hr : own_Gl p e below s Q kc ks (T.setTop (mkF m pc' L S))) : own_Gl p e below s Q kc ks (T.setTop (mkF m pc L (.null :: S))) := hr.go fun t k => XS.ifnullYes h hx rfl (pc0 := pc) rfl hd rfl ho hp k
theorem g_ifnullN (h : At T m c below) (hx : p.tables.exec = Jvm.exec) {b : Addr} {i : Int} (hd : decode c.code pc = .ok (.ifnull i, 3)) (hp : pc + 3 = pc') (hr : own_Gl p e below s Q kc ks (T.setTop (mkF m pc' L S))) : own_Gl p e below s Q kc ks (T.setTop (mkF m pc L (.ref b :: S))) := by
  subst hp; exact hr.go fun t k => XS.ifnullNo h hx rfl hd rfl k
theorem g_ifnonnullY (h : At T m c below) (hx : p.tables.exec = Jvm.exec) {b : Addr} {i : Int} (hd : decode c.code pc = .ok (.ifnonnull i, 3)) (ho : 0 ≤ (pc : Int) + i) (hp : ((pc : Int) + i).toNat = pc') (hr : own_Gl p e below s Q kc ks (T.setTop (mkF m pc' L S))) : own_Gl p e below s Q kc ks (T.setTop (mkF m pc L (.ref b :: S))) := hr.go fun t k => XS.ifnonnullYes h hx rfl (pc0 := pc) rfl hd rfl ho hp k
theorem g_ifnonnullN (h : At T m c below) (hx : p.tables.exec = Jvm.exec)  {i : Int} (hd : decode c.code pc = .ok (.ifnonnull i, 3)) (hp : pc + 3 = pc') (hr : own_Gl p e below s Q kc ks (T.setTop (mkF m pc' L S))) : own_Gl p e below s Q kc ks (T.setTop (mkF m pc L (.null :: S))) := by
  subst hp; exact hr.go fun t k => XS.ifnonnullNo h hx rfl hd rfl k
theorem g_ldc (X : Stand p l e R s m args below meth c T locs cells slots) (hx : p.tables.exec = Jvm.exec) (hZ : Z.Warmed39 s.vm) {own : String} {index : Nat} {v : Int32} (hown : s.vm.findClass own = some m.cls) (w : (Jvm.Cond.constant own index v).before a0 Z = true) (hd : decode c.code pc = .ok (.ldc index, 2)) (hp : pc + 2 = pc') (hr : own_Gl p e below s Q kc ks (T.setTop (mkF m pc' L (.int v :: S)))) : own_Gl p e below s Q kc ks (T.setTop (mkF m pc L S)) := by
  subst hp; exact hr.go (X.ldcInt hx hown (mvT hZ w) (g := mkF m pc L S) rfl hd)
theorem g_ldcw (X : Stand p l e R s m args below meth c T locs cells slots) (hx : p.tables.exec = Jvm.exec) (hZ : Z.Warmed39 s.vm) {own : String} {index : Nat} {v : Int32} (hown : s.vm.findClass own = some m.cls) (w : (Jvm.Cond.constant own index v).before a0 Z = true) (hd : decode c.code pc = .ok (.ldc_w index, 3)) (hp : pc + 3 = pc') (hr : own_Gl p e below s Q kc ks (T.setTop (mkF m pc' L (.int v :: S)))) : own_Gl p e below s Q kc ks (T.setTop (mkF m pc L S)) := by
  subst hp; exact hr.go (X.ldcwInt hx hown (mvT hZ w) (g := mkF m pc L S) rfl hd)
theorem g_ldc2 (X : Stand p l e R s m args below meth c T locs cells slots) (hx : p.tables.exec = Jvm.exec) (hZ : Z.Warmed39 s.vm) {own : String} {index : Nat} {v : Int64} (hown : s.vm.findClass own = some m.cls) (w : (Jvm.Cond.constantLong own index v).before a0 Z = true) (hd : decode c.code pc = .ok (.ldc2_w index, 3)) (hp : pc + 3 = pc') (hr : own_Gl p e below s Q kc ks (T.setTop (mkF m pc' L (.long v :: S)))) : own_Gl p e below s Q kc ks (T.setTop (mkF m pc L S)) := by
  subst hp; exact hr.go (X.ldc2Long hx hown (mvT hZ w) (g := mkF m pc L S) rfl hd)
end OwnKit
def own_Q0 (n0 : Nat) (v : Option Value) (h : Heap) (L : List Loc) : Prop := v = some (.int 1) ∧ Fr n0 L
theorem d1_0 : decode prog_16_method_4_code 0 = .ok (.lload_n 1, 1) := by decide +kernel
theorem d1_1 : decode prog_16_method_4_code 1 = .ok (.bipush 10, 2) := by decide +kernel
theorem d1_3 : decode prog_16_method_4_code 3 = .ok (.lshr, 1) := by decide +kernel
theorem d1_4 : decode prog_16_method_4_code 4 = .ok (.l2i, 1) := by decide +kernel
theorem d1_5 : decode prog_16_method_4_code 5 = .ok (.iload_n 0, 1) := by decide +kernel
theorem d1_6 : decode prog_16_method_4_code 6 = .ok (.isub, 1) := by decide +kernel
theorem d1_7 : decode prog_16_method_4_code 7 = .ok (.i2l, 1) := by decide +kernel
theorem d1_8 : decode prog_16_method_4_code 8 = .ok (.ldc2_w 9, 3) := by decide +kernel
theorem d1_11 : decode prog_16_method_4_code 11 = .ok (.land, 1) := by decide +kernel
theorem d1_12 : decode prog_16_method_4_code 12 = .ok (.lstore_n 3, 1) := by decide +kernel
theorem d1_13 : decode prog_16_method_4_code 13 = .ok (.iload_n 0, 1) := by decide +kernel
theorem d1_14 : decode prog_16_method_4_code 14 = .ok (.ifCond .eq 15, 3) := by decide +kernel
theorem d1_29 : decode prog_16_method_4_code 29 = .ok (.iconst 0, 1) := by decide +kernel
theorem d1_30 : decode prog_16_method_4_code 30 = .ok (.istore 5, 2) := by decide +kernel
theorem d1_32 : decode prog_16_method_4_code 32 = .ok (.iload 5, 2) := by decide +kernel
theorem d1_34 : decode prog_16_method_4_code 34 = .ok (.ifCond .eq 17, 3) := by decide +kernel
theorem d1_51 : decode prog_16_method_4_code 51 = .ok (.ldc2_w 13, 3) := by decide +kernel
theorem d1_54 : decode prog_16_method_4_code 54 = .ok (.lreturn, 1) := by decide +kernel
theorem d1_17 : decode prog_16_method_4_code 17 = .ok (.lload_n 3, 1) := by decide +kernel
theorem d1_18 : decode prog_16_method_4_code 18 = .ok (.ldc2_w 11, 3) := by decide +kernel
theorem d1_21 : decode prog_16_method_4_code 21 = .ok (.lcmp, 1) := by decide +kernel
theorem d1_22 : decode prog_16_method_4_code 22 = .ok (.ifCond .ge 7, 3) := by decide +kernel
theorem d1_25 : decode prog_16_method_4_code 25 = .ok (.iconst 1, 1) := by decide +kernel
theorem d1_26 : decode prog_16_method_4_code 26 = .ok (.goto 4, 3) := by decide +kernel
theorem d1_37 : decode prog_16_method_4_code 37 = .ok (.lload_n 1, 1) := by decide +kernel
theorem d1_38 : decode prog_16_method_4_code 38 = .ok (.lload_n 1, 1) := by decide +kernel
theorem d1_39 : decode prog_16_method_4_code 39 = .ok (.bipush 10, 2) := by decide +kernel
theorem d1_41 : decode prog_16_method_4_code 41 = .ok (.lshr, 1) := by decide +kernel
theorem d1_42 : decode prog_16_method_4_code 42 = .ok (.lload_n 3, 1) := by decide +kernel
theorem d1_43 : decode prog_16_method_4_code 43 = .ok (.lsub, 1) := by decide +kernel
theorem d1_44 : decode prog_16_method_4_code 44 = .ok (.bipush 10, 2) := by decide +kernel
theorem d1_46 : decode prog_16_method_4_code 46 = .ok (.lshl, 1) := by decide +kernel
theorem d1_47 : decode prog_16_method_4_code 47 = .ok (.lsub, 1) := by decide +kernel
theorem d1_48 : decode prog_16_method_4_code 48 = .ok (.goto 6, 3) := by decide +kernel
def f_age (x0 : Int32) (x1 : Int64) : Int64 := (if x0 = (0 : Int32) then (-1 : Int64) else (if (((((x1 >>> ((10 : Int32) &&& 0x3f).toInt64).toInt32) - x0).toInt64) &&& (4294967295 : Int64)) < (2147483648 : Int64) then (x1 - (((x1 >>> ((10 : Int32) &&& 0x3f).toInt64) - (((((x1 >>> ((10 : Int32) &&& 0x3f).toInt64).toInt32) - x0).toInt64) &&& (4294967295 : Int64))) <<< ((10 : Int32) &&& 0x3f).toInt64)) else (-1 : Int64)))
theorem pn_0 : plainName "com/example/cascadilla/cascadilla/group/Stamps" = true := by first | (simp [plainName, overriddenIn]; done) | decide +kernel
theorem ef_1 (m : MethodId) (x0 : Int32) (x1 : Int64) : entryFrame m #[(.int x0), (.long x1)] 6 = mkF m 0 #[.val (.int x0), .val (.long x1), .second, .unset, .unset, .unset] [] := by first | (simp [entryFrame, mkF, argsToLocals, Value.category]; done) | rfl
set_option maxRecDepth 65536 in
set_option maxHeartbeats 40000000 in
theorem rm1 (l : Launch) (Z : State) (a0 : Array Value) (hw : ∀ d ∈ tables_1, d.before a0 Z = true) (ws : List Jvm.Cond) (x0 : Int32) (x1 : Int64) (h0 : Heap) :
    MetFree l (⟨"com/example/cascadilla/cascadilla/group/Stamps", "age", "(IJ)J"⟩ : MethodName) (head1 (Jvm.Cond.code (⟨"com/example/cascadilla/cascadilla/group/Stamps", "age", "(IJ)J"⟩ : MethodName) prog_16_method_4_code 6 (some .long) :: ws) ({ frames := 0, cells := 0, slots := 0, locals := 0 } : Room)) (fun a U => a = #[(.int x0), (.long x1)] ∧ Z.Warmed39 U.vm ∧ U.heap = h0) (fun _ _ _ _ _ => True) (fun _ U o U' => ∃ v L, o = .returned v ∧ (own_Pure (some (.long (f_age x0 x1))) h0) v U'.heap L ∧ FrameEnd U o U' L ({ frames := 0, cells := 0, slots := 0, locals := 0 } : Room).cells ({ frames := 0, cells := 0, slots := 0, locals := 0 } : Room).slots) := by
  refine own_body (own := "com/example/cascadilla/cascadilla/group/Stamps") pn_0 rfl (fun m => ef_1 m x0 x1) ?_
  intro p e s m below meth c T0 hx hby hml hown hnm hlk hret hZ X0 e0
  have w_8 := hw _ (List.mem_of_getElem? (i := 8) rfl)
  have w_9 := hw _ (List.mem_of_getElem? (i := 9) rfl)
  have w_11 := hw _ (List.mem_of_getElem? (i := 11) rfl)
  refine g_lloadN X0.here hx (Jvm.hb hby d1_0) (pc' := 1) rfl rfl ?_
  refine g_bipush X0.here hx (Jvm.hb hby d1_1) (pc' := 3) rfl (z := (10 : Int32)) rfl ?_
  refine g_lshr X0.here hx (Jvm.hb hby d1_3) (pc' := 4) rfl ?_
  refine g_l2i X0.here hx (Jvm.hb hby d1_4) (pc' := 5) rfl ?_
  refine g_iloadN X0.here hx (Jvm.hb hby d1_5) (pc' := 6) rfl rfl ?_
  refine g_isub X0.here hx (Jvm.hb hby d1_6) (pc' := 7) rfl ?_
  refine g_i2l X0.here hx (Jvm.hb hby d1_7) (pc' := 8) rfl ?_
  refine g_ldc2 X0 hx hZ hown w_8 (Jvm.hb hby d1_8) (pc' := 11) rfl ?_
  refine g_land X0.here hx (Jvm.hb hby d1_11) (pc' := 12) rfl ?_
  refine g_lstoreN X0.here hx (Jvm.hb hby d1_12) (pc' := 13) rfl (L' := #[.val (.int x0), .val (.long x1), .second, .val (.long (((((x1 >>> ((10 : Int32) &&& 0x3f).toInt64).toInt32) - x0).toInt64) &&& (4294967295 : Int64))), .second, .unset]) rfl ?_
  refine g_iloadN X0.here hx (Jvm.hb hby d1_13) (pc' := 14) rfl rfl ?_
  by_cases hc14_0 : x0 = (0 : Int32)
  · refine g_ifY X0.here hx (Jvm.hb hby d1_14) (by decide) (pc' := 29) (by decide) ((if0 _ _).trans (teq hc14_0).1) ?_
    refine g_iconst X0.here hx (Jvm.hb hby d1_29) (pc' := 30) rfl (z := (0 : Int32)) rfl ?_
    refine g_istore X0.here hx (Jvm.hb hby d1_30) (pc' := 32) rfl (L' := #[.val (.int x0), .val (.long x1), .second, .val (.long (((((x1 >>> ((10 : Int32) &&& 0x3f).toInt64).toInt32) - x0).toInt64) &&& (4294967295 : Int64))), .second, .val (.int (0 : Int32))]) rfl ?_
    refine g_iload X0.here hx (Jvm.hb hby d1_32) (pc' := 34) rfl rfl ?_
    refine g_ifY X0.here hx (Jvm.hb hby d1_34) (by decide) (pc' := 51) (by decide) ((if0 _ _).trans (teq (by decide)).1) ?_
    refine g_ldc2 X0 hx hZ hown w_11 (Jvm.hb hby d1_51) (pc' := 54) rfl ?_
    exact g_retL X0 hx hlk hret (Jvm.hb hby d1_54) (Nat.zero_le _) (Nat.zero_le _) ⟨by simp only [f_age, if_pos hc14_0], rfl, e0⟩
  · refine g_ifN X0.here hx (Jvm.hb hby d1_14) (pc' := 17) rfl ((if0 _ _).trans (feq hc14_0).1) ?_
    refine g_lloadN X0.here hx (Jvm.hb hby d1_17) (pc' := 18) rfl rfl ?_
    refine g_ldc2 X0 hx hZ hown w_9 (Jvm.hb hby d1_18) (pc' := 21) rfl ?_
    refine g_lcmp X0.here hx (Jvm.hb hby d1_21) (pc' := 22) rfl ?_
    by_cases hc22_1 : (((((x1 >>> ((10 : Int32) &&& 0x3f).toInt64).toInt32) - x0).toInt64) &&& (4294967295 : Int64)) < (2147483648 : Int64)
    · refine g_ifN X0.here hx (Jvm.hb hby d1_22) (pc' := 25) rfl (own_tltL hc22_1).2.1 ?_
      refine g_iconst X0.here hx (Jvm.hb hby d1_25) (pc' := 26) rfl (z := (1 : Int32)) rfl ?_
      refine g_goto X0.here hx (Jvm.hb hby d1_26) (by decide) (pc' := 30) (by decide) ?_
      refine g_istore X0.here hx (Jvm.hb hby d1_30) (pc' := 32) rfl (L' := #[.val (.int x0), .val (.long x1), .second, .val (.long (((((x1 >>> ((10 : Int32) &&& 0x3f).toInt64).toInt32) - x0).toInt64) &&& (4294967295 : Int64))), .second, .val (.int (1 : Int32))]) rfl ?_
      refine g_iload X0.here hx (Jvm.hb hby d1_32) (pc' := 34) rfl rfl ?_
      refine g_ifN X0.here hx (Jvm.hb hby d1_34) (pc' := 37) rfl ((if0 _ _).trans (feq (by decide)).1) ?_
      refine g_lloadN X0.here hx (Jvm.hb hby d1_37) (pc' := 38) rfl rfl ?_
      refine g_lloadN X0.here hx (Jvm.hb hby d1_38) (pc' := 39) rfl rfl ?_
      refine g_bipush X0.here hx (Jvm.hb hby d1_39) (pc' := 41) rfl (z := (10 : Int32)) rfl ?_
      refine g_lshr X0.here hx (Jvm.hb hby d1_41) (pc' := 42) rfl ?_
      refine g_lloadN X0.here hx (Jvm.hb hby d1_42) (pc' := 43) rfl rfl ?_
      refine g_lsub X0.here hx (Jvm.hb hby d1_43) (pc' := 44) rfl ?_
      refine g_bipush X0.here hx (Jvm.hb hby d1_44) (pc' := 46) rfl (z := (10 : Int32)) rfl ?_
      refine g_lshl X0.here hx (Jvm.hb hby d1_46) (pc' := 47) rfl ?_
      refine g_lsub X0.here hx (Jvm.hb hby d1_47) (pc' := 48) rfl ?_
      refine g_goto X0.here hx (Jvm.hb hby d1_48) (by decide) (pc' := 54) (by decide) ?_
      exact g_retL X0 hx hlk hret (Jvm.hb hby d1_54) (Nat.zero_le _) (Nat.zero_le _) ⟨by simp only [f_age, if_neg hc14_0, if_pos hc22_1], rfl, e0⟩
    · refine g_ifY X0.here hx (Jvm.hb hby d1_22) (by decide) (pc' := 29) (by decide) (own_fltL hc22_1).2.1 ?_
      refine g_iconst X0.here hx (Jvm.hb hby d1_29) (pc' := 30) rfl (z := (0 : Int32)) rfl ?_
      refine g_istore X0.here hx (Jvm.hb hby d1_30) (pc' := 32) rfl (L' := #[.val (.int x0), .val (.long x1), .second, .val (.long (((((x1 >>> ((10 : Int32) &&& 0x3f).toInt64).toInt32) - x0).toInt64) &&& (4294967295 : Int64))), .second, .val (.int (0 : Int32))]) rfl ?_
      refine g_iload X0.here hx (Jvm.hb hby d1_32) (pc' := 34) rfl rfl ?_
      refine g_ifY X0.here hx (Jvm.hb hby d1_34) (by decide) (pc' := 51) (by decide) ((if0 _ _).trans (teq (by decide)).1) ?_
      refine g_ldc2 X0 hx hZ hown w_11 (Jvm.hb hby d1_51) (pc' := 54) rfl ?_
      exact g_retL X0 hx hlk hret (Jvm.hb hby d1_54) (Nat.zero_le _) (Nat.zero_le _) ⟨by simp only [f_age, if_neg hc14_0, if_neg hc22_1], rfl, e0⟩
theorem own_facts (n d : Int64) (o : Int32) (t : Int64) (ht : (((n - (n &&& (1023 : Int64))) - ((d &&& (4294967295 : Int64)) * (1024 : Int64))) + ((o &&& (1023 : Int32)).toInt64)) = t) :
    ((((n >>> ((10 : Int32) &&& 0x3f).toInt64).toInt32) - (t >>> ((10 : Int32) &&& 0x3f).toInt64).toInt32).toInt64 &&& (4294967295 : Int64)) = (d &&& (4294967295 : Int64)) ∧
    (n - (((n >>> ((10 : Int32) &&& 0x3f).toInt64) - (d &&& (4294967295 : Int64))) <<< ((10 : Int32) &&& 0x3f).toInt64)) = ((n &&& (1023 : Int64)) + ((d &&& (4294967295 : Int64)) * (1024 : Int64))) := by
  have e1 := c_maskL n 1023 10 (by decide) (by decide)
  have e2 := c_maskL d 4294967295 32 (by decide) (by decide)
  have e3 := c_mask o 1023 10 (by decide) (by decide)
  have e4 := c_i2l (o &&& 1023)
  have e5 := c_lsub n (n &&& 1023)
  have e6 := c_lmul (d &&& (4294967295 : Int64)) 1024
  have k1 : (1024 : Int64).toInt = 1024 := by decide
  rw [k1] at e6
  have e7 := c_lsub (n - (n &&& 1023)) ((d &&& (4294967295 : Int64)) * 1024)
  have e8 := c_ladd ((n - (n &&& 1023)) - ((d &&& (4294967295 : Int64)) * 1024)) ((o &&& 1023).toInt64)
  rw [ht] at e8
  have e9 := c_lshr n 10 10 (by decide)
  have e10 := c_lshr t 10 10 (by decide)
  have e11 := c_l2i (n >>> ((10 : Int32) &&& 0x3f).toInt64)
  have e12 := c_l2i (t >>> ((10 : Int32) &&& 0x3f).toInt64)
  have e13 := c_isub (n >>> ((10 : Int32) &&& 0x3f).toInt64).toInt32 (t >>> ((10 : Int32) &&& 0x3f).toInt64).toInt32
  have e14 := c_i2l ((n >>> ((10 : Int32) &&& 0x3f).toInt64).toInt32 - (t >>> ((10 : Int32) &&& 0x3f).toInt64).toInt32)
  have e15 := c_maskL (((n >>> ((10 : Int32) &&& 0x3f).toInt64).toInt32 - (t >>> ((10 : Int32) &&& 0x3f).toInt64).toInt32).toInt64) 4294967295 32 (by decide) (by decide)
  have e16 := c_lsub (n >>> ((10 : Int32) &&& 0x3f).toInt64) (d &&& (4294967295 : Int64))
  have e17 := c_lshl ((n >>> ((10 : Int32) &&& 0x3f).toInt64) - (d &&& (4294967295 : Int64))) 10 10 (by decide)
  have e18 := c_lsub n (((n >>> ((10 : Int32) &&& 0x3f).toInt64) - (d &&& (4294967295 : Int64))) <<< ((10 : Int32) &&& 0x3f).toInt64)
  have e19 := c_ladd (n &&& 1023) ((d &&& (4294967295 : Int64)) * 1024)
  simp only [Nat.reducePow] at e1 e2 e3 e9 e10 e15 e17
  have r1 := rng64 (n - (((n >>> ((10 : Int32) &&& 0x3f).toInt64) - (d &&& (4294967295 : Int64))) <<< ((10 : Int32) &&& 0x3f).toInt64))
  have r2 := rng64 ((n &&& 1023) + ((d &&& (4294967295 : Int64)) * 1024))
  have r3 := rng64 t
  have r4 := rng64 n
  simp only [← Int64.toInt_inj]
  constructor
  · clear e16 e17 e18 e19 r1 r2
    omega
  · clear e10 e11 e12 e13 e14 e15
    omega
theorem own_age0 (n : Int64) (st : Int32) (h : st = (0 : Int32)) : f_age st n = (-1 : Int64) := by
  rw [f_age, if_pos h]
theorem own_age1 (n d : Int64) (o : Int32) (t : Int64) (ht : (((n - (n &&& (1023 : Int64))) - ((d &&& (4294967295 : Int64)) * (1024 : Int64))) + ((o &&& (1023 : Int32)).toInt64)) = t) (h0 : ¬ (t >>> ((10 : Int32) &&& 0x3f).toInt64).toInt32 = (0 : Int32)) (h : ¬ (d &&& (4294967295 : Int64)) < (2147483648 : Int64)) : f_age (t >>> ((10 : Int32) &&& 0x3f).toInt64).toInt32 n = (-1 : Int64) := by
  have q := own_facts n d o t ht
  rw [f_age, if_neg h0, q.1, if_neg h]
theorem own_age2 (n d : Int64) (o : Int32) (t : Int64) (ht : (((n - (n &&& (1023 : Int64))) - ((d &&& (4294967295 : Int64)) * (1024 : Int64))) + ((o &&& (1023 : Int32)).toInt64)) = t) (h0 : ¬ (t >>> ((10 : Int32) &&& 0x3f).toInt64).toInt32 = (0 : Int32)) (h : (d &&& (4294967295 : Int64)) < (2147483648 : Int64)) : f_age (t >>> ((10 : Int32) &&& 0x3f).toInt64).toInt32 n = ((n &&& (1023 : Int64)) + ((d &&& (4294967295 : Int64)) * (1024 : Int64))) := by
  have q := own_facts n d o t ht
  rw [f_age, if_neg h0, q.1, if_pos h, q.2]
theorem pd_0 : parseMethodDescriptor "(IJ)J" = some ⟨[.int, .long], some .long⟩ := by decide +kernel
theorem pn_1 : plainName "com/example/cascadilla/cascadilla/group/StampsAgePinLaw" = true := by first | (simp [plainName, overriddenIn]; done) | decide +kernel
theorem ef_0 (m : MethodId) (x0 : Int64) (x1 : Int64) (x2 : Int32) : entryFrame m #[(.long x0), (.long x1), (.int x2)] maxLocals = mkF m 0 #[.val (.long x0), .second, .val (.long x1), .second, .val (.int x2), .unset, .unset, .unset, .unset, .unset, .unset, .unset, .unset, .unset, .unset, .unset] [] := by first | (simp [entryFrame, mkF, argsToLocals, Value.category, maxLocals]; done) | rfl
set_option maxRecDepth 65536 in
set_option maxHeartbeats 40000000 in
theorem rm0 (l : Launch) (Z : State) (a0 : Array Value) (hw : ∀ d ∈ tables_1, d.before a0 Z = true) (ws : List Jvm.Cond) (x0 : Int64) (x1 : Int64) (x2 : Int32) (h0 : Heap) (n0 : Nat) (Z0 : n0 ≤ h0.size) :
    MetFree l x (head1 (Jvm.Cond.code x code maxLocals ret :: ws) room_1) (fun a U => a = #[(.long x0), (.long x1), (.int x2)] ∧ Z.Warmed39 U.vm ∧ U.heap = h0) (fun _ _ _ _ _ => True) (fun _ U o U' => ∃ v L, o = .returned v ∧ (own_Q0 n0) v U'.heap L ∧ FrameEnd U o U' L room_1.cells room_1.slots) := by
  refine own_body (own := "com/example/cascadilla/cascadilla/group/StampsAgePinLaw") pn_1 rfl (fun m => ef_0 m x0 x1 x2) ?_
  intro p e s m below meth c T0 hx hby hml hown hnm hlk hret hZ X0 e0
  have w_0 := hw _ (List.mem_of_getElem? (i := 0) rfl)
  have w_1 := hw _ (List.mem_of_getElem? (i := 1) rfl)
  have w_2 := hw _ (List.mem_of_getElem? (i := 2) rfl)
  have w_3 := hw _ (List.mem_of_getElem? (i := 3) rfl)
  have w_4 := hw _ (List.mem_of_getElem? (i := 4) rfl)
  have w_5 := hw _ (List.mem_of_getElem? (i := 5) rfl)
  have w_6 := hw _ (List.mem_of_getElem? (i := 6) rfl)
  have w_7 := hw _ (List.mem_of_getElem? (i := 7) rfl)
  have w_10 := hw _ (List.mem_of_getElem? (i := 10) rfl)
  refine g_lloadN X0.here hx (Jvm.hb hby at_0) (pc' := 1) rfl rfl ?_
  refine g_ldc2 X0 hx hZ hown w_0 (Jvm.hb hby at_1) (pc' := 4) rfl ?_
  refine g_land X0.here hx (Jvm.hb hby at_4) (pc' := 5) rfl ?_
  refine g_lstore X0.here hx (Jvm.hb hby at_5) (pc' := 7) rfl (L' := #[.val (.long x0), .second, .val (.long x1), .second, .val (.int x2), .val (.long (x1 &&& (4294967295 : Int64))), .second, .unset, .unset, .unset, .unset, .unset, .unset, .unset, .unset, .unset]) rfl ?_
  refine g_iload X0.here hx (Jvm.hb hby at_7) (pc' := 9) rfl rfl ?_
  refine g_sipush X0.here hx (Jvm.hb hby at_9) (pc' := 12) rfl (z := (1023 : Int32)) rfl ?_
  refine g_iand X0.here hx (Jvm.hb hby at_12) (pc' := 13) rfl ?_
  refine g_i2l X0.here hx (Jvm.hb hby at_13) (pc' := 14) rfl ?_
  refine g_lstore X0.here hx (Jvm.hb hby at_14) (pc' := 16) rfl (L' := #[.val (.long x0), .second, .val (.long x1), .second, .val (.int x2), .val (.long (x1 &&& (4294967295 : Int64))), .second, .val (.long ((x2 &&& (1023 : Int32)).toInt64)), .second, .unset, .unset, .unset, .unset, .unset, .unset, .unset]) rfl ?_
  refine g_lloadN X0.here hx (Jvm.hb hby at_16) (pc' := 17) rfl rfl ?_
  refine g_lloadN X0.here hx (Jvm.hb hby at_17) (pc' := 18) rfl rfl ?_
  refine g_ldc2 X0 hx hZ hown w_1 (Jvm.hb hby at_18) (pc' := 21) rfl ?_
  refine g_land X0.here hx (Jvm.hb hby at_21) (pc' := 22) rfl ?_
  refine g_lsub X0.here hx (Jvm.hb hby at_22) (pc' := 23) rfl ?_
  refine g_lstore X0.here hx (Jvm.hb hby at_23) (pc' := 25) rfl (L' := #[.val (.long x0), .second, .val (.long x1), .second, .val (.int x2), .val (.long (x1 &&& (4294967295 : Int64))), .second, .val (.long ((x2 &&& (1023 : Int32)).toInt64)), .second, .val (.long (x0 - (x0 &&& (1023 : Int64)))), .second, .unset, .unset, .unset, .unset, .unset]) rfl ?_
  refine g_lload X0.here hx (Jvm.hb hby at_25) (pc' := 27) rfl rfl ?_
  refine g_lload X0.here hx (Jvm.hb hby at_27) (pc' := 29) rfl rfl ?_
  refine g_ldc2 X0 hx hZ hown w_2 (Jvm.hb hby at_29) (pc' := 32) rfl ?_
  refine g_lmul X0.here hx (Jvm.hb hby at_32) (pc' := 33) rfl ?_
  refine g_lsub X0.here hx (Jvm.hb hby at_33) (pc' := 34) rfl ?_
  refine g_lload X0.here hx (Jvm.hb hby at_34) (pc' := 36) rfl rfl ?_
  refine g_ladd X0.here hx (Jvm.hb hby at_36) (pc' := 37) rfl ?_
  refine g_lstore X0.here hx (Jvm.hb hby at_37) (pc' := 39) rfl (L' := #[.val (.long x0), .second, .val (.long x1), .second, .val (.int x2), .val (.long (x1 &&& (4294967295 : Int64))), .second, .val (.long ((x2 &&& (1023 : Int32)).toInt64)), .second, .val (.long (x0 - (x0 &&& (1023 : Int64)))), .second, .val (.long (((x0 - (x0 &&& (1023 : Int64))) - ((x1 &&& (4294967295 : Int64)) * (1024 : Int64))) + ((x2 &&& (1023 : Int32)).toInt64))), .second, .unset, .unset, .unset]) rfl ?_
  generalize ht : (((x0 - (x0 &&& (1023 : Int64))) - ((x1 &&& (4294967295 : Int64)) * (1024 : Int64))) + ((x2 &&& (1023 : Int32)).toInt64)) = t
  refine g_lload X0.here hx (Jvm.hb hby at_39) (pc' := 41) rfl rfl ?_
  refine g_bipush X0.here hx (Jvm.hb hby at_41) (pc' := 43) rfl (z := (10 : Int32)) rfl ?_
  refine g_lshr X0.here hx (Jvm.hb hby at_43) (pc' := 44) rfl ?_
  refine g_l2i X0.here hx (Jvm.hb hby at_44) (pc' := 45) rfl ?_
  refine g_istore X0.here hx (Jvm.hb hby at_45) (pc' := 47) rfl (L' := #[.val (.long x0), .second, .val (.long x1), .second, .val (.int x2), .val (.long (x1 &&& (4294967295 : Int64))), .second, .val (.long ((x2 &&& (1023 : Int32)).toInt64)), .second, .val (.long (x0 - (x0 &&& (1023 : Int64)))), .second, .val (.long t), .second, .val (.int ((t >>> ((10 : Int32) &&& 0x3f).toInt64).toInt32)), .unset, .unset]) rfl ?_
  refine g_iload X0.here hx (Jvm.hb hby at_47) (pc' := 49) rfl rfl ?_
  by_cases hc49 : ((t >>> ((10 : Int32) &&& 0x3f).toInt64).toInt32) = (0 : Int32)
  · refine g_ifN X0.here hx (Jvm.hb hby at_49) (pc' := 52) rfl ((if0 _ _).trans (teq hc49).2) ?_
    refine g_ldc2 X0 hx hZ hown w_10 (Jvm.hb hby at_52) (pc' := 55) rfl ?_
    refine g_lstore X0.here hx (Jvm.hb hby at_55) (pc' := 57) rfl (L' := #[.val (.long x0), .second, .val (.long x1), .second, .val (.int x2), .val (.long (x1 &&& (4294967295 : Int64))), .second, .val (.long ((x2 &&& (1023 : Int32)).toInt64)), .second, .val (.long (x0 - (x0 &&& (1023 : Int64)))), .second, .val (.long t), .second, .val (.int ((t >>> ((10 : Int32) &&& 0x3f).toInt64).toInt32)), .val (.long (-1 : Int64)), .second]) rfl ?_
    refine g_goto X0.here hx (Jvm.hb hby at_57) (by decide) (pc' := 91) (by decide) ?_
    refine g_iload X0.here hx (Jvm.hb hby at_91) (pc' := 93) rfl rfl ?_
    refine g_lloadN X0.here hx (Jvm.hb hby at_93) (pc' := 94) rfl rfl ?_
    refine g_callP X0 hx hZ hown w_4 w_5 w_6 w_7 (by decide) (rm1 l Z a0 hw [] ((t >>> ((10 : Int32) &&& 0x3f).toInt64).toInt32) x0 h0) 0 (by decide) (by decide) e0 (by rw [hml]; rfl) [(.int ((t >>> ((10 : Int32) &&& 0x3f).toInt64).toInt32)), (.long x0)] [] (lenOf pd_0 rfl) rfl rfl (Nat.le_of_eq rfl) (Jvm.hb hby at_94) (pc' := 97) rfl (Nat.zero_le _) (Nat.zero_le _) ?_
    intro T1 X1 e1
    show own_Gl p e below s (own_Q0 n0) room_1.cells room_1.slots (T1.setTop (mkF m 97 #[.val (.long x0), .second, .val (.long x1), .second, .val (.int x2), .val (.long (x1 &&& (4294967295 : Int64))), .second, .val (.long ((x2 &&& (1023 : Int32)).toInt64)), .second, .val (.long (x0 - (x0 &&& (1023 : Int64)))), .second, .val (.long t), .second, .val (.int ((t >>> ((10 : Int32) &&& 0x3f).toInt64).toInt32)), .val (.long (-1 : Int64)), .second] [(.long (f_age ((t >>> ((10 : Int32) &&& 0x3f).toInt64).toInt32) x0))]))
    refine g_lload X1.here hx (Jvm.hb hby at_97) (pc' := 99) rfl rfl ?_
    refine g_lcmp X1.here hx (Jvm.hb hby at_99) (pc' := 100) rfl ?_
    refine g_ifN X1.here hx (Jvm.hb hby at_100) (pc' := 103) rfl (own_teqL (own_age0 x0 _ hc49)).2 ?_
    refine g_iconst X1.here hx (Jvm.hb hby at_103) (pc' := 104) rfl (z := (1 : Int32)) rfl ?_
    refine g_goto X1.here hx (Jvm.hb hby at_104) (by decide) (pc' := 108) (by decide) ?_
    exact g_retN X1 hx hlk (t := .boolean) hret (by simp) (z' := (1 : Int32)) rfl (Jvm.hb hby at_108) (Nat.zero_le _) (Nat.zero_le _) ⟨rfl, Fr.nil n0⟩
  · refine g_ifY X0.here hx (Jvm.hb hby at_49) (by decide) (pc' := 60) (by decide) ((if0 _ _).trans (feq hc49).2) ?_
    refine g_lload X0.here hx (Jvm.hb hby at_60) (pc' := 62) rfl rfl ?_
    refine g_ldc2 X0 hx hZ hown w_3 (Jvm.hb hby at_62) (pc' := 65) rfl ?_
    refine g_lcmp X0.here hx (Jvm.hb hby at_65) (pc' := 66) rfl ?_
    by_cases hc66 : (x1 &&& (4294967295 : Int64)) < (2147483648 : Int64)
    · refine g_ifY X0.here hx (Jvm.hb hby at_66) (by decide) (pc' := 77) (by decide) (own_tltL hc66).1 ?_
      refine g_lloadN X0.here hx (Jvm.hb hby at_77) (pc' := 78) rfl rfl ?_
      refine g_ldc2 X0 hx hZ hown w_1 (Jvm.hb hby at_78) (pc' := 81) rfl ?_
      refine g_land X0.here hx (Jvm.hb hby at_81) (pc' := 82) rfl ?_
      refine g_lload X0.here hx (Jvm.hb hby at_82) (pc' := 84) rfl rfl ?_
      refine g_ldc2 X0 hx hZ hown w_2 (Jvm.hb hby at_84) (pc' := 87) rfl ?_
      refine g_lmul X0.here hx (Jvm.hb hby at_87) (pc' := 88) rfl ?_
      refine g_ladd X0.here hx (Jvm.hb hby at_88) (pc' := 89) rfl ?_
      refine g_lstore X0.here hx (Jvm.hb hby at_89) (pc' := 91) rfl (L' := #[.val (.long x0), .second, .val (.long x1), .second, .val (.int x2), .val (.long (x1 &&& (4294967295 : Int64))), .second, .val (.long ((x2 &&& (1023 : Int32)).toInt64)), .second, .val (.long (x0 - (x0 &&& (1023 : Int64)))), .second, .val (.long t), .second, .val (.int ((t >>> ((10 : Int32) &&& 0x3f).toInt64).toInt32)), .val (.long ((x0 &&& (1023 : Int64)) + ((x1 &&& (4294967295 : Int64)) * (1024 : Int64)))), .second]) rfl ?_
      refine g_iload X0.here hx (Jvm.hb hby at_91) (pc' := 93) rfl rfl ?_
      refine g_lloadN X0.here hx (Jvm.hb hby at_93) (pc' := 94) rfl rfl ?_
      refine g_callP X0 hx hZ hown w_4 w_5 w_6 w_7 (by decide) (rm1 l Z a0 hw [] ((t >>> ((10 : Int32) &&& 0x3f).toInt64).toInt32) x0 h0) 0 (by decide) (by decide) e0 (by rw [hml]; rfl) [(.int ((t >>> ((10 : Int32) &&& 0x3f).toInt64).toInt32)), (.long x0)] [] (lenOf pd_0 rfl) rfl rfl (Nat.le_of_eq rfl) (Jvm.hb hby at_94) (pc' := 97) rfl (Nat.zero_le _) (Nat.zero_le _) ?_
      intro T2 X2 e2
      show own_Gl p e below s (own_Q0 n0) room_1.cells room_1.slots (T2.setTop (mkF m 97 #[.val (.long x0), .second, .val (.long x1), .second, .val (.int x2), .val (.long (x1 &&& (4294967295 : Int64))), .second, .val (.long ((x2 &&& (1023 : Int32)).toInt64)), .second, .val (.long (x0 - (x0 &&& (1023 : Int64)))), .second, .val (.long t), .second, .val (.int ((t >>> ((10 : Int32) &&& 0x3f).toInt64).toInt32)), .val (.long ((x0 &&& (1023 : Int64)) + ((x1 &&& (4294967295 : Int64)) * (1024 : Int64)))), .second] [(.long (f_age ((t >>> ((10 : Int32) &&& 0x3f).toInt64).toInt32) x0))]))
      refine g_lload X2.here hx (Jvm.hb hby at_97) (pc' := 99) rfl rfl ?_
      refine g_lcmp X2.here hx (Jvm.hb hby at_99) (pc' := 100) rfl ?_
      refine g_ifN X2.here hx (Jvm.hb hby at_100) (pc' := 103) rfl (own_teqL (own_age2 x0 x1 x2 t ht hc49 hc66)).2 ?_
      refine g_iconst X2.here hx (Jvm.hb hby at_103) (pc' := 104) rfl (z := (1 : Int32)) rfl ?_
      refine g_goto X2.here hx (Jvm.hb hby at_104) (by decide) (pc' := 108) (by decide) ?_
      exact g_retN X2 hx hlk (t := .boolean) hret (by simp) (z' := (1 : Int32)) rfl (Jvm.hb hby at_108) (Nat.zero_le _) (Nat.zero_le _) ⟨rfl, Fr.nil n0⟩
    · refine g_ifN X0.here hx (Jvm.hb hby at_66) (pc' := 69) rfl (own_fltL hc66).1 ?_
      refine g_ldc2 X0 hx hZ hown w_10 (Jvm.hb hby at_69) (pc' := 72) rfl ?_
      refine g_lstore X0.here hx (Jvm.hb hby at_72) (pc' := 74) rfl (L' := #[.val (.long x0), .second, .val (.long x1), .second, .val (.int x2), .val (.long (x1 &&& (4294967295 : Int64))), .second, .val (.long ((x2 &&& (1023 : Int32)).toInt64)), .second, .val (.long (x0 - (x0 &&& (1023 : Int64)))), .second, .val (.long t), .second, .val (.int ((t >>> ((10 : Int32) &&& 0x3f).toInt64).toInt32)), .val (.long (-1 : Int64)), .second]) rfl ?_
      refine g_goto X0.here hx (Jvm.hb hby at_74) (by decide) (pc' := 91) (by decide) ?_
      refine g_iload X0.here hx (Jvm.hb hby at_91) (pc' := 93) rfl rfl ?_
      refine g_lloadN X0.here hx (Jvm.hb hby at_93) (pc' := 94) rfl rfl ?_
      refine g_callP X0 hx hZ hown w_4 w_5 w_6 w_7 (by decide) (rm1 l Z a0 hw [] ((t >>> ((10 : Int32) &&& 0x3f).toInt64).toInt32) x0 h0) 0 (by decide) (by decide) e0 (by rw [hml]; rfl) [(.int ((t >>> ((10 : Int32) &&& 0x3f).toInt64).toInt32)), (.long x0)] [] (lenOf pd_0 rfl) rfl rfl (Nat.le_of_eq rfl) (Jvm.hb hby at_94) (pc' := 97) rfl (Nat.zero_le _) (Nat.zero_le _) ?_
      intro T3 X3 e3
      show own_Gl p e below s (own_Q0 n0) room_1.cells room_1.slots (T3.setTop (mkF m 97 #[.val (.long x0), .second, .val (.long x1), .second, .val (.int x2), .val (.long (x1 &&& (4294967295 : Int64))), .second, .val (.long ((x2 &&& (1023 : Int32)).toInt64)), .second, .val (.long (x0 - (x0 &&& (1023 : Int64)))), .second, .val (.long t), .second, .val (.int ((t >>> ((10 : Int32) &&& 0x3f).toInt64).toInt32)), .val (.long (-1 : Int64)), .second] [(.long (f_age ((t >>> ((10 : Int32) &&& 0x3f).toInt64).toInt32) x0))]))
      refine g_lload X3.here hx (Jvm.hb hby at_97) (pc' := 99) rfl rfl ?_
      refine g_lcmp X3.here hx (Jvm.hb hby at_99) (pc' := 100) rfl ?_
      refine g_ifN X3.here hx (Jvm.hb hby at_100) (pc' := 103) rfl (own_teqL (own_age1 x0 x1 x2 t ht hc49 hc66)).2 ?_
      refine g_iconst X3.here hx (Jvm.hb hby at_103) (pc' := 104) rfl (z := (1 : Int32)) rfl ?_
      refine g_goto X3.here hx (Jvm.hb hby at_104) (by decide) (pc' := 108) (by decide) ?_
      exact g_retN X3 hx hlk (t := .boolean) hret (by simp) (z' := (1 : Int32)) rfl (Jvm.hb hby at_108) (Nat.zero_le _) (Nat.zero_le _) ⟨rfl, Fr.nil n0⟩
set_option maxRecDepth 65536 in
set_option maxHeartbeats 40000000 in
theorem comes_1 {Post : Tables → Env → Array Value → State → Outcome → State → Prop} (hpost : ∀ tb e args s v u, (limb_1_1.after args s (.returned v) u = true ∧ limb_1_2.after args s (.returned v) u = true ∧ True) → FrameEnd s (.returned v) u (Jvm.fieldLocs frame_1_writes args s ++ Jvm.arrayLocs frame_1_arrays args s ++ Jvm.staticLocs frame_1_statics s) 0 0 → Post tb e args s (.returned v) u) :
    ArmFor flags0 classFile x code maxLocals ret World_1 tables_1 room_1 Calls_1 rest_1 Pre_1 Post := by
  intro l hfl _ _ p e ha hc hk s m args below hf hA hF happ hP
  obtain ⟨hcalls, hrest, hpre⟩ := hP
  obtain ⟨-, -, -, hnamed, -, -, -, hat⟩ := (Spec.applies_iff hf).mp happ
  obtain ⟨hg, hn⟩ := and_e (Cond.before_iff.mp (show (Jvm.Cond.and given_1 narrow_1).before args s = true from hpre))
  obtain ⟨g1, g2⟩ := and_e hg
  obtain ⟨g3, g4⟩ := and_e g2
  obtain ⟨g5, g6⟩ := and_e g4
  obtain ⟨w0, w1, w2, rfl⟩ : ∃ w0 w1 w2 : Value, args = #[w0, w1, w2] := by
    have hs : args.size = 3 := by simpa [Cond.value, given_1] using g1
    obtain ⟨L⟩ := args
    match L, hs with
    | [w0, w1, w2], _ => exact ⟨w0, w1, w2, rfl⟩
  have hw := fun d (hd : d ∈ tables_1) => atoms_spec (ws := Jvm.Cond.code x code maxLocals ret :: tables_1) hat d (List.mem_cons_of_mem _ hd)
  obtain ⟨i0, ei0⟩ := isL_v g3
  obtain rfl : w0 = (.long i0) := Option.some.inj ei0
  obtain ⟨i1, ei1⟩ := isL_v g5
  obtain rfl : w1 = (.long i1) := Option.some.inj ei1
  obtain ⟨i2, ei2⟩ := is_v g6
  obtain rfl : w2 = (.int i2) := Option.some.inj ei2
  obtain ⟨n, o, h1, h2, h3, _, L, rfl, ⟨rfl, N⟩, hq⟩ := rm0 l s _ hw tables_1 i0 i1 i2 s.heap s.heap.size (Nat.le_refl _) p e ha hc hk s m _ below hf ((Spec.applies_iff_loose hf).mp happ).1 ⟨rfl, State.Warmed39.refl s, rfl⟩ trivial
  refine ⟨n, _, h1, h2, h3, hpost _ _ _ _ _ _ ⟨Cond.after_iff.mpr rfl, Cond.after_iff.mpr (eq_i res_at (Term.int_eval (1)) rfl), trivial⟩ ⟨hq.1, hq.2.1, (hq.2.2.sift fun y hy => Or.inr (N y hy)).mono (by decide) (by decide)⟩⟩
theorem main_1_1 : Claimed_1_1 := comes_1 fun _ _ _ _ _ _ h hF => ⟨h.1, hF⟩
theorem main_1_2 : Claimed_1_2 := comes_1 fun _ _ _ _ _ _ h hF => ⟨h.2.1, hF⟩
end Jvm.Pilot.@@N@@
namespace Jvm.Pilot.@@N@@
open Jvm Jvm.ClassFile Sem Op Lib Jvm.Free Jvm.Stand Jvm.Pilot.@@N@@.Jvm.D
/-! MADE BY PROGRAM (witnessworld.py) out of the Statement's table words and the real class files: 9 classes; the members and pool entries that the words name. The judged class is class 1, her method 1. -/
namespace start1
open Jvm.ClassFile
def u (s : String) : CpInfo := .utf8 (stringToUtf16 s)
/-- a pool by its gaps: so many unusable entries, then the entry; so many at the end -/
def gap : Nat → List CpInfo → List CpInfo
  | 0, r => r
  | n + 1, r => .unusable :: gap n r
def poolList (es : List (Nat × CpInfo)) (last : Nat) : List CpInfo := es.foldr (fun e r => gap e.1 (e.2 :: r)) (gap last [])
def pool (es : List (Nat × CpInfo)) (last : Nat) : Array CpInfo := ⟨poolList es last⟩
def fileOf (pool : Array CpInfo) (this : Nat) (attrs : Array Attribute := #[]) (ms : Array MethodInfo := #[]) (fl : Nat := 33) (sup : Nat := 0) (ifs : Array Nat := #[]) (fds : Array FieldInfo := #[]) : ClassFile where
  minorVersion := 0
  majorVersion := 65
  constantPool := pool
  accessFlags := fl
  thisClass := this
  superClass := sup
  interfaces := ifs
  fields := fds
  methods := ms
  attributes := attrs
def plain (name : String) (sup : Option ClassId) : Class where
  name := name
  kind := .ordinary
  loader := none
  accessFlags := 33
  super := sup
  interfaces := #[]
  cf := none
  fields := #[]
  methods := #[]
  instanceTypes := #[]
  staticTypes := #[]
  resolved := #[]
  callSites := []
  init := .initialized
  statics := none
  mirror := none

def pool0 : Array CpInfo := pool [(5, u "<init>"), (0, u "()V"), (1, .class_ 10), (1, u "java/lang/Object")] 113

def k0m0 : Method := { name := "<init>", desc := "()V", sig := { parameters := [], returnType := none }, accessFlags := 1, code := none }
/-- java/lang/Object -/
def k0 : Class := { plain "java/lang/Object" none with
  accessFlags := 33
  interfaces := #[]
  cf := some (fileOf pool0 8 #[] #[{ accessFlags := 1, nameIndex := 5, descriptorIndex := 6, attributes := #[] }] 33 0 #[] #[])
  fields := #[]
  methods := #[k0m0]
  instanceTypes := #[]
  staticTypes := #[]
  resolved := Array.replicate 124 none
  statics := none }

def pool1 : Array CpInfo := pool [(2, .class_ 4), (1, u "java/lang/Object"), (0, u "<init>"), (0, u "()V"), (0, .long 4294967295), (1, .long 1023), (1, .long 1024), (1, .long 18446744073709551615), (1, .long 2147483648), (1, .methodref 18 19), (0, .class_ 20), (0, .nameAndType 21 22), (0, u "com/example/cascadilla/cascadilla/group/Stamps"), (0, u "age"), (0, u "(IJ)J"), (0, .class_ 24), (0, u "com/example/cascadilla/cascadilla/group/StampsAgePinLaw"), (2, u "law"), (0, u "(JJI)Z")] 3

def k1m0 : Method := { name := "<init>", desc := "()V", sig := { parameters := [], returnType := none }, accessFlags := 2, code := none }
def k1c1 : Code := { maxStack := 6, maxLocals := 16, code := code, exceptionTable := #[], attributes := #[] }
def k1m1 : Method := { name := "law", desc := "(JJI)Z", sig := { parameters := [.long, .long, .int], returnType := some .boolean }, accessFlags := 9, code := some k1c1 }
/-- com/example/cascadilla/cascadilla/group/StampsAgePinLaw -/
def k1 : Class := { plain "com/example/cascadilla/cascadilla/group/StampsAgePinLaw" (some 0) with
  accessFlags := 49
  interfaces := #[]
  cf := some (fileOf pool1 23 #[] #[{ accessFlags := 2, nameIndex := 5, descriptorIndex := 6, attributes := #[] }, { accessFlags := 9, nameIndex := 27, descriptorIndex := 28, attributes := #[] }] 49 2 #[] #[])
  fields := #[]
  methods := #[k1m0, k1m1]
  instanceTypes := #[]
  staticTypes := #[]
  resolved := Array.replicate 32 none
  statics := none }

def pool2 : Array CpInfo := pool [(2, .class_ 4), (1, u "java/lang/Object"), (0, u "<init>"), (0, u "()V"), (0, .class_ 8), (0, u "com/example/cascadilla/cascadilla/group/Stamps"), (0, .long 4294967295), (1, .long 2147483648), (1, .long 18446744073709551615), (1, u "SHIFT"), (0, u "I"), (2, u "SPAN"), (0, u "J"), (0, u "UNITS"), (7, u "age"), (0, u "(IJ)J")] 2

def k2m0 : Method := { name := "<init>", desc := "()V", sig := { parameters := [], returnType := none }, accessFlags := 2, code := none }
def k2c1 : Code := { maxStack := 6, maxLocals := 6, code := prog_16_method_4_code, exceptionTable := #[], attributes := #[] }
def k2m1 : Method := { name := "age", desc := "(IJ)J", sig := { parameters := [.int, .long], returnType := some .long }, accessFlags := 8, code := some k2c1 }
/-- com/example/cascadilla/cascadilla/group/Stamps -/
def k2 : Class := { plain "com/example/cascadilla/cascadilla/group/Stamps" (some 0) with
  accessFlags := 48
  interfaces := #[]
  cf := some (fileOf pool2 7 #[] #[{ accessFlags := 2, nameIndex := 5, descriptorIndex := 6, attributes := #[] }, { accessFlags := 8, nameIndex := 29, descriptorIndex := 30, attributes := #[] }] 48 2 #[] #[{ accessFlags := 26, nameIndex := 15, descriptorIndex := 16, attributes := #[] }, { accessFlags := 26, nameIndex := 19, descriptorIndex := 20, attributes := #[] }, { accessFlags := 26, nameIndex := 21, descriptorIndex := 20, attributes := #[] }])
  fields := #[{ name := "SHIFT", type := .int, accessFlags := 26, slot := 0, constantValue := 0 }, { name := "SPAN", type := .long, accessFlags := 26, slot := 1, constantValue := 0 }, { name := "UNITS", type := .long, accessFlags := 26, slot := 2, constantValue := 0 }]
  methods := #[k2m0, k2m1]
  instanceTypes := #[]
  staticTypes := #[.int, .long, .long]
  resolved := Array.replicate 33 none
  statics := none }

def pool3 : Array CpInfo := pool [(1, u "java/lang/Cloneable"), (0, .class_ 1), (0, u "java/lang/Object"), (0, .class_ 3)] 3

/-- java/lang/Cloneable -/
def k3 : Class := { plain "java/lang/Cloneable" (some 0) with
  accessFlags := 1537
  interfaces := #[]
  cf := some (fileOf pool3 2 #[] #[] 1537 4 #[] #[])
  fields := #[]
  methods := #[]
  instanceTypes := #[]
  staticTypes := #[]
  resolved := Array.replicate 8 none
  statics := none }

def pool4 : Array CpInfo := pool [(1, u "java/io/Serializable"), (0, .class_ 1), (0, u "java/lang/Object"), (0, .class_ 3)] 3

/-- java/io/Serializable -/
def k4 : Class := { plain "java/io/Serializable" (some 0) with
  accessFlags := 1537
  interfaces := #[]
  cf := some (fileOf pool4 2 #[] #[] 1537 4 #[] #[])
  fields := #[]
  methods := #[]
  instanceTypes := #[]
  staticTypes := #[]
  resolved := Array.replicate 8 none
  statics := none }

/-- the primitive byte -/
def k5 : Class := { plain "byte" none with kind := .primitive 'B', accessFlags := 0x411 }
/-- [B -/
def k6 : Class := { plain "[B" (some 0) with kind := .array 5 .byte, interfaces := #[3, 4], accessFlags := 1041 }

/-- the primitive int -/
def k7 : Class := { plain "int" none with kind := .primitive 'I', accessFlags := 0x411 }
/-- [I -/
def k8 : Class := { plain "[I" (some 0) with kind := .array 7 .int, interfaces := #[3, 4], accessFlags := 1041 }

def heap : Heap := #[]
def classes : Array Class := #[k0, k1, k2, k3, k4, k5, k6, k7, k8]
def interned : List (Array UInt16 × Addr) := []
def slotsUsed : Nat := 0
def theMethod : MethodId := ⟨1, 1⟩
def args0 : Array Value := #[.long 5, .long 3, .int 1]
def aboutOver (below : List Frame) : State where
  vm := { classes := classes, interned := interned.toArray }
  heap := heap
  slotsUsed := slotsUsed
  threads := #[{ frames := .invoking theMethod args0 :: below }]
def below0 : List Frame := [.native { method := ⟨0, 0⟩, args := #[] }]
def about1 : State := aboutOver below0
def p0 : Program := .bare "" "" ""
def e0 : Env := launch0.env 0 0 0
theorem w_frames : about1.frames = Frame.invoking theMethod args0 :: below0 := rfl
set_option maxRecDepth 65536 in
theorem w_args : argsFit about1.vm theMethod args0 = true := by decide +kernel
set_option maxRecDepth 65536 in
theorem w_heap : heapFits about1 = true := by decide +kernel
set_option maxRecDepth 65536 in
theorem w_runnable : about1.curStatus? = some .runnable := by decide +kernel
set_option maxRecDepth 65536 in
theorem w_alone : about1.alone = true := by decide +kernel
set_option maxRecDepth 65536 in
theorem w_named : about1.methodNamed? x = some theMethod := by decide +kernel
set_option maxRecDepth 65536 in
theorem w_hears : about1.hears theMethod below0 = true := by decide +kernel
set_option maxRecDepth 65536 in
theorem w_ripe : about1.ripe theMethod args0 below0 = true := by decide +kernel
theorem w_running : about1.status = .running := rfl
set_option maxRecDepth 65536 in
theorem w_room : about1.hasRoom e0.platform room_1 = true :=
  launch0.hasRoom_least _ room_1 (by decide +kernel) (by decide +kernel) (by decide +kernel) (by decide +kernel) (by decide +kernel) (by decide +kernel)
theorem allAtoms_all (ts : List Jvm.Cond) (a : Array Jvm.Value) (st : Jvm.State) : (allAtoms ts).before a st = ts.all (fun c => c.before a st) := by
  induction ts with
  | nil => rfl
  | cons c t ih =>
    show (Jvm.Cond.and c (allAtoms t)).before a st = _
    rw [Jvm.Cond.before_and, ih, List.all_cons]
def words1 : List Jvm.Cond := Jvm.Cond.code x code maxLocals ret :: tables_1
/-- a 'code' word, met by the world's own term for the bytes: nothing is compared byte by byte -/
theorem code_word {y : MethodName} {bytes : ByteArray} {mx : Nat} {rt : Option FieldType} {a : Array Value} {s : State} {m : MethodId} {meth : Method} {c : Code} (h1 : s.methodNamed? y = some m) (h2 : s.vm.method? m = some meth) (h3 : meth.code = some c) (h4 : c.code = bytes)
    (h5 : (c.maxLocals == mx && c.exceptionTable.isEmpty && decide (c.maxStack ≤ mostOperands) && decide (meth.sig.returnType = rt) && !meth.locks && decide (parseMethodDescriptor y.desc = some meth.sig)) = true) : (Jvm.Cond.code y bytes mx rt).before a s = true := by
  simp only [Bool.and_eq_true, beq_iff_eq, Bool.not_eq_true', decide_eq_true_eq] at h5
  obtain ⟨⟨⟨⟨⟨g1, g2⟩, g3⟩, g4⟩, g5⟩, g6⟩ := h5
  simp [Cond.before, Cond.holds, Cond.value, h1, h2, h3, h4, g1, g2, g3, g4, g5, g6]
def isCode : Jvm.Cond → Bool
  | .code _ _ _ _ => true
  | _ => false
theorem all_split {L : List Jvm.Cond} {P : Jvm.Cond → Bool} (h1 : L.all (fun c => isCode c || P c) = true) (h2 : ∀ c ∈ L.filter isCode, P c = true) : L.all P = true := by
  refine List.all_eq_true.mpr fun c hc => ?_
  have h := List.all_eq_true.mp h1 c hc
  rcases Bool.eq_false_or_eq_true (isCode c) with hi | hi
  · exact h2 c (List.mem_filter.mpr ⟨hc, hi⟩)
  · simpa [hi] using h
set_option maxRecDepth 65536 in
theorem w_c0 : (Jvm.Cond.code x code maxLocals ret).before args0 about1 = true := code_word (m := ⟨1, 1⟩) (meth := k1m1) (c := k1c1) (by decide +kernel) rfl rfl rfl (by decide +kernel)
set_option maxRecDepth 65536 in
theorem w_c1 : (Jvm.Cond.code ({ cls := "com/example/cascadilla/cascadilla/group/Stamps", name := "age", desc := "(IJ)J" } : Jvm.MethodName) prog_16_method_4_code (6 : Nat) (Option.some Jvm.ClassFile.FieldType.long)).before args0 about1 = true := code_word (m := ⟨2, 1⟩) (meth := k2m1) (c := k2c1) (by decide +kernel) rfl rfl rfl (by decide +kernel)
def codes1 : List Jvm.Cond := [Jvm.Cond.code x code maxLocals ret, Jvm.Cond.code ({ cls := "com/example/cascadilla/cascadilla/group/Stamps", name := "age", desc := "(IJ)J" } : Jvm.MethodName) prog_16_method_4_code (6 : Nat) (Option.some Jvm.ClassFile.FieldType.long)]
set_option maxRecDepth 65536 in
theorem codes_eq : words1.filter isCode = codes1 := rfl
theorem w_codes : ∀ c ∈ words1.filter isCode, c.before args0 about1 = true := by
  rw [codes_eq]
  intro c hc
  simp only [codes1, List.mem_cons, List.not_mem_nil, or_false] at hc
  rcases hc with rfl | rfl
  · exact w_c0
  · exact w_c1
set_option maxRecDepth 65536 in
theorem w_t1 : words1.all (fun c => isCode c || c.before args0 about1) = true := by decide +kernel
theorem w_tables : (allAtoms (Jvm.Cond.code x code maxLocals ret :: tables_1)).before args0 about1 = true := by
  rw [allAtoms_all]
  show words1.all (fun c => c.before args0 about1) = true
  refine all_split ?_ w_codes
  rw [w_t1]
set_option maxRecDepth 65536 in
theorem w_case : (Jvm.Cond.and given_1 narrow_1).before args0 about1 = true := by decide +kernel
theorem w_applies : (headSpec (Jvm.Cond.code x code maxLocals ret :: tables_1) room_1).applies x e0.platform about1 = true :=
  (Spec.applies_iff w_frames).mpr ⟨w_running, w_runnable, w_alone, w_named, w_hears, w_ripe, w_room, w_tables⟩
theorem atStart : AtStart classFile x code maxLocals ret World_1 tables_1 room_1 Calls_1 rest_1 Pre_1 launch0 p0 e0 about1 theMethod args0 below0 :=
  ⟨lists_1, trivial, launch0.admits_env _ _ _, launch0.least_env, fairChoices_fair.cas, fairChoices_fair.clock, w_frames, w_args, w_heap, w_applies, trivial, trivial, w_case⟩
end start1
theorem witness_1 : WitnessClaimed_1 := ⟨start1.p0, start1.e0, start1.about1, start1.theMethod, start1.args0, start1.below0, start1.atStart⟩
end Jvm.Pilot.@@N@@
