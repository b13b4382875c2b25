import JvmDerived
import JvmDerived.Pilot.@@N@@Statement
import JvmDerived.Pilot.@@N@@Code
set_option linter.unusedVariables false
set_option linter.unusedSimpArgs false
namespace Jvm.Pilot.@@N@@
open Jvm Jvm.ClassFile Sem Op Lib Jvm.Free Jvm.Stand Jvm.LawKit Jvm.RoadKit Bundle Jvm.Pilot.@@N@@.Jvm.D
section OwnKit
variable {p : Program} {l : Launch} {e : Env} {R : Room} {s : State} {m : MethodId} {args : Array Value} {below : List Frame} {meth : Method} {c : Code} {T : State} {locs : List Loc} {cells slots : Nat} {Z : State} {a0 : Array Value} {h : Heap}
/-- from S on the run comes to the method's end, and there K holds -/
def own_Fin (p : Program) (e : Env) (below : List Frame) (K : State → Outcome → Prop) (S : State) : Prop :=
  ∃ s₂ o, Steps p.tables e below S s₂ ∧ s₂.status = .running ∧ Ended s₂ below o ∧ K s₂ o
theorem own_step {K : State → Outcome → Prop} {S S' : State} (k : ∀ t, Steps p.tables e below S' t → Steps p.tables e below S t) (hF : own_Fin p e below K S') : own_Fin p e below K S := by
  obtain ⟨s₂, o, h1, r⟩ := hF
  exact ⟨s₂, o, k _ h1, r⟩
/-- the three ends: nothing interned; perhaps a literal loaded, the invariant kept; the law's own -/
abbrev own_K (s : State) (Q : Option Value → Heap → List Loc → Prop) (rc rs : Nat) : State → Outcome → Prop := fun s₂ o => ∃ v L, o = .returned v ∧ Q v s₂.heap L ∧ FrameEnd s o s₂ L rc rs
abbrev own_KW (Z : State) (EL : List (String × Nat)) (s : State) (Q : Option Value → Heap → List Loc → Prop) (rc rs : Nat) : State → Outcome → Prop := fun s₂ o => ∃ v L, o = .returned v ∧ Q v s₂.heap L ∧ CHr Z EL s.vm s.heap s₂.vm s₂.heap ∧ ReturnedEndW s o s₂ L rc rs
abbrev own_KL (s : State) (Q : Option Value → Heap → List Loc → Prop) (rc rs : Nat) : State → Outcome → Prop := fun s₂ o => ∃ v L, o = .returned v ∧ Q v s₂.heap L ∧ ReturnedEndW s o s₂ L rc rs
abbrev own_Met (l : Launch) (y : MethodName) (bytes : ByteArray) (maxL : Nat) (ret : Option FieldType) (ws : List Jvm.Cond) (rm : Room) (Z : State) (as' : Array Value) (h0 : Heap) (Q : Option Value → Heap → List Loc → Prop) : Prop :=
  MetFree l y (head1 (Jvm.Cond.code y bytes maxL ret :: ws) rm) (fun a U => a = as' ∧ Z.Warmed39 U.vm ∧ U.heap = h0) (fun _ _ _ _ _ => True) (fun _ U o U' => ∃ v L, o = .returned v ∧ Q v U'.heap L ∧ FrameEnd U o U' L rm.cells rm.slots)
abbrev own_MetW (l : Launch) (y : MethodName) (bytes : ByteArray) (maxL : Nat) (ret : Option FieldType) (ws : List Jvm.Cond) (rm : Room) (Z : State) (EL : List (String × Nat)) (as' : Array Value) (h0 : Heap) (Q : Option Value → Heap → List Loc → Prop) : Prop :=
  MetFree l y (head1 (Jvm.Cond.code y bytes maxL ret :: ws) rm) (fun a U => a = as' ∧ Z.Warmed39 U.vm ∧ U.heap = h0 ∧ CHv Z EL U.vm h0) (fun _ _ _ _ _ => True) (fun _ U o U' => ∃ v L, o = .returned v ∧ Q v U'.heap L ∧ CHr Z EL U.vm U.heap U'.vm U'.heap ∧ ReturnedEndW U o U' L rm.cells rm.slots)
abbrev own_MetL (l : Launch) (y : MethodName) (bytes : ByteArray) (maxL : Nat) (ret : Option FieldType) (ws : List Jvm.Cond) (rm : Room) (Z : State) (EL : List (String × Nat)) (as' : Array Value) (h0 : Heap) (Q : Option Value → Heap → List Loc → Prop) : Prop :=
  MetFree l y (head1 (Jvm.Cond.code y bytes maxL ret :: ws) rm) (fun a U => a = as' ∧ Z.Warmed39 U.vm ∧ U.heap = h0 ∧ CHv Z EL U.vm h0) (fun _ _ _ _ _ => True) (fun _ U o U' => ∃ v L, o = .returned v ∧ Q v U'.heap L ∧ ReturnedEndW U o U' L rm.cells rm.slots)
section Bodies
variable {y : MethodName} {bytes : ByteArray} {maxL : Nat} {ret : Option FieldType} {ws : List Jvm.Cond} {rm : Room} {as' : Array Value} {h0 : Heap} {Q : Option Value → Heap → List Loc → Prop} {EL : List (String × Nat)}
theorem own_body (hy : plainFor y = true)
    (hB : ∀ (p : Program) (e : Env) (s : State) (m : MethodId) (below : List Frame) (meth : Method) (c : Code) (s₁ : State), Stand p l e rm s m as' below meth c s₁ [] 0 0 → p.tables.exec = Jvm.exec → c.code = bytes → c.maxLocals = maxL → s.vm.findClass y.cls = some m.cls → meth.name = y.name → meth.sig.returnType = ret → meth.locks = false → Z.Warmed39 s.vm → s₁.heap = h0 →
      own_Fin p e below (own_K s Q rm.cells rm.slots) (s₁.setTop (entryFrame m as' maxL))) : own_Met l y bytes maxL ret ws rm Z as' h0 Q := by
  refine MetFree.of_bodySF hy hisR ?_
  intro p e s m args below meth c s₁ Bd hml0 hP hK
  obtain ⟨rfl, hZ, hh⟩ := hP
  exact hB p e s m below meth c s₁ (Stand.of_body Bd) Bd.exec Bd.bytes hml0 (findClass_of_methodNamed Bd.named) (name_of_methodNamed Bd.named Bd.method).1 Bd.returns Bd.notSynchronized hZ (by rw [← hh, Bd.state]; rfl)
theorem own_bodyW (hy : plainFor y = true)
    (hB : ∀ (p : Program) (e : Env) (s : State) (m : MethodId) (below : List Frame) (meth : Method) (c : Code) (s₁ : State), Stand p l e rm (s.setVm s.vm) m as' below meth c s₁ [] 0 0 → p.tables.exec = Jvm.exec → c.code = bytes → c.maxLocals = maxL → (s.setVm s.vm).vm.findClass y.cls = some m.cls → meth.name = y.name → meth.sig.returnType = ret → meth.locks = false → Z.Warmed39 (s.setVm s.vm).vm → s₁.heap = h0 → s.heap = h0 → CHv Z EL s.vm h0 → s.Since s.vm h0.size →
      own_Fin p e below (own_KW Z EL s Q rm.cells rm.slots) (s₁.setTop (entryFrame m as' maxL))) : own_MetW l y bytes maxL ret ws rm Z EL as' h0 Q := by
  refine MetFree.of_bodySF hy hisR ?_
  intro p e s m args below meth c s₁ Bd hml0 hP hK
  obtain ⟨rfl, hZ, hh, hC⟩ := hP
  exact hB p e s m below meth c s₁ (Stand.of_body Bd) Bd.exec Bd.bytes hml0 (findClass_of_methodNamed Bd.named) (name_of_methodNamed Bd.named Bd.method).1 Bd.returns Bd.notSynchronized hZ (by rw [← hh, Bd.state]; rfl) hh hC ((State.WarmedH.refl s).since _)
theorem own_bodyL (hy : plainFor y = true)
    (hB : ∀ (p : Program) (e : Env) (s : State) (m : MethodId) (below : List Frame) (meth : Method) (c : Code) (s₁ : State), Stand p l e rm (s.setVm s.vm) m as' below meth c s₁ [] 0 0 → p.tables.exec = Jvm.exec → c.code = bytes → c.maxLocals = maxL → (s.setVm s.vm).vm.findClass y.cls = some m.cls → meth.name = y.name → meth.sig.returnType = ret → meth.locks = false → Z.Warmed39 (s.setVm s.vm).vm → s₁.heap = h0 → s.heap = h0 → CHv Z EL s.vm h0 → s.Since s.vm h0.size →
      own_Fin p e below (own_KL s Q rm.cells rm.slots) (s₁.setTop (entryFrame m as' maxL))) : own_MetL l y bytes maxL ret ws rm Z EL as' h0 Q := by
  refine MetFree.of_bodySF hy hisR ?_
  intro p e s m args below meth c s₁ Bd hml0 hP hK
  obtain ⟨rfl, hZ, hh, hC⟩ := hP
  exact hB p e s m below meth c s₁ (Stand.of_body Bd) Bd.exec Bd.bytes hml0 (findClass_of_methodNamed Bd.named) (name_of_methodNamed Bd.named Bd.method).1 Bd.returns Bd.notSynchronized hZ (by rw [← hh, Bd.state]; rfl) hh hC ((State.WarmedH.refl s).since _)
end Bodies
section Ends
variable {K : State → Outcome → Prop} {Q : Option Value → Heap → List Loc → Prop} {rc rs : Nat} {v : Option Value} {EL : List (String × Nat)} {vm0 : Vm} {k0 : Nat}
/-- what an end must show -/
abbrev own_E (s : State) (T : State) (locs : List Loc) (cells slots : Nat) (v : Option Value) (K : State → Outcome → Prop) : Prop := ∀ fs, s.WarmedH (T.setFrames fs).vm → s.sameButNew ({ T.setFrames fs with vm := s.vm } : State) locs cells slots → K (T.setFrames fs) (.returned v)
theorem own_kN (hc : cells ≤ rc) (hs : slots ≤ rs) (hQ : Q v T.heap locs) : own_E s T locs cells slots v (own_K s Q rc rs) := fun fs hW hsm => ⟨_, _, rfl, hQ, ⟨_, rfl⟩, hW, hsm.mono hc hs⟩
theorem own_kL (hS : s.Since vm0 k0) (hk : k0 ≤ T.heap.size) (hc : cells ≤ rc) (hs : slots ≤ rs) (hQ : Q v T.heap locs) : own_E (s.setVm vm0) T locs cells slots v (own_KL s Q rc rs) := fun fs hW hsm => by
  obtain ⟨a, b, c'⟩ := hS.ended (U := T.setFrames fs) hW hk hsm
  exact ⟨_, _, rfl, hQ, ⟨_, rfl⟩, a, b, c'.mono hc hs⟩
theorem own_kW (X : Stand p l e R (s.setVm vm0) m args below meth c T locs cells slots) (hZ : Z.Warmed39 vm0) (hEL : EW Z a0 EL) (hC : CHr Z EL s.vm s.heap vm0 T.heap) (hS : s.Since vm0 k0) (hk : k0 ≤ T.heap.size) (hc : cells ≤ rc) (hs : slots ≤ rs) (hQ : Q v T.heap locs) : own_E (s.setVm vm0) T locs cells slots v (own_KW Z EL s Q rc rs) := fun fs hW hsm => by
  obtain ⟨a, b, c'⟩ := hS.ended (U := T.setFrames fs) hW hk hsm
  exact ⟨_, _, rfl, hQ, hC.trans (show CHr Z EL vm0 T.heap T.vm T.heap from CHv.at X hZ hEL hC.1), ⟨_, rfl⟩, a, b, c'.mono hc hs⟩
theorem own_ret {S : State} (X : Stand p l e R s m args below meth c T locs cells slots) (hlk : meth.locks = false) (hv : meth.sig.returnType = none → v = none)
    (hst : ∀ fs, (∀ (f : JFrame) (acts : List Action), f.method = m → f.locked = none → f.entered = [] → (doReturn e (T.setTop f) acts v).1 = T.setFrames fs) → Steps p.tables e below S (T.setFrames fs))
    (hK : own_E s T locs cells slots v K) : own_Fin p e below K S := by
  obtain ⟨fs, hr, hrun, hended, hW, hsame⟩ := X.leave (v := v) hv hlk
  exact ⟨_, _, hst fs hr, hrun, hended, hK fs hW hsame⟩
variable {pc : Nat} {Ls : Array Slot}
theorem own_retV (X : Stand p l e R s m args below meth c T locs cells slots) (hx : p.tables.exec = Jvm.exec) (hlk : meth.locks = false) (hret : meth.sig.returnType = none) (hd : decode c.code pc = .ok (.return_, 1)) (hK : own_E s T locs cells slots none K) : own_Fin p e below K (T.setTop (mkF m pc Ls [])) :=
  own_ret X hlk (fun _ => rfl) (fun fs hr => X.returnOut hx hret hd hr) hK
theorem own_retI {z : Int32} (X : Stand p l e R s m args below meth c T locs cells slots) (hx : p.tables.exec = Jvm.exec) (hlk : meth.locks = false) (hret : meth.sig.returnType = some .int) (hd : decode c.code pc = .ok (.ireturn, 1)) (hK : own_E s T locs cells slots (some (.int z)) K) : own_Fin p e below K (T.setTop (mkF m pc Ls [.int z])) :=
  own_ret X hlk (fun q => by rw [hret] at q; cases q) (fun fs hr => retOut X hx hret rfl (Or.inl ⟨rfl, Or.inl rfl, z, rfl⟩) hd hr) hK
theorem own_retL {z : Int64} (X : Stand p l e R s m args below meth c T locs cells slots) (hx : p.tables.exec = Jvm.exec) (hlk : meth.locks = false) (hret : meth.sig.returnType = some .long) (hd : decode c.code pc = .ok (.lreturn, 1)) (hK : own_E s T locs cells slots (some (.long z)) K) : own_Fin p e below K (T.setTop (mkF m pc Ls [.long z])) :=
  own_ret X hlk (fun q => by rw [hret] at q; cases q) (fun fs hr => retOut X hx hret rfl (Or.inr (Or.inl ⟨rfl, rfl, z, rfl⟩)) hd hr) hK
theorem own_retA {w : Value} {t : FieldType} (X : Stand p l e R s m args below meth c T locs cells slots) (hx : p.tables.exec = Jvm.exec) (hlk : meth.locks = false) (hret : meth.sig.returnType = some t) (ht : t.isReference = true) (hn : narrow t w = w) (hw : w.isRef = true) (hd : decode c.code pc = .ok (.areturn, 1)) (hK : own_E s T locs cells slots (some w) K) : own_Fin p e below K (T.setTop (mkF m pc Ls [w])) :=
  own_ret X hlk (fun q => by rw [hret] at q; cases q) (fun fs hr => retOut X hx hret hn (Or.inr (Or.inr (Or.inr (Or.inr ⟨rfl, ht, hw⟩)))) hd hr) hK
/-- a boolean, byte, char or short that already fits -/
theorem own_retN {z : Int32} {t : FieldType} (X : Stand p l e R s m args below meth c T locs cells slots) (hx : p.tables.exec = Jvm.exec) (hlk : meth.locks = false) (hret : meth.sig.returnType = some t) (ht : t = .boolean ∨ t = .byte ∨ t = .char ∨ t = .short) (hn : nar t z = z) (hd : decode c.code pc = .ok (.ireturn, 1)) (hK : own_E s T locs cells slots (some (.int z)) K) : own_Fin p e below K (T.setTop (mkF m pc Ls [.int z])) :=
  own_ret X hlk (fun q => by rw [hret] at q; cases q) (fun fs hr => retN X hx hret ht hd (by rw [hn]; exact hr)) hK
end Ends
section Calls
variable {y z : MethodName} {bytes : ByteArray} {maxL W : Nat} {ret : Option FieldType} {rm : Room} {Q : Option Value → Heap → List Loc → Prop} {own C : String} {index : Nat} {b : Addr} {argsL rest : List Value} {g : JFrame}
theorem own_virt (X : Stand p l e R s m args below meth c T locs cells slots) (hx : p.tables.exec = Jvm.exec) (hZ : Z.Warmed39 s.vm) (hown : s.vm.findClass own = some m.cls) (w1 : (Jvm.Cond.methodLink own index y).before a0 Z = true) (w2 : (Jvm.Cond.declares y).before a0 Z = true) (nf : NotFace s y) (w3 : (Jvm.Cond.selects C y z).before a0 Z = true) (w4 : (Jvm.Cond.instanceMethod z).before a0 Z = true) (hy : y.cls ≠ "java/lang/invoke/MethodHandle" ∧ y.cls ≠ "java/lang/invoke/VarHandle")
    (wc : (Jvm.Cond.code z bytes maxL ret).before a0 Z = true) (wz : (Jvm.Cond.initialized z.cls).before a0 Z = true) (eT : T.heap = h) (E : Exa Z h b C) (hM : own_Met l z bytes maxL ret [] rm Z (.ref b :: argsL).toArray h Q) (hg : g.method = m) (hsize : g.locals.size = c.maxLocals) (hlen : ∀ sig, parseMethodDescriptor y.desc = some sig → argsL.length = sig.parameters.length)
    (hstack : g.stack = argsL.reverse ++ .ref b :: rest) (hW : 2 * g.monitorRoom + (rest.map fun v => v.category).sum ≤ W) (hd : decode c.code g.pc = .ok (.invokevirtual index, 3)) (hf : rm.frames + 1 ≤ R.frames) (hl : W + (maxL + 11) + rm.locals ≤ R.locals) (hc : cells + rm.cells ≤ R.cells) (hs : slots + rm.slots ≤ R.slots) :
    ∃ (v : Option Value) (T' : State) (L : List Loc), Stand p l e R s m args below meth c T' (locs ++ L) (cells + rm.cells) (slots + rm.slots) ∧ Q v T'.heap L ∧ ∀ t, Steps p.tables e below (T'.setTop { g with pc := g.pc + 3, stack := v.toList ++ rest }) t → Steps p.tables e below (T.setTop g) t := by
  obtain ⟨cq, kq, qa, qb, qc⟩ := isOf hZ eT E
  obtain ⟨v, vm1, ⟨T', L', k', n'⟩, -, X', ⟨L, hQ, hl', hk', hn'⟩, st⟩ := X.virtualBack hx (y := y) (z := z) hown (mvT hZ w1) (mvT hZ w2) nf (mvT hZ w3) (mvT hZ w4) hy (backOf (W := W) hM hZ wc wz hf hl) qa qc hg hsize (Steps.refl _) hlen hstack hW hd (fun _ _ => ⟨rfl, eT, hc, hs⟩)
  dsimp only [Pt.U, Pt.locs, Pt.cells, Pt.slots] at X' hl' hk' hn' st hQ
  subst hl' hk' hn'
  exact ⟨v, T', L, X', hQ, fun t k => st.trans k⟩
/-- a method that a superclass declares, named through the subclass -/
theorem own_virtUp {owner : String} (X : Stand p l e R s m args below meth c T locs cells slots) (hx : p.tables.exec = Jvm.exec) (hZ : Z.Warmed39 s.vm) (hown : s.vm.findClass own = some m.cls) (w1 : (Jvm.Cond.methodLink own index y).before a0 Z = true) (ws : (Jvm.Cond.sameMethod y.cls owner y.name y.desc).before a0 Z = true) (w2 : (Jvm.Cond.declares ⟨owner, y.name, y.desc⟩).before a0 Z = true) (ho : owner ≠ "java/lang/invoke/MethodHandle" ∧ owner ≠ "java/lang/invoke/VarHandle") (w3 : (Jvm.Cond.selects C y z).before a0 Z = true) (w4 : (Jvm.Cond.instanceMethod z).before a0 Z = true)
    (wc : (Jvm.Cond.code z bytes maxL ret).before a0 Z = true) (wz : (Jvm.Cond.initialized z.cls).before a0 Z = true) (eT : T.heap = h) (E : Exa Z h b C) (hM : own_Met l z bytes maxL ret [] rm Z (.ref b :: argsL).toArray h Q) (hg : g.method = m) (hsize : g.locals.size = c.maxLocals) (hlen : ∀ sig, parseMethodDescriptor y.desc = some sig → argsL.length = sig.parameters.length)
    (hstack : g.stack = argsL.reverse ++ .ref b :: rest) (hW : 2 * g.monitorRoom + (rest.map fun v => v.category).sum ≤ W) (hd : decode c.code g.pc = .ok (.invokevirtual index, 3)) (hf : rm.frames + 1 ≤ R.frames) (hl : W + (maxL + 11) + rm.locals ≤ R.locals) (hc : cells + rm.cells ≤ R.cells) (hs : slots + rm.slots ≤ R.slots) :
    ∃ (v : Option Value) (T' : State) (L : List Loc), Stand p l e R s m args below meth c T' (locs ++ L) (cells + rm.cells) (slots + rm.slots) ∧ Q v T'.heap L ∧ ∀ t, Steps p.tables e below (T'.setTop { g with pc := g.pc + 3, stack := v.toList ++ rest }) t → Steps p.tables e below (T.setTop g) t := by
  obtain ⟨cq, kq, qa, qb, qc⟩ := isOf hZ eT E
  obtain ⟨v, vm1, ⟨T', L', k', n'⟩, -, X', ⟨L, hQ, hl', hk', hn'⟩, st⟩ := X.virtualBackUp hx (x := y) (y := z) hown (mvT hZ w1) (mvT hZ ws) (mvT hZ w2) ho (mvT hZ w3) (mvT hZ w4) (backOf (W := W) hM hZ wc wz hf hl) qa qc hg hsize (Steps.refl _) hlen hstack hW hd (fun _ _ => ⟨rfl, eT, hc, hs⟩)
  dsimp only [Pt.U, Pt.locs, Pt.cells, Pt.slots] at X' hl' hk' hn' st hQ
  subst hl' hk' hn'
  exact ⟨v, T', L, X', hQ, fun t k => st.trans k⟩
theorem own_stat (X : Stand p l e R s m args below meth c T locs cells slots) (hx : p.tables.exec = Jvm.exec) (hZ : Z.Warmed39 s.vm) (hown : s.vm.findClass own = some m.cls) (w1 : (Jvm.Cond.methodLink own index y).before a0 Z = true) (w2 : (Jvm.Cond.static y).before a0 Z = true) (hy : y.cls ≠ "java/lang/invoke/MethodHandle" ∧ y.cls ≠ "java/lang/invoke/VarHandle")
    (wc : (Jvm.Cond.code y bytes maxL ret).before a0 Z = true) (wz : (Jvm.Cond.initialized y.cls).before a0 Z = true) (eT : T.heap = h) (hM : own_Met l y bytes maxL ret [] rm Z argsL.toArray h Q) (hg : g.method = m) (hsize : g.locals.size = c.maxLocals) (hlen : ∀ sig, parseMethodDescriptor y.desc = some sig → argsL.length = sig.parameters.length)
    (hstack : g.stack = argsL.reverse ++ rest) (hW : 2 * g.monitorRoom + (rest.map fun v => v.category).sum ≤ W) (hd : decode c.code g.pc = .ok (.invokestatic index, 3)) (hf : rm.frames + 1 ≤ R.frames) (hl : W + (maxL + 11) + rm.locals ≤ R.locals) (hc : cells + rm.cells ≤ R.cells) (hs : slots + rm.slots ≤ R.slots) :
    ∃ (v : Option Value) (T' : State) (L : List Loc), Stand p l e R s m args below meth c T' (locs ++ L) (cells + rm.cells) (slots + rm.slots) ∧ Q v T'.heap L ∧ ∀ t, Steps p.tables e below (T'.setTop { g with pc := g.pc + 3, stack := v.toList ++ rest }) t → Steps p.tables e below (T.setTop g) t := by
  obtain ⟨v, vm1, ⟨T', L', k', n'⟩, -, X', ⟨L, hQ, hl', hk', hn'⟩, st⟩ := Jvm.LawKit.callS X hx (y := y) hown (mvT hZ w1) (mvT hZ w2) (mvT hZ wz) (mvT hZ wc) hy (backOf (W := W) hM hZ wc wz hf hl) hg hsize hlen hstack hW hd (fun _ _ => ⟨rfl, eT, hc, hs⟩)
  dsimp only [Pt.U, Pt.locs, Pt.cells, Pt.slots] at X' hl' hk' hn' st hQ
  subst hl' hk' hn'
  exact ⟨v, T', L, X', hQ, st⟩
theorem own_spec {bytes : ByteArray} {maxL : Nat} (X : Stand p l e R s m args below meth c T locs cells slots) (hx : p.tables.exec = Jvm.exec) (hZ : Z.Warmed39 s.vm) (hy1 : y.name = "<init>") (hown : s.vm.findClass own = some m.cls) (w1 : (Jvm.Cond.methodLink own index y).before a0 Z = true) (w2 : (Jvm.Cond.instanceMethod y).before a0 Z = true) (hy : y.cls ≠ "java/lang/invoke/MethodHandle" ∧ y.cls ≠ "java/lang/invoke/VarHandle")
    (wc : (Jvm.Cond.code y bytes maxL none).before a0 Z = true) (wz : (Jvm.Cond.initialized y.cls).before a0 Z = true) (eT : T.heap = h) (hM : own_Met l y bytes maxL none [] rm Z (.ref b :: argsL).toArray h Q) (hg : g.method = m) (hsize : g.locals.size = c.maxLocals) (hlen : ∀ sig, parseMethodDescriptor y.desc = some sig → argsL.length = sig.parameters.length)
    (hstack : g.stack = argsL.reverse ++ .ref b :: rest) (hW : 2 * g.monitorRoom + (rest.map fun v => v.category).sum ≤ W) (hd : decode c.code g.pc = .ok (.invokespecial index, 3)) (hf : rm.frames + 1 ≤ R.frames) (hl : W + (maxL + 11) + rm.locals ≤ R.locals) (hc : cells + rm.cells ≤ R.cells) (hs : slots + rm.slots ≤ R.slots) :
    ∃ (v : Option Value) (T' : State) (L : List Loc), Stand p l e R s m args below meth c T' (locs ++ L) (cells + rm.cells) (slots + rm.slots) ∧ Q v T'.heap L ∧ ∀ t, Steps p.tables e below (T'.setTop { g with pc := g.pc + 3, stack := v.toList ++ rest }) t → Steps p.tables e below (T.setTop g) t := by
  obtain ⟨v, vm1, ⟨T', L', k', n'⟩, -, X', ⟨L, hQ, hl', hk', hn'⟩, st⟩ := X.specialBack hx (y := y) hy1 hown (mvT hZ w1) (mvT hZ w2) (mvT hZ wc) hy (backOf (W := W) hM hZ wc wz hf hl) hg hsize (Steps.refl _) hlen hstack hW hd (fun _ _ => ⟨rfl, eT, hc, hs⟩)
  dsimp only [Pt.U, Pt.locs, Pt.cells, Pt.slots] at X' hl' hk' hn' st hQ
  subst hl' hk' hn'
  exact ⟨v, T', L, X', hQ, fun t k => st.trans k⟩
end Calls
section Words
variable {first : State} {o : Option Outcome} {idx : List Nat} {a b t : Term} {v : Value} {C n d : String}
theorem own_eqI {k : Int32} (hq : (Jvm.Cond.eq a (.int k)).value args first o s idx = some true) : a.eval args first o idx s = some (.int k) := by
  cases ha : a.eval args first o idx s with
  | none => simp [Cond.value, ha] at hq
  | some x => cases x <;> simp [Cond.value, ha, Term.eval] at hq ⊢ <;> exact hq
theorem own_eqR {y : Addr} (hb : b.eval args first o idx s = some (.ref y)) (hq : (Jvm.Cond.eq a b).value args first o s idx = some true) : a.eval args first o idx s = some (.ref y) := by
  cases ha : a.eval args first o idx s with
  | none => simp [Cond.value, ha] at hq
  | some x => cases x <;> simp [Cond.value, ha, hb] at hq ⊢ <;> exact hq
theorem own_fld {x : Addr} (ht : t.eval args Z none [] Z = some (.ref x)) (hq : (Term.field t C n d).eval args Z none [] Z = some v) : Fld Z Z.heap x C n d v := Fld.start ((fld_at ht).symm.trans hq)
/-- an array of a known length -/
def own_Aln (Z : State) (h : Heap) (a : Addr) (ty : FieldType) (n : Int32) : Prop := ∃ c : Cell, Arr Z h a c ty ∧ c.slots.size = n.toNatClampNeg ∧ ¬ n < 0
theorem own_len {a : Addr} {cl : Cell} {ty : FieldType} {k : Int32} (ht : t.eval args Z none [] Z = some (.ref a)) (A : Arr Z Z.heap a cl ty) (hq : (Term.length t).eval args Z none [] Z = some (.int k)) (hk : ¬ k < 0 := by decide) : own_Aln Z Z.heap a ty k := by
  have hc : Z.arrayAt? a = some cl := A.fin (Vm.Alike.refl _)
  simp only [Term.eval, ht, hc, Option.bind_eq_bind, Option.bind_some] at hq
  by_cases hb : cl.slots.size < 2 ^ 31
  · simp only [hb, if_true, Option.pure_def, Option.some.injEq, Value.int.injEq] at hq
    refine ⟨cl, A, ?_, hk⟩
    have h1 := len_toInt hb
    rw [hq] at h1
    have h2 := nat_of hk
    omega
  · simp [hb] at hq
end Words
theorem own_exaStat {a : Addr} {C : String} (F : Exa Z h a C) : ∀ cell : Cell, h[a]? = some cell → cell.vm.isStatics = false := fun cell hc => by
  obtain ⟨c', _, h1, -, -, h4, -⟩ := F
  cases h1.symm.trans hc
  exact h4
theorem own_staKeep {h' : Heap} {C n d : String} {v : Value} {ws : List Addr} (F : Sta Z h C n d v) (K : Keep h h' ws) (q : ∀ x ∈ ws, ∀ cell : Cell, h[x]? = some cell → cell.vm.isStatics = false) : Sta Z h' C n d v := by
  obtain ⟨cf, i, k, f, st, cell, h1, h2, h3, h4, h5, h6, h7⟩ := F
  exact ⟨cf, i, k, f, st, cell, h1, h2, h3, h4, K.2.1 st cell h5 (fun hm => by rw [q st hm cell h5] at h6; cases h6), h6, h7⟩
theorem own_ite {α : Type} (P : Prop) (x y : α) : ∃ z : α, (P → z = x) ∧ (¬ P → z = y) := by
  by_cases hP : P
  · exact ⟨x, fun _ => rfl, fun q => absurd hP q⟩
  · exact ⟨y, fun q => absurd q hP, fun _ => rfl⟩
theorem own_irr (x : Int64) : ¬ x < x := by simp
theorem own_tri (x y : Int64) : x < y ∨ x = y ∨ y < x := by
  simp only [Int64.lt_iff_toInt_lt, ← Int64.toInt_inj]
  omega
theorem own_asym {x y : Int64} (q : x < y) : ¬ y < x := by
  simp only [Int64.lt_iff_toInt_lt] at *
  omega
theorem own_ltne {x y : Int64} (q : x < y) : ¬ x = y := fun u => own_irr _ (u ▸ q)
theorem own_gtne {x y : Int64} (q : y < x) : ¬ x = y := fun u => own_irr _ (u ▸ q)
end OwnKit
section OwnSteps
variable {p : Program} {l : Launch} {e : Env} {R : Room} {s : State} {m : MethodId} {args : Array Value} {below : List Frame} {meth : Method} {c : Code} {T : State} {locs : List Loc} {cells slots : Nat} {Z : State} {a0 : Array Value} {h : Heap}
variable {K : State → Outcome → Prop} {pc : Nat} {Ls l' : Array Slot} {S : List Value}
abbrev own_At (p : Program) (e : Env) (below : List Frame) (K : State → Outcome → Prop) (T : State) (m : MethodId) (pc : Nat) (Ls : Array Slot) (S : List Value) : Prop := own_Fin p e below K (T.setTop (mkF m pc Ls S))
theorem own_iload (X : Stand p l e R s m args below meth c T locs cells slots) (hx : p.tables.exec = Jvm.exec) {k : Nat} {v : Int32} (hd : decode c.code pc = .ok (.iload k, 2)) (hl : Ls[k]? = some (.val (.int v))) (hF : own_At p e below K T m (pc + 2) Ls ((.int v) :: S)) : own_At p e below K T m pc Ls S := own_step (fun _ k => XS.iload X.here hx rfl hd hl k) hF
theorem own_iloadN (X : Stand p l e R s m args below meth c T locs cells slots) (hx : p.tables.exec = Jvm.exec) {k : Fin 4} {v : Int32} (hd : decode c.code pc = .ok (.iload_n k, 1)) (hl : Ls[k.val]? = some (.val (.int v))) (hF : own_At p e below K T m (pc + 1) Ls ((.int v) :: S)) : own_At p e below K T m pc Ls S := own_step (fun _ k => XS.iloadN X.here hx rfl hd hl k) hF
theorem own_lload (X : Stand p l e R s m args below meth c T locs cells slots) (hx : p.tables.exec = Jvm.exec) {k : Nat} {v : Int64} (hd : decode c.code pc = .ok (.lload k, 2)) (hl : Ls[k]? = some (.val (.long v))) (hF : own_At p e below K T m (pc + 2) Ls ((.long v) :: S)) : own_At p e below K T m pc Ls S := own_step (fun _ k => XS.lload X.here hx rfl hd hl k) hF
theorem own_lloadN (X : Stand p l e R s m args below meth c T locs cells slots) (hx : p.tables.exec = Jvm.exec) {k : Fin 4} {v : Int64} (hd : decode c.code pc = .ok (.lload_n k, 1)) (hl : Ls[k.val]? = some (.val (.long v))) (hF : own_At p e below K T m (pc + 1) Ls ((.long v) :: S)) : own_At p e below K T m pc Ls S := own_step (fun _ k => XS.lloadN X.here hx rfl hd hl k) hF
theorem own_aload (X : Stand p l e R s m args below meth c T locs cells slots) (hx : p.tables.exec = Jvm.exec) {k : Nat} {v : Value} (hd : decode c.code pc = .ok (.aload k, 2)) (hl : Ls[k]? = some (.val v)) (hv : v.isRef = true) (hF : own_At p e below K T m (pc + 2) Ls (v :: S)) : own_At p e below K T m pc Ls S := own_step (fun _ k => XS.aload X.here hx rfl hd hl hv k) hF
theorem own_aloadN (X : Stand p l e R s m args below meth c T locs cells slots) (hx : p.tables.exec = Jvm.exec) {k : Fin 4} {v : Value} (hd : decode c.code pc = .ok (.aload_n k, 1)) (hl : Ls[k.val]? = some (.val v)) (hv : v.isRef = true) (hF : own_At p e below K T m (pc + 1) Ls (v :: S)) : own_At p e below K T m pc Ls S := own_step (fun _ k => XS.aloadN X.here hx rfl hd hl hv k) hF
theorem own_istore (X : Stand p l e R s m args below meth c T locs cells slots) (hx : p.tables.exec = Jvm.exec) {k : Nat} {v : Int32} (hd : decode c.code pc = .ok (.istore k, 2)) (hl : storeLocals Ls k (.int v) = some l') (hF : own_At p e below K T m (pc + 2) l' S) : own_At p e below K T m pc Ls ((.int v) :: S) := own_step (fun _ k => XS.istore X.here hx rfl hd rfl hl k) hF
theorem own_istoreN (X : Stand p l e R s m args below meth c T locs cells slots) (hx : p.tables.exec = Jvm.exec) {k : Fin 4} {v : Int32} (hd : decode c.code pc = .ok (.istore_n k, 1)) (hl : storeLocals Ls k.val (.int v) = some l') (hF : own_At p e below K T m (pc + 1) l' S) : own_At p e below K T m pc Ls ((.int v) :: S) := own_step (fun _ k => XS.istoreN X.here hx rfl hd rfl hl k) hF
theorem own_lstore (X : Stand p l e R s m args below meth c T locs cells slots) (hx : p.tables.exec = Jvm.exec) {k : Nat} {v : Int64} (hd : decode c.code pc = .ok (.lstore k, 2)) (hl : storeLocals Ls k (.long v) = some l') (hF : own_At p e below K T m (pc + 2) l' S) : own_At p e below K T m pc Ls ((.long v) :: S) := own_step (fun _ k => XS.lstore X.here hx rfl hd rfl hl k) hF
theorem own_lstoreN (X : Stand p l e R s m args below meth c T locs cells slots) (hx : p.tables.exec = Jvm.exec) {k : Fin 4} {v : Int64} (hd : decode c.code pc = .ok (.lstore_n k, 1)) (hl : storeLocals Ls k.val (.long v) = some l') (hF : own_At p e below K T m (pc + 1) l' S) : own_At p e below K T m pc Ls ((.long v) :: S) := own_step (fun _ k => XS.lstoreN X.here hx rfl hd rfl hl k) hF
theorem own_astore (X : Stand p l e R s m args below meth c T locs cells slots) (hx : p.tables.exec = Jvm.exec) {k : Nat} {v : Value} (hd : decode c.code pc = .ok (.astore k, 2)) (hv : v.isRef = true) (hl : storeLocals Ls k v = some l') (hF : own_At p e below K T m (pc + 2) l' S) : own_At p e below K T m pc Ls (v :: S) := own_step (fun _ k => XS.astore X.here hx rfl hd rfl hv hl k) hF
theorem own_astoreN (X : Stand p l e R s m args below meth c T locs cells slots) (hx : p.tables.exec = Jvm.exec) {k : Fin 4} {v : Value} (hd : decode c.code pc = .ok (.astore_n k, 1)) (hv : v.isRef = true) (hl : storeLocals Ls k.val v = some l') (hF : own_At p e below K T m (pc + 1) l' S) : own_At p e below K T m pc Ls (v :: S) := own_step (fun _ k => XS.astoreN X.here hx rfl hd rfl hv hl k) hF
theorem own_iconst (X : Stand p l e R s m args below meth c T locs cells slots) (hx : p.tables.exec = Jvm.exec) {i : Int} (z : Int32) (hd : decode c.code pc = .ok (.iconst i, 1)) (hz : Int32.ofInt i = z) (hF : own_At p e below K T m (pc + 1) Ls (.int z :: S)) : own_At p e below K T m pc Ls S := own_step (fun _ k => XS.iconst X.here hx rfl hd (by rw [hz]; exact k)) hF
theorem own_bipush (X : Stand p l e R s m args below meth c T locs cells slots) (hx : p.tables.exec = Jvm.exec) {i : Int} (z : Int32) (hd : decode c.code pc = .ok (.bipush i, 2)) (hz : (Int8.ofInt i).toInt32 = z) (hF : own_At p e below K T m (pc + 2) Ls (.int z :: S)) : own_At p e below K T m pc Ls S := own_step (fun _ k => XS.bipush X.here hx rfl hd (by rw [hz]; exact k)) hF
theorem own_sipush (X : Stand p l e R s m args below meth c T locs cells slots) (hx : p.tables.exec = Jvm.exec) {i : Int} (z : Int32) (hd : decode c.code pc = .ok (.sipush i, 3)) (hz : (Int16.ofInt i).toInt32 = z) (hF : own_At p e below K T m (pc + 3) Ls (.int z :: S)) : own_At p e below K T m pc Ls S := own_step (fun _ k => XS.sipush X.here hx rfl hd (by rw [hz]; exact k)) hF
theorem own_lconst0 (X : Stand p l e R s m args below meth c T locs cells slots) (hx : p.tables.exec = Jvm.exec) (hd : decode c.code pc = .ok (.lconst 0, 1)) (hF : own_At p e below K T m (pc + 1) Ls (.long (0 : Int64) :: S)) : own_At p e below K T m pc Ls S := own_step (fun _ k => XS.lconst X.here hx rfl hd k) hF
theorem own_lconst1 (X : Stand p l e R s m args below meth c T locs cells slots) (hx : p.tables.exec = Jvm.exec) (hd : decode c.code pc = .ok (.lconst 1, 1)) (hF : own_At p e below K T m (pc + 1) Ls (.long (1 : Int64) :: S)) : own_At p e below K T m pc Ls S := own_step (fun _ k => XS.lconst X.here hx rfl hd k) hF
theorem own_aconstNull (X : Stand p l e R s m args below meth c T locs cells slots) (hx : p.tables.exec = Jvm.exec) (hd : decode c.code pc = .ok (.aconst_null, 1)) (hF : own_At p e below K T m (pc + 1) Ls (.null :: S)) : own_At p e below K T m pc Ls S := own_step (fun _ k => XS.aconstNull X.here hx rfl hd k) hF
theorem own_iadd (X : Stand p l e R s m args below meth c T locs cells slots) (hx : p.tables.exec = Jvm.exec) {x y : Int32} (hd : decode c.code pc = .ok (.iadd, 1)) (hF : own_At p e below K T m (pc + 1) Ls (.int (x + y) :: S)) : own_At p e below K T m pc Ls (.int y :: .int x :: S) := own_step (fun _ k => XS.iadd X.here hx rfl hd rfl k) hF
theorem own_isub (X : Stand p l e R s m args below meth c T locs cells slots) (hx : p.tables.exec = Jvm.exec) {x y : Int32} (hd : decode c.code pc = .ok (.isub, 1)) (hF : own_At p e below K T m (pc + 1) Ls (.int (x - y) :: S)) : own_At p e below K T m pc Ls (.int y :: .int x :: S) := own_step (fun _ k => XS.isub X.here hx rfl hd rfl k) hF
theorem own_imul (X : Stand p l e R s m args below meth c T locs cells slots) (hx : p.tables.exec = Jvm.exec) {x y : Int32} (hd : decode c.code pc = .ok (.imul, 1)) (hF : own_At p e below K T m (pc + 1) Ls (.int (x * y) :: S)) : own_At p e below K T m pc Ls (.int y :: .int x :: S) := own_step (fun _ k => XS.imul X.here hx rfl hd rfl k) hF
theorem own_iand (X : Stand p l e R s m args below meth c T locs cells slots) (hx : p.tables.exec = Jvm.exec) {x y : Int32} (hd : decode c.code pc = .ok (.iand, 1)) (hF : own_At p e below K T m (pc + 1) Ls (.int (x &&& y) :: S)) : own_At p e below K T m pc Ls (.int y :: .int x :: S) := own_step (fun _ k => XS.iand X.here hx rfl hd rfl k) hF
theorem own_ior (X : Stand p l e R s m args below meth c T locs cells slots) (hx : p.tables.exec = Jvm.exec) {x y : Int32} (hd : decode c.code pc = .ok (.ior, 1)) (hF : own_At p e below K T m (pc + 1) Ls (.int (x ||| y) :: S)) : own_At p e below K T m pc Ls (.int y :: .int x :: S) := own_step (fun _ k => XS.ior X.here hx rfl hd rfl k) hF
theorem own_ixor (X : Stand p l e R s m args below meth c T locs cells slots) (hx : p.tables.exec = Jvm.exec) {x y : Int32} (hd : decode c.code pc = .ok (.ixor, 1)) (hF : own_At p e below K T m (pc + 1) Ls (.int (x ^^^ y) :: S)) : own_At p e below K T m pc Ls (.int y :: .int x :: S) := own_step (fun _ k => XS.ixor X.here hx rfl hd rfl k) hF
theorem own_ladd (X : Stand p l e R s m args below meth c T locs cells slots) (hx : p.tables.exec = Jvm.exec) {x y : Int64} (hd : decode c.code pc = .ok (.ladd, 1)) (hF : own_At p e below K T m (pc + 1) Ls (.long (x + y) :: S)) : own_At p e below K T m pc Ls (.long y :: .long x :: S) := own_step (fun _ k => XS.ladd X.here hx rfl hd rfl k) hF
theorem own_lsub (X : Stand p l e R s m args below meth c T locs cells slots) (hx : p.tables.exec = Jvm.exec) {x y : Int64} (hd : decode c.code pc = .ok (.lsub, 1)) (hF : own_At p e below K T m (pc + 1) Ls (.long (x - y) :: S)) : own_At p e below K T m pc Ls (.long y :: .long x :: S) := own_step (fun _ k => XS.lsub X.here hx rfl hd rfl k) hF
theorem own_lmul (X : Stand p l e R s m args below meth c T locs cells slots) (hx : p.tables.exec = Jvm.exec) {x y : Int64} (hd : decode c.code pc = .ok (.lmul, 1)) (hF : own_At p e below K T m (pc + 1) Ls (.long (x * y) :: S)) : own_At p e below K T m pc Ls (.long y :: .long x :: S) := own_step (fun _ k => XS.lmul X.here hx rfl hd rfl k) hF
theorem own_land (X : Stand p l e R s m args below meth c T locs cells slots) (hx : p.tables.exec = Jvm.exec) {x y : Int64} (hd : decode c.code pc = .ok (.land, 1)) (hF : own_At p e below K T m (pc + 1) Ls (.long (x &&& y) :: S)) : own_At p e below K T m pc Ls (.long y :: .long x :: S) := own_step (fun _ k => XS.land X.here hx rfl hd rfl k) hF
theorem own_lor (X : Stand p l e R s m args below meth c T locs cells slots) (hx : p.tables.exec = Jvm.exec) {x y : Int64} (hd : decode c.code pc = .ok (.lor, 1)) (hF : own_At p e below K T m (pc + 1) Ls (.long (x ||| y) :: S)) : own_At p e below K T m pc Ls (.long y :: .long x :: S) := own_step (fun _ k => XS.lor X.here hx rfl hd rfl k) hF
theorem own_lxor (X : Stand p l e R s m args below meth c T locs cells slots) (hx : p.tables.exec = Jvm.exec) {x y : Int64} (hd : decode c.code pc = .ok (.lxor, 1)) (hF : own_At p e below K T m (pc + 1) Ls (.long (x ^^^ y) :: S)) : own_At p e below K T m pc Ls (.long y :: .long x :: S) := own_step (fun _ k => XS.lxor X.here hx rfl hd rfl k) hF
theorem own_ishl (X : Stand p l e R s m args below meth c T locs cells slots) (hx : p.tables.exec = Jvm.exec) {x : Int32} {y : Int32} (hd : decode c.code pc = .ok (.ishl, 1)) (hF : own_At p e below K T m (pc + 1) Ls (.int (x <<< (y &&& 31)) :: S)) : own_At p e below K T m pc Ls (.int y :: .int x :: S) := own_step (fun _ k => XS.ishl X.here hx rfl hd rfl k) hF
theorem own_ishr (X : Stand p l e R s m args below meth c T locs cells slots) (hx : p.tables.exec = Jvm.exec) {x : Int32} {y : Int32} (hd : decode c.code pc = .ok (.ishr, 1)) (hF : own_At p e below K T m (pc + 1) Ls (.int (x >>> (y &&& 31)) :: S)) : own_At p e below K T m pc Ls (.int y :: .int x :: S) := own_step (fun _ k => XS.ishr X.here hx rfl hd rfl k) hF
theorem own_iushr (X : Stand p l e R s m args below meth c T locs cells slots) (hx : p.tables.exec = Jvm.exec) {x : Int32} {y : Int32} (hd : decode c.code pc = .ok (.iushr, 1)) (hF : own_At p e below K T m (pc + 1) Ls (.int ((x.toUInt32 >>> (y &&& 31).toUInt32).toInt32) :: S)) : own_At p e below K T m pc Ls (.int y :: .int x :: S) := own_step (fun _ k => XS.iushr X.here hx rfl hd rfl k) hF
theorem own_lshl (X : Stand p l e R s m args below meth c T locs cells slots) (hx : p.tables.exec = Jvm.exec) {x : Int64} {y : Int32} (hd : decode c.code pc = .ok (.lshl, 1)) (hF : own_At p e below K T m (pc + 1) Ls (.long (x <<< (y &&& 0x3f).toInt64) :: S)) : own_At p e below K T m pc Ls (.int y :: .long x :: S) := own_step (fun _ k => XS.lshl X.here hx rfl hd rfl k) hF
theorem own_lshr (X : Stand p l e R s m args below meth c T locs cells slots) (hx : p.tables.exec = Jvm.exec) {x : Int64} {y : Int32} (hd : decode c.code pc = .ok (.lshr, 1)) (hF : own_At p e below K T m (pc + 1) Ls (.long (x >>> (y &&& 0x3f).toInt64) :: S)) : own_At p e below K T m pc Ls (.int y :: .long x :: S) := own_step (fun _ k => XS.lshr X.here hx rfl hd rfl k) hF
theorem own_lushr (X : Stand p l e R s m args below meth c T locs cells slots) (hx : p.tables.exec = Jvm.exec) {x : Int64} {y : Int32} (hd : decode c.code pc = .ok (.lushr, 1)) (hF : own_At p e below K T m (pc + 1) Ls (.long ((x.toUInt64 >>> (y &&& 0x3f).toInt64.toUInt64).toInt64) :: S)) : own_At p e below K T m pc Ls (.int y :: .long x :: S) := own_step (fun _ k => XS.lushr X.here hx rfl hd rfl k) hF
theorem own_ineg (X : Stand p l e R s m args below meth c T locs cells slots) (hx : p.tables.exec = Jvm.exec) {x : Int32} (hd : decode c.code pc = .ok (.ineg, 1)) (hF : own_At p e below K T m (pc + 1) Ls (.int ((-x)) :: S)) : own_At p e below K T m pc Ls (.int x :: S) := own_step (fun _ k => XS.ineg X.here hx rfl hd rfl k) hF
theorem own_lneg (X : Stand p l e R s m args below meth c T locs cells slots) (hx : p.tables.exec = Jvm.exec) {x : Int64} (hd : decode c.code pc = .ok (.lneg, 1)) (hF : own_At p e below K T m (pc + 1) Ls (.long ((-x)) :: S)) : own_At p e below K T m pc Ls (.long x :: S) := own_step (fun _ k => XS.lneg X.here hx rfl hd rfl k) hF
theorem own_i2l (X : Stand p l e R s m args below meth c T locs cells slots) (hx : p.tables.exec = Jvm.exec) {x : Int32} (hd : decode c.code pc = .ok (.i2l, 1)) (hF : own_At p e below K T m (pc + 1) Ls (.long (x.toInt64) :: S)) : own_At p e below K T m pc Ls (.int x :: S) := own_step (fun _ k => XS.i2l X.here hx rfl hd rfl k) hF
theorem own_l2i (X : Stand p l e R s m args below meth c T locs cells slots) (hx : p.tables.exec = Jvm.exec) {x : Int64} (hd : decode c.code pc = .ok (.l2i, 1)) (hF : own_At p e below K T m (pc + 1) Ls (.int (x.toInt32) :: S)) : own_At p e below K T m pc Ls (.long x :: S) := own_step (fun _ k => XS.l2i X.here hx rfl hd rfl k) hF
theorem own_i2b (X : Stand p l e R s m args below meth c T locs cells slots) (hx : p.tables.exec = Jvm.exec) {x : Int32} (hd : decode c.code pc = .ok (.i2b, 1)) (hF : own_At p e below K T m (pc + 1) Ls (.int (x.toInt8.toInt32) :: S)) : own_At p e below K T m pc Ls (.int x :: S) := own_step (fun _ k => XS.i2b X.here hx rfl hd rfl k) hF
theorem own_i2s (X : Stand p l e R s m args below meth c T locs cells slots) (hx : p.tables.exec = Jvm.exec) {x : Int32} (hd : decode c.code pc = .ok (.i2s, 1)) (hF : own_At p e below K T m (pc + 1) Ls (.int (x.toInt16.toInt32) :: S)) : own_At p e below K T m pc Ls (.int x :: S) := own_step (fun _ k => XS.i2s X.here hx rfl hd rfl k) hF
theorem own_i2c (X : Stand p l e R s m args below meth c T locs cells slots) (hx : p.tables.exec = Jvm.exec) {x : Int32} (hd : decode c.code pc = .ok (.i2c, 1)) (hF : own_At p e below K T m (pc + 1) Ls (.int (x.toUInt32.toUInt16.toUInt32.toInt32) :: S)) : own_At p e below K T m pc Ls (.int x :: S) := own_step (fun _ k => XS.i2c X.here hx rfl hd rfl k) hF
theorem own_lcmp (X : Stand p l e R s m args below meth c T locs cells slots) (hx : p.tables.exec = Jvm.exec) {x y : Int64} (hd : decode c.code pc = .ok (.lcmp, 1)) (hF : own_At p e below K T m (pc + 1) Ls (.int (lcmpW x y) :: S)) : own_At p e below K T m pc Ls (.long y :: .long x :: S) := own_step (fun _ k => XS.lcmp X.here hx rfl hd rfl k) hF
theorem own_irem (X : Stand p l e R s m args below meth c T locs cells slots) (hx : p.tables.exec = Jvm.exec) {x y : Int32} (hd : decode c.code pc = .ok (.irem, 1)) (hy : y ≠ 0) (hF : own_At p e below K T m (pc + 1) Ls (.int (x % y) :: S)) : own_At p e below K T m pc Ls (.int y :: .int x :: S) := own_step (fun _ k => iremM X hx rfl hd rfl hy k) hF
theorem own_idiv (X : Stand p l e R s m args below meth c T locs cells slots) (hx : p.tables.exec = Jvm.exec) {x y : Int32} (hd : decode c.code pc = .ok (.idiv, 1)) (hy : y ≠ 0) (hF : own_At p e below K T m (pc + 1) Ls (.int (x / y) :: S)) : own_At p e below K T m pc Ls (.int y :: .int x :: S) := own_step (fun _ k => XS.idiv X.here hx rfl hd rfl hy k) hF
theorem own_ldiv (X : Stand p l e R s m args below meth c T locs cells slots) (hx : p.tables.exec = Jvm.exec) {x y : Int64} (hd : decode c.code pc = .ok (.ldiv, 1)) (hy : y ≠ 0) (hF : own_At p e below K T m (pc + 1) Ls (.long (x / y) :: S)) : own_At p e below K T m pc Ls (.long y :: .long x :: S) := own_step (fun _ k => XS.ldiv X.here hx rfl hd rfl hy k) hF
theorem own_iinc (X : Stand p l e R s m args below meth c T locs cells slots) (hx : p.tables.exec = Jvm.exec) {k : Nat} {cst : Int} {x : Int32} (hd : decode c.code pc = .ok (.iinc k cst, 3)) (hl : Ls[k]? = some (.val (.int x))) (hl' : storeLocals Ls k (.int (x + Int32.ofInt cst)) = some l') (hF : own_At p e below K T m (pc + 3) l' S) : own_At p e below K T m pc Ls S := own_step (fun _ k => XS.iinc X.here hx rfl hd hl hl' k) hF
theorem own_dup (X : Stand p l e R s m args below meth c T locs cells slots) (hx : p.tables.exec = Jvm.exec) {x : Value} (hd : decode c.code pc = .ok (.dup, 1)) (hc : x.category = 1) (hF : own_At p e below K T m (pc + 1) Ls (x :: x :: S)) : own_At p e below K T m pc Ls (x :: S) := own_step (fun _ k => XS.dup X.here hx rfl hd rfl hc k) hF
theorem own_pop (X : Stand p l e R s m args below meth c T locs cells slots) (hx : p.tables.exec = Jvm.exec) {x : Value} (hd : decode c.code pc = .ok (.pop, 1)) (hc : x.category = 1) (hF : own_At p e below K T m (pc + 1) Ls S) : own_At p e below K T m pc Ls (x :: S) := own_step (fun _ k => XS.pop X.here hx rfl hd rfl hc k) hF
theorem own_dupX1 (X : Stand p l e R s m args below meth c T locs cells slots) (hx : p.tables.exec = Jvm.exec) {x y : Value} (hd : decode c.code pc = .ok (.dup_x1, 1)) (hc : x.category = 1) (hc' : y.category = 1) (hF : own_At p e below K T m (pc + 1) Ls (x :: y :: x :: S)) : own_At p e below K T m pc Ls (x :: y :: S) := own_step (fun _ k => XS.dupX1 X.here hx rfl hd rfl hc hc' k) hF
theorem own_dup2 (X : Stand p l e R s m args below meth c T locs cells slots) (hx : p.tables.exec = Jvm.exec) {x y : Value} (hd : decode c.code pc = .ok (.dup2, 1)) (hc : x.category = 1) (hc' : y.category = 1) (hF : own_At p e below K T m (pc + 1) Ls (x :: y :: x :: y :: S)) : own_At p e below K T m pc Ls (x :: y :: S) := own_step (fun _ k => Jvm.Free.XT.dup2 X.here hx rfl hd rfl hc hc' k) hF
theorem own_dup2L (X : Stand p l e R s m args below meth c T locs cells slots) (hx : p.tables.exec = Jvm.exec) {x : Int64} (hd : decode c.code pc = .ok (.dup2, 1)) (hF : own_At p e below K T m (pc + 1) Ls (.long x :: .long x :: S)) : own_At p e below K T m pc Ls (.long x :: S) := own_step (fun _ k => Jvm.Free.XT.dup2L X.here hx rfl hd rfl k) hF
theorem own_goto (X : Stand p l e R s m args below meth c T locs cells slots) (hx : p.tables.exec = Jvm.exec) {o : Int} (pc' : Nat) (hd : decode c.code pc = .ok (.goto o, 3)) (ho : 0 ≤ (pc : Int) + o) (hp : ((pc : Int) + o).toNat = pc') (hF : own_At p e below K T m pc' Ls S) : own_At p e below K T m pc Ls S := own_step (fun _ k => XS.goto X.here hx rfl rfl hd ho hp k) hF
theorem own_ifYes (X : Stand p l e R s m args below meth c T locs cells slots) (hx : p.tables.exec = Jvm.exec) {cd : ClassFile.Cond} {x : Int32} {o : Int} (pc' : Nat) (hd : decode c.code pc = .ok (.ifCond cd o, 3)) (hc : if_icmp.holds cd x 0 = true) (ho : 0 ≤ (pc : Int) + o) (hp : ((pc : Int) + o).toNat = pc') (hF : own_At p e below K T m pc' Ls S) : own_At p e below K T m pc Ls (.int x :: S) := own_step (fun _ k => XS.ifYes X.here hx rfl rfl hd rfl ((if0 _ _).trans hc) ho hp k) hF
theorem own_ifNo (X : Stand p l e R s m args below meth c T locs cells slots) (hx : p.tables.exec = Jvm.exec) {cd : ClassFile.Cond} {x : Int32} {o : Int} (hd : decode c.code pc = .ok (.ifCond cd o, 3)) (hc : if_icmp.holds cd x 0 = false) (hF : own_At p e below K T m (pc + 3) Ls S) : own_At p e below K T m pc Ls (.int x :: S) := own_step (fun _ k => XS.ifNo X.here hx rfl hd rfl ((if0 _ _).trans hc) k) hF
theorem own_icmpYes (X : Stand p l e R s m args below meth c T locs cells slots) (hx : p.tables.exec = Jvm.exec) {cd : ClassFile.Cond} {x y : Int32} {o : Int} (pc' : Nat) (hd : decode c.code pc = .ok (.if_icmp cd o, 3)) (hc : if_icmp.holds cd x y = true) (ho : 0 ≤ (pc : Int) + o) (hp : ((pc : Int) + o).toNat = pc') (hF : own_At p e below K T m pc' Ls S) : own_At p e below K T m pc Ls (.int y :: .int x :: S) := own_step (fun _ k => XS.icmpYes X.here hx rfl rfl hd rfl hc ho hp k) hF
theorem own_icmpNo (X : Stand p l e R s m args below meth c T locs cells slots) (hx : p.tables.exec = Jvm.exec) {cd : ClassFile.Cond} {x y : Int32} {o : Int} (hd : decode c.code pc = .ok (.if_icmp cd o, 3)) (hc : if_icmp.holds cd x y = false) (hF : own_At p e below K T m (pc + 3) Ls S) : own_At p e below K T m pc Ls (.int y :: .int x :: S) := own_step (fun _ k => XS.icmpNo X.here hx rfl hd rfl hc k) hF
theorem own_acmp (X : Stand p l e R s m args below meth c T locs cells slots) (hx : p.tables.exec = Jvm.exec) {cd : ACond} {x y : Value} {o : Int} (pc' : Nat) (same : Bool) (hd : decode c.code pc = .ok (.if_acmp cd o, 3)) (h1 : x.isRef = true) (h2 : y.isRef = true) (hq : decide (x = y) = same) (ho : 0 ≤ (pc : Int) + o) (hp : pc' = if acV cd same = true then ((pc : Int) + o).toNat else pc + 3) (hF : own_At p e below K T m pc' Ls S) : own_At p e below K T m pc Ls (y :: x :: S) := own_step (fun _ k => Jvm.RoadKit.acmp X hx rfl h1 h2 rfl hd rfl hq ho hp k) hF
theorem own_ifnullYes (X : Stand p l e R s m args below meth c T locs cells slots) (hx : p.tables.exec = Jvm.exec)  {o : Int} (pc' : Nat) (hd : decode c.code pc = .ok (.ifnull o, 3)) (ho : 0 ≤ (pc : Int) + o) (hp : ((pc : Int) + o).toNat = pc') (hF : own_At p e below K T m pc' Ls S) : own_At p e below K T m pc Ls (.null :: S) := own_step (fun _ k => XS.ifnullYes X.here hx rfl rfl hd rfl ho hp k) hF
theorem own_ifnullNo (X : Stand p l e R s m args below meth c T locs cells slots) (hx : p.tables.exec = Jvm.exec) {b : Addr} {o : Int} (hd : decode c.code pc = .ok (.ifnull o, 3))  (hF : own_At p e below K T m (pc + 3) Ls S) : own_At p e below K T m pc Ls (.ref b :: S) := own_step (fun _ k => XS.ifnullNo X.here hx rfl hd rfl k) hF
theorem own_ifnonnullYes (X : Stand p l e R s m args below meth c T locs cells slots) (hx : p.tables.exec = Jvm.exec) {b : Addr} {o : Int} (pc' : Nat) (hd : decode c.code pc = .ok (.ifnonnull o, 3)) (ho : 0 ≤ (pc : Int) + o) (hp : ((pc : Int) + o).toNat = pc') (hF : own_At p e below K T m pc' Ls S) : own_At p e below K T m pc Ls (.ref b :: S) := own_step (fun _ k => XS.ifnonnullYes X.here hx rfl rfl hd rfl ho hp k) hF
theorem own_ifnonnullNo (X : Stand p l e R s m args below meth c T locs cells slots) (hx : p.tables.exec = Jvm.exec)  {o : Int} (hd : decode c.code pc = .ok (.ifnonnull o, 3))  (hF : own_At p e below K T m (pc + 3) Ls S) : own_At p e below K T m pc Ls (.null :: S) := own_step (fun _ k => XS.ifnonnullNo X.here hx rfl hd rfl k) hF
theorem own_tswIn (X : Stand p l e R s m args below meth c T locs cells slots) (hx : p.tables.exec = Jvm.exec) {dflt low high : Int} {offs : Array Int} {len : Nat} {i : Int32} {o : Int} (pc' : Nat) (hd : decode c.code pc = .ok (.tableswitch dflt low high offs, len)) (hin : ¬ (i.toInt < low ∨ i.toInt > high)) (hoff : offs[(i.toInt - low).toNat]? = some o) (ho : 0 ≤ (pc : Int) + o) (hp : ((pc : Int) + o).toNat = pc') (hF : own_At p e below K T m pc' Ls S) : own_At p e below K T m pc Ls (.int i :: S) := own_step (fun _ k => XS.tswIn X.here hx rfl rfl hd rfl hin hoff ho hp k) hF
theorem own_getS (X : Stand p l e R s m args below meth c T locs cells slots) (hx : p.tables.exec = Jvm.exec) (hZ : Z.Warmed39 s.vm) {own R0 O n d host : String} {index : Nat} (hown : s.vm.findClass own = some m.cls) (w : (Jvm.Cond.fieldLink own index R0 n d).before a0 Z = true ∨ (Jvm.Cond.fieldLinkNest own index R0 n d host).before a0 Z = true) (via : Via Z R0 O n d) (eT : T.heap = h) {v : Value} (F : Sta Z h O n d v) (hd : decode c.code pc = .ok (.getstatic index, 3)) (hF : ∀ (T' : State), Stand p l e R s m args below meth c T' locs cells slots → T'.heap = h → own_At p e below K T' m (pc + 3) Ls (v :: S)) : own_At p e below K T m pc Ls S := by
  obtain ⟨T', X', e', st⟩ := getS2 X hx hZ hown w via eT F (g := mkF m pc Ls S) rfl hd
  exact own_step (fun t k => st _ k) (hF T' X' e')
theorem own_getF (X : Stand p l e R s m args below meth c T locs cells slots) (hx : p.tables.exec = Jvm.exec) (hZ : Z.Warmed39 s.vm) {own R0 O n d host : String} {index : Nat} (hown : s.vm.findClass own = some m.cls) (w : (Jvm.Cond.fieldLink own index R0 n d).before a0 Z = true ∨ (Jvm.Cond.fieldLinkNest own index R0 n d host).before a0 Z = true) (via : Via Z R0 O n d) (eT : T.heap = h) {a : Addr} {v : Value} (F : Fld Z h a O n d v) (hd : decode c.code pc = .ok (.getfield index, 3)) (hF : ∀ (T' : State), Stand p l e R s m args below meth c T' locs cells slots → T'.heap = h → own_At p e below K T' m (pc + 3) Ls (v :: S)) : own_At p e below K T m pc Ls (.ref a :: S) := by
  obtain ⟨T', X', e', st⟩ := getF X hx hZ hown w via eT F (g := mkF m pc Ls (.ref a :: S)) rfl rfl hd
  exact own_step (fun t k => st _ k) (hF T' X' e')
theorem own_putF (X : Stand p l e R s m args below meth c T locs cells slots) (hx : p.tables.exec = Jvm.exec) (hZ : Z.Warmed39 s.vm) {C : String} {kk : Nat} {ty : FieldType} {own R0 O n d host : String} {index : Nat} (hown : s.vm.findClass own = some m.cls) (w : (Jvm.Cond.fieldLink own index R0 n d).before a0 Z = true ∨ (Jvm.Cond.fieldLinkNest own index R0 n d host).before a0 Z = true) (via : Via Z R0 O n d) (eT : T.heap = h) {a : Addr} {v old : Value} (F : Fld Z h a O n d old) (E : Exa Z h a C) (L : (Jvm.Cond.lays C O n d).before a0 Z = true ∨ ((Jvm.Cond.laysFinal C O n d).before a0 Z = true ∧ own = O ∧ meth.name = "<init>")) (wi : (Jvm.Cond.instantiable C kk).before a0 Z = true) (hty : parseFieldDescriptor d = some ty) (hn : narrow ty v = v) (hf : fits ty v = true) (hd : decode c.code pc = .ok (.putfield index, 3)) (hF : ∀ (T' : State) (h' : Heap), Stand p l e R s m args below meth c T' (locs ++ [⟨a, Jvm.RoadKit.slotOf Z O n d⟩]) cells slots → T'.heap = h' → Wr h h' a (Jvm.RoadKit.slotOf Z O n d) v → own_At p e below K T' m (pc + 3) Ls S) : own_At p e below K T m pc Ls (v :: .ref a :: S) := by
  obtain ⟨T', h', X', e', W', st⟩ := putF X hx hZ hown w via eT F E L wi hty hn hf (g := mkF m pc Ls (v :: .ref a :: S)) rfl rfl hd
  exact own_step (fun t k => st _ k) (hF T' h' X' e' W')
theorem own_castY (X : Stand p l e R s m args below meth c T locs cells slots) (hx : p.tables.exec = Jvm.exec) (hZ : Z.Warmed39 s.vm) {own KC : String} {index : Nat} (hown : s.vm.findClass own = some m.cls) (w : (Jvm.Cond.classLink own index KC).before a0 Z = true) (eT : T.heap = h) {a : Addr} (F : Ins Z h a KC true) (hd : decode c.code pc = .ok (.checkcast index, 3)) (hF : ∀ (T' : State), Stand p l e R s m args below meth c T' locs cells slots → T'.heap = h → own_At p e below K T' m (pc + 3) Ls (.ref a :: S)) : own_At p e below K T m pc Ls (.ref a :: S) := by
  obtain ⟨T', X', e', st⟩ := castY X hx hZ hown w eT F (g := mkF m pc Ls (.ref a :: S)) rfl rfl hd
  exact own_step (fun t k => st _ k) (hF T' X' e')
theorem own_instY (X : Stand p l e R s m args below meth c T locs cells slots) (hx : p.tables.exec = Jvm.exec) (hZ : Z.Warmed39 s.vm) {own KC : String} {index : Nat} (hown : s.vm.findClass own = some m.cls) (w : (Jvm.Cond.classLink own index KC).before a0 Z = true) (eT : T.heap = h) {a : Addr} (F : Ins Z h a KC true) (hd : decode c.code pc = .ok (.instanceof index, 3)) (hF : ∀ (T' : State), Stand p l e R s m args below meth c T' locs cells slots → T'.heap = h → own_At p e below K T' m (pc + 3) Ls (.int (1 : Int32) :: S)) : own_At p e below K T m pc Ls (.ref a :: S) := by
  obtain ⟨T', X', e', st⟩ := instY X hx hZ hown w eT F (g := mkF m pc Ls (.ref a :: S)) rfl rfl hd
  exact own_step (fun t k => st _ k) (hF T' X' e')
theorem own_initO (X : Stand p l e R s m args below meth c T locs cells slots) (hx : p.tables.exec = Jvm.exec) (hZ : Z.Warmed39 s.vm) {own : String} {idx W : Nat} (hown : s.vm.findClass own = some m.cls) (w1 : (Jvm.Cond.methodLink own idx Lib.objectInit).before a0 Z = true) (w2 : (Jvm.Cond.instanceMethod Lib.objectInit).before a0 Z = true) (w3 : (Jvm.Cond.code Lib.objectInit ⟨#[0xb1]⟩ 1 none).before a0 Z = true) (eT : T.heap = h) {a : Addr} (hsize : Ls.size = c.maxLocals) (hd : decode c.code pc = .ok (.invokespecial idx, 3)) (hf : 1 ≤ R.frames) (hW : (S.map fun v => v.category).sum ≤ W) (hl : W + 12 ≤ R.locals) (hF : ∀ (T' : State), Stand p l e R s m args below meth c T' locs cells slots → T'.heap = h → own_At p e below K T' m (pc + 3) Ls S) : own_At p e below K T m pc Ls (.ref a :: S) := by
  obtain ⟨T', X', e', st⟩ := initO X hx hZ hown w1 w2 w3 eT (g := mkF m pc Ls (.ref a :: S)) rfl hsize rfl hd hf (W := W) (by show 2 * 0 + _ ≤ _; omega) hl
  exact own_step (fun t k => st _ k) (hF T' X' e')
theorem own_newO (X : Stand p l e R s m args below meth c T locs cells slots) (hx : p.tables.exec = Jvm.exec) (hZ : Z.Warmed39 s.vm) {own C : String} {index n : Nat} (hown : s.vm.findClass own = some m.cls) (w : (Jvm.Cond.classLink own index C).before a0 Z = true) (wi : (Jvm.Cond.instantiable C n).before a0 Z = true) (wz : (Jvm.Cond.initialized C).before a0 Z = true) (eT : T.heap = h) (hd : decode c.code pc = .ok (.new index, 3)) (hc : cells + 1 ≤ R.cells) (hl : slots + n ≤ R.slots) (hF : ∀ (T' : State) (h' : Heap) (b : Addr), b = h.size → Stand p l e R s m args below meth c T' locs (cells + 1) (slots + n) → T'.heap = h' → Ext h h' → Exa Z h' b C → (∀ {O nm d : String} {ty : FieldType}, Laid Z a0 C O nm d → parseFieldDescriptor d = some ty → Fld Z h' b O nm d (defaultValue ty)) → own_At p e below K T' m (pc + 3) Ls (.ref b :: S)) : own_At p e below K T m pc Ls S := by
  obtain ⟨T', h', X', e', E', A', D', -, st⟩ := newO X hx hZ hown w wi wz eT (g := mkF m pc Ls S) rfl hd hc hl
  exact own_step (fun t k => st _ k) (hF T' h' _ rfl X' e' E' A' D')
theorem own_newP (X : Stand p l e R s m args below meth c T locs cells slots) (hx : p.tables.exec = Jvm.exec) (hZ : Z.Warmed39 s.vm) {aty : ArrayType} {n : Int32} {cap : Nat} {ad : String} (w : (Jvm.Cond.arrayClass (newarray.typeOf aty)).before a0 Z = true) (eT : T.heap = h) (hd : decode c.code pc = .ok (.newarray aty, 2)) (hn : ¬ n < 0) (hcap : n.toNatClampNeg ≤ cap) (hb : cap * 8 ≤ 536870912) (hc : cells + 1 ≤ R.cells) (hl : slots + cap ≤ R.slots) (had : "[" ++ (newarray.typeOf aty).toString = ad) (hF : ∀ (T' : State) (h' : Heap) (cA : ClassId) (b : Addr), b = h.size → Stand p l e R s m args below meth c T' locs (cells + 1) (slots + cap) → T'.heap = h' → Ext h h' → Arr Z h' b (newA cA (newarray.typeOf aty) n) (newarray.typeOf aty) → Exa Z h' b ad → own_At p e below K T' m (pc + 2) Ls (.ref b :: S)) : own_At p e below K T m pc Ls (.int n :: S) := by
  obtain ⟨T', h', cA, X', e', E', A', Ex', st⟩ := newPE X hx hZ w eT (g := mkF m pc Ls (.int n :: S)) rfl hd rfl hn hcap hb hc hl had
  exact own_step (fun t k => st _ k) (hF T' h' cA _ rfl X' e' E' A' Ex')
theorem own_newR (X : Stand p l e R s m args below meth c T locs cells slots) (hx : p.tables.exec = Jvm.exec) (hZ : Z.Warmed39 s.vm) {own C : String} {index cap : Nat} {n : Int32} {ad : String} (hown : s.vm.findClass own = some m.cls) (w1 : (Jvm.Cond.classLink own index C).before a0 Z = true) (w2 : (Jvm.Cond.arrayOver (.object C)).before a0 Z = true) (eT : T.heap = h) (hd : decode c.code pc = .ok (.anewarray index, 3)) (hn : ¬ n < 0) (hcap : n.toNatClampNeg ≤ cap) (hb : cap * 8 ≤ 536870912) (hc : cells + 1 ≤ R.cells) (hl : slots + cap ≤ R.slots) (had : "[" ++ (FieldType.object C).toString = ad) (hF : ∀ (T' : State) (h' : Heap) (cA : ClassId) (b : Addr), b = h.size → Stand p l e R s m args below meth c T' locs (cells + 1) (slots + cap) → T'.heap = h' → Ext h h' → Arr Z h' b (newA cA (.object C) n) (.object C) → Exa Z h' b ad → Ovr Z cA C → own_At p e below K T' m (pc + 3) Ls (.ref b :: S)) : own_At p e below K T m pc Ls (.int n :: S) := by
  obtain ⟨T', h', cA, X', e', E', A', Ex', O', st⟩ := newRE X hx hZ hown w1 w2 eT (g := mkF m pc Ls (.int n :: S)) rfl hd rfl hn hcap hb hc hl had
  exact own_step (fun t k => st _ k) (hF T' h' cA _ rfl X' e' E' A' Ex' O')
theorem own_stI (X : Stand p l e R s m args below meth c T locs cells slots) (hx : p.tables.exec = Jvm.exec) (hZ : Z.Warmed39 s.vm) {a : Addr} {k : ClassId} {z : Int32} {vs vs' : List Value} {dv w : Value} {j : Int32} {x : Int32} (eT : T.heap = h) (F : Arv Z h a k .int z vs dv) (hj : ¬ j < 0 ∧ j < z) (i : Nat) (hi : j.toNatClampNeg = i) (hl : i < vs.length) (hw : (.int x) = w) (hvs : vs.set i w = vs') (hd : decode c.code pc = .ok (.iastore, 1)) (hF : ∀ (T' : State) (h' : Heap), Stand p l e R s m args below meth c T' (locs ++ [⟨a, j.toNatClampNeg⟩]) cells slots → T'.heap = h' → Wr h h' a j.toNatClampNeg w → Arv Z h' a k .int z vs' dv → own_At p e below K T' m (pc + 1) Ls S) : own_At p e below K T m pc Ls ((.int x) :: .int j :: .ref a :: S) := by
  subst hw hvs
  obtain ⟨cl, Ar, q, Sz, Ng, H, G⟩ := F
  obtain ⟨T', h', X', e', W', st⟩ := stI X hx hZ eT Ar (j := j) (inb_of Sz hj) (g := mkF m pc Ls ((.int x) :: .int j :: .ref a :: S)) rfl rfl hd
  exact own_step (fun t k => st _ k) (hF T' h' X' e' W' (Arv.set Ar q Sz Ng H G rfl W' i hi hl))
theorem own_stJ (X : Stand p l e R s m args below meth c T locs cells slots) (hx : p.tables.exec = Jvm.exec) (hZ : Z.Warmed39 s.vm) {a : Addr} {k : ClassId} {z : Int32} {vs vs' : List Value} {dv w : Value} {j : Int32} {x : Int64} (eT : T.heap = h) (F : Arv Z h a k .long z vs dv) (hj : ¬ j < 0 ∧ j < z) (i : Nat) (hi : j.toNatClampNeg = i) (hl : i < vs.length) (hw : (.long x) = w) (hvs : vs.set i w = vs') (hd : decode c.code pc = .ok (.lastore, 1)) (hF : ∀ (T' : State) (h' : Heap), Stand p l e R s m args below meth c T' (locs ++ [⟨a, j.toNatClampNeg⟩]) cells slots → T'.heap = h' → Wr h h' a j.toNatClampNeg w → Arv Z h' a k .long z vs' dv → own_At p e below K T' m (pc + 1) Ls S) : own_At p e below K T m pc Ls ((.long x) :: .int j :: .ref a :: S) := by
  subst hw hvs
  obtain ⟨cl, Ar, q, Sz, Ng, H, G⟩ := F
  obtain ⟨T', h', X', e', W', st⟩ := stJ X hx hZ eT Ar (j := j) (inb_of Sz hj) (g := mkF m pc Ls ((.long x) :: .int j :: .ref a :: S)) rfl rfl hd
  exact own_step (fun t k => st _ k) (hF T' h' X' e' W' (Arv.set Ar q Sz Ng H G rfl W' i hi hl))
theorem own_stC (X : Stand p l e R s m args below meth c T locs cells slots) (hx : p.tables.exec = Jvm.exec) (hZ : Z.Warmed39 s.vm) {a : Addr} {k : ClassId} {z : Int32} {vs vs' : List Value} {dv w : Value} {j : Int32} {x : Int32} (eT : T.heap = h) (F : Arv Z h a k .char z vs dv) (hj : ¬ j < 0 ∧ j < z) (i : Nat) (hi : j.toNatClampNeg = i) (hl : i < vs.length) (hw : (.int (nar .char x)) = w) (hvs : vs.set i w = vs') (hd : decode c.code pc = .ok (.castore, 1)) (hF : ∀ (T' : State) (h' : Heap), Stand p l e R s m args below meth c T' (locs ++ [⟨a, j.toNatClampNeg⟩]) cells slots → T'.heap = h' → Wr h h' a j.toNatClampNeg w → Arv Z h' a k .char z vs' dv → own_At p e below K T' m (pc + 1) Ls S) : own_At p e below K T m pc Ls ((.int x) :: .int j :: .ref a :: S) := by
  subst hw hvs
  obtain ⟨cl, Ar, q, Sz, Ng, H, G⟩ := F
  obtain ⟨T', h', X', e', W', st⟩ := stC X hx hZ eT Ar (j := j) (inb_of Sz hj) (g := mkF m pc Ls ((.int x) :: .int j :: .ref a :: S)) rfl rfl hd
  exact own_step (fun t k => st _ k) (hF T' h' X' e' W' (Arv.set Ar q Sz Ng H G (fits_nar_char _) W' i hi hl))
theorem own_stB (X : Stand p l e R s m args below meth c T locs cells slots) (hx : p.tables.exec = Jvm.exec) (hZ : Z.Warmed39 s.vm) {a : Addr} {k : ClassId} {z : Int32} {vs vs' : List Value} {dv w : Value} {j : Int32} {x : Int32} (eT : T.heap = h) (F : Arv Z h a k .byte z vs dv) (hj : ¬ j < 0 ∧ j < z) (i : Nat) (hi : j.toNatClampNeg = i) (hl : i < vs.length) (hw : (.int x.toInt8.toInt32) = w) (hvs : vs.set i w = vs') (hd : decode c.code pc = .ok (.bastore, 1)) (hF : ∀ (T' : State) (h' : Heap), Stand p l e R s m args below meth c T' (locs ++ [⟨a, j.toNatClampNeg⟩]) cells slots → T'.heap = h' → Wr h h' a j.toNatClampNeg w → Arv Z h' a k .byte z vs' dv → own_At p e below K T' m (pc + 1) Ls S) : own_At p e below K T m pc Ls ((.int x) :: .int j :: .ref a :: S) := by
  subst hw hvs
  obtain ⟨cl, Ar, q, Sz, Ng, H, G⟩ := F
  obtain ⟨T', h', X', e', W', st⟩ := stB X hx hZ eT Ar (j := j) (inb_of Sz hj) (g := mkF m pc Ls ((.int x) :: .int j :: .ref a :: S)) rfl rfl hd
  exact own_step (fun t k => st _ k) (hF T' h' X' e' W' (Arv.set Ar q Sz Ng H G (fits_nar_byte _) W' i hi hl))
theorem own_stZ (X : Stand p l e R s m args below meth c T locs cells slots) (hx : p.tables.exec = Jvm.exec) (hZ : Z.Warmed39 s.vm) {a : Addr} {k : ClassId} {z : Int32} {vs vs' : List Value} {dv w : Value} {j : Int32} {x : Int32} (eT : T.heap = h) (F : Arv Z h a k .boolean z vs dv) (hj : ¬ j < 0 ∧ j < z) (i : Nat) (hi : j.toNatClampNeg = i) (hl : i < vs.length) (hw : (.int (nar .boolean x)) = w) (hvs : vs.set i w = vs') (hd : decode c.code pc = .ok (.bastore, 1)) (hF : ∀ (T' : State) (h' : Heap), Stand p l e R s m args below meth c T' (locs ++ [⟨a, j.toNatClampNeg⟩]) cells slots → T'.heap = h' → Wr h h' a j.toNatClampNeg w → Arv Z h' a k .boolean z vs' dv → own_At p e below K T' m (pc + 1) Ls S) : own_At p e below K T m pc Ls ((.int x) :: .int j :: .ref a :: S) := by
  subst hw hvs
  obtain ⟨cl, Ar, q, Sz, Ng, H, G⟩ := F
  obtain ⟨T', h', X', e', W', st⟩ := stZ X hx hZ eT Ar (j := j) (inb_of Sz hj) (g := mkF m pc Ls ((.int x) :: .int j :: .ref a :: S)) rfl rfl hd
  exact own_step (fun t k => st _ k) (hF T' h' X' e' W' (Arv.set Ar q Sz Ng H G (fits_nar_bool _) W' i hi hl))
theorem own_stR (X : Stand p l e R s m args below meth c T locs cells slots) (hx : p.tables.exec = Jvm.exec) (hZ : Z.Warmed39 s.vm) {a : Addr} {k : ClassId} {C : String} {z : Int32} {vs vs' : List Value} {dv v : Value} {j : Int32} (eT : T.heap = h) (F : Arv Z h a k (.object C) z vs dv) (hj : ¬ j < 0 ∧ j < z) (i : Nat) (hi : j.toNatClampNeg = i) (hl : i < vs.length) (hf : fits (.object C) v = true) (hs : v = .null ∨ ∃ (y : Addr), v = .ref y ∧ Ovr Z k C ∧ Ins Z h y C true) (hvs : vs.set i v = vs') (hd : decode c.code pc = .ok (.aastore, 1)) (hF : ∀ (T' : State) (h' : Heap), Stand p l e R s m args below meth c T' (locs ++ [⟨a, j.toNatClampNeg⟩]) cells slots → T'.heap = h' → Wr h h' a j.toNatClampNeg v → Arv Z h' a k (.object C) z vs' dv → own_At p e below K T' m (pc + 1) Ls S) : own_At p e below K T m pc Ls (v :: .int j :: .ref a :: S) := by
  subst hvs
  obtain ⟨cl, Ar, q, Sz, Ng, H, G⟩ := F
  have F' : Sto Z h a v := by
    rcases hs with rfl | ⟨y, rfl, O, I⟩
    · exact Or.inl rfl
    · exact Sto.ofV Ar q O I
  obtain ⟨T', h', X', e', W', st⟩ := stR X hx hZ eT Ar (j := j) (inb_of Sz hj) rfl F' (g := mkF m pc Ls (v :: .int j :: .ref a :: S)) rfl rfl hd
  exact own_step (fun t k => st _ k) (hF T' h' X' e' W' (Arv.set Ar q Sz Ng H G hf W' i hi hl))
theorem own_iaload (X : Stand p l e R s m args below meth c T locs cells slots) (hx : p.tables.exec = Jvm.exec) (hZ : Z.Warmed39 s.vm) {a : Addr} {k : ClassId} {z : Int32} {vs : List Value} {dv : Value} {j : Int32} (v : Value) (eT : T.heap = h) (F : Arv Z h a k .int z vs dv) (hj : ¬ j < 0 ∧ j < z) (hv : vs.getD j.toNatClampNeg dv = v) (hd : decode c.code pc = .ok (.iaload, 1)) (hF : own_At p e below K T m (pc + 1) Ls (v :: S)) : own_At p e below K T m pc Ls (.int j :: .ref a :: S) := by
  obtain ⟨cl, Ar, q, Sz, Ng, H, G⟩ := F
  exact own_step (fun _ k => X.iaload hx (j := j) (v := v) (by rw [eT]; exact Ar.1) (State.isArrayOf_alike hZ.alike Ar.2.1) Ar.2.2 (inb_of Sz hj) (Has.at H (inb_of Sz hj) hv) (g := mkF m pc Ls (.int j :: .ref a :: S)) rfl rfl hd _ k) hF
theorem own_caload (X : Stand p l e R s m args below meth c T locs cells slots) (hx : p.tables.exec = Jvm.exec) (hZ : Z.Warmed39 s.vm) {a : Addr} {k : ClassId} {z : Int32} {vs : List Value} {dv : Value} {j : Int32} (v : Value) (eT : T.heap = h) (F : Arv Z h a k .char z vs dv) (hj : ¬ j < 0 ∧ j < z) (hv : vs.getD j.toNatClampNeg dv = v) (hd : decode c.code pc = .ok (.caload, 1)) (hF : own_At p e below K T m (pc + 1) Ls (v :: S)) : own_At p e below K T m pc Ls (.int j :: .ref a :: S) := by
  obtain ⟨cl, Ar, q, Sz, Ng, H, G⟩ := F
  exact own_step (fun _ k => X.caload hx (j := j) (v := v) (by rw [eT]; exact Ar.1) (State.isArrayOf_alike hZ.alike Ar.2.1) Ar.2.2 (inb_of Sz hj) (Has.at H (inb_of Sz hj) hv) (g := mkF m pc Ls (.int j :: .ref a :: S)) rfl rfl hd _ k) hF
theorem own_laload (X : Stand p l e R s m args below meth c T locs cells slots) (hx : p.tables.exec = Jvm.exec) (hZ : Z.Warmed39 s.vm) {a : Addr} {k : ClassId} {z : Int32} {vs : List Value} {dv : Value} {j : Int32} (v : Value) (eT : T.heap = h) (F : Arv Z h a k .long z vs dv) (hj : ¬ j < 0 ∧ j < z) (hv : vs.getD j.toNatClampNeg dv = v) (hd : decode c.code pc = .ok (.laload, 1)) (hF : own_At p e below K T m (pc + 1) Ls (v :: S)) : own_At p e below K T m pc Ls (.int j :: .ref a :: S) := by
  obtain ⟨cl, Ar, q, Sz, Ng, H, G⟩ := F
  exact own_step (fun _ k => X.laload hx (j := j) (v := v) (by rw [eT]; exact Ar.1) (State.isArrayOf_alike hZ.alike Ar.2.1) Ar.2.2 (inb_of Sz hj) (Has.at H (inb_of Sz hj) hv) (g := mkF m pc Ls (.int j :: .ref a :: S)) rfl rfl hd _ k) hF
theorem own_baload (X : Stand p l e R s m args below meth c T locs cells slots) (hx : p.tables.exec = Jvm.exec) (hZ : Z.Warmed39 s.vm) {a : Addr} {k : ClassId} {z : Int32} {vs : List Value} {dv : Value} {j : Int32} (v : Value) (eT : T.heap = h) (F : Arv Z h a k .byte z vs dv) (hj : ¬ j < 0 ∧ j < z) (hv : vs.getD j.toNatClampNeg dv = v) (hd : decode c.code pc = .ok (.baload, 1)) (hF : own_At p e below K T m (pc + 1) Ls (v :: S)) : own_At p e below K T m pc Ls (.int j :: .ref a :: S) := by
  obtain ⟨cl, Ar, q, Sz, Ng, H, G⟩ := F
  exact own_step (fun _ k => X.baloadBytes hx (j := j) (v := v) (by rw [eT]; exact Ar.1) (State.isArrayOf_alike hZ.alike Ar.2.1) Ar.2.2 (inb_of Sz hj) (Has.at H (inb_of Sz hj) hv) (g := mkF m pc Ls (.int j :: .ref a :: S)) rfl rfl hd _ k) hF
theorem own_zaload (X : Stand p l e R s m args below meth c T locs cells slots) (hx : p.tables.exec = Jvm.exec) (hZ : Z.Warmed39 s.vm) {a : Addr} {k : ClassId} {z : Int32} {vs : List Value} {dv : Value} {j : Int32} (v : Value) (eT : T.heap = h) (F : Arv Z h a k .boolean z vs dv) (hj : ¬ j < 0 ∧ j < z) (hv : vs.getD j.toNatClampNeg dv = v) (hd : decode c.code pc = .ok (.baload, 1)) (hF : own_At p e below K T m (pc + 1) Ls (v :: S)) : own_At p e below K T m pc Ls (.int j :: .ref a :: S) := by
  obtain ⟨cl, Ar, q, Sz, Ng, H, G⟩ := F
  exact own_step (fun _ k => X.baloadBooleans hx (j := j) (v := v) (by rw [eT]; exact Ar.1) (State.isArrayOf_alike hZ.alike Ar.2.1) Ar.2.2 (inb_of Sz hj) (Has.at H (inb_of Sz hj) hv) (g := mkF m pc Ls (.int j :: .ref a :: S)) rfl rfl hd _ k) hF
theorem own_aaload (X : Stand p l e R s m args below meth c T locs cells slots) (hx : p.tables.exec = Jvm.exec) (hZ : Z.Warmed39 s.vm) {a : Addr} {k : ClassId} {ty : FieldType} {z : Int32} {vs : List Value} {dv : Value} {j : Int32} (v : Value) (eT : T.heap = h) (F : Arv Z h a k ty z vs dv) (hty : ty.isReference = true) (hj : ¬ j < 0 ∧ j < z) (hv : vs.getD j.toNatClampNeg dv = v) (hd : decode c.code pc = .ok (.aaload, 1)) (hF : own_At p e below K T m (pc + 1) Ls (v :: S)) : own_At p e below K T m pc Ls (.int j :: .ref a :: S) := by
  obtain ⟨cl, Ar, q, Sz, Ng, H, G⟩ := F
  exact own_step (fun _ k => X.aaload hx (j := j) (v := v) (by rw [eT]; exact Ar.1) (State.isArrayOf_alike hZ.alike Ar.2.1) hty Ar.2.2 (inb_of Sz hj) (Has.at H (inb_of Sz hj) hv) (g := mkF m pc Ls (.int j :: .ref a :: S)) rfl rfl hd _ k) hF
theorem own_arraylength (X : Stand p l e R s m args below meth c T locs cells slots) (hx : p.tables.exec = Jvm.exec) (hZ : Z.Warmed39 s.vm) {a : Addr} {ty : FieldType} {z : Int32} (eT : T.heap = h) (F : own_Aln Z h a ty z) (hd : decode c.code pc = .ok (.arraylength, 1)) (hF : own_At p e below K T m (pc + 1) Ls (.int z :: S)) : own_At p e below K T m pc Ls (.ref a :: S) := by
  obtain ⟨cl, Ar, Sz, Ng⟩ := F
  exact own_step (fun _ k => X.arraylength hx (by rw [eT]; exact Ar.1) (State.isArrayOf_alike hZ.alike Ar.2.1) (g := mkF m pc Ls (.ref a :: S)) rfl rfl hd _ (by rw [len_of Sz Ng]; exact k)) hF
theorem own_alnV {a : Addr} {k : ClassId} {ty : FieldType} {z : Int32} {vs : List Value} {dv : Value} (F : Arv Z h a k ty z vs dv) : own_Aln Z h a ty z := by
  obtain ⟨cl, Ar, q, Sz, Ng, H, G⟩ := F
  exact ⟨cl, Ar, Sz, Ng⟩
theorem own_ldcI (X : Stand p l e R s m args below meth c T locs cells slots) (hx : p.tables.exec = Jvm.exec) {own : String} {index : Nat} {v : Int32} (hZ : Z.Warmed39 s.vm) (hown : s.vm.findClass own = some m.cls) (w : (Jvm.Cond.constant own index v).before a0 Z = true) (hd : decode c.code pc = .ok (.ldc index, 2)) (hF : own_At p e below K T m (pc + 2) Ls (.int v :: S)) : own_At p e below K T m pc Ls S := own_step (fun _ k => X.ldcInt hx hown (mvT hZ w) (g := mkF m pc Ls S) rfl hd _ k) hF
theorem own_ldcL (X : Stand p l e R s m args below meth c T locs cells slots) (hx : p.tables.exec = Jvm.exec) {own : String} {index : Nat} {v : Int64} (hZ : Z.Warmed39 s.vm) (hown : s.vm.findClass own = some m.cls) (w : (Jvm.Cond.constantLong own index v).before a0 Z = true) (hd : decode c.code pc = .ok (.ldc2_w index, 3)) (hF : own_At p e below K T m (pc + 3) Ls (.long v :: S)) : own_At p e below K T m pc Ls S := own_step (fun _ k => X.ldc2Long hx hown (mvT hZ w) (g := mkF m pc Ls S) rfl hd _ k) hF
theorem own_cVirt (X : Stand p l e R s m args below meth c T locs cells slots) (hx : p.tables.exec = Jvm.exec) (hZ : Z.Warmed39 s.vm) {y z : MethodName} {bytes : ByteArray} {maxL W : Nat} {ret : Option FieldType} {rm : Room} {Q' : Option Value → Heap → List Loc → Prop} {own C : String} {index : Nat} {b : Addr} {rest : List Value} (argsL : List Value) (hown : s.vm.findClass own = some m.cls) (w1 : (Jvm.Cond.methodLink own index y).before a0 Z = true) (w2 : (Jvm.Cond.declares y).before a0 Z = true) (nf : NotFace s y) (w3 : (Jvm.Cond.selects C y z).before a0 Z = true) (w4 : (Jvm.Cond.instanceMethod z).before a0 Z = true) (hy : y.cls ≠ "java/lang/invoke/MethodHandle" ∧ y.cls ≠ "java/lang/invoke/VarHandle") (wc : (Jvm.Cond.code z bytes maxL ret).before a0 Z = true) (wz : (Jvm.Cond.initialized z.cls).before a0 Z = true) (eT : T.heap = h) (E : Exa Z h b C) (hM : own_Met l z bytes maxL ret [] rm Z (.ref b :: argsL).toArray h Q') (hsize : Ls.size = c.maxLocals) (hlen : ∀ sig, parseMethodDescriptor y.desc = some sig → argsL.length = sig.parameters.length) (hstack : S = argsL.reverse ++ .ref b :: rest) (hW : (rest.map fun v => v.category).sum ≤ W) (hd : decode c.code pc = .ok (.invokevirtual index, 3)) (hf : rm.frames + 1 ≤ R.frames) (hl : W + (maxL + 11) + rm.locals ≤ R.locals) (hc : cells + rm.cells ≤ R.cells) (hs : slots + rm.slots ≤ R.slots) (hF : ∀ (v : Option Value) (T' : State) (L : List Loc), Stand p l e R s m args below meth c T' (locs ++ L) (cells + rm.cells) (slots + rm.slots) → Q' v T'.heap L → own_At p e below K T' m (pc + 3) Ls (v.toList ++ rest)) : own_At p e below K T m pc Ls S := by
  subst hstack
  obtain ⟨v, T', L, X', hQ, st⟩ := own_virt X hx hZ hown w1 w2 nf w3 w4 hy wc wz eT E hM (g := mkF m pc Ls (argsL.reverse ++ .ref b :: rest)) rfl hsize hlen rfl (W := W) (by show 2 * 0 + _ ≤ _; omega) hd hf hl hc hs
  exact own_step (fun t k => st _ k) (hF v T' L X' hQ)
theorem own_cVirtUp (X : Stand p l e R s m args below meth c T locs cells slots) (hx : p.tables.exec = Jvm.exec) (hZ : Z.Warmed39 s.vm) {y z : MethodName} {bytes : ByteArray} {maxL W : Nat} {ret : Option FieldType} {rm : Room} {Q' : Option Value → Heap → List Loc → Prop} {own C : String} {index : Nat} {b : Addr} {rest : List Value} (argsL : List Value) (hown : s.vm.findClass own = some m.cls) (w1 : (Jvm.Cond.methodLink own index y).before a0 Z = true) {owner : String} (ws : (Jvm.Cond.sameMethod y.cls owner y.name y.desc).before a0 Z = true) (w2 : (Jvm.Cond.declares ⟨owner, y.name, y.desc⟩).before a0 Z = true) (ho : owner ≠ "java/lang/invoke/MethodHandle" ∧ owner ≠ "java/lang/invoke/VarHandle") (w3 : (Jvm.Cond.selects C y z).before a0 Z = true) (w4 : (Jvm.Cond.instanceMethod z).before a0 Z = true) (wc : (Jvm.Cond.code z bytes maxL ret).before a0 Z = true) (wz : (Jvm.Cond.initialized z.cls).before a0 Z = true) (eT : T.heap = h) (E : Exa Z h b C) (hM : own_Met l z bytes maxL ret [] rm Z (.ref b :: argsL).toArray h Q') (hsize : Ls.size = c.maxLocals) (hlen : ∀ sig, parseMethodDescriptor y.desc = some sig → argsL.length = sig.parameters.length) (hstack : S = argsL.reverse ++ .ref b :: rest) (hW : (rest.map fun v => v.category).sum ≤ W) (hd : decode c.code pc = .ok (.invokevirtual index, 3)) (hf : rm.frames + 1 ≤ R.frames) (hl : W + (maxL + 11) + rm.locals ≤ R.locals) (hc : cells + rm.cells ≤ R.cells) (hs : slots + rm.slots ≤ R.slots) (hF : ∀ (v : Option Value) (T' : State) (L : List Loc), Stand p l e R s m args below meth c T' (locs ++ L) (cells + rm.cells) (slots + rm.slots) → Q' v T'.heap L → own_At p e below K T' m (pc + 3) Ls (v.toList ++ rest)) : own_At p e below K T m pc Ls S := by
  subst hstack
  obtain ⟨v, T', L, X', hQ, st⟩ := own_virtUp X hx hZ hown w1 ws w2 ho w3 w4 wc wz eT E hM (g := mkF m pc Ls (argsL.reverse ++ .ref b :: rest)) rfl hsize hlen rfl (W := W) (by show 2 * 0 + _ ≤ _; omega) hd hf hl hc hs
  exact own_step (fun t k => st _ k) (hF v T' L X' hQ)
theorem own_cStat (X : Stand p l e R s m args below meth c T locs cells slots) (hx : p.tables.exec = Jvm.exec) (hZ : Z.Warmed39 s.vm) {y : MethodName} {bytes : ByteArray} {maxL W : Nat} {ret : Option FieldType} {rm : Room} {Q' : Option Value → Heap → List Loc → Prop} {own : String} {index : Nat} {rest : List Value} (argsL : List Value) (hown : s.vm.findClass own = some m.cls) (w1 : (Jvm.Cond.methodLink own index y).before a0 Z = true) (w2 : (Jvm.Cond.static y).before a0 Z = true) (hy : y.cls ≠ "java/lang/invoke/MethodHandle" ∧ y.cls ≠ "java/lang/invoke/VarHandle") (wc : (Jvm.Cond.code y bytes maxL ret).before a0 Z = true) (wz : (Jvm.Cond.initialized y.cls).before a0 Z = true) (eT : T.heap = h) (hM : own_Met l y bytes maxL ret [] rm Z argsL.toArray h Q') (hsize : Ls.size = c.maxLocals) (hlen : ∀ sig, parseMethodDescriptor y.desc = some sig → argsL.length = sig.parameters.length) (hstack : S = argsL.reverse ++ rest) (hW : (rest.map fun v => v.category).sum ≤ W) (hd : decode c.code pc = .ok (.invokestatic index, 3)) (hf : rm.frames + 1 ≤ R.frames) (hl : W + (maxL + 11) + rm.locals ≤ R.locals) (hc : cells + rm.cells ≤ R.cells) (hs : slots + rm.slots ≤ R.slots) (hF : ∀ (v : Option Value) (T' : State) (L : List Loc), Stand p l e R s m args below meth c T' (locs ++ L) (cells + rm.cells) (slots + rm.slots) → Q' v T'.heap L → own_At p e below K T' m (pc + 3) Ls (v.toList ++ rest)) : own_At p e below K T m pc Ls S := by
  subst hstack
  obtain ⟨v, T', L, X', hQ, st⟩ := own_stat X hx hZ hown w1 w2 hy wc wz eT hM (g := mkF m pc Ls (argsL.reverse ++ rest)) rfl hsize hlen rfl (W := W) (by show 2 * 0 + _ ≤ _; omega) hd hf hl hc hs
  exact own_step (fun t k => st _ k) (hF v T' L X' hQ)
section Spec
variable {ret' : Unit}
theorem own_cSpec (X : Stand p l e R s m args below meth c T locs cells slots) (hx : p.tables.exec = Jvm.exec) (hZ : Z.Warmed39 s.vm) {y : MethodName} {bytes : ByteArray} {maxL W : Nat} {rm : Room} {Q' : Option Value → Heap → List Loc → Prop} {own : String} {index : Nat} {b : Addr} {rest : List Value} (argsL : List Value) (hy1 : y.name = "<init>") (hown : s.vm.findClass own = some m.cls) (w1 : (Jvm.Cond.methodLink own index y).before a0 Z = true) (w2 : (Jvm.Cond.instanceMethod y).before a0 Z = true) (hy : y.cls ≠ "java/lang/invoke/MethodHandle" ∧ y.cls ≠ "java/lang/invoke/VarHandle") (wc : (Jvm.Cond.code y bytes maxL none).before a0 Z = true) (wz : (Jvm.Cond.initialized y.cls).before a0 Z = true) (eT : T.heap = h) (hM : own_Met l y bytes maxL none [] rm Z (.ref b :: argsL).toArray h Q') (hsize : Ls.size = c.maxLocals) (hlen : ∀ sig, parseMethodDescriptor y.desc = some sig → argsL.length = sig.parameters.length) (hstack : S = argsL.reverse ++ .ref b :: rest) (hW : (rest.map fun v => v.category).sum ≤ W) (hd : decode c.code pc = .ok (.invokespecial index, 3)) (hf : rm.frames + 1 ≤ R.frames) (hl : W + (maxL + 11) + rm.locals ≤ R.locals) (hc : cells + rm.cells ≤ R.cells) (hs : slots + rm.slots ≤ R.slots) (hF : ∀ (v : Option Value) (T' : State) (L : List Loc), Stand p l e R s m args below meth c T' (locs ++ L) (cells + rm.cells) (slots + rm.slots) → Q' v T'.heap L → own_At p e below K T' m (pc + 3) Ls (v.toList ++ rest)) : own_At p e below K T m pc Ls S := by
  subst hstack
  obtain ⟨v, T', L, X', hQ, st⟩ := own_spec X hx hZ hy1 hown w1 w2 hy wc wz eT hM (g := mkF m pc Ls (argsL.reverse ++ .ref b :: rest)) rfl hsize hlen rfl (W := W) (by show 2 * 0 + _ ≤ _; omega) hd hf hl hc hs
  exact own_step (fun t k => st _ k) (hF v T' L X' hQ)
end Spec
end OwnSteps
section OwnWide
variable {p : Program} {l : Launch} {e : Env} {R : Room} {s : State} {m : MethodId} {args : Array Value} {below : List Frame} {meth : Method} {c : Code} {T : State} {locs : List Loc} {cells slots : Nat} {Z : State} {a0 : Array Value} {h : Heap} {K : State → Outcome → Prop} {pc : Nat} {Ls l' : Array Slot} {S : List Value} {EL : List (String × Nat)} {vm0 : Vm} {k0 : Nat}
variable {y : MethodName} {bytes : ByteArray} {maxL W : Nat} {ret : Option FieldType} {rm : Room} {Q' : Option Value → Heap → List Loc → Prop} {own : String} {index : Nat} {b : Addr} {rest : List Value}
/-- a constructor that may load a literal -/
theorem own_cSpecW (X : Stand p l e R (s.setVm vm0) m args below meth c T locs cells slots) (hx : p.tables.exec = Jvm.exec) (hZ : Z.Warmed39 (s.setVm vm0).vm) (argsL : List Value) (hy1 : y.name = "<init>") (hown : (s.setVm vm0).vm.findClass own = some m.cls) (w1 : (Jvm.Cond.methodLink own index y).before a0 Z = true) (w2 : (Jvm.Cond.instanceMethod y).before a0 Z = true) (hy : y.cls ≠ "java/lang/invoke/MethodHandle" ∧ y.cls ≠ "java/lang/invoke/VarHandle")
    (wc : (Jvm.Cond.code y bytes maxL none).before a0 Z = true) (wz : (Jvm.Cond.initialized y.cls).before a0 Z = true) (eT : T.heap = h) (hM : own_MetW l y bytes maxL none [] rm Z EL (.ref b :: argsL).toArray h Q') (hEL : EW Z a0 EL) (hC : CHv Z EL vm0 h) (hS : s.Since vm0 k0) (hk : k0 ≤ h.size)
    (hsize : Ls.size = c.maxLocals) (hlen : ∀ sig, parseMethodDescriptor y.desc = some sig → argsL.length = sig.parameters.length) (hstack : S = argsL.reverse ++ .ref b :: rest) (hW : (rest.map fun v => v.category).sum ≤ W) (hd : decode c.code pc = .ok (.invokespecial index, 3)) (hf : rm.frames + 1 ≤ R.frames) (hl : W + (maxL + 11) + rm.locals ≤ R.locals) (hc : cells + rm.cells ≤ R.cells) (hs : slots + rm.slots ≤ R.slots)
    (hF : ∀ (v : Option Value) (T' : State) (L : List Loc), Stand p l e R (s.setVm T'.vm) m args below meth c T' (locs ++ L) (cells + rm.cells) (slots + rm.slots) → s.Since T'.vm T'.heap.size → Z.Warmed39 (s.setVm T'.vm).vm → (s.setVm T'.vm).vm.findClass own = some m.cls → CHr Z EL vm0 h T'.vm T'.heap → Q' v T'.heap L → own_At p e below K T' m (pc + 3) Ls (v.toList ++ rest)) : own_At p e below K T m pc Ls S := by
  subst hstack
  obtain ⟨v, vm1, ⟨T', L', k', n'⟩, -, X', hS', hg', ⟨L, hQ, hl', hk', hn', hR⟩, st⟩ := X.specialBackS hx (y := y) hy1 hown (mvT hZ w1) (mvT hZ w2) (mvT hZ wc) hy (backOfSH (W := W) hM hZ wc wz hf hl hEL hC) (g := mkF m pc Ls (argsL.reverse ++ .ref b :: rest)) rfl hsize (Steps.refl _) hlen rfl (by show 2 * 0 + _ ≤ _; omega) hd (fun _ _ => ⟨rfl, eT, hc, hs⟩)
  dsimp only [Pt.U, Pt.locs, Pt.cells, Pt.slots] at X' hS' hg' hl' hk' hn' hR st hQ
  subst hl' hk' hn'
  obtain ⟨X2, hS2, hZ2, ho2⟩ := rebS hS (by rw [eT]; exact hk) X' hS' hg' hZ hown
  exact own_step (fun t k => st.trans k) (hF v T' L X2 hS2 hZ2 ho2 hR hQ)
/-- a static method that may load a literal -/
theorem own_cStatW (X : Stand p l e R (s.setVm vm0) m args below meth c T locs cells slots) (hx : p.tables.exec = Jvm.exec) (hZ : Z.Warmed39 (s.setVm vm0).vm) (argsL : List Value) (hown : (s.setVm vm0).vm.findClass own = some m.cls) (w1 : (Jvm.Cond.methodLink own index y).before a0 Z = true) (w2 : (Jvm.Cond.static y).before a0 Z = true) (hy : y.cls ≠ "java/lang/invoke/MethodHandle" ∧ y.cls ≠ "java/lang/invoke/VarHandle")
    (wc : (Jvm.Cond.code y bytes maxL ret).before a0 Z = true) (wz : (Jvm.Cond.initialized y.cls).before a0 Z = true) (eT : T.heap = h) (hM : own_MetW l y bytes maxL ret [] rm Z EL argsL.toArray h Q') (hEL : EW Z a0 EL) (hC : CHv Z EL vm0 h) (hS : s.Since vm0 k0) (hk : k0 ≤ h.size)
    (hsize : Ls.size = c.maxLocals) (hlen : ∀ sig, parseMethodDescriptor y.desc = some sig → argsL.length = sig.parameters.length) (hstack : S = argsL.reverse ++ rest) (hW : (rest.map fun v => v.category).sum ≤ W) (hd : decode c.code pc = .ok (.invokestatic index, 3)) (hf : rm.frames + 1 ≤ R.frames) (hl : W + (maxL + 11) + rm.locals ≤ R.locals) (hc : cells + rm.cells ≤ R.cells) (hs : slots + rm.slots ≤ R.slots)
    (hF : ∀ (v : Option Value) (T' : State) (L : List Loc), Stand p l e R (s.setVm T'.vm) m args below meth c T' (locs ++ L) (cells + rm.cells) (slots + rm.slots) → s.Since T'.vm T'.heap.size → Z.Warmed39 (s.setVm T'.vm).vm → (s.setVm T'.vm).vm.findClass own = some m.cls → CHr Z EL vm0 h T'.vm T'.heap → Q' v T'.heap L → own_At p e below K T' m (pc + 3) Ls (v.toList ++ rest)) : own_At p e below K T m pc Ls S := by
  subst hstack
  obtain ⟨v, vm1, ⟨T', L', k', n'⟩, -, X', hS', hg', ⟨L, hQ, hl', hk', hn', hR⟩, st⟩ := callSS X hx (y := y) hown (mvT hZ w1) (mvT hZ w2) (mvT hZ wz) (mvT hZ wc) hy (backOfSH (W := W) hM hZ wc wz hf hl hEL hC) (g := mkF m pc Ls (argsL.reverse ++ rest)) rfl hsize hlen rfl (by show 2 * 0 + _ ≤ _; omega) hd (fun _ _ => ⟨rfl, eT, hc, hs⟩)
  dsimp only [Pt.U, Pt.locs, Pt.cells, Pt.slots] at X' hS' hg' hl' hk' hn' hR st hQ
  subst hl' hk' hn'
  obtain ⟨X2, hS2, hZ2, ho2⟩ := rebS hS (by rw [eT]; exact hk) X' hS' hg' hZ hown
  exact own_step (fun t k => st.trans k) (hF v T' L X2 hS2 hZ2 ho2 hR hQ)
/-- the empty literal -/
theorem own_ldcE (X : Stand p l e R (s.setVm vm0) m args below meth c T locs cells slots) (hx : p.tables.exec = Jvm.exec) (hZ : Z.Warmed39 (s.setVm vm0).vm) (hown : (s.setVm vm0).vm.findClass own = some m.cls) (w : (Jvm.Cond.stringLink own index "").before a0 Z = true) (wS : ∀ a ∈ Bundle.stringAtoms, a.before a0 Z = true) (eT : T.heap = h) (hEL : EW Z a0 EL) (hmem : (own, index) ∈ EL) (hC : CHv Z EL vm0 h) (hS : s.Since vm0 k0) (hk : k0 ≤ h.size) (hd : decode c.code pc = .ok (.ldc index, 2)) (hc : cells + 2 ≤ R.cells) (hl : slots + 4 ≤ R.slots)
    (hF : ∀ (a b : Addr) (T' : State) (h' : Heap) (k1 : Nat) (k : ClassId), Stand p l e R (s.setVm T'.vm) m args below meth c T' locs (cells + 2) (slots + 4) → T'.heap = h' → Ext h h' → s.Since T'.vm k1 → k1 ≤ h'.size → Z.Warmed39 (s.setVm T'.vm).vm → (s.setVm T'.vm).vm.findClass own = some m.cls → Exa Z h' a "java/lang/String" → Fld Z h' a "java/lang/String" "coder" "B" (.int (0 : Int32)) → Fld Z h' a "java/lang/String" "value" "[B" (.ref b) → Arv Z h' b k .byte (0 : Int32) [] (.int (0 : Int32)) → CHr Z EL vm0 h T'.vm h' → (∀ x, Safe Z EL T'.vm h' x → x ≠ a ∧ x ≠ b) → own_At p e below K T' m (pc + 2) Ls (.ref a :: S)) : own_At p e below K T m pc Ls S := by
  obtain ⟨a, T', h', k1, b, k, X', e', E', hS', hk', hZ', ho', Ea, Fc, Fv, Vb, -, -, hR, -, hs', st⟩ := ldcCH X hx hZ hown w wS eT hS hk hEL hmem hC (vs := []) (z := 0) ⟨by simp, rfl⟩ (by decide) rfl (g := mkF m pc Ls S) rfl hd (n := 0) (by decide) (by decide) hc hl
  exact own_step (fun t k => st _ k) (hF a b T' h' k1 k X' e' E' hS' hk' hZ' ho' Ea Fc Fv Vb hR hs')
/-- a fresh String is no booked one -/
theorem own_safeFresh {vm : Vm} {x : Addr} (hal : Z.vm.Alike vm) (E : Exa Z h x "java/lang/String") (F : Fld Z h x "java/lang/String" "value" "[B" .null) : Safe Z EL vm h x := fun B => by
  obtain ⟨cell, k, e1, e2, e3, -, -⟩ := E
  obtain ⟨cell', cf, kf, i, f, g1, g2, -, -, -, -, g7⟩ := F
  cases e1.symm.trans g1
  obtain ⟨p, -, u, a, -, q, -, Fq, rfl | rfl⟩ := B
  · cases (show h[q.sa]? = some q.sC from Fq.ha).symm.trans e1
    obtain ⟨cS, ⟨⟨s1, s2, s3, ⟨cv, kv, iv, s4, s4'⟩, s5, s6, s7, s8, -⟩, -⟩, -⟩ := Fq
    obtain ⟨k', z4⟩ := ff_back (U := Wst Z vm h) hal s4
    cases z4.symm.trans g2
    cases s8.symm.trans g7
  · cases (show h[q.sd]? = some q.SA from Fq.hd).symm.trans e1
    obtain ⟨cS, -, -, f2, -⟩ := Fq
    have f3 : Z.vm.findClass "[B" = some q.SA.cls := by rw [← hal.findClass]; exact f2
    obtain ⟨k1, q1, q2⟩ := Vm.findClass_spec f3
    obtain ⟨k2, q3, q4⟩ := Vm.findClass_spec e2
    cases q1.symm.trans q3
    exact absurd (q2.symm.trans q4) (by decide)
end OwnWide
abbrev own_EL : List (String × Nat) := [("java/lang/String", 7)]
theorem own_ELw {Z : State} {a0 : Array Value} (hw : ∀ d ∈ tables_1, d.before a0 Z = true) : EW Z a0 own_EL := EW.cons (hw _ (List.mem_of_getElem? (i := 19) rfl)) (by simp) EW.nil
theorem own_wS {Z : State} {a0 : Array Value} (hw : ∀ d ∈ tables_1, d.before a0 Z = true) : ∀ a ∈ Bundle.stringAtoms, a.before a0 Z = true := fun a ha => by
  simp only [Bundle.stringAtoms, Bundle.sN, List.mem_cons, List.not_mem_nil, or_false] at ha
  rcases ha with rfl | rfl | rfl | rfl | rfl | rfl | rfl
  · exact (hw _ (List.mem_of_getElem? (i := 8) rfl))
  · exact (hw _ (List.mem_of_getElem? (i := 7) rfl))
  · exact (hw _ (List.mem_of_getElem? (i := 20) rfl))
  · exact (hw _ (List.mem_of_getElem? (i := 21) rfl))
  · exact (hw _ (List.mem_of_getElem? (i := 22) rfl))
  · exact (hw _ (List.mem_of_getElem? (i := 23) rfl))
  · exact (hw _ (List.mem_of_getElem? (i := 24) rfl))
theorem own_b8 (x : Int32) : (x.toInt8.toInt32).toInt8.toInt32 = x.toInt8.toInt32 := by simp
theorem own_cI2c (y : Int32) : (y &&& (255 : Int32)).toUInt32.toUInt16.toUInt32.toInt32 = (y &&& (255 : Int32)) := i2c_mask y
theorem own_narc {x : Int32} (h0 : ¬ x < (0 : Int32)) (h1 : ¬ (255 : Int32) < x) : nar .char x = x := by
  have e := c_i2c x
  have k0 : (0 : Int32).toInt = 0 := by decide
  have k1 : (255 : Int32).toInt = 255 := by decide
  simp only [Int32.lt_iff_toInt_lt, k0, k1] at h0 h1
  show x.toUInt32.toUInt16.toUInt32.toInt32 = x
  rw [← Int32.toInt_inj]
  omega
theorem own_and255 (y : Int32) : ¬ (y &&& (255 : Int32)) < (0 : Int32) ∧ ¬ (255 : Int32) < (y &&& (255 : Int32)) := by
  have e := c_and y 255 (by decide)
  have k0 : (0 : Int32).toInt = 0 := by decide
  have k1 : (255 : Int32).toInt = 255 := by decide
  simp only [Int32.lt_iff_toInt_lt, k0, k1] at *
  omega
theorem own_dot {x : Int32} (h0 : ¬ x < (0 : Int32)) (h1 : ¬ (255 : Int32) < x) (q : ¬ x = (46 : Int32)) : ¬ (x.toInt8.toInt32) = (46 : Int32) := fun u => by
  have e := c_i2b x
  have k0 : (0 : Int32).toInt = 0 := by decide
  have k1 : (255 : Int32).toInt = 255 := by decide
  have k2 : (46 : Int32).toInt = 46 := by decide
  simp only [Int32.lt_iff_toInt_lt, k0, k1] at h0 h1
  simp only [← Int32.toInt_inj, k2] at q u
  omega
theorem d1_0 : decode method_2_code 0 = .ok (.iload_n 0, 1) := by decide +kernel
theorem d1_1 : decode method_2_code 1 = .ok (.iconst 1, 1) := by decide +kernel
theorem d1_2 : decode method_2_code 2 = .ok (.iand, 1) := by decide +kernel
theorem d1_3 : decode method_2_code 3 = .ok (.ifCond .ne 6, 3) := by decide +kernel
theorem d1_6 : decode method_2_code 6 = .ok (.bipush 46, 2) := by decide +kernel
theorem d1_8 : decode method_2_code 8 = .ok (.ireturn, 1) := by decide +kernel
theorem d1_9 : decode method_2_code 9 = .ok (.iload_n 0, 1) := by decide +kernel
theorem d1_10 : decode method_2_code 10 = .ok (.iconst 1, 1) := by decide +kernel
theorem d1_11 : decode method_2_code 11 = .ok (.iushr, 1) := by decide +kernel
theorem d1_12 : decode method_2_code 12 = .ok (.sipush 255, 3) := by decide +kernel
theorem d1_15 : decode method_2_code 15 = .ok (.iand, 1) := by decide +kernel
theorem d1_16 : decode method_2_code 16 = .ok (.i2c, 1) := by decide +kernel
theorem d1_17 : decode method_2_code 17 = .ok (.ireturn, 1) := by decide +kernel
theorem pn_0 : plainName "com/example/ratatoskr/ratatoskr/DomainNameIsSingleLabelPinLaw" = true := by first | (simp [plainName, overriddenIn]; done) | decide +kernel
set_option maxRecDepth 65536 in
set_option maxHeartbeats 40000000 in
theorem rmCh (l : Launch) (Z : State) (a0 : Array Value) (hw : ∀ d ∈ tables_1, d.before a0 Z = true) (ws : List Jvm.Cond)  (x : Int32) (h0 : Heap) (n0 : Nat) (Z0 : n0 ≤ h0.size) :
    own_Met l (⟨"com/example/ratatoskr/ratatoskr/DomainNameIsSingleLabelPinLaw", "ch", "(I)C"⟩ : MethodName) method_2_code 1 (some .char) ws ({ frames := 0, cells := 0, slots := 0, locals := 0 } : Room) Z #[(.int x)] h0 (fun v h L => ∃ c : Int32, v = some (.int c) ∧ Fr n0 L ∧ h = h0 ∧ ¬ c < (0 : Int32) ∧ ¬ (255 : Int32) < c) := by
  refine own_body (plainFor_of_name pn_0) ?_
  intro p e s m below meth c s₁ X0 hx hby hml hown hnm hret hlk hZ e0
  replace hown : s.vm.findClass "com/example/ratatoskr/ratatoskr/DomainNameIsSingleLabelPinLaw" = some m.cls := hown
  replace hml : c.maxLocals = 1 := hml
  replace hret : meth.sig.returnType = (some .char) := hret
  have N0 := Fr.nil n0
  have ef : entryFrame m #[(.int x)] 1 = mkF m 0 #[.val (.int x)] [] := by first | (simp [entryFrame, mkF, argsToLocals, Value.category]; done) | rfl
  refine own_step (S' := (s₁.setTop (mkF m 0 #[.val (.int x)] []))) (fun _ k => castTop ef k) ?_
  refine own_iloadN X0 hx (hb hby d1_0) rfl ?_
  refine own_iconst X0 hx (1 : Int32) (hb hby d1_1) rfl ?_
  refine own_iand X0 hx (hb hby d1_2) ?_
  by_cases hc1 : (x &&& (1 : Int32)) = (0 : Int32)
  · refine own_ifNo X0 hx (hb hby d1_3) (teq hc1).2 ?_
    refine own_bipush X0 hx (46 : Int32) (hb hby d1_6) rfl ?_
    refine own_retN X0 hx hlk hret (by simp) (by decide) (hb hby d1_8) (own_kN (by decide) (by decide) ?_)
    try rw [e0]
    exact ⟨_, rfl, N0, rfl, by decide, by decide⟩
  · refine own_ifYes X0 hx 9 (hb hby d1_3) (feq hc1).2 (by decide) (by decide) ?_
    refine own_iloadN X0 hx (hb hby d1_9) rfl ?_
    refine own_iconst X0 hx (1 : Int32) (hb hby d1_10) rfl ?_
    refine own_iushr X0 hx (hb hby d1_11) ?_
    refine own_sipush X0 hx (255 : Int32) (hb hby d1_12) rfl ?_
    refine own_iand X0 hx (hb hby d1_15) ?_
    refine own_i2c X0 hx (hb hby d1_16) ?_
    refine own_retN X0 hx hlk hret (by simp) (by rw [own_cI2c]; exact own_cI2c _) (hb hby d1_17) (own_kN (by decide) (by decide) ?_)
    try rw [e0]
    exact ⟨_, rfl, N0, rfl, by rw [own_cI2c]; exact (own_and255 _).1, by rw [own_cI2c]; exact (own_and255 _).2⟩
theorem d16_0 : decode jdk_52_method_21_code 0 = .ok (.iconst 0, 1) := by decide +kernel
theorem d16_1 : decode jdk_52_method_21_code 1 = .ok (.istore 5, 2) := by decide +kernel
theorem d16_3 : decode jdk_52_method_21_code 3 = .ok (.iload 5, 2) := by decide +kernel
theorem d16_5 : decode jdk_52_method_21_code 5 = .ok (.iload 4, 2) := by decide +kernel
theorem d16_7 : decode jdk_52_method_21_code 7 = .ok (.if_icmp .ge 37, 3) := by decide +kernel
theorem d16_10 : decode jdk_52_method_21_code 10 = .ok (.aload_n 0, 1) := by decide +kernel
theorem d16_11 : decode jdk_52_method_21_code 11 = .ok (.iload_n 1, 1) := by decide +kernel
theorem d16_12 : decode jdk_52_method_21_code 12 = .ok (.caload, 1) := by decide +kernel
theorem d16_13 : decode jdk_52_method_21_code 13 = .ok (.istore 6, 2) := by decide +kernel
theorem d16_15 : decode jdk_52_method_21_code 15 = .ok (.iload 6, 2) := by decide +kernel
theorem d16_17 : decode jdk_52_method_21_code 17 = .ok (.sipush 255, 3) := by decide +kernel
theorem d16_20 : decode jdk_52_method_21_code 20 = .ok (.if_icmp .le 6, 3) := by decide +kernel
theorem d16_23 : decode jdk_52_method_21_code 23 = .ok (.iload 5, 2) := by decide +kernel
theorem d16_25 : decode jdk_52_method_21_code 25 = .ok (.ireturn, 1) := by decide +kernel
theorem d16_26 : decode jdk_52_method_21_code 26 = .ok (.aload_n 2, 1) := by decide +kernel
theorem d16_27 : decode jdk_52_method_21_code 27 = .ok (.iload_n 3, 1) := by decide +kernel
theorem d16_28 : decode jdk_52_method_21_code 28 = .ok (.iload 6, 2) := by decide +kernel
theorem d16_30 : decode jdk_52_method_21_code 30 = .ok (.i2b, 1) := by decide +kernel
theorem d16_31 : decode jdk_52_method_21_code 31 = .ok (.bastore, 1) := by decide +kernel
theorem d16_32 : decode jdk_52_method_21_code 32 = .ok (.iinc 1 1, 3) := by decide +kernel
theorem d16_35 : decode jdk_52_method_21_code 35 = .ok (.iinc 3 1, 3) := by decide +kernel
theorem d16_38 : decode jdk_52_method_21_code 38 = .ok (.iinc 5 1, 3) := by decide +kernel
theorem d16_41 : decode jdk_52_method_21_code 41 = .ok (.goto (-38), 3) := by decide +kernel
theorem d16_44 : decode jdk_52_method_21_code 44 = .ok (.iload 4, 2) := by decide +kernel
theorem d16_46 : decode jdk_52_method_21_code 46 = .ok (.ireturn, 1) := by decide +kernel
theorem pn_1 : plainName "java/lang/StringUTF16" = true := by first | (simp [plainName, overriddenIn]; done) | decide +kernel
set_option maxRecDepth 65536 in
set_option maxHeartbeats 40000000 in
theorem rmC2_1 (l : Launch) (Z : State) (a0 : Array Value) (hw : ∀ d ∈ tables_1, d.before a0 Z = true) (ws : List Jvm.Cond) (ca ba : Addr) (kc kb : ClassId) (c0 : Int32)  (h0 : Heap) (n0 : Nat) (Z0 : n0 ≤ h0.size) (Vc : Arv Z h0 ca kc .char (1 : Int32) [(.int c0)] (.int (0 : Int32))) (Vb : Arv Z h0 ba kb .byte (1 : Int32) [(.int (0 : Int32))] (.int (0 : Int32))) (g_ba : n0 ≤ ba) (hne : ca ≠ ba) (hx0 : ¬ ((255 : Int32) < c0)) :
    own_Met l (⟨"java/lang/StringUTF16", "compress", "([CI[BII)I"⟩ : MethodName) jdk_52_method_21_code 7 (some .int) ws ({ frames := 0, cells := 0, slots := 0, locals := 0 } : Room) Z #[(.ref ca), (.int (0 : Int32)), (.ref ba), (.int (0 : Int32)), (.int (1 : Int32))] h0 (fun v h L => v = some (.int (1 : Int32)) ∧ Fr n0 L ∧ Keep h0 h [ba] ∧ Arv Z h ba kb .byte (1 : Int32) [(.int (c0.toInt8.toInt32))] (.int (0 : Int32))) := by
  refine own_body (plainFor_of_name pn_1) ?_
  intro p e s m below meth c s₁ X0 hx hby hml hown hnm hret hlk hZ e0
  replace hown : s.vm.findClass "java/lang/StringUTF16" = some m.cls := hown
  replace hml : c.maxLocals = 7 := hml
  replace hret : meth.sig.returnType = (some .int) := hret
  have N0 := Fr.nil n0
  have ef : entryFrame m #[(.ref ca), (.int (0 : Int32)), (.ref ba), (.int (0 : Int32)), (.int (1 : Int32))] 7 = mkF m 0 #[.val (.ref ca), .val (.int (0 : Int32)), .val (.ref ba), .val (.int (0 : Int32)), .val (.int (1 : Int32)), .unset, .unset] [] := by first | (simp [entryFrame, mkF, argsToLocals, Value.category]; done) | rfl
  refine own_step (S' := (s₁.setTop (mkF m 0 #[.val (.ref ca), .val (.int (0 : Int32)), .val (.ref ba), .val (.int (0 : Int32)), .val (.int (1 : Int32)), .unset, .unset] []))) (fun _ k => castTop ef k) ?_
  refine own_iconst X0 hx (0 : Int32) (hb hby d16_0) rfl ?_
  refine own_istore (l' := #[.val (.ref ca), .val (.int (0 : Int32)), .val (.ref ba), .val (.int (0 : Int32)), .val (.int (1 : Int32)), .val (.int (0 : Int32)), .unset]) X0 hx (hb hby d16_1) rfl ?_
  refine own_iload X0 hx (hb hby d16_3) rfl ?_
  refine own_iload X0 hx (hb hby d16_5) rfl ?_
  refine own_icmpNo X0 hx (hb hby d16_7) (tlt (by decide : (0 : Int32) < (1 : Int32))).2.1 ?_
  refine own_aloadN X0 hx (hb hby d16_10) rfl rfl ?_
  refine own_iloadN X0 hx (hb hby d16_11) rfl ?_
  refine own_caload X0 hx hZ (.int c0) e0 Vc ⟨by decide, by decide⟩ rfl (hb hby d16_12) ?_
  refine own_istore (l' := #[.val (.ref ca), .val (.int (0 : Int32)), .val (.ref ba), .val (.int (0 : Int32)), .val (.int (1 : Int32)), .val (.int (0 : Int32)), .val (.int c0)]) X0 hx (hb hby d16_13) rfl ?_
  refine own_iload X0 hx (hb hby d16_15) rfl ?_
  refine own_sipush X0 hx (255 : Int32) (hb hby d16_17) rfl ?_
  refine own_icmpYes X0 hx 26 (hb hby d16_20) (flt hx0).2.2.2 (by decide) (by decide) ?_
  refine own_aloadN X0 hx (hb hby d16_26) rfl rfl ?_
  refine own_iloadN X0 hx (hb hby d16_27) rfl ?_
  refine own_iload X0 hx (hb hby d16_28) rfl ?_
  refine own_i2b X0 hx (hb hby d16_30) ?_
  refine own_stB (vs' := [(.int (c0.toInt8.toInt32))]) (w := (.int (c0.toInt8.toInt32))) X0 hx hZ e0 Vb ⟨by decide, by decide⟩ 0 rfl (Nat.le_of_ble_eq_true rfl) (congrArg Value.int (own_b8 _)) rfl (hb hby d16_31) fun T2 h2 X2 e2 W2 V2 => ?_
  have N2 := Fr.snoc X2 N0 g_ba
  refine own_iinc (l' := #[.val (.ref ca), .val (.int ((0 : Int32) + (1 : Int32))), .val (.ref ba), .val (.int (0 : Int32)), .val (.int (1 : Int32)), .val (.int (0 : Int32)), .val (.int c0)]) X2 hx (hb hby d16_32) rfl rfl ?_
  rw [show ((0 : Int32) + (1 : Int32)) = (1 : Int32) from by decide]
  refine own_iinc (l' := #[.val (.ref ca), .val (.int (1 : Int32)), .val (.ref ba), .val (.int ((0 : Int32) + (1 : Int32))), .val (.int (1 : Int32)), .val (.int (0 : Int32)), .val (.int c0)]) X2 hx (hb hby d16_35) rfl rfl ?_
  rw [show ((0 : Int32) + (1 : Int32)) = (1 : Int32) from by decide]
  refine own_iinc (l' := #[.val (.ref ca), .val (.int (1 : Int32)), .val (.ref ba), .val (.int (1 : Int32)), .val (.int (1 : Int32)), .val (.int ((0 : Int32) + (1 : Int32))), .val (.int c0)]) X2 hx (hb hby d16_38) rfl rfl ?_
  rw [show ((0 : Int32) + (1 : Int32)) = (1 : Int32) from by decide]
  refine own_goto X2 hx 3 (hb hby d16_41) (by decide) (by decide) ?_
  refine own_iload X2 hx (hb hby d16_3) rfl ?_
  refine own_iload X2 hx (hb hby d16_5) rfl ?_
  refine own_icmpYes X2 hx 44 (hb hby d16_7) (flt (by decide : ¬ ((1 : Int32) < (1 : Int32)))).2.1 (by decide) (by decide) ?_
  refine own_iload X2 hx (hb hby d16_44) rfl ?_
  refine own_retI X2 hx hlk hret (hb hby d16_46) (own_kN (by decide) (by decide) ?_)
  try rw [e2]
  exact ⟨rfl, N2, (Keep.wr (Keep.refl h0 [ba]) W2 (Or.inl (List.mem_of_getElem? (i := 0) rfl))), V2⟩
theorem d15_0 : decode jdk_52_method_16_code 0 = .ok (.iload_n 2, 1) := by decide +kernel
theorem d15_1 : decode jdk_52_method_16_code 1 = .ok (.newarray .byte, 2) := by decide +kernel
theorem d15_3 : decode jdk_52_method_16_code 3 = .ok (.astore_n 3, 1) := by decide +kernel
theorem d15_4 : decode jdk_52_method_16_code 4 = .ok (.aload_n 0, 1) := by decide +kernel
theorem d15_5 : decode jdk_52_method_16_code 5 = .ok (.iload_n 1, 1) := by decide +kernel
theorem d15_6 : decode jdk_52_method_16_code 6 = .ok (.aload_n 3, 1) := by decide +kernel
theorem d15_7 : decode jdk_52_method_16_code 7 = .ok (.iconst 0, 1) := by decide +kernel
theorem d15_8 : decode jdk_52_method_16_code 8 = .ok (.iload_n 2, 1) := by decide +kernel
theorem d15_9 : decode jdk_52_method_16_code 9 = .ok (.invokestatic 115, 3) := by decide +kernel
theorem d15_12 : decode jdk_52_method_16_code 12 = .ok (.istore 4, 2) := by decide +kernel
theorem d15_14 : decode jdk_52_method_16_code 14 = .ok (.iload 4, 2) := by decide +kernel
theorem d15_16 : decode jdk_52_method_16_code 16 = .ok (.iload_n 2, 1) := by decide +kernel
theorem d15_17 : decode jdk_52_method_16_code 17 = .ok (.if_icmp .eq 40, 3) := by decide +kernel
theorem d15_20 : decode jdk_52_method_16_code 20 = .ok (.aload_n 0, 1) := by decide +kernel
theorem d15_21 : decode jdk_52_method_16_code 21 = .ok (.iload_n 1, 1) := by decide +kernel
theorem d15_22 : decode jdk_52_method_16_code 22 = .ok (.iload_n 2, 1) := by decide +kernel
theorem d15_23 : decode jdk_52_method_16_code 23 = .ok (.invokestatic 119, 3) := by decide +kernel
theorem d15_26 : decode jdk_52_method_16_code 26 = .ok (.astore 5, 2) := by decide +kernel
theorem d15_28 : decode jdk_52_method_16_code 28 = .ok (.aload 5, 2) := by decide +kernel
theorem d15_30 : decode jdk_52_method_16_code 30 = .ok (.iload 4, 2) := by decide +kernel
theorem d15_32 : decode jdk_52_method_16_code 32 = .ok (.invokestatic 71, 3) := by decide +kernel
theorem d15_35 : decode jdk_52_method_16_code 35 = .ok (.sipush 255, 3) := by decide +kernel
theorem d15_38 : decode jdk_52_method_16_code 38 = .ok (.if_icmp .gt 16, 3) := by decide +kernel
theorem d15_41 : decode jdk_52_method_16_code 41 = .ok (.aload 5, 2) := by decide +kernel
theorem d15_43 : decode jdk_52_method_16_code 43 = .ok (.iconst 0, 1) := by decide +kernel
theorem d15_44 : decode jdk_52_method_16_code 44 = .ok (.aload_n 3, 1) := by decide +kernel
theorem d15_45 : decode jdk_52_method_16_code 45 = .ok (.iconst 0, 1) := by decide +kernel
theorem d15_46 : decode jdk_52_method_16_code 46 = .ok (.iload_n 2, 1) := by decide +kernel
theorem d15_47 : decode jdk_52_method_16_code 47 = .ok (.invokestatic 123, 3) := by decide +kernel
theorem d15_50 : decode jdk_52_method_16_code 50 = .ok (.iload_n 2, 1) := by decide +kernel
theorem d15_51 : decode jdk_52_method_16_code 51 = .ok (.if_icmp .eq 6, 3) := by decide +kernel
theorem d15_54 : decode jdk_52_method_16_code 54 = .ok (.aload 5, 2) := by decide +kernel
theorem d15_56 : decode jdk_52_method_16_code 56 = .ok (.areturn, 1) := by decide +kernel
theorem d15_57 : decode jdk_52_method_16_code 57 = .ok (.aload_n 3, 1) := by decide +kernel
theorem d15_58 : decode jdk_52_method_16_code 58 = .ok (.areturn, 1) := by decide +kernel
theorem pd_0 : parseMethodDescriptor "([CI[BII)I" = some ⟨[(.array .char), .int, (.array .byte), .int, .int], some .int⟩ := by decide +kernel
set_option maxRecDepth 65536 in
set_option maxHeartbeats 40000000 in
theorem rmC1_1 (l : Launch) (Z : State) (a0 : Array Value) (hw : ∀ d ∈ tables_1, d.before a0 Z = true) (ws : List Jvm.Cond) (ca : Addr) (kc : ClassId) (c0 : Int32)  (h0 : Heap) (n0 : Nat) (Z0 : n0 ≤ h0.size) (Vc : Arv Z h0 ca kc .char (1 : Int32) [(.int c0)] (.int (0 : Int32))) (hx0 : ¬ ((255 : Int32) < c0)) :
    own_Met l (⟨"java/lang/StringUTF16", "compress", "([CII)[B"⟩ : MethodName) jdk_52_method_16_code 6 (some (.array .byte)) ws ({ frames := 1, cells := 1, slots := 1, locals := 18 } : Room) Z #[(.ref ca), (.int (0 : Int32)), (.int (1 : Int32))] h0 (fun v h L => ∃ b k, v = some (.ref b) ∧ Fr n0 L ∧ Keep h0 h [] ∧ h0.size ≤ b ∧ n0 ≤ b ∧ Exa Z h b "[B" ∧ Arv Z h b k .byte (1 : Int32) [(.int (c0.toInt8.toInt32))] (.int (0 : Int32))) := by
  refine own_body (plainFor_of_name pn_1) ?_
  intro p e s m below meth c s₁ X0 hx hby hml hown hnm hret hlk hZ e0
  replace hown : s.vm.findClass "java/lang/StringUTF16" = some m.cls := hown
  replace hml : c.maxLocals = 6 := hml
  replace hret : meth.sig.returnType = (some (.array .byte)) := hret
  have N0 := Fr.nil n0
  have ef : entryFrame m #[(.ref ca), (.int (0 : Int32)), (.int (1 : Int32))] 6 = mkF m 0 #[.val (.ref ca), .val (.int (0 : Int32)), .val (.int (1 : Int32)), .unset, .unset, .unset] [] := by first | (simp [entryFrame, mkF, argsToLocals, Value.category]; done) | rfl
  refine own_step (S' := (s₁.setTop (mkF m 0 #[.val (.ref ca), .val (.int (0 : Int32)), .val (.int (1 : Int32)), .unset, .unset, .unset] []))) (fun _ k => castTop ef k) ?_
  refine own_iloadN X0 hx (hb hby d15_0) rfl ?_
  refine own_newP (n := (1 : Int32)) (cap := 1) (ad := "[B") X0 hx hZ (hw _ (List.mem_of_getElem? (i := 20) rfl)) e0 (hb hby d15_1) (by decide) (by decide) (by decide) (by decide) (by decide) (by decide) fun T3 h3 k3 b3 g3 X3 e3 E3 A3 Ex3 => ?_
  have g_b3 : n0 ≤ b3 := Nat.le_trans Z0 (Nat.le_of_eq g3.symm)
  have szo_b3 : h0.size ≤ b3 := Nat.le_trans (Nat.le_refl h0.size) (Nat.le_of_eq g3.symm)
  have V3 : Arv Z h3 b3 k3 .byte (1 : Int32) [(.int (0 : Int32))] (.int (0 : Int32)) := (Arv.new A3 (by decide)).pad (pad_rep [] (.int (0 : Int32)) 1)
  refine own_astoreN (l' := #[.val (.ref ca), .val (.int (0 : Int32)), .val (.int (1 : Int32)), .val (.ref b3), .unset, .unset]) X3 hx (hb hby d15_3) rfl rfl ?_
  refine own_aloadN X3 hx (hb hby d15_4) rfl rfl ?_
  refine own_iloadN X3 hx (hb hby d15_5) rfl ?_
  refine own_aloadN X3 hx (hb hby d15_6) rfl rfl ?_
  refine own_iconst X3 hx (0 : Int32) (hb hby d15_7) rfl ?_
  refine own_iloadN X3 hx (hb hby d15_8) rfl ?_
  refine own_cStat (W := 0) (rest := []) X3 hx hZ [(.ref ca), (.int (0 : Int32)), (.ref b3), (.int (0 : Int32)), (.int (1 : Int32))] hown (hw _ (List.mem_of_getElem? (i := 75) rfl)) (hw _ (List.mem_of_getElem? (i := 76) rfl)) (by decide) (hw _ (List.mem_of_getElem? (i := 77) rfl)) (hw _ (List.mem_of_getElem? (i := 73) rfl)) e3 (rmC2_1 l Z a0 hw [] ca b3 kc k3 c0 h3 n0 (Nat.le_trans Z0 E3.1) (Vc.ext E3) V3 g_b3 (Nat.ne_of_lt (Nat.lt_of_lt_of_le Vc.lt (Nat.le_of_eq g3.symm))) hx0) (by rw [hml]; rfl) (lenOf pd_0 rfl) rfl (Nat.le_of_eq rfl) (hb hby d15_9) (by decide) (by decide) (by decide) (by decide) fun v4 T4 L4 X4 hQ4 => ?_
  obtain ⟨rfl, N4q, K4, Vb4⟩ := hQ4
  have N4 := Fr.app N0 N4q
  show own_At p e below _ T4 m 12 _ [(.int (1 : Int32))]
  refine own_istore (l' := #[.val (.ref ca), .val (.int (0 : Int32)), .val (.int (1 : Int32)), .val (.ref b3), .val (.int (1 : Int32)), .unset]) X4 hx (hb hby d15_12) rfl ?_
  refine own_iload X4 hx (hb hby d15_14) rfl ?_
  refine own_iloadN X4 hx (hb hby d15_16) rfl ?_
  refine own_icmpYes X4 hx 57 (hb hby d15_17) (teq (by decide : (1 : Int32) = (1 : Int32))).1 (by decide) (by decide) ?_
  refine own_aloadN X4 hx (hb hby d15_57) rfl rfl ?_
  refine own_retA X4 hx hlk hret rfl rfl rfl (hb hby d15_58) (own_kN (by decide) (by decide) ?_)
  exact ⟨b3, k3, rfl, N4, (Keep.trans (Keep.ext (Keep.refl h0 []) E3) K4 (allS (Or.inr szo_b3) all0)), szo_b3, g_b3, (Exa.keep Ex3 K4), Vb4⟩
theorem d17_0 : decode jdk_52_method_15_code 0 = .ok (.iload_n 1, 1) := by decide +kernel
theorem d17_1 : decode jdk_52_method_15_code 1 = .ok (.aload_n 0, 1) := by decide +kernel
theorem d17_2 : decode jdk_52_method_15_code 2 = .ok (.arraylength, 1) := by decide +kernel
theorem d17_3 : decode jdk_52_method_15_code 3 = .ok (.isub, 1) := by decide +kernel
theorem d17_4 : decode jdk_52_method_15_code 4 = .ok (.bipush 31, 2) := by decide +kernel
theorem d17_6 : decode jdk_52_method_15_code 6 = .ok (.iushr, 1) := by decide +kernel
theorem d17_7 : decode jdk_52_method_15_code 7 = .ok (.i2b, 1) := by decide +kernel
theorem d17_8 : decode jdk_52_method_15_code 8 = .ok (.ireturn, 1) := by decide +kernel
set_option maxRecDepth 65536 in
set_option maxHeartbeats 40000000 in
theorem rmCF_1 (l : Launch) (Z : State) (a0 : Array Value) (hw : ∀ d ∈ tables_1, d.before a0 Z = true) (ws : List Jvm.Cond) (ba : Addr)  (h0 : Heap) (n0 : Nat) (Z0 : n0 ≤ h0.size) (A : own_Aln Z h0 ba .byte (1 : Int32)) :
    own_Met l (⟨"java/lang/StringUTF16", "coderFromArrayLen", "([BI)B"⟩ : MethodName) jdk_52_method_15_code 2 (some .byte) ws ({ frames := 0, cells := 0, slots := 0, locals := 0 } : Room) Z #[(.ref ba), (.int (1 : Int32))] h0 (fun v h L => v = some (.int (0 : Int32)) ∧ Fr n0 L ∧ h = h0) := by
  refine own_body (plainFor_of_name pn_1) ?_
  intro p e s m below meth c s₁ X0 hx hby hml hown hnm hret hlk hZ e0
  replace hown : s.vm.findClass "java/lang/StringUTF16" = some m.cls := hown
  replace hml : c.maxLocals = 2 := hml
  replace hret : meth.sig.returnType = (some .byte) := hret
  have N0 := Fr.nil n0
  have ef : entryFrame m #[(.ref ba), (.int (1 : Int32))] 2 = mkF m 0 #[.val (.ref ba), .val (.int (1 : Int32))] [] := by first | (simp [entryFrame, mkF, argsToLocals, Value.category]; done) | rfl
  refine own_step (S' := (s₁.setTop (mkF m 0 #[.val (.ref ba), .val (.int (1 : Int32))] []))) (fun _ k => castTop ef k) ?_
  refine own_iloadN X0 hx (hb hby d17_0) rfl ?_
  refine own_aloadN X0 hx (hb hby d17_1) rfl rfl ?_
  refine own_arraylength X0 hx hZ e0 A (hb hby d17_2) ?_
  refine own_isub X0 hx (hb hby d17_3) ?_
  rw [show ((1 : Int32) - (1 : Int32)) = (0 : Int32) from by decide]
  refine own_bipush X0 hx (31 : Int32) (hb hby d17_4) rfl ?_
  refine own_iushr X0 hx (hb hby d17_6) ?_
  rw [show (((0 : Int32).toUInt32 >>> ((31 : Int32) &&& 31).toUInt32).toInt32) = (0 : Int32) from by decide]
  refine own_i2b X0 hx (hb hby d17_7) ?_
  rw [show ((0 : Int32).toInt8.toInt32) = (0 : Int32) from by decide]
  refine own_retN X0 hx hlk hret (by simp) (by decide) (hb hby d17_8) (own_kN (by decide) (by decide) ?_)
  try rw [e0]
  exact ⟨rfl, N0, rfl⟩
theorem d3_0 : decode jdk_42_method_149_code 0 = .ok (.aload_n 0, 1) := by decide +kernel
theorem d3_1 : decode jdk_42_method_149_code 1 = .ok (.invokespecial 1, 3) := by decide +kernel
theorem d3_4 : decode jdk_42_method_149_code 4 = .ok (.iload_n 3, 1) := by decide +kernel
theorem d3_5 : decode jdk_42_method_149_code 5 = .ok (.ifCond .ne 22, 3) := by decide +kernel
theorem d3_8 : decode jdk_42_method_149_code 8 = .ok (.aload_n 0, 1) := by decide +kernel
theorem d3_9 : decode jdk_42_method_149_code 9 = .ok (.ldc 7, 2) := by decide +kernel
theorem d3_11 : decode jdk_42_method_149_code 11 = .ok (.getfield 9, 3) := by decide +kernel
theorem d3_14 : decode jdk_42_method_149_code 14 = .ok (.putfield 9, 3) := by decide +kernel
theorem d3_17 : decode jdk_42_method_149_code 17 = .ok (.aload_n 0, 1) := by decide +kernel
theorem d3_18 : decode jdk_42_method_149_code 18 = .ok (.ldc 7, 2) := by decide +kernel
theorem d3_20 : decode jdk_42_method_149_code 20 = .ok (.getfield 15, 3) := by decide +kernel
theorem d3_23 : decode jdk_42_method_149_code 23 = .ok (.putfield 15, 3) := by decide +kernel
theorem d3_26 : decode jdk_42_method_149_code 26 = .ok (.return_, 1) := by decide +kernel
theorem d3_27 : decode jdk_42_method_149_code 27 = .ok (.getstatic 38, 3) := by decide +kernel
theorem d3_30 : decode jdk_42_method_149_code 30 = .ok (.ifCond .eq 28, 3) := by decide +kernel
theorem d3_33 : decode jdk_42_method_149_code 33 = .ok (.aload_n 1, 1) := by decide +kernel
theorem d3_34 : decode jdk_42_method_149_code 34 = .ok (.iload_n 2, 1) := by decide +kernel
theorem d3_35 : decode jdk_42_method_149_code 35 = .ok (.iload_n 3, 1) := by decide +kernel
theorem d3_36 : decode jdk_42_method_149_code 36 = .ok (.invokestatic 177, 3) := by decide +kernel
theorem d3_39 : decode jdk_42_method_149_code 39 = .ok (.astore 5, 2) := by decide +kernel
theorem d3_41 : decode jdk_42_method_149_code 41 = .ok (.aload_n 0, 1) := by decide +kernel
theorem d3_42 : decode jdk_42_method_149_code 42 = .ok (.aload 5, 2) := by decide +kernel
theorem d3_44 : decode jdk_42_method_149_code 44 = .ok (.iload_n 3, 1) := by decide +kernel
theorem d3_45 : decode jdk_42_method_149_code 45 = .ok (.invokestatic 47, 3) := by decide +kernel
theorem d3_48 : decode jdk_42_method_149_code 48 = .ok (.putfield 15, 3) := by decide +kernel
theorem d3_51 : decode jdk_42_method_149_code 51 = .ok (.aload_n 0, 1) := by decide +kernel
theorem d3_52 : decode jdk_42_method_149_code 52 = .ok (.aload 5, 2) := by decide +kernel
theorem d3_54 : decode jdk_42_method_149_code 54 = .ok (.putfield 9, 3) := by decide +kernel
theorem d3_57 : decode jdk_42_method_149_code 57 = .ok (.return_, 1) := by decide +kernel
theorem d3_58 : decode jdk_42_method_149_code 58 = .ok (.aload_n 0, 1) := by decide +kernel
theorem d3_59 : decode jdk_42_method_149_code 59 = .ok (.iconst 1, 1) := by decide +kernel
theorem d3_60 : decode jdk_42_method_149_code 60 = .ok (.putfield 15, 3) := by decide +kernel
theorem d3_63 : decode jdk_42_method_149_code 63 = .ok (.aload_n 0, 1) := by decide +kernel
theorem d3_64 : decode jdk_42_method_149_code 64 = .ok (.aload_n 1, 1) := by decide +kernel
theorem d3_65 : decode jdk_42_method_149_code 65 = .ok (.iload_n 2, 1) := by decide +kernel
theorem d3_66 : decode jdk_42_method_149_code 66 = .ok (.iload_n 3, 1) := by decide +kernel
theorem d3_67 : decode jdk_42_method_149_code 67 = .ok (.invokestatic 180, 3) := by decide +kernel
theorem d3_70 : decode jdk_42_method_149_code 70 = .ok (.putfield 9, 3) := by decide +kernel
theorem d3_73 : decode jdk_42_method_149_code 73 = .ok (.return_, 1) := by decide +kernel
theorem pn_2 : plainName "java/lang/String" = true := by first | (simp [plainName, overriddenIn]; done) | decide +kernel
theorem pd_1 : parseMethodDescriptor "([CII)[B" = some ⟨[(.array .char), .int, .int], some (.array .byte)⟩ := by decide +kernel
theorem pd_2 : parseMethodDescriptor "([BI)B" = some ⟨[(.array .byte), .int], some .byte⟩ := by decide +kernel
set_option maxRecDepth 65536 in
set_option maxHeartbeats 40000000 in
theorem rmI2_1 (l : Launch) (Z : State) (a0 : Array Value) (hw : ∀ d ∈ tables_1, d.before a0 Z = true) (ws : List Jvm.Cond) (a ca : Addr) (kc : ClassId) (cs c0 : Int32)  (h0 : Heap) (n0 : Nat) (Z0 : n0 ≤ h0.size) (Ea : Exa Z h0 a "java/lang/String") (Fv : Fld Z h0 a "java/lang/String" "value" "[B" .null) (Fc : Fld Z h0 a "java/lang/String" "coder" "B" (.int (0 : Int32))) (g_a : n0 ≤ a) (Sc : Sta Z h0 "java/lang/String" "COMPACT_STRINGS" "Z" (.int cs)) (hcs : ¬ (cs = (0 : Int32))) (Vc : Arv Z h0 ca kc .char (1 : Int32) [(.int c0)] (.int (0 : Int32))) (Ecs : Exa Z h0 ca "[C") (hx0 : ¬ ((255 : Int32) < c0)) :
    own_Met l (⟨"java/lang/String", "<init>", "([CIILjava/lang/Void;)V"⟩ : MethodName) jdk_42_method_149_code 6 none ws ({ frames := 2, cells := 1, slots := 1, locals := 35 } : Room) Z #[(.ref a), (.ref ca), (.int (0 : Int32)), (.int (1 : Int32)), .null] h0 (fun v h L => v = none ∧ Fr n0 L ∧ Keep h0 h [a] ∧ ∃ b k, h0.size ≤ b ∧ Exa Z h b "[B" ∧ Exa Z h a "java/lang/String" ∧ Fld Z h a "java/lang/String" "value" "[B" (.ref b) ∧ Fld Z h a "java/lang/String" "coder" "B" (.int (0 : Int32)) ∧ Arv Z h b k .byte (1 : Int32) [(.int (c0.toInt8.toInt32))] (.int (0 : Int32))) := by
  refine own_body (plainFor_of_name pn_2) ?_
  intro p e s m below meth c s₁ X0 hx hby hml hown hnm hret hlk hZ e0
  replace hown : s.vm.findClass "java/lang/String" = some m.cls := hown
  replace hml : c.maxLocals = 6 := hml
  replace hret : meth.sig.returnType = none := hret
  have N0 := Fr.nil n0
  have ef : entryFrame m #[(.ref a), (.ref ca), (.int (0 : Int32)), (.int (1 : Int32)), .null] 6 = mkF m 0 #[.val (.ref a), .val (.ref ca), .val (.int (0 : Int32)), .val (.int (1 : Int32)), .val .null, .unset] [] := by first | (simp [entryFrame, mkF, argsToLocals, Value.category]; done) | rfl
  refine own_step (S' := (s₁.setTop (mkF m 0 #[.val (.ref a), .val (.ref ca), .val (.int (0 : Int32)), .val (.int (1 : Int32)), .val .null, .unset] []))) (fun _ k => castTop ef k) ?_
  refine own_aloadN X0 hx (hb hby d3_0) rfl rfl ?_
  refine own_initO (W := 0) X0 hx hZ hown (hw _ (List.mem_of_getElem? (i := 16) rfl)) (hw _ (List.mem_of_getElem? (i := 17) rfl)) (hw _ (List.mem_of_getElem? (i := 18) rfl)) e0 (by rw [hml]; rfl) (hb hby d3_1) (by decide) (Nat.le_of_eq rfl) (by decide) fun T5 X5 e5 => ?_
  refine own_iloadN X5 hx (hb hby d3_4) rfl ?_
  refine own_ifYes X5 hx 27 (hb hby d3_5) (feq (by decide : ¬ ((1 : Int32) = (0 : Int32)))).2 (by decide) (by decide) ?_
  refine own_getS X5 hx hZ hown (host := "") (Or.inl (hw _ (List.mem_of_getElem? (i := 46) rfl))) Via.refl e5 Sc (hb hby d3_27) fun T6 X6 e6 => ?_
  refine own_ifNo X6 hx (hb hby d3_30) (feq hcs).1 ?_
  refine own_aloadN X6 hx (hb hby d3_33) rfl rfl ?_
  refine own_iloadN X6 hx (hb hby d3_34) rfl ?_
  refine own_iloadN X6 hx (hb hby d3_35) rfl ?_
  refine own_cStat (W := 0) (rest := []) X6 hx hZ [(.ref ca), (.int (0 : Int32)), (.int (1 : Int32))] hown (hw _ (List.mem_of_getElem? (i := 71) rfl)) (hw _ (List.mem_of_getElem? (i := 72) rfl)) (by decide) (hw _ (List.mem_of_getElem? (i := 74) rfl)) (hw _ (List.mem_of_getElem? (i := 73) rfl)) e6 (rmC1_1 l Z a0 hw [] ca kc c0 h0 n0 Z0 Vc hx0) (by rw [hml]; rfl) (lenOf pd_1 rfl) rfl (Nat.le_of_eq rfl) (hb hby d3_36) (by decide) (by decide) (by decide) (by decide) fun v7 T7 L7 X7 hQ7 => ?_
  obtain ⟨b7, kb7, rfl, N7q, K7, szb7, gb7, Eb7, Vb7⟩ := hQ7
  have N7 := Fr.app N0 N7q
  have szo_b7 : h0.size ≤ b7 := Nat.le_trans (Nat.le_refl h0.size) szb7
  show own_At p e below _ T7 m 39 _ [(.ref b7)]
  refine own_astore (l' := #[.val (.ref a), .val (.ref ca), .val (.int (0 : Int32)), .val (.int (1 : Int32)), .val .null, .val (.ref b7)]) X7 hx (hb hby d3_39) rfl rfl ?_
  refine own_aloadN X7 hx (hb hby d3_41) rfl rfl ?_
  refine own_aload X7 hx (hb hby d3_42) rfl rfl ?_
  refine own_iloadN X7 hx (hb hby d3_44) rfl ?_
  refine own_cStat (W := 1) (rest := [(.ref a)]) X7 hx hZ [(.ref b7), (.int (1 : Int32))] hown (hw _ (List.mem_of_getElem? (i := 78) rfl)) (hw _ (List.mem_of_getElem? (i := 79) rfl)) (by decide) (hw _ (List.mem_of_getElem? (i := 80) rfl)) (hw _ (List.mem_of_getElem? (i := 73) rfl)) rfl (rmCF_1 l Z a0 hw [] b7 T7.heap n0 (Nat.le_trans Z0 K7.1) (own_alnV Vb7)) (by rw [hml]; rfl) (lenOf pd_2 rfl) rfl (Nat.le_of_eq rfl) (hb hby d3_45) (by decide) (by decide) (by decide) (by decide) fun v8 T8 L8 X8 hQ8 => ?_
  obtain ⟨rfl, N8q, e8⟩ := hQ8
  have N8 := Fr.app N7 N8q
  show own_At p e below _ T8 m 48 _ [(.int (0 : Int32)), (.ref a)]
  obtain ⟨T9, h9, X9, e9, W9, st9⟩ := putFN X8 hx hZ hown (hw _ (List.mem_of_getElem? (i := 26) rfl)) Via.refl e8 (Fld.keep Fc K7 nin0) (Exa.keep Ea K7) (Or.inr ⟨(hw _ (List.mem_of_getElem? (i := 22) rfl)), rfl, hnm⟩) (hw _ (List.mem_of_getElem? (i := 7) rfl)) (ty := .byte) (v' := (.int (0 : Int32))) (by decide) rfl rfl (g := (mkF m 48 #[.val (.ref a), .val (.ref ca), .val (.int (0 : Int32)), .val (.int (1 : Int32)), .val .null, .val (.ref b7)] [(.int (0 : Int32)), (.ref a)])) rfl rfl (hb hby d3_48)
  refine own_step (S' := (T9.setTop (mkF m 51 #[.val (.ref a), .val (.ref ca), .val (.int (0 : Int32)), .val (.int (1 : Int32)), .val .null, .val (.ref b7)] []))) (fun _ k => st9 _ k) ?_
  have Fw9 := Fld.same W9 (Fld.keep Fc K7 nin0)
  have N9 := Fr.snoc X9 N8 g_a
  refine own_aloadN X9 hx (hb hby d3_51) rfl rfl ?_
  refine own_aload X9 hx (hb hby d3_52) rfl rfl ?_
  refine own_putF X9 hx hZ hown (host := "") (Or.inl (hw _ (List.mem_of_getElem? (i := 25) rfl))) Via.refl e9 (Fld.other W9 (Fld.keep Fv K7 nin0) (Or.inr (slot_ne (Or.inr (hw _ (List.mem_of_getElem? (i := 21) rfl))) (Or.inr (hw _ (List.mem_of_getElem? (i := 22) rfl))) (by decide) (t := (.array .byte)) (t' := .byte) (by decide) (by decide)))) (Exa.wr W9 (Exa.keep Ea K7)) (Or.inr ⟨(hw _ (List.mem_of_getElem? (i := 21) rfl)), rfl, hnm⟩) (hw _ (List.mem_of_getElem? (i := 7) rfl)) (ty := (.array .byte)) (by decide) rfl rfl (hb hby d3_54) fun T10 h10 X10 e10 W10 => ?_
  have Fw10 := Fld.same W10 (Fld.other W9 (Fld.keep Fv K7 nin0) (Or.inr (slot_ne (Or.inr (hw _ (List.mem_of_getElem? (i := 21) rfl))) (Or.inr (hw _ (List.mem_of_getElem? (i := 22) rfl))) (by decide) (t := (.array .byte)) (t' := .byte) (by decide) (by decide))))
  have N10 := Fr.snoc X10 N9 g_a
  refine own_retV X10 hx hlk hret (hb hby d3_57) (own_kN (by decide) (by decide) ?_)
  try rw [e10]
  exact ⟨rfl, N10, (Keep.wr (Keep.wr (Keep.trans (Keep.refl h0 [a]) K7 all0) W9 (Or.inl (List.mem_of_getElem? (i := 0) rfl))) W10 (Or.inl (List.mem_of_getElem? (i := 0) rfl))), b7, kb7, szo_b7, (Exa.wr W10 (Exa.wr W9 Eb7)), (Exa.wr W10 (Exa.wr W9 (Exa.keep Ea K7))), Fw10, (Fld.other W10 Fw9 (Or.inr (slot_ne (Or.inr (hw _ (List.mem_of_getElem? (i := 22) rfl))) (Or.inr (hw _ (List.mem_of_getElem? (i := 21) rfl))) (by decide) (t := .byte) (t' := (.array .byte)) (by decide) (by decide)))), (Arv.other (Arv.other Vb7 W9 (Ne.symm (Nat.ne_of_lt (Nat.lt_of_lt_of_le Ea.lt szb7)))) W10 (Ne.symm (Nat.ne_of_lt (Nat.lt_of_lt_of_le Ea.lt szb7))))⟩
theorem d2_0 : decode jdk_42_method_3_code 0 = .ok (.aload_n 0, 1) := by decide +kernel
theorem d2_1 : decode jdk_42_method_3_code 1 = .ok (.aload_n 1, 1) := by decide +kernel
theorem d2_2 : decode jdk_42_method_3_code 2 = .ok (.iconst 0, 1) := by decide +kernel
theorem d2_3 : decode jdk_42_method_3_code 3 = .ok (.aload_n 1, 1) := by decide +kernel
theorem d2_4 : decode jdk_42_method_3_code 4 = .ok (.arraylength, 1) := by decide +kernel
theorem d2_5 : decode jdk_42_method_3_code 5 = .ok (.aconst_null, 1) := by decide +kernel
theorem d2_6 : decode jdk_42_method_3_code 6 = .ok (.invokespecial 27, 3) := by decide +kernel
theorem d2_9 : decode jdk_42_method_3_code 9 = .ok (.return_, 1) := by decide +kernel
theorem pd_3 : parseMethodDescriptor "([CIILjava/lang/Void;)V" = some ⟨[(.array .char), .int, .int, (.object "java/lang/Void")], none⟩ := by decide +kernel
set_option maxRecDepth 65536 in
set_option maxHeartbeats 40000000 in
theorem rmI1_1 (l : Launch) (Z : State) (a0 : Array Value) (hw : ∀ d ∈ tables_1, d.before a0 Z = true) (ws : List Jvm.Cond) (a ca : Addr) (kc : ClassId) (cs c0 : Int32)  (h0 : Heap) (n0 : Nat) (Z0 : n0 ≤ h0.size) (Ea : Exa Z h0 a "java/lang/String") (Fv : Fld Z h0 a "java/lang/String" "value" "[B" .null) (Fc : Fld Z h0 a "java/lang/String" "coder" "B" (.int (0 : Int32))) (g_a : n0 ≤ a) (Sc : Sta Z h0 "java/lang/String" "COMPACT_STRINGS" "Z" (.int cs)) (hcs : ¬ (cs = (0 : Int32))) (Vc : Arv Z h0 ca kc .char (1 : Int32) [(.int c0)] (.int (0 : Int32))) (Ecs : Exa Z h0 ca "[C") (hx0 : ¬ ((255 : Int32) < c0)) :
    own_Met l (⟨"java/lang/String", "<init>", "([C)V"⟩ : MethodName) jdk_42_method_3_code 2 none ws ({ frames := 3, cells := 1, slots := 1, locals := 52 } : Room) Z #[(.ref a), (.ref ca)] h0 (fun v h L => v = none ∧ Fr n0 L ∧ Keep h0 h [a] ∧ ∃ b k, h0.size ≤ b ∧ Exa Z h b "[B" ∧ Exa Z h a "java/lang/String" ∧ Fld Z h a "java/lang/String" "value" "[B" (.ref b) ∧ Fld Z h a "java/lang/String" "coder" "B" (.int (0 : Int32)) ∧ Arv Z h b k .byte (1 : Int32) [(.int (c0.toInt8.toInt32))] (.int (0 : Int32))) := by
  refine own_body (plainFor_of_name pn_2) ?_
  intro p e s m below meth c s₁ X0 hx hby hml hown hnm hret hlk hZ e0
  replace hown : s.vm.findClass "java/lang/String" = some m.cls := hown
  replace hml : c.maxLocals = 2 := hml
  replace hret : meth.sig.returnType = none := hret
  have N0 := Fr.nil n0
  have ef : entryFrame m #[(.ref a), (.ref ca)] 2 = mkF m 0 #[.val (.ref a), .val (.ref ca)] [] := by first | (simp [entryFrame, mkF, argsToLocals, Value.category]; done) | rfl
  refine own_step (S' := (s₁.setTop (mkF m 0 #[.val (.ref a), .val (.ref ca)] []))) (fun _ k => castTop ef k) ?_
  refine own_aloadN X0 hx (hb hby d2_0) rfl rfl ?_
  refine own_aloadN X0 hx (hb hby d2_1) rfl rfl ?_
  refine own_iconst X0 hx (0 : Int32) (hb hby d2_2) rfl ?_
  refine own_aloadN X0 hx (hb hby d2_3) rfl rfl ?_
  refine own_arraylength X0 hx hZ e0 (own_alnV Vc) (hb hby d2_4) ?_
  refine own_aconstNull X0 hx (hb hby d2_5) ?_
  refine own_cSpec (b := a) (W := 0) (rest := []) X0 hx hZ [(.ref ca), (.int (0 : Int32)), (.int (1 : Int32)), .null] rfl hown (hw _ (List.mem_of_getElem? (i := 12) rfl)) (hw _ (List.mem_of_getElem? (i := 13) rfl)) (by decide) (hw _ (List.mem_of_getElem? (i := 15) rfl)) (hw _ (List.mem_of_getElem? (i := 8) rfl)) e0 (rmI2_1 l Z a0 hw [] a ca kc cs c0 h0 n0 Z0 Ea Fv Fc g_a Sc hcs Vc Ecs hx0) (by rw [hml]; rfl) (lenOf pd_3 rfl) rfl (Nat.le_of_eq rfl) (hb hby d2_6) (by decide) (by decide) (by decide) (by decide) fun v11 T11 L11 X11 hQ11 => ?_
  obtain ⟨rfl, N11q, K11, R11⟩ := hQ11
  have N11 := Fr.app N0 N11q
  show own_At p e below _ T11 m 9 _ []
  refine own_retV X11 hx hlk hret (hb hby d2_9) (own_kN (by decide) (by decide) ?_)
  exact ⟨rfl, N11, K11, R11⟩
set_option maxRecDepth 65536 in
set_option maxHeartbeats 40000000 in
theorem rmC2_2 (l : Launch) (Z : State) (a0 : Array Value) (hw : ∀ d ∈ tables_1, d.before a0 Z = true) (ws : List Jvm.Cond) (ca ba : Addr) (kc kb : ClassId) (c0 c1 : Int32)  (h0 : Heap) (n0 : Nat) (Z0 : n0 ≤ h0.size) (Vc : Arv Z h0 ca kc .char (2 : Int32) [(.int c0), (.int c1)] (.int (0 : Int32))) (Vb : Arv Z h0 ba kb .byte (2 : Int32) [(.int (0 : Int32)), (.int (0 : Int32))] (.int (0 : Int32))) (g_ba : n0 ≤ ba) (hne : ca ≠ ba) (hx0 : ¬ ((255 : Int32) < c0)) (hx1 : ¬ ((255 : Int32) < c1)) :
    own_Met l (⟨"java/lang/StringUTF16", "compress", "([CI[BII)I"⟩ : MethodName) jdk_52_method_21_code 7 (some .int) ws ({ frames := 0, cells := 0, slots := 0, locals := 0 } : Room) Z #[(.ref ca), (.int (0 : Int32)), (.ref ba), (.int (0 : Int32)), (.int (2 : Int32))] h0 (fun v h L => v = some (.int (2 : Int32)) ∧ Fr n0 L ∧ Keep h0 h [ba] ∧ Arv Z h ba kb .byte (2 : Int32) [(.int (c0.toInt8.toInt32)), (.int (c1.toInt8.toInt32))] (.int (0 : Int32))) := by
  refine own_body (plainFor_of_name pn_1) ?_
  intro p e s m below meth c s₁ X0 hx hby hml hown hnm hret hlk hZ e0
  replace hown : s.vm.findClass "java/lang/StringUTF16" = some m.cls := hown
  replace hml : c.maxLocals = 7 := hml
  replace hret : meth.sig.returnType = (some .int) := hret
  have N0 := Fr.nil n0
  have ef : entryFrame m #[(.ref ca), (.int (0 : Int32)), (.ref ba), (.int (0 : Int32)), (.int (2 : Int32))] 7 = mkF m 0 #[.val (.ref ca), .val (.int (0 : Int32)), .val (.ref ba), .val (.int (0 : Int32)), .val (.int (2 : Int32)), .unset, .unset] [] := by first | (simp [entryFrame, mkF, argsToLocals, Value.category]; done) | rfl
  refine own_step (S' := (s₁.setTop (mkF m 0 #[.val (.ref ca), .val (.int (0 : Int32)), .val (.ref ba), .val (.int (0 : Int32)), .val (.int (2 : Int32)), .unset, .unset] []))) (fun _ k => castTop ef k) ?_
  refine own_iconst X0 hx (0 : Int32) (hb hby d16_0) rfl ?_
  refine own_istore (l' := #[.val (.ref ca), .val (.int (0 : Int32)), .val (.ref ba), .val (.int (0 : Int32)), .val (.int (2 : Int32)), .val (.int (0 : Int32)), .unset]) X0 hx (hb hby d16_1) rfl ?_
  refine own_iload X0 hx (hb hby d16_3) rfl ?_
  refine own_iload X0 hx (hb hby d16_5) rfl ?_
  refine own_icmpNo X0 hx (hb hby d16_7) (tlt (by decide : (0 : Int32) < (2 : Int32))).2.1 ?_
  refine own_aloadN X0 hx (hb hby d16_10) rfl rfl ?_
  refine own_iloadN X0 hx (hb hby d16_11) rfl ?_
  refine own_caload X0 hx hZ (.int c0) e0 Vc ⟨by decide, by decide⟩ rfl (hb hby d16_12) ?_
  refine own_istore (l' := #[.val (.ref ca), .val (.int (0 : Int32)), .val (.ref ba), .val (.int (0 : Int32)), .val (.int (2 : Int32)), .val (.int (0 : Int32)), .val (.int c0)]) X0 hx (hb hby d16_13) rfl ?_
  refine own_iload X0 hx (hb hby d16_15) rfl ?_
  refine own_sipush X0 hx (255 : Int32) (hb hby d16_17) rfl ?_
  refine own_icmpYes X0 hx 26 (hb hby d16_20) (flt hx0).2.2.2 (by decide) (by decide) ?_
  refine own_aloadN X0 hx (hb hby d16_26) rfl rfl ?_
  refine own_iloadN X0 hx (hb hby d16_27) rfl ?_
  refine own_iload X0 hx (hb hby d16_28) rfl ?_
  refine own_i2b X0 hx (hb hby d16_30) ?_
  refine own_stB (vs' := [(.int (c0.toInt8.toInt32)), (.int (0 : Int32))]) (w := (.int (c0.toInt8.toInt32))) X0 hx hZ e0 Vb ⟨by decide, by decide⟩ 0 rfl (Nat.le_of_ble_eq_true rfl) (congrArg Value.int (own_b8 _)) rfl (hb hby d16_31) fun T12 h12 X12 e12 W12 V12 => ?_
  have N12 := Fr.snoc X12 N0 g_ba
  refine own_iinc (l' := #[.val (.ref ca), .val (.int ((0 : Int32) + (1 : Int32))), .val (.ref ba), .val (.int (0 : Int32)), .val (.int (2 : Int32)), .val (.int (0 : Int32)), .val (.int c0)]) X12 hx (hb hby d16_32) rfl rfl ?_
  rw [show ((0 : Int32) + (1 : Int32)) = (1 : Int32) from by decide]
  refine own_iinc (l' := #[.val (.ref ca), .val (.int (1 : Int32)), .val (.ref ba), .val (.int ((0 : Int32) + (1 : Int32))), .val (.int (2 : Int32)), .val (.int (0 : Int32)), .val (.int c0)]) X12 hx (hb hby d16_35) rfl rfl ?_
  rw [show ((0 : Int32) + (1 : Int32)) = (1 : Int32) from by decide]
  refine own_iinc (l' := #[.val (.ref ca), .val (.int (1 : Int32)), .val (.ref ba), .val (.int (1 : Int32)), .val (.int (2 : Int32)), .val (.int ((0 : Int32) + (1 : Int32))), .val (.int c0)]) X12 hx (hb hby d16_38) rfl rfl ?_
  rw [show ((0 : Int32) + (1 : Int32)) = (1 : Int32) from by decide]
  refine own_goto X12 hx 3 (hb hby d16_41) (by decide) (by decide) ?_
  refine own_iload X12 hx (hb hby d16_3) rfl ?_
  refine own_iload X12 hx (hb hby d16_5) rfl ?_
  refine own_icmpNo X12 hx (hb hby d16_7) (tlt (by decide : (1 : Int32) < (2 : Int32))).2.1 ?_
  refine own_aloadN X12 hx (hb hby d16_10) rfl rfl ?_
  refine own_iloadN X12 hx (hb hby d16_11) rfl ?_
  refine own_caload X12 hx hZ (.int c1) e12 (Arv.other Vc W12 hne) ⟨by decide, by decide⟩ rfl (hb hby d16_12) ?_
  refine own_istore (l' := #[.val (.ref ca), .val (.int (1 : Int32)), .val (.ref ba), .val (.int (1 : Int32)), .val (.int (2 : Int32)), .val (.int (1 : Int32)), .val (.int c1)]) X12 hx (hb hby d16_13) rfl ?_
  refine own_iload X12 hx (hb hby d16_15) rfl ?_
  refine own_sipush X12 hx (255 : Int32) (hb hby d16_17) rfl ?_
  refine own_icmpYes X12 hx 26 (hb hby d16_20) (flt hx1).2.2.2 (by decide) (by decide) ?_
  refine own_aloadN X12 hx (hb hby d16_26) rfl rfl ?_
  refine own_iloadN X12 hx (hb hby d16_27) rfl ?_
  refine own_iload X12 hx (hb hby d16_28) rfl ?_
  refine own_i2b X12 hx (hb hby d16_30) ?_
  refine own_stB (vs' := [(.int (c0.toInt8.toInt32)), (.int (c1.toInt8.toInt32))]) (w := (.int (c1.toInt8.toInt32))) X12 hx hZ e12 V12 ⟨by decide, by decide⟩ 1 rfl (Nat.le_of_ble_eq_true rfl) (congrArg Value.int (own_b8 _)) rfl (hb hby d16_31) fun T13 h13 X13 e13 W13 V13 => ?_
  have N13 := Fr.snoc X13 N12 g_ba
  refine own_iinc (l' := #[.val (.ref ca), .val (.int ((1 : Int32) + (1 : Int32))), .val (.ref ba), .val (.int (1 : Int32)), .val (.int (2 : Int32)), .val (.int (1 : Int32)), .val (.int c1)]) X13 hx (hb hby d16_32) rfl rfl ?_
  rw [show ((1 : Int32) + (1 : Int32)) = (2 : Int32) from by decide]
  refine own_iinc (l' := #[.val (.ref ca), .val (.int (2 : Int32)), .val (.ref ba), .val (.int ((1 : Int32) + (1 : Int32))), .val (.int (2 : Int32)), .val (.int (1 : Int32)), .val (.int c1)]) X13 hx (hb hby d16_35) rfl rfl ?_
  rw [show ((1 : Int32) + (1 : Int32)) = (2 : Int32) from by decide]
  refine own_iinc (l' := #[.val (.ref ca), .val (.int (2 : Int32)), .val (.ref ba), .val (.int (2 : Int32)), .val (.int (2 : Int32)), .val (.int ((1 : Int32) + (1 : Int32))), .val (.int c1)]) X13 hx (hb hby d16_38) rfl rfl ?_
  rw [show ((1 : Int32) + (1 : Int32)) = (2 : Int32) from by decide]
  refine own_goto X13 hx 3 (hb hby d16_41) (by decide) (by decide) ?_
  refine own_iload X13 hx (hb hby d16_3) rfl ?_
  refine own_iload X13 hx (hb hby d16_5) rfl ?_
  refine own_icmpYes X13 hx 44 (hb hby d16_7) (flt (by decide : ¬ ((2 : Int32) < (2 : Int32)))).2.1 (by decide) (by decide) ?_
  refine own_iload X13 hx (hb hby d16_44) rfl ?_
  refine own_retI X13 hx hlk hret (hb hby d16_46) (own_kN (by decide) (by decide) ?_)
  try rw [e13]
  exact ⟨rfl, N13, (Keep.wr (Keep.wr (Keep.refl h0 [ba]) W12 (Or.inl (List.mem_of_getElem? (i := 0) rfl))) W13 (Or.inl (List.mem_of_getElem? (i := 0) rfl))), V13⟩
set_option maxRecDepth 65536 in
set_option maxHeartbeats 40000000 in
theorem rmC1_2 (l : Launch) (Z : State) (a0 : Array Value) (hw : ∀ d ∈ tables_1, d.before a0 Z = true) (ws : List Jvm.Cond) (ca : Addr) (kc : ClassId) (c0 c1 : Int32)  (h0 : Heap) (n0 : Nat) (Z0 : n0 ≤ h0.size) (Vc : Arv Z h0 ca kc .char (2 : Int32) [(.int c0), (.int c1)] (.int (0 : Int32))) (hx0 : ¬ ((255 : Int32) < c0)) (hx1 : ¬ ((255 : Int32) < c1)) :
    own_Met l (⟨"java/lang/StringUTF16", "compress", "([CII)[B"⟩ : MethodName) jdk_52_method_16_code 6 (some (.array .byte)) ws ({ frames := 1, cells := 1, slots := 2, locals := 18 } : Room) Z #[(.ref ca), (.int (0 : Int32)), (.int (2 : Int32))] h0 (fun v h L => ∃ b k, v = some (.ref b) ∧ Fr n0 L ∧ Keep h0 h [] ∧ h0.size ≤ b ∧ n0 ≤ b ∧ Exa Z h b "[B" ∧ Arv Z h b k .byte (2 : Int32) [(.int (c0.toInt8.toInt32)), (.int (c1.toInt8.toInt32))] (.int (0 : Int32))) := by
  refine own_body (plainFor_of_name pn_1) ?_
  intro p e s m below meth c s₁ X0 hx hby hml hown hnm hret hlk hZ e0
  replace hown : s.vm.findClass "java/lang/StringUTF16" = some m.cls := hown
  replace hml : c.maxLocals = 6 := hml
  replace hret : meth.sig.returnType = (some (.array .byte)) := hret
  have N0 := Fr.nil n0
  have ef : entryFrame m #[(.ref ca), (.int (0 : Int32)), (.int (2 : Int32))] 6 = mkF m 0 #[.val (.ref ca), .val (.int (0 : Int32)), .val (.int (2 : Int32)), .unset, .unset, .unset] [] := by first | (simp [entryFrame, mkF, argsToLocals, Value.category]; done) | rfl
  refine own_step (S' := (s₁.setTop (mkF m 0 #[.val (.ref ca), .val (.int (0 : Int32)), .val (.int (2 : Int32)), .unset, .unset, .unset] []))) (fun _ k => castTop ef k) ?_
  refine own_iloadN X0 hx (hb hby d15_0) rfl ?_
  refine own_newP (n := (2 : Int32)) (cap := 2) (ad := "[B") X0 hx hZ (hw _ (List.mem_of_getElem? (i := 20) rfl)) e0 (hb hby d15_1) (by decide) (by decide) (by decide) (by decide) (by decide) (by decide) fun T14 h14 k14 b14 g14 X14 e14 E14 A14 Ex14 => ?_
  have g_b14 : n0 ≤ b14 := Nat.le_trans Z0 (Nat.le_of_eq g14.symm)
  have szo_b14 : h0.size ≤ b14 := Nat.le_trans (Nat.le_refl h0.size) (Nat.le_of_eq g14.symm)
  have V14 : Arv Z h14 b14 k14 .byte (2 : Int32) [(.int (0 : Int32)), (.int (0 : Int32))] (.int (0 : Int32)) := (Arv.new A14 (by decide)).pad (pad_rep [] (.int (0 : Int32)) 2)
  refine own_astoreN (l' := #[.val (.ref ca), .val (.int (0 : Int32)), .val (.int (2 : Int32)), .val (.ref b14), .unset, .unset]) X14 hx (hb hby d15_3) rfl rfl ?_
  refine own_aloadN X14 hx (hb hby d15_4) rfl rfl ?_
  refine own_iloadN X14 hx (hb hby d15_5) rfl ?_
  refine own_aloadN X14 hx (hb hby d15_6) rfl rfl ?_
  refine own_iconst X14 hx (0 : Int32) (hb hby d15_7) rfl ?_
  refine own_iloadN X14 hx (hb hby d15_8) rfl ?_
  refine own_cStat (W := 0) (rest := []) X14 hx hZ [(.ref ca), (.int (0 : Int32)), (.ref b14), (.int (0 : Int32)), (.int (2 : Int32))] hown (hw _ (List.mem_of_getElem? (i := 75) rfl)) (hw _ (List.mem_of_getElem? (i := 76) rfl)) (by decide) (hw _ (List.mem_of_getElem? (i := 77) rfl)) (hw _ (List.mem_of_getElem? (i := 73) rfl)) e14 (rmC2_2 l Z a0 hw [] ca b14 kc k14 c0 c1 h14 n0 (Nat.le_trans Z0 E14.1) (Vc.ext E14) V14 g_b14 (Nat.ne_of_lt (Nat.lt_of_lt_of_le Vc.lt (Nat.le_of_eq g14.symm))) hx0 hx1) (by rw [hml]; rfl) (lenOf pd_0 rfl) rfl (Nat.le_of_eq rfl) (hb hby d15_9) (by decide) (by decide) (by decide) (by decide) fun v15 T15 L15 X15 hQ15 => ?_
  obtain ⟨rfl, N15q, K15, Vb15⟩ := hQ15
  have N15 := Fr.app N0 N15q
  show own_At p e below _ T15 m 12 _ [(.int (2 : Int32))]
  refine own_istore (l' := #[.val (.ref ca), .val (.int (0 : Int32)), .val (.int (2 : Int32)), .val (.ref b14), .val (.int (2 : Int32)), .unset]) X15 hx (hb hby d15_12) rfl ?_
  refine own_iload X15 hx (hb hby d15_14) rfl ?_
  refine own_iloadN X15 hx (hb hby d15_16) rfl ?_
  refine own_icmpYes X15 hx 57 (hb hby d15_17) (teq (by decide : (2 : Int32) = (2 : Int32))).1 (by decide) (by decide) ?_
  refine own_aloadN X15 hx (hb hby d15_57) rfl rfl ?_
  refine own_retA X15 hx hlk hret rfl rfl rfl (hb hby d15_58) (own_kN (by decide) (by decide) ?_)
  exact ⟨b14, k14, rfl, N15, (Keep.trans (Keep.ext (Keep.refl h0 []) E14) K15 (allS (Or.inr szo_b14) all0)), szo_b14, g_b14, (Exa.keep Ex14 K15), Vb15⟩
set_option maxRecDepth 65536 in
set_option maxHeartbeats 40000000 in
theorem rmCF_2 (l : Launch) (Z : State) (a0 : Array Value) (hw : ∀ d ∈ tables_1, d.before a0 Z = true) (ws : List Jvm.Cond) (ba : Addr)  (h0 : Heap) (n0 : Nat) (Z0 : n0 ≤ h0.size) (A : own_Aln Z h0 ba .byte (2 : Int32)) :
    own_Met l (⟨"java/lang/StringUTF16", "coderFromArrayLen", "([BI)B"⟩ : MethodName) jdk_52_method_15_code 2 (some .byte) ws ({ frames := 0, cells := 0, slots := 0, locals := 0 } : Room) Z #[(.ref ba), (.int (2 : Int32))] h0 (fun v h L => v = some (.int (0 : Int32)) ∧ Fr n0 L ∧ h = h0) := by
  refine own_body (plainFor_of_name pn_1) ?_
  intro p e s m below meth c s₁ X0 hx hby hml hown hnm hret hlk hZ e0
  replace hown : s.vm.findClass "java/lang/StringUTF16" = some m.cls := hown
  replace hml : c.maxLocals = 2 := hml
  replace hret : meth.sig.returnType = (some .byte) := hret
  have N0 := Fr.nil n0
  have ef : entryFrame m #[(.ref ba), (.int (2 : Int32))] 2 = mkF m 0 #[.val (.ref ba), .val (.int (2 : Int32))] [] := by first | (simp [entryFrame, mkF, argsToLocals, Value.category]; done) | rfl
  refine own_step (S' := (s₁.setTop (mkF m 0 #[.val (.ref ba), .val (.int (2 : Int32))] []))) (fun _ k => castTop ef k) ?_
  refine own_iloadN X0 hx (hb hby d17_0) rfl ?_
  refine own_aloadN X0 hx (hb hby d17_1) rfl rfl ?_
  refine own_arraylength X0 hx hZ e0 A (hb hby d17_2) ?_
  refine own_isub X0 hx (hb hby d17_3) ?_
  rw [show ((2 : Int32) - (2 : Int32)) = (0 : Int32) from by decide]
  refine own_bipush X0 hx (31 : Int32) (hb hby d17_4) rfl ?_
  refine own_iushr X0 hx (hb hby d17_6) ?_
  rw [show (((0 : Int32).toUInt32 >>> ((31 : Int32) &&& 31).toUInt32).toInt32) = (0 : Int32) from by decide]
  refine own_i2b X0 hx (hb hby d17_7) ?_
  rw [show ((0 : Int32).toInt8.toInt32) = (0 : Int32) from by decide]
  refine own_retN X0 hx hlk hret (by simp) (by decide) (hb hby d17_8) (own_kN (by decide) (by decide) ?_)
  try rw [e0]
  exact ⟨rfl, N0, rfl⟩
set_option maxRecDepth 65536 in
set_option maxHeartbeats 40000000 in
theorem rmI2_2 (l : Launch) (Z : State) (a0 : Array Value) (hw : ∀ d ∈ tables_1, d.before a0 Z = true) (ws : List Jvm.Cond) (a ca : Addr) (kc : ClassId) (cs c0 c1 : Int32)  (h0 : Heap) (n0 : Nat) (Z0 : n0 ≤ h0.size) (Ea : Exa Z h0 a "java/lang/String") (Fv : Fld Z h0 a "java/lang/String" "value" "[B" .null) (Fc : Fld Z h0 a "java/lang/String" "coder" "B" (.int (0 : Int32))) (g_a : n0 ≤ a) (Sc : Sta Z h0 "java/lang/String" "COMPACT_STRINGS" "Z" (.int cs)) (hcs : ¬ (cs = (0 : Int32))) (Vc : Arv Z h0 ca kc .char (2 : Int32) [(.int c0), (.int c1)] (.int (0 : Int32))) (Ecs : Exa Z h0 ca "[C") (hx0 : ¬ ((255 : Int32) < c0)) (hx1 : ¬ ((255 : Int32) < c1)) :
    own_Met l (⟨"java/lang/String", "<init>", "([CIILjava/lang/Void;)V"⟩ : MethodName) jdk_42_method_149_code 6 none ws ({ frames := 2, cells := 1, slots := 2, locals := 35 } : Room) Z #[(.ref a), (.ref ca), (.int (0 : Int32)), (.int (2 : Int32)), .null] h0 (fun v h L => v = none ∧ Fr n0 L ∧ Keep h0 h [a] ∧ ∃ b k, h0.size ≤ b ∧ Exa Z h b "[B" ∧ Exa Z h a "java/lang/String" ∧ Fld Z h a "java/lang/String" "value" "[B" (.ref b) ∧ Fld Z h a "java/lang/String" "coder" "B" (.int (0 : Int32)) ∧ Arv Z h b k .byte (2 : Int32) [(.int (c0.toInt8.toInt32)), (.int (c1.toInt8.toInt32))] (.int (0 : Int32))) := by
  refine own_body (plainFor_of_name pn_2) ?_
  intro p e s m below meth c s₁ X0 hx hby hml hown hnm hret hlk hZ e0
  replace hown : s.vm.findClass "java/lang/String" = some m.cls := hown
  replace hml : c.maxLocals = 6 := hml
  replace hret : meth.sig.returnType = none := hret
  have N0 := Fr.nil n0
  have ef : entryFrame m #[(.ref a), (.ref ca), (.int (0 : Int32)), (.int (2 : Int32)), .null] 6 = mkF m 0 #[.val (.ref a), .val (.ref ca), .val (.int (0 : Int32)), .val (.int (2 : Int32)), .val .null, .unset] [] := by first | (simp [entryFrame, mkF, argsToLocals, Value.category]; done) | rfl
  refine own_step (S' := (s₁.setTop (mkF m 0 #[.val (.ref a), .val (.ref ca), .val (.int (0 : Int32)), .val (.int (2 : Int32)), .val .null, .unset] []))) (fun _ k => castTop ef k) ?_
  refine own_aloadN X0 hx (hb hby d3_0) rfl rfl ?_
  refine own_initO (W := 0) X0 hx hZ hown (hw _ (List.mem_of_getElem? (i := 16) rfl)) (hw _ (List.mem_of_getElem? (i := 17) rfl)) (hw _ (List.mem_of_getElem? (i := 18) rfl)) e0 (by rw [hml]; rfl) (hb hby d3_1) (by decide) (Nat.le_of_eq rfl) (by decide) fun T16 X16 e16 => ?_
  refine own_iloadN X16 hx (hb hby d3_4) rfl ?_
  refine own_ifYes X16 hx 27 (hb hby d3_5) (feq (by decide : ¬ ((2 : Int32) = (0 : Int32)))).2 (by decide) (by decide) ?_
  refine own_getS X16 hx hZ hown (host := "") (Or.inl (hw _ (List.mem_of_getElem? (i := 46) rfl))) Via.refl e16 Sc (hb hby d3_27) fun T17 X17 e17 => ?_
  refine own_ifNo X17 hx (hb hby d3_30) (feq hcs).1 ?_
  refine own_aloadN X17 hx (hb hby d3_33) rfl rfl ?_
  refine own_iloadN X17 hx (hb hby d3_34) rfl ?_
  refine own_iloadN X17 hx (hb hby d3_35) rfl ?_
  refine own_cStat (W := 0) (rest := []) X17 hx hZ [(.ref ca), (.int (0 : Int32)), (.int (2 : Int32))] hown (hw _ (List.mem_of_getElem? (i := 71) rfl)) (hw _ (List.mem_of_getElem? (i := 72) rfl)) (by decide) (hw _ (List.mem_of_getElem? (i := 74) rfl)) (hw _ (List.mem_of_getElem? (i := 73) rfl)) e17 (rmC1_2 l Z a0 hw [] ca kc c0 c1 h0 n0 Z0 Vc hx0 hx1) (by rw [hml]; rfl) (lenOf pd_1 rfl) rfl (Nat.le_of_eq rfl) (hb hby d3_36) (by decide) (by decide) (by decide) (by decide) fun v18 T18 L18 X18 hQ18 => ?_
  obtain ⟨b18, kb18, rfl, N18q, K18, szb18, gb18, Eb18, Vb18⟩ := hQ18
  have N18 := Fr.app N0 N18q
  have szo_b18 : h0.size ≤ b18 := Nat.le_trans (Nat.le_refl h0.size) szb18
  show own_At p e below _ T18 m 39 _ [(.ref b18)]
  refine own_astore (l' := #[.val (.ref a), .val (.ref ca), .val (.int (0 : Int32)), .val (.int (2 : Int32)), .val .null, .val (.ref b18)]) X18 hx (hb hby d3_39) rfl rfl ?_
  refine own_aloadN X18 hx (hb hby d3_41) rfl rfl ?_
  refine own_aload X18 hx (hb hby d3_42) rfl rfl ?_
  refine own_iloadN X18 hx (hb hby d3_44) rfl ?_
  refine own_cStat (W := 1) (rest := [(.ref a)]) X18 hx hZ [(.ref b18), (.int (2 : Int32))] hown (hw _ (List.mem_of_getElem? (i := 78) rfl)) (hw _ (List.mem_of_getElem? (i := 79) rfl)) (by decide) (hw _ (List.mem_of_getElem? (i := 80) rfl)) (hw _ (List.mem_of_getElem? (i := 73) rfl)) rfl (rmCF_2 l Z a0 hw [] b18 T18.heap n0 (Nat.le_trans Z0 K18.1) (own_alnV Vb18)) (by rw [hml]; rfl) (lenOf pd_2 rfl) rfl (Nat.le_of_eq rfl) (hb hby d3_45) (by decide) (by decide) (by decide) (by decide) fun v19 T19 L19 X19 hQ19 => ?_
  obtain ⟨rfl, N19q, e19⟩ := hQ19
  have N19 := Fr.app N18 N19q
  show own_At p e below _ T19 m 48 _ [(.int (0 : Int32)), (.ref a)]
  obtain ⟨T20, h20, X20, e20, W20, st20⟩ := putFN X19 hx hZ hown (hw _ (List.mem_of_getElem? (i := 26) rfl)) Via.refl e19 (Fld.keep Fc K18 nin0) (Exa.keep Ea K18) (Or.inr ⟨(hw _ (List.mem_of_getElem? (i := 22) rfl)), rfl, hnm⟩) (hw _ (List.mem_of_getElem? (i := 7) rfl)) (ty := .byte) (v' := (.int (0 : Int32))) (by decide) rfl rfl (g := (mkF m 48 #[.val (.ref a), .val (.ref ca), .val (.int (0 : Int32)), .val (.int (2 : Int32)), .val .null, .val (.ref b18)] [(.int (0 : Int32)), (.ref a)])) rfl rfl (hb hby d3_48)
  refine own_step (S' := (T20.setTop (mkF m 51 #[.val (.ref a), .val (.ref ca), .val (.int (0 : Int32)), .val (.int (2 : Int32)), .val .null, .val (.ref b18)] []))) (fun _ k => st20 _ k) ?_
  have Fw20 := Fld.same W20 (Fld.keep Fc K18 nin0)
  have N20 := Fr.snoc X20 N19 g_a
  refine own_aloadN X20 hx (hb hby d3_51) rfl rfl ?_
  refine own_aload X20 hx (hb hby d3_52) rfl rfl ?_
  refine own_putF X20 hx hZ hown (host := "") (Or.inl (hw _ (List.mem_of_getElem? (i := 25) rfl))) Via.refl e20 (Fld.other W20 (Fld.keep Fv K18 nin0) (Or.inr (slot_ne (Or.inr (hw _ (List.mem_of_getElem? (i := 21) rfl))) (Or.inr (hw _ (List.mem_of_getElem? (i := 22) rfl))) (by decide) (t := (.array .byte)) (t' := .byte) (by decide) (by decide)))) (Exa.wr W20 (Exa.keep Ea K18)) (Or.inr ⟨(hw _ (List.mem_of_getElem? (i := 21) rfl)), rfl, hnm⟩) (hw _ (List.mem_of_getElem? (i := 7) rfl)) (ty := (.array .byte)) (by decide) rfl rfl (hb hby d3_54) fun T21 h21 X21 e21 W21 => ?_
  have Fw21 := Fld.same W21 (Fld.other W20 (Fld.keep Fv K18 nin0) (Or.inr (slot_ne (Or.inr (hw _ (List.mem_of_getElem? (i := 21) rfl))) (Or.inr (hw _ (List.mem_of_getElem? (i := 22) rfl))) (by decide) (t := (.array .byte)) (t' := .byte) (by decide) (by decide))))
  have N21 := Fr.snoc X21 N20 g_a
  refine own_retV X21 hx hlk hret (hb hby d3_57) (own_kN (by decide) (by decide) ?_)
  try rw [e21]
  exact ⟨rfl, N21, (Keep.wr (Keep.wr (Keep.trans (Keep.refl h0 [a]) K18 all0) W20 (Or.inl (List.mem_of_getElem? (i := 0) rfl))) W21 (Or.inl (List.mem_of_getElem? (i := 0) rfl))), b18, kb18, szo_b18, (Exa.wr W21 (Exa.wr W20 Eb18)), (Exa.wr W21 (Exa.wr W20 (Exa.keep Ea K18))), Fw21, (Fld.other W21 Fw20 (Or.inr (slot_ne (Or.inr (hw _ (List.mem_of_getElem? (i := 22) rfl))) (Or.inr (hw _ (List.mem_of_getElem? (i := 21) rfl))) (by decide) (t := .byte) (t' := (.array .byte)) (by decide) (by decide)))), (Arv.other (Arv.other Vb18 W20 (Ne.symm (Nat.ne_of_lt (Nat.lt_of_lt_of_le Ea.lt szb18)))) W21 (Ne.symm (Nat.ne_of_lt (Nat.lt_of_lt_of_le Ea.lt szb18))))⟩
set_option maxRecDepth 65536 in
set_option maxHeartbeats 40000000 in
theorem rmI1_2 (l : Launch) (Z : State) (a0 : Array Value) (hw : ∀ d ∈ tables_1, d.before a0 Z = true) (ws : List Jvm.Cond) (a ca : Addr) (kc : ClassId) (cs c0 c1 : Int32)  (h0 : Heap) (n0 : Nat) (Z0 : n0 ≤ h0.size) (Ea : Exa Z h0 a "java/lang/String") (Fv : Fld Z h0 a "java/lang/String" "value" "[B" .null) (Fc : Fld Z h0 a "java/lang/String" "coder" "B" (.int (0 : Int32))) (g_a : n0 ≤ a) (Sc : Sta Z h0 "java/lang/String" "COMPACT_STRINGS" "Z" (.int cs)) (hcs : ¬ (cs = (0 : Int32))) (Vc : Arv Z h0 ca kc .char (2 : Int32) [(.int c0), (.int c1)] (.int (0 : Int32))) (Ecs : Exa Z h0 ca "[C") (hx0 : ¬ ((255 : Int32) < c0)) (hx1 : ¬ ((255 : Int32) < c1)) :
    own_Met l (⟨"java/lang/String", "<init>", "([C)V"⟩ : MethodName) jdk_42_method_3_code 2 none ws ({ frames := 3, cells := 1, slots := 2, locals := 52 } : Room) Z #[(.ref a), (.ref ca)] h0 (fun v h L => v = none ∧ Fr n0 L ∧ Keep h0 h [a] ∧ ∃ b k, h0.size ≤ b ∧ Exa Z h b "[B" ∧ Exa Z h a "java/lang/String" ∧ Fld Z h a "java/lang/String" "value" "[B" (.ref b) ∧ Fld Z h a "java/lang/String" "coder" "B" (.int (0 : Int32)) ∧ Arv Z h b k .byte (2 : Int32) [(.int (c0.toInt8.toInt32)), (.int (c1.toInt8.toInt32))] (.int (0 : Int32))) := by
  refine own_body (plainFor_of_name pn_2) ?_
  intro p e s m below meth c s₁ X0 hx hby hml hown hnm hret hlk hZ e0
  replace hown : s.vm.findClass "java/lang/String" = some m.cls := hown
  replace hml : c.maxLocals = 2 := hml
  replace hret : meth.sig.returnType = none := hret
  have N0 := Fr.nil n0
  have ef : entryFrame m #[(.ref a), (.ref ca)] 2 = mkF m 0 #[.val (.ref a), .val (.ref ca)] [] := by first | (simp [entryFrame, mkF, argsToLocals, Value.category]; done) | rfl
  refine own_step (S' := (s₁.setTop (mkF m 0 #[.val (.ref a), .val (.ref ca)] []))) (fun _ k => castTop ef k) ?_
  refine own_aloadN X0 hx (hb hby d2_0) rfl rfl ?_
  refine own_aloadN X0 hx (hb hby d2_1) rfl rfl ?_
  refine own_iconst X0 hx (0 : Int32) (hb hby d2_2) rfl ?_
  refine own_aloadN X0 hx (hb hby d2_3) rfl rfl ?_
  refine own_arraylength X0 hx hZ e0 (own_alnV Vc) (hb hby d2_4) ?_
  refine own_aconstNull X0 hx (hb hby d2_5) ?_
  refine own_cSpec (b := a) (W := 0) (rest := []) X0 hx hZ [(.ref ca), (.int (0 : Int32)), (.int (2 : Int32)), .null] rfl hown (hw _ (List.mem_of_getElem? (i := 12) rfl)) (hw _ (List.mem_of_getElem? (i := 13) rfl)) (by decide) (hw _ (List.mem_of_getElem? (i := 15) rfl)) (hw _ (List.mem_of_getElem? (i := 8) rfl)) e0 (rmI2_2 l Z a0 hw [] a ca kc cs c0 c1 h0 n0 Z0 Ea Fv Fc g_a Sc hcs Vc Ecs hx0 hx1) (by rw [hml]; rfl) (lenOf pd_3 rfl) rfl (Nat.le_of_eq rfl) (hb hby d2_6) (by decide) (by decide) (by decide) (by decide) fun v22 T22 L22 X22 hQ22 => ?_
  obtain ⟨rfl, N22q, K22, R22⟩ := hQ22
  have N22 := Fr.app N0 N22q
  show own_At p e below _ T22 m 9 _ []
  refine own_retV X22 hx hlk hret (hb hby d2_9) (own_kN (by decide) (by decide) ?_)
  exact ⟨rfl, N22, K22, R22⟩
set_option maxRecDepth 65536 in
set_option maxHeartbeats 40000000 in
theorem rmC2_3 (l : Launch) (Z : State) (a0 : Array Value) (hw : ∀ d ∈ tables_1, d.before a0 Z = true) (ws : List Jvm.Cond) (ca ba : Addr) (kc kb : ClassId) (c0 c1 c2 : Int32)  (h0 : Heap) (n0 : Nat) (Z0 : n0 ≤ h0.size) (Vc : Arv Z h0 ca kc .char (3 : Int32) [(.int c0), (.int c1), (.int c2)] (.int (0 : Int32))) (Vb : Arv Z h0 ba kb .byte (3 : Int32) [(.int (0 : Int32)), (.int (0 : Int32)), (.int (0 : Int32))] (.int (0 : Int32))) (g_ba : n0 ≤ ba) (hne : ca ≠ ba) (hx0 : ¬ ((255 : Int32) < c0)) (hx1 : ¬ ((255 : Int32) < c1)) (hx2 : ¬ ((255 : Int32) < c2)) :
    own_Met l (⟨"java/lang/StringUTF16", "compress", "([CI[BII)I"⟩ : MethodName) jdk_52_method_21_code 7 (some .int) ws ({ frames := 0, cells := 0, slots := 0, locals := 0 } : Room) Z #[(.ref ca), (.int (0 : Int32)), (.ref ba), (.int (0 : Int32)), (.int (3 : Int32))] h0 (fun v h L => v = some (.int (3 : Int32)) ∧ Fr n0 L ∧ Keep h0 h [ba] ∧ Arv Z h ba kb .byte (3 : Int32) [(.int (c0.toInt8.toInt32)), (.int (c1.toInt8.toInt32)), (.int (c2.toInt8.toInt32))] (.int (0 : Int32))) := by
  refine own_body (plainFor_of_name pn_1) ?_
  intro p e s m below meth c s₁ X0 hx hby hml hown hnm hret hlk hZ e0
  replace hown : s.vm.findClass "java/lang/StringUTF16" = some m.cls := hown
  replace hml : c.maxLocals = 7 := hml
  replace hret : meth.sig.returnType = (some .int) := hret
  have N0 := Fr.nil n0
  have ef : entryFrame m #[(.ref ca), (.int (0 : Int32)), (.ref ba), (.int (0 : Int32)), (.int (3 : Int32))] 7 = mkF m 0 #[.val (.ref ca), .val (.int (0 : Int32)), .val (.ref ba), .val (.int (0 : Int32)), .val (.int (3 : Int32)), .unset, .unset] [] := by first | (simp [entryFrame, mkF, argsToLocals, Value.category]; done) | rfl
  refine own_step (S' := (s₁.setTop (mkF m 0 #[.val (.ref ca), .val (.int (0 : Int32)), .val (.ref ba), .val (.int (0 : Int32)), .val (.int (3 : Int32)), .unset, .unset] []))) (fun _ k => castTop ef k) ?_
  refine own_iconst X0 hx (0 : Int32) (hb hby d16_0) rfl ?_
  refine own_istore (l' := #[.val (.ref ca), .val (.int (0 : Int32)), .val (.ref ba), .val (.int (0 : Int32)), .val (.int (3 : Int32)), .val (.int (0 : Int32)), .unset]) X0 hx (hb hby d16_1) rfl ?_
  refine own_iload X0 hx (hb hby d16_3) rfl ?_
  refine own_iload X0 hx (hb hby d16_5) rfl ?_
  refine own_icmpNo X0 hx (hb hby d16_7) (tlt (by decide : (0 : Int32) < (3 : Int32))).2.1 ?_
  refine own_aloadN X0 hx (hb hby d16_10) rfl rfl ?_
  refine own_iloadN X0 hx (hb hby d16_11) rfl ?_
  refine own_caload X0 hx hZ (.int c0) e0 Vc ⟨by decide, by decide⟩ rfl (hb hby d16_12) ?_
  refine own_istore (l' := #[.val (.ref ca), .val (.int (0 : Int32)), .val (.ref ba), .val (.int (0 : Int32)), .val (.int (3 : Int32)), .val (.int (0 : Int32)), .val (.int c0)]) X0 hx (hb hby d16_13) rfl ?_
  refine own_iload X0 hx (hb hby d16_15) rfl ?_
  refine own_sipush X0 hx (255 : Int32) (hb hby d16_17) rfl ?_
  refine own_icmpYes X0 hx 26 (hb hby d16_20) (flt hx0).2.2.2 (by decide) (by decide) ?_
  refine own_aloadN X0 hx (hb hby d16_26) rfl rfl ?_
  refine own_iloadN X0 hx (hb hby d16_27) rfl ?_
  refine own_iload X0 hx (hb hby d16_28) rfl ?_
  refine own_i2b X0 hx (hb hby d16_30) ?_
  refine own_stB (vs' := [(.int (c0.toInt8.toInt32)), (.int (0 : Int32)), (.int (0 : Int32))]) (w := (.int (c0.toInt8.toInt32))) X0 hx hZ e0 Vb ⟨by decide, by decide⟩ 0 rfl (Nat.le_of_ble_eq_true rfl) (congrArg Value.int (own_b8 _)) rfl (hb hby d16_31) fun T23 h23 X23 e23 W23 V23 => ?_
  have N23 := Fr.snoc X23 N0 g_ba
  refine own_iinc (l' := #[.val (.ref ca), .val (.int ((0 : Int32) + (1 : Int32))), .val (.ref ba), .val (.int (0 : Int32)), .val (.int (3 : Int32)), .val (.int (0 : Int32)), .val (.int c0)]) X23 hx (hb hby d16_32) rfl rfl ?_
  rw [show ((0 : Int32) + (1 : Int32)) = (1 : Int32) from by decide]
  refine own_iinc (l' := #[.val (.ref ca), .val (.int (1 : Int32)), .val (.ref ba), .val (.int ((0 : Int32) + (1 : Int32))), .val (.int (3 : Int32)), .val (.int (0 : Int32)), .val (.int c0)]) X23 hx (hb hby d16_35) rfl rfl ?_
  rw [show ((0 : Int32) + (1 : Int32)) = (1 : Int32) from by decide]
  refine own_iinc (l' := #[.val (.ref ca), .val (.int (1 : Int32)), .val (.ref ba), .val (.int (1 : Int32)), .val (.int (3 : Int32)), .val (.int ((0 : Int32) + (1 : Int32))), .val (.int c0)]) X23 hx (hb hby d16_38) rfl rfl ?_
  rw [show ((0 : Int32) + (1 : Int32)) = (1 : Int32) from by decide]
  refine own_goto X23 hx 3 (hb hby d16_41) (by decide) (by decide) ?_
  refine own_iload X23 hx (hb hby d16_3) rfl ?_
  refine own_iload X23 hx (hb hby d16_5) rfl ?_
  refine own_icmpNo X23 hx (hb hby d16_7) (tlt (by decide : (1 : Int32) < (3 : Int32))).2.1 ?_
  refine own_aloadN X23 hx (hb hby d16_10) rfl rfl ?_
  refine own_iloadN X23 hx (hb hby d16_11) rfl ?_
  refine own_caload X23 hx hZ (.int c1) e23 (Arv.other Vc W23 hne) ⟨by decide, by decide⟩ rfl (hb hby d16_12) ?_
  refine own_istore (l' := #[.val (.ref ca), .val (.int (1 : Int32)), .val (.ref ba), .val (.int (1 : Int32)), .val (.int (3 : Int32)), .val (.int (1 : Int32)), .val (.int c1)]) X23 hx (hb hby d16_13) rfl ?_
  refine own_iload X23 hx (hb hby d16_15) rfl ?_
  refine own_sipush X23 hx (255 : Int32) (hb hby d16_17) rfl ?_
  refine own_icmpYes X23 hx 26 (hb hby d16_20) (flt hx1).2.2.2 (by decide) (by decide) ?_
  refine own_aloadN X23 hx (hb hby d16_26) rfl rfl ?_
  refine own_iloadN X23 hx (hb hby d16_27) rfl ?_
  refine own_iload X23 hx (hb hby d16_28) rfl ?_
  refine own_i2b X23 hx (hb hby d16_30) ?_
  refine own_stB (vs' := [(.int (c0.toInt8.toInt32)), (.int (c1.toInt8.toInt32)), (.int (0 : Int32))]) (w := (.int (c1.toInt8.toInt32))) X23 hx hZ e23 V23 ⟨by decide, by decide⟩ 1 rfl (Nat.le_of_ble_eq_true rfl) (congrArg Value.int (own_b8 _)) rfl (hb hby d16_31) fun T24 h24 X24 e24 W24 V24 => ?_
  have N24 := Fr.snoc X24 N23 g_ba
  refine own_iinc (l' := #[.val (.ref ca), .val (.int ((1 : Int32) + (1 : Int32))), .val (.ref ba), .val (.int (1 : Int32)), .val (.int (3 : Int32)), .val (.int (1 : Int32)), .val (.int c1)]) X24 hx (hb hby d16_32) rfl rfl ?_
  rw [show ((1 : Int32) + (1 : Int32)) = (2 : Int32) from by decide]
  refine own_iinc (l' := #[.val (.ref ca), .val (.int (2 : Int32)), .val (.ref ba), .val (.int ((1 : Int32) + (1 : Int32))), .val (.int (3 : Int32)), .val (.int (1 : Int32)), .val (.int c1)]) X24 hx (hb hby d16_35) rfl rfl ?_
  rw [show ((1 : Int32) + (1 : Int32)) = (2 : Int32) from by decide]
  refine own_iinc (l' := #[.val (.ref ca), .val (.int (2 : Int32)), .val (.ref ba), .val (.int (2 : Int32)), .val (.int (3 : Int32)), .val (.int ((1 : Int32) + (1 : Int32))), .val (.int c1)]) X24 hx (hb hby d16_38) rfl rfl ?_
  rw [show ((1 : Int32) + (1 : Int32)) = (2 : Int32) from by decide]
  refine own_goto X24 hx 3 (hb hby d16_41) (by decide) (by decide) ?_
  refine own_iload X24 hx (hb hby d16_3) rfl ?_
  refine own_iload X24 hx (hb hby d16_5) rfl ?_
  refine own_icmpNo X24 hx (hb hby d16_7) (tlt (by decide : (2 : Int32) < (3 : Int32))).2.1 ?_
  refine own_aloadN X24 hx (hb hby d16_10) rfl rfl ?_
  refine own_iloadN X24 hx (hb hby d16_11) rfl ?_
  refine own_caload X24 hx hZ (.int c2) e24 (Arv.other (Arv.other Vc W23 hne) W24 hne) ⟨by decide, by decide⟩ rfl (hb hby d16_12) ?_
  refine own_istore (l' := #[.val (.ref ca), .val (.int (2 : Int32)), .val (.ref ba), .val (.int (2 : Int32)), .val (.int (3 : Int32)), .val (.int (2 : Int32)), .val (.int c2)]) X24 hx (hb hby d16_13) rfl ?_
  refine own_iload X24 hx (hb hby d16_15) rfl ?_
  refine own_sipush X24 hx (255 : Int32) (hb hby d16_17) rfl ?_
  refine own_icmpYes X24 hx 26 (hb hby d16_20) (flt hx2).2.2.2 (by decide) (by decide) ?_
  refine own_aloadN X24 hx (hb hby d16_26) rfl rfl ?_
  refine own_iloadN X24 hx (hb hby d16_27) rfl ?_
  refine own_iload X24 hx (hb hby d16_28) rfl ?_
  refine own_i2b X24 hx (hb hby d16_30) ?_
  refine own_stB (vs' := [(.int (c0.toInt8.toInt32)), (.int (c1.toInt8.toInt32)), (.int (c2.toInt8.toInt32))]) (w := (.int (c2.toInt8.toInt32))) X24 hx hZ e24 V24 ⟨by decide, by decide⟩ 2 rfl (Nat.le_of_ble_eq_true rfl) (congrArg Value.int (own_b8 _)) rfl (hb hby d16_31) fun T25 h25 X25 e25 W25 V25 => ?_
  have N25 := Fr.snoc X25 N24 g_ba
  refine own_iinc (l' := #[.val (.ref ca), .val (.int ((2 : Int32) + (1 : Int32))), .val (.ref ba), .val (.int (2 : Int32)), .val (.int (3 : Int32)), .val (.int (2 : Int32)), .val (.int c2)]) X25 hx (hb hby d16_32) rfl rfl ?_
  rw [show ((2 : Int32) + (1 : Int32)) = (3 : Int32) from by decide]
  refine own_iinc (l' := #[.val (.ref ca), .val (.int (3 : Int32)), .val (.ref ba), .val (.int ((2 : Int32) + (1 : Int32))), .val (.int (3 : Int32)), .val (.int (2 : Int32)), .val (.int c2)]) X25 hx (hb hby d16_35) rfl rfl ?_
  rw [show ((2 : Int32) + (1 : Int32)) = (3 : Int32) from by decide]
  refine own_iinc (l' := #[.val (.ref ca), .val (.int (3 : Int32)), .val (.ref ba), .val (.int (3 : Int32)), .val (.int (3 : Int32)), .val (.int ((2 : Int32) + (1 : Int32))), .val (.int c2)]) X25 hx (hb hby d16_38) rfl rfl ?_
  rw [show ((2 : Int32) + (1 : Int32)) = (3 : Int32) from by decide]
  refine own_goto X25 hx 3 (hb hby d16_41) (by decide) (by decide) ?_
  refine own_iload X25 hx (hb hby d16_3) rfl ?_
  refine own_iload X25 hx (hb hby d16_5) rfl ?_
  refine own_icmpYes X25 hx 44 (hb hby d16_7) (flt (by decide : ¬ ((3 : Int32) < (3 : Int32)))).2.1 (by decide) (by decide) ?_
  refine own_iload X25 hx (hb hby d16_44) rfl ?_
  refine own_retI X25 hx hlk hret (hb hby d16_46) (own_kN (by decide) (by decide) ?_)
  try rw [e25]
  exact ⟨rfl, N25, (Keep.wr (Keep.wr (Keep.wr (Keep.refl h0 [ba]) W23 (Or.inl (List.mem_of_getElem? (i := 0) rfl))) W24 (Or.inl (List.mem_of_getElem? (i := 0) rfl))) W25 (Or.inl (List.mem_of_getElem? (i := 0) rfl))), V25⟩
set_option maxRecDepth 65536 in
set_option maxHeartbeats 40000000 in
theorem rmC1_3 (l : Launch) (Z : State) (a0 : Array Value) (hw : ∀ d ∈ tables_1, d.before a0 Z = true) (ws : List Jvm.Cond) (ca : Addr) (kc : ClassId) (c0 c1 c2 : Int32)  (h0 : Heap) (n0 : Nat) (Z0 : n0 ≤ h0.size) (Vc : Arv Z h0 ca kc .char (3 : Int32) [(.int c0), (.int c1), (.int c2)] (.int (0 : Int32))) (hx0 : ¬ ((255 : Int32) < c0)) (hx1 : ¬ ((255 : Int32) < c1)) (hx2 : ¬ ((255 : Int32) < c2)) :
    own_Met l (⟨"java/lang/StringUTF16", "compress", "([CII)[B"⟩ : MethodName) jdk_52_method_16_code 6 (some (.array .byte)) ws ({ frames := 1, cells := 1, slots := 3, locals := 18 } : Room) Z #[(.ref ca), (.int (0 : Int32)), (.int (3 : Int32))] h0 (fun v h L => ∃ b k, v = some (.ref b) ∧ Fr n0 L ∧ Keep h0 h [] ∧ h0.size ≤ b ∧ n0 ≤ b ∧ Exa Z h b "[B" ∧ Arv Z h b k .byte (3 : Int32) [(.int (c0.toInt8.toInt32)), (.int (c1.toInt8.toInt32)), (.int (c2.toInt8.toInt32))] (.int (0 : Int32))) := by
  refine own_body (plainFor_of_name pn_1) ?_
  intro p e s m below meth c s₁ X0 hx hby hml hown hnm hret hlk hZ e0
  replace hown : s.vm.findClass "java/lang/StringUTF16" = some m.cls := hown
  replace hml : c.maxLocals = 6 := hml
  replace hret : meth.sig.returnType = (some (.array .byte)) := hret
  have N0 := Fr.nil n0
  have ef : entryFrame m #[(.ref ca), (.int (0 : Int32)), (.int (3 : Int32))] 6 = mkF m 0 #[.val (.ref ca), .val (.int (0 : Int32)), .val (.int (3 : Int32)), .unset, .unset, .unset] [] := by first | (simp [entryFrame, mkF, argsToLocals, Value.category]; done) | rfl
  refine own_step (S' := (s₁.setTop (mkF m 0 #[.val (.ref ca), .val (.int (0 : Int32)), .val (.int (3 : Int32)), .unset, .unset, .unset] []))) (fun _ k => castTop ef k) ?_
  refine own_iloadN X0 hx (hb hby d15_0) rfl ?_
  refine own_newP (n := (3 : Int32)) (cap := 3) (ad := "[B") X0 hx hZ (hw _ (List.mem_of_getElem? (i := 20) rfl)) e0 (hb hby d15_1) (by decide) (by decide) (by decide) (by decide) (by decide) (by decide) fun T26 h26 k26 b26 g26 X26 e26 E26 A26 Ex26 => ?_
  have g_b26 : n0 ≤ b26 := Nat.le_trans Z0 (Nat.le_of_eq g26.symm)
  have szo_b26 : h0.size ≤ b26 := Nat.le_trans (Nat.le_refl h0.size) (Nat.le_of_eq g26.symm)
  have V26 : Arv Z h26 b26 k26 .byte (3 : Int32) [(.int (0 : Int32)), (.int (0 : Int32)), (.int (0 : Int32))] (.int (0 : Int32)) := (Arv.new A26 (by decide)).pad (pad_rep [] (.int (0 : Int32)) 3)
  refine own_astoreN (l' := #[.val (.ref ca), .val (.int (0 : Int32)), .val (.int (3 : Int32)), .val (.ref b26), .unset, .unset]) X26 hx (hb hby d15_3) rfl rfl ?_
  refine own_aloadN X26 hx (hb hby d15_4) rfl rfl ?_
  refine own_iloadN X26 hx (hb hby d15_5) rfl ?_
  refine own_aloadN X26 hx (hb hby d15_6) rfl rfl ?_
  refine own_iconst X26 hx (0 : Int32) (hb hby d15_7) rfl ?_
  refine own_iloadN X26 hx (hb hby d15_8) rfl ?_
  refine own_cStat (W := 0) (rest := []) X26 hx hZ [(.ref ca), (.int (0 : Int32)), (.ref b26), (.int (0 : Int32)), (.int (3 : Int32))] hown (hw _ (List.mem_of_getElem? (i := 75) rfl)) (hw _ (List.mem_of_getElem? (i := 76) rfl)) (by decide) (hw _ (List.mem_of_getElem? (i := 77) rfl)) (hw _ (List.mem_of_getElem? (i := 73) rfl)) e26 (rmC2_3 l Z a0 hw [] ca b26 kc k26 c0 c1 c2 h26 n0 (Nat.le_trans Z0 E26.1) (Vc.ext E26) V26 g_b26 (Nat.ne_of_lt (Nat.lt_of_lt_of_le Vc.lt (Nat.le_of_eq g26.symm))) hx0 hx1 hx2) (by rw [hml]; rfl) (lenOf pd_0 rfl) rfl (Nat.le_of_eq rfl) (hb hby d15_9) (by decide) (by decide) (by decide) (by decide) fun v27 T27 L27 X27 hQ27 => ?_
  obtain ⟨rfl, N27q, K27, Vb27⟩ := hQ27
  have N27 := Fr.app N0 N27q
  show own_At p e below _ T27 m 12 _ [(.int (3 : Int32))]
  refine own_istore (l' := #[.val (.ref ca), .val (.int (0 : Int32)), .val (.int (3 : Int32)), .val (.ref b26), .val (.int (3 : Int32)), .unset]) X27 hx (hb hby d15_12) rfl ?_
  refine own_iload X27 hx (hb hby d15_14) rfl ?_
  refine own_iloadN X27 hx (hb hby d15_16) rfl ?_
  refine own_icmpYes X27 hx 57 (hb hby d15_17) (teq (by decide : (3 : Int32) = (3 : Int32))).1 (by decide) (by decide) ?_
  refine own_aloadN X27 hx (hb hby d15_57) rfl rfl ?_
  refine own_retA X27 hx hlk hret rfl rfl rfl (hb hby d15_58) (own_kN (by decide) (by decide) ?_)
  exact ⟨b26, k26, rfl, N27, (Keep.trans (Keep.ext (Keep.refl h0 []) E26) K27 (allS (Or.inr szo_b26) all0)), szo_b26, g_b26, (Exa.keep Ex26 K27), Vb27⟩
set_option maxRecDepth 65536 in
set_option maxHeartbeats 40000000 in
theorem rmCF_3 (l : Launch) (Z : State) (a0 : Array Value) (hw : ∀ d ∈ tables_1, d.before a0 Z = true) (ws : List Jvm.Cond) (ba : Addr)  (h0 : Heap) (n0 : Nat) (Z0 : n0 ≤ h0.size) (A : own_Aln Z h0 ba .byte (3 : Int32)) :
    own_Met l (⟨"java/lang/StringUTF16", "coderFromArrayLen", "([BI)B"⟩ : MethodName) jdk_52_method_15_code 2 (some .byte) ws ({ frames := 0, cells := 0, slots := 0, locals := 0 } : Room) Z #[(.ref ba), (.int (3 : Int32))] h0 (fun v h L => v = some (.int (0 : Int32)) ∧ Fr n0 L ∧ h = h0) := by
  refine own_body (plainFor_of_name pn_1) ?_
  intro p e s m below meth c s₁ X0 hx hby hml hown hnm hret hlk hZ e0
  replace hown : s.vm.findClass "java/lang/StringUTF16" = some m.cls := hown
  replace hml : c.maxLocals = 2 := hml
  replace hret : meth.sig.returnType = (some .byte) := hret
  have N0 := Fr.nil n0
  have ef : entryFrame m #[(.ref ba), (.int (3 : Int32))] 2 = mkF m 0 #[.val (.ref ba), .val (.int (3 : Int32))] [] := by first | (simp [entryFrame, mkF, argsToLocals, Value.category]; done) | rfl
  refine own_step (S' := (s₁.setTop (mkF m 0 #[.val (.ref ba), .val (.int (3 : Int32))] []))) (fun _ k => castTop ef k) ?_
  refine own_iloadN X0 hx (hb hby d17_0) rfl ?_
  refine own_aloadN X0 hx (hb hby d17_1) rfl rfl ?_
  refine own_arraylength X0 hx hZ e0 A (hb hby d17_2) ?_
  refine own_isub X0 hx (hb hby d17_3) ?_
  rw [show ((3 : Int32) - (3 : Int32)) = (0 : Int32) from by decide]
  refine own_bipush X0 hx (31 : Int32) (hb hby d17_4) rfl ?_
  refine own_iushr X0 hx (hb hby d17_6) ?_
  rw [show (((0 : Int32).toUInt32 >>> ((31 : Int32) &&& 31).toUInt32).toInt32) = (0 : Int32) from by decide]
  refine own_i2b X0 hx (hb hby d17_7) ?_
  rw [show ((0 : Int32).toInt8.toInt32) = (0 : Int32) from by decide]
  refine own_retN X0 hx hlk hret (by simp) (by decide) (hb hby d17_8) (own_kN (by decide) (by decide) ?_)
  try rw [e0]
  exact ⟨rfl, N0, rfl⟩
set_option maxRecDepth 65536 in
set_option maxHeartbeats 40000000 in
theorem rmI2_3 (l : Launch) (Z : State) (a0 : Array Value) (hw : ∀ d ∈ tables_1, d.before a0 Z = true) (ws : List Jvm.Cond) (a ca : Addr) (kc : ClassId) (cs c0 c1 c2 : Int32)  (h0 : Heap) (n0 : Nat) (Z0 : n0 ≤ h0.size) (Ea : Exa Z h0 a "java/lang/String") (Fv : Fld Z h0 a "java/lang/String" "value" "[B" .null) (Fc : Fld Z h0 a "java/lang/String" "coder" "B" (.int (0 : Int32))) (g_a : n0 ≤ a) (Sc : Sta Z h0 "java/lang/String" "COMPACT_STRINGS" "Z" (.int cs)) (hcs : ¬ (cs = (0 : Int32))) (Vc : Arv Z h0 ca kc .char (3 : Int32) [(.int c0), (.int c1), (.int c2)] (.int (0 : Int32))) (Ecs : Exa Z h0 ca "[C") (hx0 : ¬ ((255 : Int32) < c0)) (hx1 : ¬ ((255 : Int32) < c1)) (hx2 : ¬ ((255 : Int32) < c2)) :
    own_Met l (⟨"java/lang/String", "<init>", "([CIILjava/lang/Void;)V"⟩ : MethodName) jdk_42_method_149_code 6 none ws ({ frames := 2, cells := 1, slots := 3, locals := 35 } : Room) Z #[(.ref a), (.ref ca), (.int (0 : Int32)), (.int (3 : Int32)), .null] h0 (fun v h L => v = none ∧ Fr n0 L ∧ Keep h0 h [a] ∧ ∃ b k, h0.size ≤ b ∧ Exa Z h b "[B" ∧ Exa Z h a "java/lang/String" ∧ Fld Z h a "java/lang/String" "value" "[B" (.ref b) ∧ Fld Z h a "java/lang/String" "coder" "B" (.int (0 : Int32)) ∧ Arv Z h b k .byte (3 : Int32) [(.int (c0.toInt8.toInt32)), (.int (c1.toInt8.toInt32)), (.int (c2.toInt8.toInt32))] (.int (0 : Int32))) := by
  refine own_body (plainFor_of_name pn_2) ?_
  intro p e s m below meth c s₁ X0 hx hby hml hown hnm hret hlk hZ e0
  replace hown : s.vm.findClass "java/lang/String" = some m.cls := hown
  replace hml : c.maxLocals = 6 := hml
  replace hret : meth.sig.returnType = none := hret
  have N0 := Fr.nil n0
  have ef : entryFrame m #[(.ref a), (.ref ca), (.int (0 : Int32)), (.int (3 : Int32)), .null] 6 = mkF m 0 #[.val (.ref a), .val (.ref ca), .val (.int (0 : Int32)), .val (.int (3 : Int32)), .val .null, .unset] [] := by first | (simp [entryFrame, mkF, argsToLocals, Value.category]; done) | rfl
  refine own_step (S' := (s₁.setTop (mkF m 0 #[.val (.ref a), .val (.ref ca), .val (.int (0 : Int32)), .val (.int (3 : Int32)), .val .null, .unset] []))) (fun _ k => castTop ef k) ?_
  refine own_aloadN X0 hx (hb hby d3_0) rfl rfl ?_
  refine own_initO (W := 0) X0 hx hZ hown (hw _ (List.mem_of_getElem? (i := 16) rfl)) (hw _ (List.mem_of_getElem? (i := 17) rfl)) (hw _ (List.mem_of_getElem? (i := 18) rfl)) e0 (by rw [hml]; rfl) (hb hby d3_1) (by decide) (Nat.le_of_eq rfl) (by decide) fun T28 X28 e28 => ?_
  refine own_iloadN X28 hx (hb hby d3_4) rfl ?_
  refine own_ifYes X28 hx 27 (hb hby d3_5) (feq (by decide : ¬ ((3 : Int32) = (0 : Int32)))).2 (by decide) (by decide) ?_
  refine own_getS X28 hx hZ hown (host := "") (Or.inl (hw _ (List.mem_of_getElem? (i := 46) rfl))) Via.refl e28 Sc (hb hby d3_27) fun T29 X29 e29 => ?_
  refine own_ifNo X29 hx (hb hby d3_30) (feq hcs).1 ?_
  refine own_aloadN X29 hx (hb hby d3_33) rfl rfl ?_
  refine own_iloadN X29 hx (hb hby d3_34) rfl ?_
  refine own_iloadN X29 hx (hb hby d3_35) rfl ?_
  refine own_cStat (W := 0) (rest := []) X29 hx hZ [(.ref ca), (.int (0 : Int32)), (.int (3 : Int32))] hown (hw _ (List.mem_of_getElem? (i := 71) rfl)) (hw _ (List.mem_of_getElem? (i := 72) rfl)) (by decide) (hw _ (List.mem_of_getElem? (i := 74) rfl)) (hw _ (List.mem_of_getElem? (i := 73) rfl)) e29 (rmC1_3 l Z a0 hw [] ca kc c0 c1 c2 h0 n0 Z0 Vc hx0 hx1 hx2) (by rw [hml]; rfl) (lenOf pd_1 rfl) rfl (Nat.le_of_eq rfl) (hb hby d3_36) (by decide) (by decide) (by decide) (by decide) fun v30 T30 L30 X30 hQ30 => ?_
  obtain ⟨b30, kb30, rfl, N30q, K30, szb30, gb30, Eb30, Vb30⟩ := hQ30
  have N30 := Fr.app N0 N30q
  have szo_b30 : h0.size ≤ b30 := Nat.le_trans (Nat.le_refl h0.size) szb30
  show own_At p e below _ T30 m 39 _ [(.ref b30)]
  refine own_astore (l' := #[.val (.ref a), .val (.ref ca), .val (.int (0 : Int32)), .val (.int (3 : Int32)), .val .null, .val (.ref b30)]) X30 hx (hb hby d3_39) rfl rfl ?_
  refine own_aloadN X30 hx (hb hby d3_41) rfl rfl ?_
  refine own_aload X30 hx (hb hby d3_42) rfl rfl ?_
  refine own_iloadN X30 hx (hb hby d3_44) rfl ?_
  refine own_cStat (W := 1) (rest := [(.ref a)]) X30 hx hZ [(.ref b30), (.int (3 : Int32))] hown (hw _ (List.mem_of_getElem? (i := 78) rfl)) (hw _ (List.mem_of_getElem? (i := 79) rfl)) (by decide) (hw _ (List.mem_of_getElem? (i := 80) rfl)) (hw _ (List.mem_of_getElem? (i := 73) rfl)) rfl (rmCF_3 l Z a0 hw [] b30 T30.heap n0 (Nat.le_trans Z0 K30.1) (own_alnV Vb30)) (by rw [hml]; rfl) (lenOf pd_2 rfl) rfl (Nat.le_of_eq rfl) (hb hby d3_45) (by decide) (by decide) (by decide) (by decide) fun v31 T31 L31 X31 hQ31 => ?_
  obtain ⟨rfl, N31q, e31⟩ := hQ31
  have N31 := Fr.app N30 N31q
  show own_At p e below _ T31 m 48 _ [(.int (0 : Int32)), (.ref a)]
  obtain ⟨T32, h32, X32, e32, W32, st32⟩ := putFN X31 hx hZ hown (hw _ (List.mem_of_getElem? (i := 26) rfl)) Via.refl e31 (Fld.keep Fc K30 nin0) (Exa.keep Ea K30) (Or.inr ⟨(hw _ (List.mem_of_getElem? (i := 22) rfl)), rfl, hnm⟩) (hw _ (List.mem_of_getElem? (i := 7) rfl)) (ty := .byte) (v' := (.int (0 : Int32))) (by decide) rfl rfl (g := (mkF m 48 #[.val (.ref a), .val (.ref ca), .val (.int (0 : Int32)), .val (.int (3 : Int32)), .val .null, .val (.ref b30)] [(.int (0 : Int32)), (.ref a)])) rfl rfl (hb hby d3_48)
  refine own_step (S' := (T32.setTop (mkF m 51 #[.val (.ref a), .val (.ref ca), .val (.int (0 : Int32)), .val (.int (3 : Int32)), .val .null, .val (.ref b30)] []))) (fun _ k => st32 _ k) ?_
  have Fw32 := Fld.same W32 (Fld.keep Fc K30 nin0)
  have N32 := Fr.snoc X32 N31 g_a
  refine own_aloadN X32 hx (hb hby d3_51) rfl rfl ?_
  refine own_aload X32 hx (hb hby d3_52) rfl rfl ?_
  refine own_putF X32 hx hZ hown (host := "") (Or.inl (hw _ (List.mem_of_getElem? (i := 25) rfl))) Via.refl e32 (Fld.other W32 (Fld.keep Fv K30 nin0) (Or.inr (slot_ne (Or.inr (hw _ (List.mem_of_getElem? (i := 21) rfl))) (Or.inr (hw _ (List.mem_of_getElem? (i := 22) rfl))) (by decide) (t := (.array .byte)) (t' := .byte) (by decide) (by decide)))) (Exa.wr W32 (Exa.keep Ea K30)) (Or.inr ⟨(hw _ (List.mem_of_getElem? (i := 21) rfl)), rfl, hnm⟩) (hw _ (List.mem_of_getElem? (i := 7) rfl)) (ty := (.array .byte)) (by decide) rfl rfl (hb hby d3_54) fun T33 h33 X33 e33 W33 => ?_
  have Fw33 := Fld.same W33 (Fld.other W32 (Fld.keep Fv K30 nin0) (Or.inr (slot_ne (Or.inr (hw _ (List.mem_of_getElem? (i := 21) rfl))) (Or.inr (hw _ (List.mem_of_getElem? (i := 22) rfl))) (by decide) (t := (.array .byte)) (t' := .byte) (by decide) (by decide))))
  have N33 := Fr.snoc X33 N32 g_a
  refine own_retV X33 hx hlk hret (hb hby d3_57) (own_kN (by decide) (by decide) ?_)
  try rw [e33]
  exact ⟨rfl, N33, (Keep.wr (Keep.wr (Keep.trans (Keep.refl h0 [a]) K30 all0) W32 (Or.inl (List.mem_of_getElem? (i := 0) rfl))) W33 (Or.inl (List.mem_of_getElem? (i := 0) rfl))), b30, kb30, szo_b30, (Exa.wr W33 (Exa.wr W32 Eb30)), (Exa.wr W33 (Exa.wr W32 (Exa.keep Ea K30))), Fw33, (Fld.other W33 Fw32 (Or.inr (slot_ne (Or.inr (hw _ (List.mem_of_getElem? (i := 22) rfl))) (Or.inr (hw _ (List.mem_of_getElem? (i := 21) rfl))) (by decide) (t := .byte) (t' := (.array .byte)) (by decide) (by decide)))), (Arv.other (Arv.other Vb30 W32 (Ne.symm (Nat.ne_of_lt (Nat.lt_of_lt_of_le Ea.lt szb30)))) W33 (Ne.symm (Nat.ne_of_lt (Nat.lt_of_lt_of_le Ea.lt szb30))))⟩
set_option maxRecDepth 65536 in
set_option maxHeartbeats 40000000 in
theorem rmI1_3 (l : Launch) (Z : State) (a0 : Array Value) (hw : ∀ d ∈ tables_1, d.before a0 Z = true) (ws : List Jvm.Cond) (a ca : Addr) (kc : ClassId) (cs c0 c1 c2 : Int32)  (h0 : Heap) (n0 : Nat) (Z0 : n0 ≤ h0.size) (Ea : Exa Z h0 a "java/lang/String") (Fv : Fld Z h0 a "java/lang/String" "value" "[B" .null) (Fc : Fld Z h0 a "java/lang/String" "coder" "B" (.int (0 : Int32))) (g_a : n0 ≤ a) (Sc : Sta Z h0 "java/lang/String" "COMPACT_STRINGS" "Z" (.int cs)) (hcs : ¬ (cs = (0 : Int32))) (Vc : Arv Z h0 ca kc .char (3 : Int32) [(.int c0), (.int c1), (.int c2)] (.int (0 : Int32))) (Ecs : Exa Z h0 ca "[C") (hx0 : ¬ ((255 : Int32) < c0)) (hx1 : ¬ ((255 : Int32) < c1)) (hx2 : ¬ ((255 : Int32) < c2)) :
    own_Met l (⟨"java/lang/String", "<init>", "([C)V"⟩ : MethodName) jdk_42_method_3_code 2 none ws ({ frames := 3, cells := 1, slots := 3, locals := 52 } : Room) Z #[(.ref a), (.ref ca)] h0 (fun v h L => v = none ∧ Fr n0 L ∧ Keep h0 h [a] ∧ ∃ b k, h0.size ≤ b ∧ Exa Z h b "[B" ∧ Exa Z h a "java/lang/String" ∧ Fld Z h a "java/lang/String" "value" "[B" (.ref b) ∧ Fld Z h a "java/lang/String" "coder" "B" (.int (0 : Int32)) ∧ Arv Z h b k .byte (3 : Int32) [(.int (c0.toInt8.toInt32)), (.int (c1.toInt8.toInt32)), (.int (c2.toInt8.toInt32))] (.int (0 : Int32))) := by
  refine own_body (plainFor_of_name pn_2) ?_
  intro p e s m below meth c s₁ X0 hx hby hml hown hnm hret hlk hZ e0
  replace hown : s.vm.findClass "java/lang/String" = some m.cls := hown
  replace hml : c.maxLocals = 2 := hml
  replace hret : meth.sig.returnType = none := hret
  have N0 := Fr.nil n0
  have ef : entryFrame m #[(.ref a), (.ref ca)] 2 = mkF m 0 #[.val (.ref a), .val (.ref ca)] [] := by first | (simp [entryFrame, mkF, argsToLocals, Value.category]; done) | rfl
  refine own_step (S' := (s₁.setTop (mkF m 0 #[.val (.ref a), .val (.ref ca)] []))) (fun _ k => castTop ef k) ?_
  refine own_aloadN X0 hx (hb hby d2_0) rfl rfl ?_
  refine own_aloadN X0 hx (hb hby d2_1) rfl rfl ?_
  refine own_iconst X0 hx (0 : Int32) (hb hby d2_2) rfl ?_
  refine own_aloadN X0 hx (hb hby d2_3) rfl rfl ?_
  refine own_arraylength X0 hx hZ e0 (own_alnV Vc) (hb hby d2_4) ?_
  refine own_aconstNull X0 hx (hb hby d2_5) ?_
  refine own_cSpec (b := a) (W := 0) (rest := []) X0 hx hZ [(.ref ca), (.int (0 : Int32)), (.int (3 : Int32)), .null] rfl hown (hw _ (List.mem_of_getElem? (i := 12) rfl)) (hw _ (List.mem_of_getElem? (i := 13) rfl)) (by decide) (hw _ (List.mem_of_getElem? (i := 15) rfl)) (hw _ (List.mem_of_getElem? (i := 8) rfl)) e0 (rmI2_3 l Z a0 hw [] a ca kc cs c0 c1 c2 h0 n0 Z0 Ea Fv Fc g_a Sc hcs Vc Ecs hx0 hx1 hx2) (by rw [hml]; rfl) (lenOf pd_3 rfl) rfl (Nat.le_of_eq rfl) (hb hby d2_6) (by decide) (by decide) (by decide) (by decide) fun v34 T34 L34 X34 hQ34 => ?_
  obtain ⟨rfl, N34q, K34, R34⟩ := hQ34
  have N34 := Fr.app N0 N34q
  show own_At p e below _ T34 m 9 _ []
  refine own_retV X34 hx hlk hret (hb hby d2_9) (own_kN (by decide) (by decide) ?_)
  exact ⟨rfl, N34, K34, R34⟩
set_option maxRecDepth 65536 in
set_option maxHeartbeats 40000000 in
theorem rmC2_4 (l : Launch) (Z : State) (a0 : Array Value) (hw : ∀ d ∈ tables_1, d.before a0 Z = true) (ws : List Jvm.Cond) (ca ba : Addr) (kc kb : ClassId) (c0 c1 c2 c3 : Int32)  (h0 : Heap) (n0 : Nat) (Z0 : n0 ≤ h0.size) (Vc : Arv Z h0 ca kc .char (4 : Int32) [(.int c0), (.int c1), (.int c2), (.int c3)] (.int (0 : Int32))) (Vb : Arv Z h0 ba kb .byte (4 : Int32) [(.int (0 : Int32)), (.int (0 : Int32)), (.int (0 : Int32)), (.int (0 : Int32))] (.int (0 : Int32))) (g_ba : n0 ≤ ba) (hne : ca ≠ ba) (hx0 : ¬ ((255 : Int32) < c0)) (hx1 : ¬ ((255 : Int32) < c1)) (hx2 : ¬ ((255 : Int32) < c2)) (hx3 : ¬ ((255 : Int32) < c3)) :
    own_Met l (⟨"java/lang/StringUTF16", "compress", "([CI[BII)I"⟩ : MethodName) jdk_52_method_21_code 7 (some .int) ws ({ frames := 0, cells := 0, slots := 0, locals := 0 } : Room) Z #[(.ref ca), (.int (0 : Int32)), (.ref ba), (.int (0 : Int32)), (.int (4 : Int32))] h0 (fun v h L => v = some (.int (4 : Int32)) ∧ Fr n0 L ∧ Keep h0 h [ba] ∧ Arv Z h ba kb .byte (4 : Int32) [(.int (c0.toInt8.toInt32)), (.int (c1.toInt8.toInt32)), (.int (c2.toInt8.toInt32)), (.int (c3.toInt8.toInt32))] (.int (0 : Int32))) := by
  refine own_body (plainFor_of_name pn_1) ?_
  intro p e s m below meth c s₁ X0 hx hby hml hown hnm hret hlk hZ e0
  replace hown : s.vm.findClass "java/lang/StringUTF16" = some m.cls := hown
  replace hml : c.maxLocals = 7 := hml
  replace hret : meth.sig.returnType = (some .int) := hret
  have N0 := Fr.nil n0
  have ef : entryFrame m #[(.ref ca), (.int (0 : Int32)), (.ref ba), (.int (0 : Int32)), (.int (4 : Int32))] 7 = mkF m 0 #[.val (.ref ca), .val (.int (0 : Int32)), .val (.ref ba), .val (.int (0 : Int32)), .val (.int (4 : Int32)), .unset, .unset] [] := by first | (simp [entryFrame, mkF, argsToLocals, Value.category]; done) | rfl
  refine own_step (S' := (s₁.setTop (mkF m 0 #[.val (.ref ca), .val (.int (0 : Int32)), .val (.ref ba), .val (.int (0 : Int32)), .val (.int (4 : Int32)), .unset, .unset] []))) (fun _ k => castTop ef k) ?_
  refine own_iconst X0 hx (0 : Int32) (hb hby d16_0) rfl ?_
  refine own_istore (l' := #[.val (.ref ca), .val (.int (0 : Int32)), .val (.ref ba), .val (.int (0 : Int32)), .val (.int (4 : Int32)), .val (.int (0 : Int32)), .unset]) X0 hx (hb hby d16_1) rfl ?_
  refine own_iload X0 hx (hb hby d16_3) rfl ?_
  refine own_iload X0 hx (hb hby d16_5) rfl ?_
  refine own_icmpNo X0 hx (hb hby d16_7) (tlt (by decide : (0 : Int32) < (4 : Int32))).2.1 ?_
  refine own_aloadN X0 hx (hb hby d16_10) rfl rfl ?_
  refine own_iloadN X0 hx (hb hby d16_11) rfl ?_
  refine own_caload X0 hx hZ (.int c0) e0 Vc ⟨by decide, by decide⟩ rfl (hb hby d16_12) ?_
  refine own_istore (l' := #[.val (.ref ca), .val (.int (0 : Int32)), .val (.ref ba), .val (.int (0 : Int32)), .val (.int (4 : Int32)), .val (.int (0 : Int32)), .val (.int c0)]) X0 hx (hb hby d16_13) rfl ?_
  refine own_iload X0 hx (hb hby d16_15) rfl ?_
  refine own_sipush X0 hx (255 : Int32) (hb hby d16_17) rfl ?_
  refine own_icmpYes X0 hx 26 (hb hby d16_20) (flt hx0).2.2.2 (by decide) (by decide) ?_
  refine own_aloadN X0 hx (hb hby d16_26) rfl rfl ?_
  refine own_iloadN X0 hx (hb hby d16_27) rfl ?_
  refine own_iload X0 hx (hb hby d16_28) rfl ?_
  refine own_i2b X0 hx (hb hby d16_30) ?_
  refine own_stB (vs' := [(.int (c0.toInt8.toInt32)), (.int (0 : Int32)), (.int (0 : Int32)), (.int (0 : Int32))]) (w := (.int (c0.toInt8.toInt32))) X0 hx hZ e0 Vb ⟨by decide, by decide⟩ 0 rfl (Nat.le_of_ble_eq_true rfl) (congrArg Value.int (own_b8 _)) rfl (hb hby d16_31) fun T35 h35 X35 e35 W35 V35 => ?_
  have N35 := Fr.snoc X35 N0 g_ba
  refine own_iinc (l' := #[.val (.ref ca), .val (.int ((0 : Int32) + (1 : Int32))), .val (.ref ba), .val (.int (0 : Int32)), .val (.int (4 : Int32)), .val (.int (0 : Int32)), .val (.int c0)]) X35 hx (hb hby d16_32) rfl rfl ?_
  rw [show ((0 : Int32) + (1 : Int32)) = (1 : Int32) from by decide]
  refine own_iinc (l' := #[.val (.ref ca), .val (.int (1 : Int32)), .val (.ref ba), .val (.int ((0 : Int32) + (1 : Int32))), .val (.int (4 : Int32)), .val (.int (0 : Int32)), .val (.int c0)]) X35 hx (hb hby d16_35) rfl rfl ?_
  rw [show ((0 : Int32) + (1 : Int32)) = (1 : Int32) from by decide]
  refine own_iinc (l' := #[.val (.ref ca), .val (.int (1 : Int32)), .val (.ref ba), .val (.int (1 : Int32)), .val (.int (4 : Int32)), .val (.int ((0 : Int32) + (1 : Int32))), .val (.int c0)]) X35 hx (hb hby d16_38) rfl rfl ?_
  rw [show ((0 : Int32) + (1 : Int32)) = (1 : Int32) from by decide]
  refine own_goto X35 hx 3 (hb hby d16_41) (by decide) (by decide) ?_
  refine own_iload X35 hx (hb hby d16_3) rfl ?_
  refine own_iload X35 hx (hb hby d16_5) rfl ?_
  refine own_icmpNo X35 hx (hb hby d16_7) (tlt (by decide : (1 : Int32) < (4 : Int32))).2.1 ?_
  refine own_aloadN X35 hx (hb hby d16_10) rfl rfl ?_
  refine own_iloadN X35 hx (hb hby d16_11) rfl ?_
  refine own_caload X35 hx hZ (.int c1) e35 (Arv.other Vc W35 hne) ⟨by decide, by decide⟩ rfl (hb hby d16_12) ?_
  refine own_istore (l' := #[.val (.ref ca), .val (.int (1 : Int32)), .val (.ref ba), .val (.int (1 : Int32)), .val (.int (4 : Int32)), .val (.int (1 : Int32)), .val (.int c1)]) X35 hx (hb hby d16_13) rfl ?_
  refine own_iload X35 hx (hb hby d16_15) rfl ?_
  refine own_sipush X35 hx (255 : Int32) (hb hby d16_17) rfl ?_
  refine own_icmpYes X35 hx 26 (hb hby d16_20) (flt hx1).2.2.2 (by decide) (by decide) ?_
  refine own_aloadN X35 hx (hb hby d16_26) rfl rfl ?_
  refine own_iloadN X35 hx (hb hby d16_27) rfl ?_
  refine own_iload X35 hx (hb hby d16_28) rfl ?_
  refine own_i2b X35 hx (hb hby d16_30) ?_
  refine own_stB (vs' := [(.int (c0.toInt8.toInt32)), (.int (c1.toInt8.toInt32)), (.int (0 : Int32)), (.int (0 : Int32))]) (w := (.int (c1.toInt8.toInt32))) X35 hx hZ e35 V35 ⟨by decide, by decide⟩ 1 rfl (Nat.le_of_ble_eq_true rfl) (congrArg Value.int (own_b8 _)) rfl (hb hby d16_31) fun T36 h36 X36 e36 W36 V36 => ?_
  have N36 := Fr.snoc X36 N35 g_ba
  refine own_iinc (l' := #[.val (.ref ca), .val (.int ((1 : Int32) + (1 : Int32))), .val (.ref ba), .val (.int (1 : Int32)), .val (.int (4 : Int32)), .val (.int (1 : Int32)), .val (.int c1)]) X36 hx (hb hby d16_32) rfl rfl ?_
  rw [show ((1 : Int32) + (1 : Int32)) = (2 : Int32) from by decide]
  refine own_iinc (l' := #[.val (.ref ca), .val (.int (2 : Int32)), .val (.ref ba), .val (.int ((1 : Int32) + (1 : Int32))), .val (.int (4 : Int32)), .val (.int (1 : Int32)), .val (.int c1)]) X36 hx (hb hby d16_35) rfl rfl ?_
  rw [show ((1 : Int32) + (1 : Int32)) = (2 : Int32) from by decide]
  refine own_iinc (l' := #[.val (.ref ca), .val (.int (2 : Int32)), .val (.ref ba), .val (.int (2 : Int32)), .val (.int (4 : Int32)), .val (.int ((1 : Int32) + (1 : Int32))), .val (.int c1)]) X36 hx (hb hby d16_38) rfl rfl ?_
  rw [show ((1 : Int32) + (1 : Int32)) = (2 : Int32) from by decide]
  refine own_goto X36 hx 3 (hb hby d16_41) (by decide) (by decide) ?_
  refine own_iload X36 hx (hb hby d16_3) rfl ?_
  refine own_iload X36 hx (hb hby d16_5) rfl ?_
  refine own_icmpNo X36 hx (hb hby d16_7) (tlt (by decide : (2 : Int32) < (4 : Int32))).2.1 ?_
  refine own_aloadN X36 hx (hb hby d16_10) rfl rfl ?_
  refine own_iloadN X36 hx (hb hby d16_11) rfl ?_
  refine own_caload X36 hx hZ (.int c2) e36 (Arv.other (Arv.other Vc W35 hne) W36 hne) ⟨by decide, by decide⟩ rfl (hb hby d16_12) ?_
  refine own_istore (l' := #[.val (.ref ca), .val (.int (2 : Int32)), .val (.ref ba), .val (.int (2 : Int32)), .val (.int (4 : Int32)), .val (.int (2 : Int32)), .val (.int c2)]) X36 hx (hb hby d16_13) rfl ?_
  refine own_iload X36 hx (hb hby d16_15) rfl ?_
  refine own_sipush X36 hx (255 : Int32) (hb hby d16_17) rfl ?_
  refine own_icmpYes X36 hx 26 (hb hby d16_20) (flt hx2).2.2.2 (by decide) (by decide) ?_
  refine own_aloadN X36 hx (hb hby d16_26) rfl rfl ?_
  refine own_iloadN X36 hx (hb hby d16_27) rfl ?_
  refine own_iload X36 hx (hb hby d16_28) rfl ?_
  refine own_i2b X36 hx (hb hby d16_30) ?_
  refine own_stB (vs' := [(.int (c0.toInt8.toInt32)), (.int (c1.toInt8.toInt32)), (.int (c2.toInt8.toInt32)), (.int (0 : Int32))]) (w := (.int (c2.toInt8.toInt32))) X36 hx hZ e36 V36 ⟨by decide, by decide⟩ 2 rfl (Nat.le_of_ble_eq_true rfl) (congrArg Value.int (own_b8 _)) rfl (hb hby d16_31) fun T37 h37 X37 e37 W37 V37 => ?_
  have N37 := Fr.snoc X37 N36 g_ba
  refine own_iinc (l' := #[.val (.ref ca), .val (.int ((2 : Int32) + (1 : Int32))), .val (.ref ba), .val (.int (2 : Int32)), .val (.int (4 : Int32)), .val (.int (2 : Int32)), .val (.int c2)]) X37 hx (hb hby d16_32) rfl rfl ?_
  rw [show ((2 : Int32) + (1 : Int32)) = (3 : Int32) from by decide]
  refine own_iinc (l' := #[.val (.ref ca), .val (.int (3 : Int32)), .val (.ref ba), .val (.int ((2 : Int32) + (1 : Int32))), .val (.int (4 : Int32)), .val (.int (2 : Int32)), .val (.int c2)]) X37 hx (hb hby d16_35) rfl rfl ?_
  rw [show ((2 : Int32) + (1 : Int32)) = (3 : Int32) from by decide]
  refine own_iinc (l' := #[.val (.ref ca), .val (.int (3 : Int32)), .val (.ref ba), .val (.int (3 : Int32)), .val (.int (4 : Int32)), .val (.int ((2 : Int32) + (1 : Int32))), .val (.int c2)]) X37 hx (hb hby d16_38) rfl rfl ?_
  rw [show ((2 : Int32) + (1 : Int32)) = (3 : Int32) from by decide]
  refine own_goto X37 hx 3 (hb hby d16_41) (by decide) (by decide) ?_
  refine own_iload X37 hx (hb hby d16_3) rfl ?_
  refine own_iload X37 hx (hb hby d16_5) rfl ?_
  refine own_icmpNo X37 hx (hb hby d16_7) (tlt (by decide : (3 : Int32) < (4 : Int32))).2.1 ?_
  refine own_aloadN X37 hx (hb hby d16_10) rfl rfl ?_
  refine own_iloadN X37 hx (hb hby d16_11) rfl ?_
  refine own_caload X37 hx hZ (.int c3) e37 (Arv.other (Arv.other (Arv.other Vc W35 hne) W36 hne) W37 hne) ⟨by decide, by decide⟩ rfl (hb hby d16_12) ?_
  refine own_istore (l' := #[.val (.ref ca), .val (.int (3 : Int32)), .val (.ref ba), .val (.int (3 : Int32)), .val (.int (4 : Int32)), .val (.int (3 : Int32)), .val (.int c3)]) X37 hx (hb hby d16_13) rfl ?_
  refine own_iload X37 hx (hb hby d16_15) rfl ?_
  refine own_sipush X37 hx (255 : Int32) (hb hby d16_17) rfl ?_
  refine own_icmpYes X37 hx 26 (hb hby d16_20) (flt hx3).2.2.2 (by decide) (by decide) ?_
  refine own_aloadN X37 hx (hb hby d16_26) rfl rfl ?_
  refine own_iloadN X37 hx (hb hby d16_27) rfl ?_
  refine own_iload X37 hx (hb hby d16_28) rfl ?_
  refine own_i2b X37 hx (hb hby d16_30) ?_
  refine own_stB (vs' := [(.int (c0.toInt8.toInt32)), (.int (c1.toInt8.toInt32)), (.int (c2.toInt8.toInt32)), (.int (c3.toInt8.toInt32))]) (w := (.int (c3.toInt8.toInt32))) X37 hx hZ e37 V37 ⟨by decide, by decide⟩ 3 rfl (Nat.le_of_ble_eq_true rfl) (congrArg Value.int (own_b8 _)) rfl (hb hby d16_31) fun T38 h38 X38 e38 W38 V38 => ?_
  have N38 := Fr.snoc X38 N37 g_ba
  refine own_iinc (l' := #[.val (.ref ca), .val (.int ((3 : Int32) + (1 : Int32))), .val (.ref ba), .val (.int (3 : Int32)), .val (.int (4 : Int32)), .val (.int (3 : Int32)), .val (.int c3)]) X38 hx (hb hby d16_32) rfl rfl ?_
  rw [show ((3 : Int32) + (1 : Int32)) = (4 : Int32) from by decide]
  refine own_iinc (l' := #[.val (.ref ca), .val (.int (4 : Int32)), .val (.ref ba), .val (.int ((3 : Int32) + (1 : Int32))), .val (.int (4 : Int32)), .val (.int (3 : Int32)), .val (.int c3)]) X38 hx (hb hby d16_35) rfl rfl ?_
  rw [show ((3 : Int32) + (1 : Int32)) = (4 : Int32) from by decide]
  refine own_iinc (l' := #[.val (.ref ca), .val (.int (4 : Int32)), .val (.ref ba), .val (.int (4 : Int32)), .val (.int (4 : Int32)), .val (.int ((3 : Int32) + (1 : Int32))), .val (.int c3)]) X38 hx (hb hby d16_38) rfl rfl ?_
  rw [show ((3 : Int32) + (1 : Int32)) = (4 : Int32) from by decide]
  refine own_goto X38 hx 3 (hb hby d16_41) (by decide) (by decide) ?_
  refine own_iload X38 hx (hb hby d16_3) rfl ?_
  refine own_iload X38 hx (hb hby d16_5) rfl ?_
  refine own_icmpYes X38 hx 44 (hb hby d16_7) (flt (by decide : ¬ ((4 : Int32) < (4 : Int32)))).2.1 (by decide) (by decide) ?_
  refine own_iload X38 hx (hb hby d16_44) rfl ?_
  refine own_retI X38 hx hlk hret (hb hby d16_46) (own_kN (by decide) (by decide) ?_)
  try rw [e38]
  exact ⟨rfl, N38, (Keep.wr (Keep.wr (Keep.wr (Keep.wr (Keep.refl h0 [ba]) W35 (Or.inl (List.mem_of_getElem? (i := 0) rfl))) W36 (Or.inl (List.mem_of_getElem? (i := 0) rfl))) W37 (Or.inl (List.mem_of_getElem? (i := 0) rfl))) W38 (Or.inl (List.mem_of_getElem? (i := 0) rfl))), V38⟩
set_option maxRecDepth 65536 in
set_option maxHeartbeats 40000000 in
theorem rmC1_4 (l : Launch) (Z : State) (a0 : Array Value) (hw : ∀ d ∈ tables_1, d.before a0 Z = true) (ws : List Jvm.Cond) (ca : Addr) (kc : ClassId) (c0 c1 c2 c3 : Int32)  (h0 : Heap) (n0 : Nat) (Z0 : n0 ≤ h0.size) (Vc : Arv Z h0 ca kc .char (4 : Int32) [(.int c0), (.int c1), (.int c2), (.int c3)] (.int (0 : Int32))) (hx0 : ¬ ((255 : Int32) < c0)) (hx1 : ¬ ((255 : Int32) < c1)) (hx2 : ¬ ((255 : Int32) < c2)) (hx3 : ¬ ((255 : Int32) < c3)) :
    own_Met l (⟨"java/lang/StringUTF16", "compress", "([CII)[B"⟩ : MethodName) jdk_52_method_16_code 6 (some (.array .byte)) ws ({ frames := 1, cells := 1, slots := 4, locals := 18 } : Room) Z #[(.ref ca), (.int (0 : Int32)), (.int (4 : Int32))] h0 (fun v h L => ∃ b k, v = some (.ref b) ∧ Fr n0 L ∧ Keep h0 h [] ∧ h0.size ≤ b ∧ n0 ≤ b ∧ Exa Z h b "[B" ∧ Arv Z h b k .byte (4 : Int32) [(.int (c0.toInt8.toInt32)), (.int (c1.toInt8.toInt32)), (.int (c2.toInt8.toInt32)), (.int (c3.toInt8.toInt32))] (.int (0 : Int32))) := by
  refine own_body (plainFor_of_name pn_1) ?_
  intro p e s m below meth c s₁ X0 hx hby hml hown hnm hret hlk hZ e0
  replace hown : s.vm.findClass "java/lang/StringUTF16" = some m.cls := hown
  replace hml : c.maxLocals = 6 := hml
  replace hret : meth.sig.returnType = (some (.array .byte)) := hret
  have N0 := Fr.nil n0
  have ef : entryFrame m #[(.ref ca), (.int (0 : Int32)), (.int (4 : Int32))] 6 = mkF m 0 #[.val (.ref ca), .val (.int (0 : Int32)), .val (.int (4 : Int32)), .unset, .unset, .unset] [] := by first | (simp [entryFrame, mkF, argsToLocals, Value.category]; done) | rfl
  refine own_step (S' := (s₁.setTop (mkF m 0 #[.val (.ref ca), .val (.int (0 : Int32)), .val (.int (4 : Int32)), .unset, .unset, .unset] []))) (fun _ k => castTop ef k) ?_
  refine own_iloadN X0 hx (hb hby d15_0) rfl ?_
  refine own_newP (n := (4 : Int32)) (cap := 4) (ad := "[B") X0 hx hZ (hw _ (List.mem_of_getElem? (i := 20) rfl)) e0 (hb hby d15_1) (by decide) (by decide) (by decide) (by decide) (by decide) (by decide) fun T39 h39 k39 b39 g39 X39 e39 E39 A39 Ex39 => ?_
  have g_b39 : n0 ≤ b39 := Nat.le_trans Z0 (Nat.le_of_eq g39.symm)
  have szo_b39 : h0.size ≤ b39 := Nat.le_trans (Nat.le_refl h0.size) (Nat.le_of_eq g39.symm)
  have V39 : Arv Z h39 b39 k39 .byte (4 : Int32) [(.int (0 : Int32)), (.int (0 : Int32)), (.int (0 : Int32)), (.int (0 : Int32))] (.int (0 : Int32)) := (Arv.new A39 (by decide)).pad (pad_rep [] (.int (0 : Int32)) 4)
  refine own_astoreN (l' := #[.val (.ref ca), .val (.int (0 : Int32)), .val (.int (4 : Int32)), .val (.ref b39), .unset, .unset]) X39 hx (hb hby d15_3) rfl rfl ?_
  refine own_aloadN X39 hx (hb hby d15_4) rfl rfl ?_
  refine own_iloadN X39 hx (hb hby d15_5) rfl ?_
  refine own_aloadN X39 hx (hb hby d15_6) rfl rfl ?_
  refine own_iconst X39 hx (0 : Int32) (hb hby d15_7) rfl ?_
  refine own_iloadN X39 hx (hb hby d15_8) rfl ?_
  refine own_cStat (W := 0) (rest := []) X39 hx hZ [(.ref ca), (.int (0 : Int32)), (.ref b39), (.int (0 : Int32)), (.int (4 : Int32))] hown (hw _ (List.mem_of_getElem? (i := 75) rfl)) (hw _ (List.mem_of_getElem? (i := 76) rfl)) (by decide) (hw _ (List.mem_of_getElem? (i := 77) rfl)) (hw _ (List.mem_of_getElem? (i := 73) rfl)) e39 (rmC2_4 l Z a0 hw [] ca b39 kc k39 c0 c1 c2 c3 h39 n0 (Nat.le_trans Z0 E39.1) (Vc.ext E39) V39 g_b39 (Nat.ne_of_lt (Nat.lt_of_lt_of_le Vc.lt (Nat.le_of_eq g39.symm))) hx0 hx1 hx2 hx3) (by rw [hml]; rfl) (lenOf pd_0 rfl) rfl (Nat.le_of_eq rfl) (hb hby d15_9) (by decide) (by decide) (by decide) (by decide) fun v40 T40 L40 X40 hQ40 => ?_
  obtain ⟨rfl, N40q, K40, Vb40⟩ := hQ40
  have N40 := Fr.app N0 N40q
  show own_At p e below _ T40 m 12 _ [(.int (4 : Int32))]
  refine own_istore (l' := #[.val (.ref ca), .val (.int (0 : Int32)), .val (.int (4 : Int32)), .val (.ref b39), .val (.int (4 : Int32)), .unset]) X40 hx (hb hby d15_12) rfl ?_
  refine own_iload X40 hx (hb hby d15_14) rfl ?_
  refine own_iloadN X40 hx (hb hby d15_16) rfl ?_
  refine own_icmpYes X40 hx 57 (hb hby d15_17) (teq (by decide : (4 : Int32) = (4 : Int32))).1 (by decide) (by decide) ?_
  refine own_aloadN X40 hx (hb hby d15_57) rfl rfl ?_
  refine own_retA X40 hx hlk hret rfl rfl rfl (hb hby d15_58) (own_kN (by decide) (by decide) ?_)
  exact ⟨b39, k39, rfl, N40, (Keep.trans (Keep.ext (Keep.refl h0 []) E39) K40 (allS (Or.inr szo_b39) all0)), szo_b39, g_b39, (Exa.keep Ex39 K40), Vb40⟩
set_option maxRecDepth 65536 in
set_option maxHeartbeats 40000000 in
theorem rmCF_4 (l : Launch) (Z : State) (a0 : Array Value) (hw : ∀ d ∈ tables_1, d.before a0 Z = true) (ws : List Jvm.Cond) (ba : Addr)  (h0 : Heap) (n0 : Nat) (Z0 : n0 ≤ h0.size) (A : own_Aln Z h0 ba .byte (4 : Int32)) :
    own_Met l (⟨"java/lang/StringUTF16", "coderFromArrayLen", "([BI)B"⟩ : MethodName) jdk_52_method_15_code 2 (some .byte) ws ({ frames := 0, cells := 0, slots := 0, locals := 0 } : Room) Z #[(.ref ba), (.int (4 : Int32))] h0 (fun v h L => v = some (.int (0 : Int32)) ∧ Fr n0 L ∧ h = h0) := by
  refine own_body (plainFor_of_name pn_1) ?_
  intro p e s m below meth c s₁ X0 hx hby hml hown hnm hret hlk hZ e0
  replace hown : s.vm.findClass "java/lang/StringUTF16" = some m.cls := hown
  replace hml : c.maxLocals = 2 := hml
  replace hret : meth.sig.returnType = (some .byte) := hret
  have N0 := Fr.nil n0
  have ef : entryFrame m #[(.ref ba), (.int (4 : Int32))] 2 = mkF m 0 #[.val (.ref ba), .val (.int (4 : Int32))] [] := by first | (simp [entryFrame, mkF, argsToLocals, Value.category]; done) | rfl
  refine own_step (S' := (s₁.setTop (mkF m 0 #[.val (.ref ba), .val (.int (4 : Int32))] []))) (fun _ k => castTop ef k) ?_
  refine own_iloadN X0 hx (hb hby d17_0) rfl ?_
  refine own_aloadN X0 hx (hb hby d17_1) rfl rfl ?_
  refine own_arraylength X0 hx hZ e0 A (hb hby d17_2) ?_
  refine own_isub X0 hx (hb hby d17_3) ?_
  rw [show ((4 : Int32) - (4 : Int32)) = (0 : Int32) from by decide]
  refine own_bipush X0 hx (31 : Int32) (hb hby d17_4) rfl ?_
  refine own_iushr X0 hx (hb hby d17_6) ?_
  rw [show (((0 : Int32).toUInt32 >>> ((31 : Int32) &&& 31).toUInt32).toInt32) = (0 : Int32) from by decide]
  refine own_i2b X0 hx (hb hby d17_7) ?_
  rw [show ((0 : Int32).toInt8.toInt32) = (0 : Int32) from by decide]
  refine own_retN X0 hx hlk hret (by simp) (by decide) (hb hby d17_8) (own_kN (by decide) (by decide) ?_)
  try rw [e0]
  exact ⟨rfl, N0, rfl⟩
set_option maxRecDepth 65536 in
set_option maxHeartbeats 40000000 in
theorem rmI2_4 (l : Launch) (Z : State) (a0 : Array Value) (hw : ∀ d ∈ tables_1, d.before a0 Z = true) (ws : List Jvm.Cond) (a ca : Addr) (kc : ClassId) (cs c0 c1 c2 c3 : Int32)  (h0 : Heap) (n0 : Nat) (Z0 : n0 ≤ h0.size) (Ea : Exa Z h0 a "java/lang/String") (Fv : Fld Z h0 a "java/lang/String" "value" "[B" .null) (Fc : Fld Z h0 a "java/lang/String" "coder" "B" (.int (0 : Int32))) (g_a : n0 ≤ a) (Sc : Sta Z h0 "java/lang/String" "COMPACT_STRINGS" "Z" (.int cs)) (hcs : ¬ (cs = (0 : Int32))) (Vc : Arv Z h0 ca kc .char (4 : Int32) [(.int c0), (.int c1), (.int c2), (.int c3)] (.int (0 : Int32))) (Ecs : Exa Z h0 ca "[C") (hx0 : ¬ ((255 : Int32) < c0)) (hx1 : ¬ ((255 : Int32) < c1)) (hx2 : ¬ ((255 : Int32) < c2)) (hx3 : ¬ ((255 : Int32) < c3)) :
    own_Met l (⟨"java/lang/String", "<init>", "([CIILjava/lang/Void;)V"⟩ : MethodName) jdk_42_method_149_code 6 none ws ({ frames := 2, cells := 1, slots := 4, locals := 35 } : Room) Z #[(.ref a), (.ref ca), (.int (0 : Int32)), (.int (4 : Int32)), .null] h0 (fun v h L => v = none ∧ Fr n0 L ∧ Keep h0 h [a] ∧ ∃ b k, h0.size ≤ b ∧ Exa Z h b "[B" ∧ Exa Z h a "java/lang/String" ∧ Fld Z h a "java/lang/String" "value" "[B" (.ref b) ∧ Fld Z h a "java/lang/String" "coder" "B" (.int (0 : Int32)) ∧ Arv Z h b k .byte (4 : Int32) [(.int (c0.toInt8.toInt32)), (.int (c1.toInt8.toInt32)), (.int (c2.toInt8.toInt32)), (.int (c3.toInt8.toInt32))] (.int (0 : Int32))) := by
  refine own_body (plainFor_of_name pn_2) ?_
  intro p e s m below meth c s₁ X0 hx hby hml hown hnm hret hlk hZ e0
  replace hown : s.vm.findClass "java/lang/String" = some m.cls := hown
  replace hml : c.maxLocals = 6 := hml
  replace hret : meth.sig.returnType = none := hret
  have N0 := Fr.nil n0
  have ef : entryFrame m #[(.ref a), (.ref ca), (.int (0 : Int32)), (.int (4 : Int32)), .null] 6 = mkF m 0 #[.val (.ref a), .val (.ref ca), .val (.int (0 : Int32)), .val (.int (4 : Int32)), .val .null, .unset] [] := by first | (simp [entryFrame, mkF, argsToLocals, Value.category]; done) | rfl
  refine own_step (S' := (s₁.setTop (mkF m 0 #[.val (.ref a), .val (.ref ca), .val (.int (0 : Int32)), .val (.int (4 : Int32)), .val .null, .unset] []))) (fun _ k => castTop ef k) ?_
  refine own_aloadN X0 hx (hb hby d3_0) rfl rfl ?_
  refine own_initO (W := 0) X0 hx hZ hown (hw _ (List.mem_of_getElem? (i := 16) rfl)) (hw _ (List.mem_of_getElem? (i := 17) rfl)) (hw _ (List.mem_of_getElem? (i := 18) rfl)) e0 (by rw [hml]; rfl) (hb hby d3_1) (by decide) (Nat.le_of_eq rfl) (by decide) fun T41 X41 e41 => ?_
  refine own_iloadN X41 hx (hb hby d3_4) rfl ?_
  refine own_ifYes X41 hx 27 (hb hby d3_5) (feq (by decide : ¬ ((4 : Int32) = (0 : Int32)))).2 (by decide) (by decide) ?_
  refine own_getS X41 hx hZ hown (host := "") (Or.inl (hw _ (List.mem_of_getElem? (i := 46) rfl))) Via.refl e41 Sc (hb hby d3_27) fun T42 X42 e42 => ?_
  refine own_ifNo X42 hx (hb hby d3_30) (feq hcs).1 ?_
  refine own_aloadN X42 hx (hb hby d3_33) rfl rfl ?_
  refine own_iloadN X42 hx (hb hby d3_34) rfl ?_
  refine own_iloadN X42 hx (hb hby d3_35) rfl ?_
  refine own_cStat (W := 0) (rest := []) X42 hx hZ [(.ref ca), (.int (0 : Int32)), (.int (4 : Int32))] hown (hw _ (List.mem_of_getElem? (i := 71) rfl)) (hw _ (List.mem_of_getElem? (i := 72) rfl)) (by decide) (hw _ (List.mem_of_getElem? (i := 74) rfl)) (hw _ (List.mem_of_getElem? (i := 73) rfl)) e42 (rmC1_4 l Z a0 hw [] ca kc c0 c1 c2 c3 h0 n0 Z0 Vc hx0 hx1 hx2 hx3) (by rw [hml]; rfl) (lenOf pd_1 rfl) rfl (Nat.le_of_eq rfl) (hb hby d3_36) (by decide) (by decide) (by decide) (by decide) fun v43 T43 L43 X43 hQ43 => ?_
  obtain ⟨b43, kb43, rfl, N43q, K43, szb43, gb43, Eb43, Vb43⟩ := hQ43
  have N43 := Fr.app N0 N43q
  have szo_b43 : h0.size ≤ b43 := Nat.le_trans (Nat.le_refl h0.size) szb43
  show own_At p e below _ T43 m 39 _ [(.ref b43)]
  refine own_astore (l' := #[.val (.ref a), .val (.ref ca), .val (.int (0 : Int32)), .val (.int (4 : Int32)), .val .null, .val (.ref b43)]) X43 hx (hb hby d3_39) rfl rfl ?_
  refine own_aloadN X43 hx (hb hby d3_41) rfl rfl ?_
  refine own_aload X43 hx (hb hby d3_42) rfl rfl ?_
  refine own_iloadN X43 hx (hb hby d3_44) rfl ?_
  refine own_cStat (W := 1) (rest := [(.ref a)]) X43 hx hZ [(.ref b43), (.int (4 : Int32))] hown (hw _ (List.mem_of_getElem? (i := 78) rfl)) (hw _ (List.mem_of_getElem? (i := 79) rfl)) (by decide) (hw _ (List.mem_of_getElem? (i := 80) rfl)) (hw _ (List.mem_of_getElem? (i := 73) rfl)) rfl (rmCF_4 l Z a0 hw [] b43 T43.heap n0 (Nat.le_trans Z0 K43.1) (own_alnV Vb43)) (by rw [hml]; rfl) (lenOf pd_2 rfl) rfl (Nat.le_of_eq rfl) (hb hby d3_45) (by decide) (by decide) (by decide) (by decide) fun v44 T44 L44 X44 hQ44 => ?_
  obtain ⟨rfl, N44q, e44⟩ := hQ44
  have N44 := Fr.app N43 N44q
  show own_At p e below _ T44 m 48 _ [(.int (0 : Int32)), (.ref a)]
  obtain ⟨T45, h45, X45, e45, W45, st45⟩ := putFN X44 hx hZ hown (hw _ (List.mem_of_getElem? (i := 26) rfl)) Via.refl e44 (Fld.keep Fc K43 nin0) (Exa.keep Ea K43) (Or.inr ⟨(hw _ (List.mem_of_getElem? (i := 22) rfl)), rfl, hnm⟩) (hw _ (List.mem_of_getElem? (i := 7) rfl)) (ty := .byte) (v' := (.int (0 : Int32))) (by decide) rfl rfl (g := (mkF m 48 #[.val (.ref a), .val (.ref ca), .val (.int (0 : Int32)), .val (.int (4 : Int32)), .val .null, .val (.ref b43)] [(.int (0 : Int32)), (.ref a)])) rfl rfl (hb hby d3_48)
  refine own_step (S' := (T45.setTop (mkF m 51 #[.val (.ref a), .val (.ref ca), .val (.int (0 : Int32)), .val (.int (4 : Int32)), .val .null, .val (.ref b43)] []))) (fun _ k => st45 _ k) ?_
  have Fw45 := Fld.same W45 (Fld.keep Fc K43 nin0)
  have N45 := Fr.snoc X45 N44 g_a
  refine own_aloadN X45 hx (hb hby d3_51) rfl rfl ?_
  refine own_aload X45 hx (hb hby d3_52) rfl rfl ?_
  refine own_putF X45 hx hZ hown (host := "") (Or.inl (hw _ (List.mem_of_getElem? (i := 25) rfl))) Via.refl e45 (Fld.other W45 (Fld.keep Fv K43 nin0) (Or.inr (slot_ne (Or.inr (hw _ (List.mem_of_getElem? (i := 21) rfl))) (Or.inr (hw _ (List.mem_of_getElem? (i := 22) rfl))) (by decide) (t := (.array .byte)) (t' := .byte) (by decide) (by decide)))) (Exa.wr W45 (Exa.keep Ea K43)) (Or.inr ⟨(hw _ (List.mem_of_getElem? (i := 21) rfl)), rfl, hnm⟩) (hw _ (List.mem_of_getElem? (i := 7) rfl)) (ty := (.array .byte)) (by decide) rfl rfl (hb hby d3_54) fun T46 h46 X46 e46 W46 => ?_
  have Fw46 := Fld.same W46 (Fld.other W45 (Fld.keep Fv K43 nin0) (Or.inr (slot_ne (Or.inr (hw _ (List.mem_of_getElem? (i := 21) rfl))) (Or.inr (hw _ (List.mem_of_getElem? (i := 22) rfl))) (by decide) (t := (.array .byte)) (t' := .byte) (by decide) (by decide))))
  have N46 := Fr.snoc X46 N45 g_a
  refine own_retV X46 hx hlk hret (hb hby d3_57) (own_kN (by decide) (by decide) ?_)
  try rw [e46]
  exact ⟨rfl, N46, (Keep.wr (Keep.wr (Keep.trans (Keep.refl h0 [a]) K43 all0) W45 (Or.inl (List.mem_of_getElem? (i := 0) rfl))) W46 (Or.inl (List.mem_of_getElem? (i := 0) rfl))), b43, kb43, szo_b43, (Exa.wr W46 (Exa.wr W45 Eb43)), (Exa.wr W46 (Exa.wr W45 (Exa.keep Ea K43))), Fw46, (Fld.other W46 Fw45 (Or.inr (slot_ne (Or.inr (hw _ (List.mem_of_getElem? (i := 22) rfl))) (Or.inr (hw _ (List.mem_of_getElem? (i := 21) rfl))) (by decide) (t := .byte) (t' := (.array .byte)) (by decide) (by decide)))), (Arv.other (Arv.other Vb43 W45 (Ne.symm (Nat.ne_of_lt (Nat.lt_of_lt_of_le Ea.lt szb43)))) W46 (Ne.symm (Nat.ne_of_lt (Nat.lt_of_lt_of_le Ea.lt szb43))))⟩
set_option maxRecDepth 65536 in
set_option maxHeartbeats 40000000 in
theorem rmI1_4 (l : Launch) (Z : State) (a0 : Array Value) (hw : ∀ d ∈ tables_1, d.before a0 Z = true) (ws : List Jvm.Cond) (a ca : Addr) (kc : ClassId) (cs c0 c1 c2 c3 : Int32)  (h0 : Heap) (n0 : Nat) (Z0 : n0 ≤ h0.size) (Ea : Exa Z h0 a "java/lang/String") (Fv : Fld Z h0 a "java/lang/String" "value" "[B" .null) (Fc : Fld Z h0 a "java/lang/String" "coder" "B" (.int (0 : Int32))) (g_a : n0 ≤ a) (Sc : Sta Z h0 "java/lang/String" "COMPACT_STRINGS" "Z" (.int cs)) (hcs : ¬ (cs = (0 : Int32))) (Vc : Arv Z h0 ca kc .char (4 : Int32) [(.int c0), (.int c1), (.int c2), (.int c3)] (.int (0 : Int32))) (Ecs : Exa Z h0 ca "[C") (hx0 : ¬ ((255 : Int32) < c0)) (hx1 : ¬ ((255 : Int32) < c1)) (hx2 : ¬ ((255 : Int32) < c2)) (hx3 : ¬ ((255 : Int32) < c3)) :
    own_Met l (⟨"java/lang/String", "<init>", "([C)V"⟩ : MethodName) jdk_42_method_3_code 2 none ws ({ frames := 3, cells := 1, slots := 4, locals := 52 } : Room) Z #[(.ref a), (.ref ca)] h0 (fun v h L => v = none ∧ Fr n0 L ∧ Keep h0 h [a] ∧ ∃ b k, h0.size ≤ b ∧ Exa Z h b "[B" ∧ Exa Z h a "java/lang/String" ∧ Fld Z h a "java/lang/String" "value" "[B" (.ref b) ∧ Fld Z h a "java/lang/String" "coder" "B" (.int (0 : Int32)) ∧ Arv Z h b k .byte (4 : Int32) [(.int (c0.toInt8.toInt32)), (.int (c1.toInt8.toInt32)), (.int (c2.toInt8.toInt32)), (.int (c3.toInt8.toInt32))] (.int (0 : Int32))) := by
  refine own_body (plainFor_of_name pn_2) ?_
  intro p e s m below meth c s₁ X0 hx hby hml hown hnm hret hlk hZ e0
  replace hown : s.vm.findClass "java/lang/String" = some m.cls := hown
  replace hml : c.maxLocals = 2 := hml
  replace hret : meth.sig.returnType = none := hret
  have N0 := Fr.nil n0
  have ef : entryFrame m #[(.ref a), (.ref ca)] 2 = mkF m 0 #[.val (.ref a), .val (.ref ca)] [] := by first | (simp [entryFrame, mkF, argsToLocals, Value.category]; done) | rfl
  refine own_step (S' := (s₁.setTop (mkF m 0 #[.val (.ref a), .val (.ref ca)] []))) (fun _ k => castTop ef k) ?_
  refine own_aloadN X0 hx (hb hby d2_0) rfl rfl ?_
  refine own_aloadN X0 hx (hb hby d2_1) rfl rfl ?_
  refine own_iconst X0 hx (0 : Int32) (hb hby d2_2) rfl ?_
  refine own_aloadN X0 hx (hb hby d2_3) rfl rfl ?_
  refine own_arraylength X0 hx hZ e0 (own_alnV Vc) (hb hby d2_4) ?_
  refine own_aconstNull X0 hx (hb hby d2_5) ?_
  refine own_cSpec (b := a) (W := 0) (rest := []) X0 hx hZ [(.ref ca), (.int (0 : Int32)), (.int (4 : Int32)), .null] rfl hown (hw _ (List.mem_of_getElem? (i := 12) rfl)) (hw _ (List.mem_of_getElem? (i := 13) rfl)) (by decide) (hw _ (List.mem_of_getElem? (i := 15) rfl)) (hw _ (List.mem_of_getElem? (i := 8) rfl)) e0 (rmI2_4 l Z a0 hw [] a ca kc cs c0 c1 c2 c3 h0 n0 Z0 Ea Fv Fc g_a Sc hcs Vc Ecs hx0 hx1 hx2 hx3) (by rw [hml]; rfl) (lenOf pd_3 rfl) rfl (Nat.le_of_eq rfl) (hb hby d2_6) (by decide) (by decide) (by decide) (by decide) fun v47 T47 L47 X47 hQ47 => ?_
  obtain ⟨rfl, N47q, K47, R47⟩ := hQ47
  have N47 := Fr.app N0 N47q
  show own_At p e below _ T47 m 9 _ []
  refine own_retV X47 hx hlk hret (hb hby d2_9) (own_kN (by decide) (by decide) ?_)
  exact ⟨rfl, N47, K47, R47⟩
set_option maxRecDepth 65536 in
set_option maxHeartbeats 40000000 in
theorem rmI2_0 (l : Launch) (Z : State) (a0 : Array Value) (hw : ∀ d ∈ tables_1, d.before a0 Z = true) (ws : List Jvm.Cond) (a ca : Addr) (kc : ClassId)  (h0 : Heap) (n0 : Nat) (Z0 : n0 ≤ h0.size) (Ea : Exa Z h0 a "java/lang/String") (Fv : Fld Z h0 a "java/lang/String" "value" "[B" .null) (Fc : Fld Z h0 a "java/lang/String" "coder" "B" (.int (0 : Int32))) (g_a : n0 ≤ a) (Vc : Arv Z h0 ca kc .char (0 : Int32) [] (.int (0 : Int32))) :
    own_MetW l (⟨"java/lang/String", "<init>", "([CIILjava/lang/Void;)V"⟩ : MethodName) jdk_42_method_149_code 6 none ws ({ frames := 1, cells := 4, slots := 8, locals := 12 } : Room) Z own_EL #[(.ref a), (.ref ca), (.int (0 : Int32)), (.int (0 : Int32)), .null] h0 (fun v h L => v = none ∧ Fr n0 L ∧ Keep h0 h [a] ∧ ∃ b k, Exa Z h a "java/lang/String" ∧ Fld Z h a "java/lang/String" "value" "[B" (.ref b) ∧ Fld Z h a "java/lang/String" "coder" "B" (.int (0 : Int32)) ∧ Arv Z h b k .byte (0 : Int32) [] (.int (0 : Int32))) := by
  refine own_bodyW (plainFor_of_name pn_2) ?_
  intro p e s m below meth c s₁ X0 hx hby hml hown hnm hret hlk hZ e0 hs0 CH0 hS0
  replace hown : (s.setVm s.vm).vm.findClass "java/lang/String" = some m.cls := hown
  replace hml : c.maxLocals = 6 := hml
  replace hret : meth.sig.returnType = none := hret
  have N0 := Fr.nil n0
  have hEL : EW Z a0 own_EL := own_ELw hw
  have CR0 : CHr Z own_EL s.vm s.heap s.vm h0 := by rw [hs0]; exact CHr.refl CH0
  have ef : entryFrame m #[(.ref a), (.ref ca), (.int (0 : Int32)), (.int (0 : Int32)), .null] 6 = mkF m 0 #[.val (.ref a), .val (.ref ca), .val (.int (0 : Int32)), .val (.int (0 : Int32)), .val .null, .unset] [] := by first | (simp [entryFrame, mkF, argsToLocals, Value.category]; done) | rfl
  refine own_step (S' := (s₁.setTop (mkF m 0 #[.val (.ref a), .val (.ref ca), .val (.int (0 : Int32)), .val (.int (0 : Int32)), .val .null, .unset] []))) (fun _ k => castTop ef k) ?_
  refine own_aloadN X0 hx (hb hby d3_0) rfl rfl ?_
  refine own_initO (W := 0) X0 hx hZ hown (hw _ (List.mem_of_getElem? (i := 16) rfl)) (hw _ (List.mem_of_getElem? (i := 17) rfl)) (hw _ (List.mem_of_getElem? (i := 18) rfl)) e0 (by rw [hml]; rfl) (hb hby d3_1) (by decide) (Nat.le_of_eq rfl) (by decide) fun T48 X48 e48 => ?_
  refine own_iloadN X48 hx (hb hby d3_4) rfl ?_
  refine own_ifNo X48 hx (hb hby d3_5) (teq (by decide : (0 : Int32) = (0 : Int32))).2 ?_
  refine own_aloadN X48 hx (hb hby d3_8) rfl rfl ?_
  have Sf := own_safeFresh (EL := own_EL) hZ.alike Ea Fv
  refine own_ldcE X48 hx hZ hown (hw _ (List.mem_of_getElem? (i := 19) rfl)) (own_wS hw) e48 hEL (List.mem_cons_self ..) CH0 hS0 (Nat.le_refl _) (hb hby d3_9) (by decide) (by decide) fun s49 t49 T49 h49 k149 kk49 X49 e49 E49 hS49 hk49 hZ49 ho49 Es49 Fsc49 Fsv49 Vs49 CR49 hs49 => ?_
  have lt49 : a < h0.size := Ea.lt
  have Sf49 := CHr.safe CR49 lt49 Sf
  refine own_getF X49 hx hZ49 ho49 (host := "") (Or.inl (hw _ (List.mem_of_getElem? (i := 25) rfl))) Via.refl e49 Fsv49 (hb hby d3_11) fun T50 X50 e50 => ?_
  refine own_putF X50 hx hZ49 ho49 (host := "") (Or.inl (hw _ (List.mem_of_getElem? (i := 25) rfl))) Via.refl e50 (Fld.ext E49 Fv) (Exa.ext E49 Ea) (Or.inr ⟨(hw _ (List.mem_of_getElem? (i := 21) rfl)), rfl, hnm⟩) (hw _ (List.mem_of_getElem? (i := 7) rfl)) (ty := (.array .byte)) (by decide) rfl rfl (hb hby d3_14) fun T51 h51 X51 e51 W51 => ?_
  have Fw51 := Fld.same W51 (Fld.ext E49 Fv)
  have N51 := Fr.snoc X51 N0 g_a
  refine own_aloadN X51 hx (hb hby d3_17) rfl rfl ?_
  refine own_ldcE X51 hx hZ49 ho49 (hw _ (List.mem_of_getElem? (i := 19) rfl)) (own_wS hw) e51 hEL (List.mem_cons_self ..) (CHv.wr W51 Sf49 CR49.1) hS49 (Nat.le_trans hk49 (Keep.of_wr W51).1) (hb hby d3_18) (by decide) (by decide) fun s52 t52 T52 h52 k152 kk52 X52 e52 E52 hS52 hk52 hZ52 ho52 Es52 Fsc52 Fsv52 Vs52 CR52 hs52 => ?_
  have lt52 : a < h51.size := (Exa.wr W51 (Exa.ext E49 Ea)).lt
  have Sf52 := CHr.safe CR52 lt52 (Safe.wr W51 Sf49 CR49.1 Sf49)
  refine own_getF X52 hx hZ52 ho52 (host := "") (Or.inl (hw _ (List.mem_of_getElem? (i := 26) rfl))) Via.refl e52 Fsc52 (hb hby d3_20) fun T53 X53 e53 => ?_
  obtain ⟨T54, h54, X54, e54, W54, st54⟩ := putFN X53 hx hZ52 ho52 (hw _ (List.mem_of_getElem? (i := 26) rfl)) Via.refl e53 (Fld.ext E52 (Fld.other W51 (Fld.ext E49 Fc) (Or.inr (slot_ne (Or.inr (hw _ (List.mem_of_getElem? (i := 22) rfl))) (Or.inr (hw _ (List.mem_of_getElem? (i := 21) rfl))) (by decide) (t := .byte) (t' := (.array .byte)) (by decide) (by decide))))) (Exa.ext E52 (Exa.wr W51 (Exa.ext E49 Ea))) (Or.inr ⟨(hw _ (List.mem_of_getElem? (i := 22) rfl)), rfl, hnm⟩) (hw _ (List.mem_of_getElem? (i := 7) rfl)) (ty := .byte) (v' := (.int (0 : Int32))) (by decide) rfl rfl (g := (mkF m 23 #[.val (.ref a), .val (.ref ca), .val (.int (0 : Int32)), .val (.int (0 : Int32)), .val .null, .unset] [(.int (0 : Int32)), (.ref a)])) rfl rfl (hb hby d3_23)
  refine own_step (S' := (T54.setTop (mkF m 26 #[.val (.ref a), .val (.ref ca), .val (.int (0 : Int32)), .val (.int (0 : Int32)), .val .null, .unset] []))) (fun _ k => st54 _ k) ?_
  have Fw54 := Fld.same W54 (Fld.ext E52 (Fld.other W51 (Fld.ext E49 Fc) (Or.inr (slot_ne (Or.inr (hw _ (List.mem_of_getElem? (i := 22) rfl))) (Or.inr (hw _ (List.mem_of_getElem? (i := 21) rfl))) (by decide) (t := .byte) (t' := (.array .byte)) (by decide) (by decide)))))
  have N54 := Fr.snoc X54 N51 g_a
  refine own_retV X54 hx hlk hret (hb hby d3_26) (own_kW X54 hZ52 hEL (by rw [e54]; exact (CHr.trans (CHr.trans (CHr.trans (CHr.trans CR0 CR49) (CHr.wr W51 Sf49 CR49.1)) CR52) (CHr.wr W54 Sf52 CR52.1))) hS52 (by rw [e54]; exact (Nat.le_trans hk52 (Keep.of_wr W54).1)) (by decide) (by decide) ?_)
  try rw [e54]
  exact ⟨rfl, N54, (Keep.wr (Keep.ext (Keep.wr (Keep.ext (Keep.refl h0 [a]) E49) W51 (Or.inl (List.mem_of_getElem? (i := 0) rfl))) E52) W54 (Or.inl (List.mem_of_getElem? (i := 0) rfl))), t49, kk49, (Exa.wr W54 (Exa.ext E52 (Exa.wr W51 (Exa.ext E49 Ea)))), (Fld.other W54 (Fld.ext E52 Fw51) (Or.inr (slot_ne (Or.inr (hw _ (List.mem_of_getElem? (i := 21) rfl))) (Or.inr (hw _ (List.mem_of_getElem? (i := 22) rfl))) (by decide) (t := (.array .byte)) (t' := .byte) (by decide) (by decide)))), Fw54, (Arv.other ((Arv.other Vs49 W51 (Ne.symm (hs49 _ Sf49).2)).ext E52) W54 (Ne.symm (hs49 _ Sf49).2))⟩
set_option maxRecDepth 65536 in
set_option maxHeartbeats 40000000 in
theorem rmI1_0 (l : Launch) (Z : State) (a0 : Array Value) (hw : ∀ d ∈ tables_1, d.before a0 Z = true) (ws : List Jvm.Cond) (a ca : Addr) (kc : ClassId)  (h0 : Heap) (n0 : Nat) (Z0 : n0 ≤ h0.size) (Ea : Exa Z h0 a "java/lang/String") (Fv : Fld Z h0 a "java/lang/String" "value" "[B" .null) (Fc : Fld Z h0 a "java/lang/String" "coder" "B" (.int (0 : Int32))) (g_a : n0 ≤ a) (Vc : Arv Z h0 ca kc .char (0 : Int32) [] (.int (0 : Int32))) :
    own_MetW l (⟨"java/lang/String", "<init>", "([C)V"⟩ : MethodName) jdk_42_method_3_code 2 none ws ({ frames := 2, cells := 4, slots := 8, locals := 29 } : Room) Z own_EL #[(.ref a), (.ref ca)] h0 (fun v h L => v = none ∧ Fr n0 L ∧ Keep h0 h [a] ∧ ∃ b k, Exa Z h a "java/lang/String" ∧ Fld Z h a "java/lang/String" "value" "[B" (.ref b) ∧ Fld Z h a "java/lang/String" "coder" "B" (.int (0 : Int32)) ∧ Arv Z h b k .byte (0 : Int32) [] (.int (0 : Int32))) := by
  refine own_bodyW (plainFor_of_name pn_2) ?_
  intro p e s m below meth c s₁ X0 hx hby hml hown hnm hret hlk hZ e0 hs0 CH0 hS0
  replace hown : (s.setVm s.vm).vm.findClass "java/lang/String" = some m.cls := hown
  replace hml : c.maxLocals = 2 := hml
  replace hret : meth.sig.returnType = none := hret
  have N0 := Fr.nil n0
  have hEL : EW Z a0 own_EL := own_ELw hw
  have CR0 : CHr Z own_EL s.vm s.heap s.vm h0 := by rw [hs0]; exact CHr.refl CH0
  have ef : entryFrame m #[(.ref a), (.ref ca)] 2 = mkF m 0 #[.val (.ref a), .val (.ref ca)] [] := by first | (simp [entryFrame, mkF, argsToLocals, Value.category]; done) | rfl
  refine own_step (S' := (s₁.setTop (mkF m 0 #[.val (.ref a), .val (.ref ca)] []))) (fun _ k => castTop ef k) ?_
  refine own_aloadN X0 hx (hb hby d2_0) rfl rfl ?_
  refine own_aloadN X0 hx (hb hby d2_1) rfl rfl ?_
  refine own_iconst X0 hx (0 : Int32) (hb hby d2_2) rfl ?_
  refine own_aloadN X0 hx (hb hby d2_3) rfl rfl ?_
  refine own_arraylength X0 hx hZ e0 (own_alnV Vc) (hb hby d2_4) ?_
  refine own_aconstNull X0 hx (hb hby d2_5) ?_
  refine own_cSpecW (b := a) (W := 0) (rest := []) X0 hx hZ [(.ref ca), (.int (0 : Int32)), (.int (0 : Int32)), .null] rfl hown (hw _ (List.mem_of_getElem? (i := 12) rfl)) (hw _ (List.mem_of_getElem? (i := 13) rfl)) (by decide) (hw _ (List.mem_of_getElem? (i := 15) rfl)) (hw _ (List.mem_of_getElem? (i := 8) rfl)) e0 (rmI2_0 l Z a0 hw [] a ca kc h0 n0 Z0 Ea Fv Fc g_a Vc) hEL CH0 hS0 (Nat.le_refl _) (by rw [hml]; rfl) (lenOf pd_3 rfl) rfl (Nat.le_of_eq rfl) (hb hby d2_6) (by decide) (by decide) (by decide) (by decide) fun v55 T55 L55 X55 hS55 hZ55 ho55 CR55 hQ55 => ?_
  obtain ⟨rfl, N55q, K55, R55⟩ := hQ55
  have N55 := Fr.app N0 N55q
  show own_At p e below _ T55 m 9 _ []
  refine own_retV X55 hx hlk hret (hb hby d2_9) (own_kW X55 hZ55 hEL (CHr.trans CR0 CR55) hS55 (Nat.le_refl _) (by decide) (by decide) ?_)
  exact ⟨rfl, N55, K55, R55⟩
theorem d8_0 : decode jdk_42_method_154_code 0 = .ok (.getstatic 38, 3) := by decide +kernel
theorem d8_3 : decode jdk_42_method_154_code 3 = .ok (.ifCond .eq 14, 3) := by decide +kernel
theorem d8_6 : decode jdk_42_method_154_code 6 = .ok (.aload_n 0, 1) := by decide +kernel
theorem d8_7 : decode jdk_42_method_154_code 7 = .ok (.getfield 15, 3) := by decide +kernel
theorem d8_10 : decode jdk_42_method_154_code 10 = .ok (.ifCond .ne 7, 3) := by decide +kernel
theorem d8_13 : decode jdk_42_method_154_code 13 = .ok (.iconst 1, 1) := by decide +kernel
theorem d8_14 : decode jdk_42_method_154_code 14 = .ok (.goto 4, 3) := by decide +kernel
theorem d8_17 : decode jdk_42_method_154_code 17 = .ok (.iconst 0, 1) := by decide +kernel
theorem d8_18 : decode jdk_42_method_154_code 18 = .ok (.ireturn, 1) := by decide +kernel
set_option maxRecDepth 65536 in
set_option maxHeartbeats 40000000 in
theorem rmL (l : Launch) (Z : State) (a0 : Array Value) (hw : ∀ d ∈ tables_1, d.before a0 Z = true) (ws : List Jvm.Cond) (a : Addr) (cs : Int32)  (h0 : Heap) (n0 : Nat) (Z0 : n0 ≤ h0.size) (Sc : Sta Z h0 "java/lang/String" "COMPACT_STRINGS" "Z" (.int cs)) (hcs : ¬ (cs = (0 : Int32))) (Fc : Fld Z h0 a "java/lang/String" "coder" "B" (.int (0 : Int32))) :
    own_Met l (⟨"java/lang/String", "isLatin1", "()Z"⟩ : MethodName) jdk_42_method_154_code 1 (some .boolean) ws ({ frames := 0, cells := 0, slots := 0, locals := 0 } : Room) Z #[(.ref a)] h0 (fun v h L => v = some (.int (1 : Int32)) ∧ Fr n0 L ∧ h = h0) := by
  refine own_body (plainFor_of_name pn_2) ?_
  intro p e s m below meth c s₁ X0 hx hby hml hown hnm hret hlk hZ e0
  replace hown : s.vm.findClass "java/lang/String" = some m.cls := hown
  replace hml : c.maxLocals = 1 := hml
  replace hret : meth.sig.returnType = (some .boolean) := hret
  have N0 := Fr.nil n0
  have ef : entryFrame m #[(.ref a)] 1 = mkF m 0 #[.val (.ref a)] [] := by first | (simp [entryFrame, mkF, argsToLocals, Value.category]; done) | rfl
  refine own_step (S' := (s₁.setTop (mkF m 0 #[.val (.ref a)] []))) (fun _ k => castTop ef k) ?_
  refine own_getS X0 hx hZ hown (host := "") (Or.inl (hw _ (List.mem_of_getElem? (i := 46) rfl))) Via.refl e0 Sc (hb hby d8_0) fun T56 X56 e56 => ?_
  refine own_ifNo X56 hx (hb hby d8_3) (feq hcs).1 ?_
  refine own_aloadN X56 hx (hb hby d8_6) rfl rfl ?_
  refine own_getF X56 hx hZ hown (host := "") (Or.inl (hw _ (List.mem_of_getElem? (i := 26) rfl))) Via.refl e56 Fc (hb hby d8_7) fun T57 X57 e57 => ?_
  refine own_ifNo X57 hx (hb hby d8_10) (teq (by decide : (0 : Int32) = (0 : Int32))).2 ?_
  refine own_iconst X57 hx (1 : Int32) (hb hby d8_13) rfl ?_
  refine own_goto X57 hx 18 (hb hby d8_14) (by decide) (by decide) ?_
  refine own_retN X57 hx hlk hret (by simp) (by decide) (hb hby d8_18) (own_kN (by decide) (by decide) ?_)
  try rw [e57]
  exact ⟨rfl, N0, rfl⟩
theorem d10_0 : decode jdk_42_method_152_code 0 = .ok (.getstatic 38, 3) := by decide +kernel
theorem d10_3 : decode jdk_42_method_152_code 3 = .ok (.ifCond .eq 10, 3) := by decide +kernel
theorem d10_6 : decode jdk_42_method_152_code 6 = .ok (.aload_n 0, 1) := by decide +kernel
theorem d10_7 : decode jdk_42_method_152_code 7 = .ok (.getfield 15, 3) := by decide +kernel
theorem d10_10 : decode jdk_42_method_152_code 10 = .ok (.goto 4, 3) := by decide +kernel
theorem d10_13 : decode jdk_42_method_152_code 13 = .ok (.iconst 1, 1) := by decide +kernel
theorem d10_14 : decode jdk_42_method_152_code 14 = .ok (.ireturn, 1) := by decide +kernel
set_option maxRecDepth 65536 in
set_option maxHeartbeats 40000000 in
theorem rmCd (l : Launch) (Z : State) (a0 : Array Value) (hw : ∀ d ∈ tables_1, d.before a0 Z = true) (ws : List Jvm.Cond) (a : Addr) (cs : Int32)  (h0 : Heap) (n0 : Nat) (Z0 : n0 ≤ h0.size) (Sc : Sta Z h0 "java/lang/String" "COMPACT_STRINGS" "Z" (.int cs)) (hcs : ¬ (cs = (0 : Int32))) (Fc : Fld Z h0 a "java/lang/String" "coder" "B" (.int (0 : Int32))) :
    own_Met l (⟨"java/lang/String", "coder", "()B"⟩ : MethodName) jdk_42_method_152_code 1 (some .byte) ws ({ frames := 0, cells := 0, slots := 0, locals := 0 } : Room) Z #[(.ref a)] h0 (fun v h L => v = some (.int (0 : Int32)) ∧ Fr n0 L ∧ h = h0) := by
  refine own_body (plainFor_of_name pn_2) ?_
  intro p e s m below meth c s₁ X0 hx hby hml hown hnm hret hlk hZ e0
  replace hown : s.vm.findClass "java/lang/String" = some m.cls := hown
  replace hml : c.maxLocals = 1 := hml
  replace hret : meth.sig.returnType = (some .byte) := hret
  have N0 := Fr.nil n0
  have ef : entryFrame m #[(.ref a)] 1 = mkF m 0 #[.val (.ref a)] [] := by first | (simp [entryFrame, mkF, argsToLocals, Value.category]; done) | rfl
  refine own_step (S' := (s₁.setTop (mkF m 0 #[.val (.ref a)] []))) (fun _ k => castTop ef k) ?_
  refine own_getS X0 hx hZ hown (host := "") (Or.inl (hw _ (List.mem_of_getElem? (i := 46) rfl))) Via.refl e0 Sc (hb hby d10_0) fun T58 X58 e58 => ?_
  refine own_ifNo X58 hx (hb hby d10_3) (feq hcs).1 ?_
  refine own_aloadN X58 hx (hb hby d10_6) rfl rfl ?_
  refine own_getF X58 hx hZ hown (host := "") (Or.inl (hw _ (List.mem_of_getElem? (i := 26) rfl))) Via.refl e58 Fc (hb hby d10_7) fun T59 X59 e59 => ?_
  refine own_goto X59 hx 14 (hb hby d10_10) (by decide) (by decide) ?_
  refine own_retN X59 hx hlk hret (by simp) (by decide) (hb hby d10_14) (own_kN (by decide) (by decide) ?_)
  try rw [e59]
  exact ⟨rfl, N0, rfl⟩
theorem d9_0 : decode jdk_42_method_54_code 0 = .ok (.aload_n 0, 1) := by decide +kernel
theorem d9_1 : decode jdk_42_method_54_code 1 = .ok (.getfield 9, 3) := by decide +kernel
theorem d9_4 : decode jdk_42_method_54_code 4 = .ok (.arraylength, 1) := by decide +kernel
theorem d9_5 : decode jdk_42_method_54_code 5 = .ok (.aload_n 0, 1) := by decide +kernel
theorem d9_6 : decode jdk_42_method_54_code 6 = .ok (.invokevirtual 335, 3) := by decide +kernel
theorem d9_9 : decode jdk_42_method_54_code 9 = .ok (.ishr, 1) := by decide +kernel
theorem d9_10 : decode jdk_42_method_54_code 10 = .ok (.ireturn, 1) := by decide +kernel
theorem pd_4 : parseMethodDescriptor "()B" = some ⟨[], some .byte⟩ := by decide +kernel
set_option maxRecDepth 65536 in
set_option maxHeartbeats 40000000 in
theorem rmLen_0 (l : Launch) (Z : State) (a0 : Array Value) (hw : ∀ d ∈ tables_1, d.before a0 Z = true) (ws : List Jvm.Cond) (a b : Addr) (cs : Int32)  (h0 : Heap) (n0 : Nat) (Z0 : n0 ≤ h0.size) (Sc : Sta Z h0 "java/lang/String" "COMPACT_STRINGS" "Z" (.int cs)) (hcs : ¬ (cs = (0 : Int32))) (Ea : Exa Z h0 a "java/lang/String") (Fv : Fld Z h0 a "java/lang/String" "value" "[B" (.ref b)) (Fc : Fld Z h0 a "java/lang/String" "coder" "B" (.int (0 : Int32))) (A : own_Aln Z h0 b .byte (0 : Int32)) :
    own_Met l (⟨"java/lang/String", "length", "()I"⟩ : MethodName) jdk_42_method_54_code 1 (some .int) ws ({ frames := 1, cells := 0, slots := 0, locals := 13 } : Room) Z #[(.ref a)] h0 (fun v h L => v = some (.int (0 : Int32)) ∧ Fr n0 L ∧ h = h0) := by
  refine own_body (plainFor_of_name pn_2) ?_
  intro p e s m below meth c s₁ X0 hx hby hml hown hnm hret hlk hZ e0
  replace hown : s.vm.findClass "java/lang/String" = some m.cls := hown
  replace hml : c.maxLocals = 1 := hml
  replace hret : meth.sig.returnType = (some .int) := hret
  have N0 := Fr.nil n0
  have ef : entryFrame m #[(.ref a)] 1 = mkF m 0 #[.val (.ref a)] [] := by first | (simp [entryFrame, mkF, argsToLocals, Value.category]; done) | rfl
  refine own_step (S' := (s₁.setTop (mkF m 0 #[.val (.ref a)] []))) (fun _ k => castTop ef k) ?_
  refine own_aloadN X0 hx (hb hby d9_0) rfl rfl ?_
  refine own_getF X0 hx hZ hown (host := "") (Or.inl (hw _ (List.mem_of_getElem? (i := 25) rfl))) Via.refl e0 Fv (hb hby d9_1) fun T60 X60 e60 => ?_
  refine own_arraylength X60 hx hZ e60 A (hb hby d9_4) ?_
  refine own_aloadN X60 hx (hb hby d9_5) rfl rfl ?_
  refine own_cVirt (W := 1) (rest := [(.int (0 : Int32))]) X60 hx hZ [] hown (hw _ (List.mem_of_getElem? (i := 52) rfl)) (hw _ (List.mem_of_getElem? (i := 53) rfl)) (notFace_of_selects (args := #[]) (mvT hZ (hw _ (List.mem_of_getElem? (i := 55) rfl)))) (hw _ (List.mem_of_getElem? (i := 55) rfl)) (hw _ (List.mem_of_getElem? (i := 54) rfl)) (by decide) (hw _ (List.mem_of_getElem? (i := 56) rfl)) (hw _ (List.mem_of_getElem? (i := 8) rfl)) e60 Ea (rmCd l Z a0 hw [] a cs h0 n0 Z0 Sc hcs Fc) (by rw [hml]; rfl) (lenOf pd_4 rfl) rfl (Nat.le_of_eq rfl) (hb hby d9_6) (by decide) (by decide) (by decide) (by decide) fun v61 T61 L61 X61 hQ61 => ?_
  obtain ⟨rfl, N61q, e61⟩ := hQ61
  have N61 := Fr.app N0 N61q
  show own_At p e below _ T61 m 9 _ [(.int (0 : Int32)), (.int (0 : Int32))]
  refine own_ishr X61 hx (hb hby d9_9) ?_
  rw [show ((0 : Int32) >>> ((0 : Int32) &&& 31)) = (0 : Int32) from by decide]
  refine own_retI X61 hx hlk hret (hb hby d9_10) (own_kN (by decide) (by decide) ?_)
  try rw [e61]
  exact ⟨rfl, N61, rfl⟩
set_option maxRecDepth 65536 in
set_option maxHeartbeats 40000000 in
theorem rmLen_1 (l : Launch) (Z : State) (a0 : Array Value) (hw : ∀ d ∈ tables_1, d.before a0 Z = true) (ws : List Jvm.Cond) (a b : Addr) (cs : Int32)  (h0 : Heap) (n0 : Nat) (Z0 : n0 ≤ h0.size) (Sc : Sta Z h0 "java/lang/String" "COMPACT_STRINGS" "Z" (.int cs)) (hcs : ¬ (cs = (0 : Int32))) (Ea : Exa Z h0 a "java/lang/String") (Fv : Fld Z h0 a "java/lang/String" "value" "[B" (.ref b)) (Fc : Fld Z h0 a "java/lang/String" "coder" "B" (.int (0 : Int32))) (A : own_Aln Z h0 b .byte (1 : Int32)) :
    own_Met l (⟨"java/lang/String", "length", "()I"⟩ : MethodName) jdk_42_method_54_code 1 (some .int) ws ({ frames := 1, cells := 0, slots := 0, locals := 13 } : Room) Z #[(.ref a)] h0 (fun v h L => v = some (.int (1 : Int32)) ∧ Fr n0 L ∧ h = h0) := by
  refine own_body (plainFor_of_name pn_2) ?_
  intro p e s m below meth c s₁ X0 hx hby hml hown hnm hret hlk hZ e0
  replace hown : s.vm.findClass "java/lang/String" = some m.cls := hown
  replace hml : c.maxLocals = 1 := hml
  replace hret : meth.sig.returnType = (some .int) := hret
  have N0 := Fr.nil n0
  have ef : entryFrame m #[(.ref a)] 1 = mkF m 0 #[.val (.ref a)] [] := by first | (simp [entryFrame, mkF, argsToLocals, Value.category]; done) | rfl
  refine own_step (S' := (s₁.setTop (mkF m 0 #[.val (.ref a)] []))) (fun _ k => castTop ef k) ?_
  refine own_aloadN X0 hx (hb hby d9_0) rfl rfl ?_
  refine own_getF X0 hx hZ hown (host := "") (Or.inl (hw _ (List.mem_of_getElem? (i := 25) rfl))) Via.refl e0 Fv (hb hby d9_1) fun T62 X62 e62 => ?_
  refine own_arraylength X62 hx hZ e62 A (hb hby d9_4) ?_
  refine own_aloadN X62 hx (hb hby d9_5) rfl rfl ?_
  refine own_cVirt (W := 1) (rest := [(.int (1 : Int32))]) X62 hx hZ [] hown (hw _ (List.mem_of_getElem? (i := 52) rfl)) (hw _ (List.mem_of_getElem? (i := 53) rfl)) (notFace_of_selects (args := #[]) (mvT hZ (hw _ (List.mem_of_getElem? (i := 55) rfl)))) (hw _ (List.mem_of_getElem? (i := 55) rfl)) (hw _ (List.mem_of_getElem? (i := 54) rfl)) (by decide) (hw _ (List.mem_of_getElem? (i := 56) rfl)) (hw _ (List.mem_of_getElem? (i := 8) rfl)) e62 Ea (rmCd l Z a0 hw [] a cs h0 n0 Z0 Sc hcs Fc) (by rw [hml]; rfl) (lenOf pd_4 rfl) rfl (Nat.le_of_eq rfl) (hb hby d9_6) (by decide) (by decide) (by decide) (by decide) fun v63 T63 L63 X63 hQ63 => ?_
  obtain ⟨rfl, N63q, e63⟩ := hQ63
  have N63 := Fr.app N0 N63q
  show own_At p e below _ T63 m 9 _ [(.int (0 : Int32)), (.int (1 : Int32))]
  refine own_ishr X63 hx (hb hby d9_9) ?_
  rw [show ((1 : Int32) >>> ((0 : Int32) &&& 31)) = (1 : Int32) from by decide]
  refine own_retI X63 hx hlk hret (hb hby d9_10) (own_kN (by decide) (by decide) ?_)
  try rw [e63]
  exact ⟨rfl, N63, rfl⟩
set_option maxRecDepth 65536 in
set_option maxHeartbeats 40000000 in
theorem rmLen_2 (l : Launch) (Z : State) (a0 : Array Value) (hw : ∀ d ∈ tables_1, d.before a0 Z = true) (ws : List Jvm.Cond) (a b : Addr) (cs : Int32)  (h0 : Heap) (n0 : Nat) (Z0 : n0 ≤ h0.size) (Sc : Sta Z h0 "java/lang/String" "COMPACT_STRINGS" "Z" (.int cs)) (hcs : ¬ (cs = (0 : Int32))) (Ea : Exa Z h0 a "java/lang/String") (Fv : Fld Z h0 a "java/lang/String" "value" "[B" (.ref b)) (Fc : Fld Z h0 a "java/lang/String" "coder" "B" (.int (0 : Int32))) (A : own_Aln Z h0 b .byte (2 : Int32)) :
    own_Met l (⟨"java/lang/String", "length", "()I"⟩ : MethodName) jdk_42_method_54_code 1 (some .int) ws ({ frames := 1, cells := 0, slots := 0, locals := 13 } : Room) Z #[(.ref a)] h0 (fun v h L => v = some (.int (2 : Int32)) ∧ Fr n0 L ∧ h = h0) := by
  refine own_body (plainFor_of_name pn_2) ?_
  intro p e s m below meth c s₁ X0 hx hby hml hown hnm hret hlk hZ e0
  replace hown : s.vm.findClass "java/lang/String" = some m.cls := hown
  replace hml : c.maxLocals = 1 := hml
  replace hret : meth.sig.returnType = (some .int) := hret
  have N0 := Fr.nil n0
  have ef : entryFrame m #[(.ref a)] 1 = mkF m 0 #[.val (.ref a)] [] := by first | (simp [entryFrame, mkF, argsToLocals, Value.category]; done) | rfl
  refine own_step (S' := (s₁.setTop (mkF m 0 #[.val (.ref a)] []))) (fun _ k => castTop ef k) ?_
  refine own_aloadN X0 hx (hb hby d9_0) rfl rfl ?_
  refine own_getF X0 hx hZ hown (host := "") (Or.inl (hw _ (List.mem_of_getElem? (i := 25) rfl))) Via.refl e0 Fv (hb hby d9_1) fun T64 X64 e64 => ?_
  refine own_arraylength X64 hx hZ e64 A (hb hby d9_4) ?_
  refine own_aloadN X64 hx (hb hby d9_5) rfl rfl ?_
  refine own_cVirt (W := 1) (rest := [(.int (2 : Int32))]) X64 hx hZ [] hown (hw _ (List.mem_of_getElem? (i := 52) rfl)) (hw _ (List.mem_of_getElem? (i := 53) rfl)) (notFace_of_selects (args := #[]) (mvT hZ (hw _ (List.mem_of_getElem? (i := 55) rfl)))) (hw _ (List.mem_of_getElem? (i := 55) rfl)) (hw _ (List.mem_of_getElem? (i := 54) rfl)) (by decide) (hw _ (List.mem_of_getElem? (i := 56) rfl)) (hw _ (List.mem_of_getElem? (i := 8) rfl)) e64 Ea (rmCd l Z a0 hw [] a cs h0 n0 Z0 Sc hcs Fc) (by rw [hml]; rfl) (lenOf pd_4 rfl) rfl (Nat.le_of_eq rfl) (hb hby d9_6) (by decide) (by decide) (by decide) (by decide) fun v65 T65 L65 X65 hQ65 => ?_
  obtain ⟨rfl, N65q, e65⟩ := hQ65
  have N65 := Fr.app N0 N65q
  show own_At p e below _ T65 m 9 _ [(.int (0 : Int32)), (.int (2 : Int32))]
  refine own_ishr X65 hx (hb hby d9_9) ?_
  rw [show ((2 : Int32) >>> ((0 : Int32) &&& 31)) = (2 : Int32) from by decide]
  refine own_retI X65 hx hlk hret (hb hby d9_10) (own_kN (by decide) (by decide) ?_)
  try rw [e65]
  exact ⟨rfl, N65, rfl⟩
set_option maxRecDepth 65536 in
set_option maxHeartbeats 40000000 in
theorem rmLen_3 (l : Launch) (Z : State) (a0 : Array Value) (hw : ∀ d ∈ tables_1, d.before a0 Z = true) (ws : List Jvm.Cond) (a b : Addr) (cs : Int32)  (h0 : Heap) (n0 : Nat) (Z0 : n0 ≤ h0.size) (Sc : Sta Z h0 "java/lang/String" "COMPACT_STRINGS" "Z" (.int cs)) (hcs : ¬ (cs = (0 : Int32))) (Ea : Exa Z h0 a "java/lang/String") (Fv : Fld Z h0 a "java/lang/String" "value" "[B" (.ref b)) (Fc : Fld Z h0 a "java/lang/String" "coder" "B" (.int (0 : Int32))) (A : own_Aln Z h0 b .byte (3 : Int32)) :
    own_Met l (⟨"java/lang/String", "length", "()I"⟩ : MethodName) jdk_42_method_54_code 1 (some .int) ws ({ frames := 1, cells := 0, slots := 0, locals := 13 } : Room) Z #[(.ref a)] h0 (fun v h L => v = some (.int (3 : Int32)) ∧ Fr n0 L ∧ h = h0) := by
  refine own_body (plainFor_of_name pn_2) ?_
  intro p e s m below meth c s₁ X0 hx hby hml hown hnm hret hlk hZ e0
  replace hown : s.vm.findClass "java/lang/String" = some m.cls := hown
  replace hml : c.maxLocals = 1 := hml
  replace hret : meth.sig.returnType = (some .int) := hret
  have N0 := Fr.nil n0
  have ef : entryFrame m #[(.ref a)] 1 = mkF m 0 #[.val (.ref a)] [] := by first | (simp [entryFrame, mkF, argsToLocals, Value.category]; done) | rfl
  refine own_step (S' := (s₁.setTop (mkF m 0 #[.val (.ref a)] []))) (fun _ k => castTop ef k) ?_
  refine own_aloadN X0 hx (hb hby d9_0) rfl rfl ?_
  refine own_getF X0 hx hZ hown (host := "") (Or.inl (hw _ (List.mem_of_getElem? (i := 25) rfl))) Via.refl e0 Fv (hb hby d9_1) fun T66 X66 e66 => ?_
  refine own_arraylength X66 hx hZ e66 A (hb hby d9_4) ?_
  refine own_aloadN X66 hx (hb hby d9_5) rfl rfl ?_
  refine own_cVirt (W := 1) (rest := [(.int (3 : Int32))]) X66 hx hZ [] hown (hw _ (List.mem_of_getElem? (i := 52) rfl)) (hw _ (List.mem_of_getElem? (i := 53) rfl)) (notFace_of_selects (args := #[]) (mvT hZ (hw _ (List.mem_of_getElem? (i := 55) rfl)))) (hw _ (List.mem_of_getElem? (i := 55) rfl)) (hw _ (List.mem_of_getElem? (i := 54) rfl)) (by decide) (hw _ (List.mem_of_getElem? (i := 56) rfl)) (hw _ (List.mem_of_getElem? (i := 8) rfl)) e66 Ea (rmCd l Z a0 hw [] a cs h0 n0 Z0 Sc hcs Fc) (by rw [hml]; rfl) (lenOf pd_4 rfl) rfl (Nat.le_of_eq rfl) (hb hby d9_6) (by decide) (by decide) (by decide) (by decide) fun v67 T67 L67 X67 hQ67 => ?_
  obtain ⟨rfl, N67q, e67⟩ := hQ67
  have N67 := Fr.app N0 N67q
  show own_At p e below _ T67 m 9 _ [(.int (0 : Int32)), (.int (3 : Int32))]
  refine own_ishr X67 hx (hb hby d9_9) ?_
  rw [show ((3 : Int32) >>> ((0 : Int32) &&& 31)) = (3 : Int32) from by decide]
  refine own_retI X67 hx hlk hret (hb hby d9_10) (own_kN (by decide) (by decide) ?_)
  try rw [e67]
  exact ⟨rfl, N67, rfl⟩
set_option maxRecDepth 65536 in
set_option maxHeartbeats 40000000 in
theorem rmLen_4 (l : Launch) (Z : State) (a0 : Array Value) (hw : ∀ d ∈ tables_1, d.before a0 Z = true) (ws : List Jvm.Cond) (a b : Addr) (cs : Int32)  (h0 : Heap) (n0 : Nat) (Z0 : n0 ≤ h0.size) (Sc : Sta Z h0 "java/lang/String" "COMPACT_STRINGS" "Z" (.int cs)) (hcs : ¬ (cs = (0 : Int32))) (Ea : Exa Z h0 a "java/lang/String") (Fv : Fld Z h0 a "java/lang/String" "value" "[B" (.ref b)) (Fc : Fld Z h0 a "java/lang/String" "coder" "B" (.int (0 : Int32))) (A : own_Aln Z h0 b .byte (4 : Int32)) :
    own_Met l (⟨"java/lang/String", "length", "()I"⟩ : MethodName) jdk_42_method_54_code 1 (some .int) ws ({ frames := 1, cells := 0, slots := 0, locals := 13 } : Room) Z #[(.ref a)] h0 (fun v h L => v = some (.int (4 : Int32)) ∧ Fr n0 L ∧ h = h0) := by
  refine own_body (plainFor_of_name pn_2) ?_
  intro p e s m below meth c s₁ X0 hx hby hml hown hnm hret hlk hZ e0
  replace hown : s.vm.findClass "java/lang/String" = some m.cls := hown
  replace hml : c.maxLocals = 1 := hml
  replace hret : meth.sig.returnType = (some .int) := hret
  have N0 := Fr.nil n0
  have ef : entryFrame m #[(.ref a)] 1 = mkF m 0 #[.val (.ref a)] [] := by first | (simp [entryFrame, mkF, argsToLocals, Value.category]; done) | rfl
  refine own_step (S' := (s₁.setTop (mkF m 0 #[.val (.ref a)] []))) (fun _ k => castTop ef k) ?_
  refine own_aloadN X0 hx (hb hby d9_0) rfl rfl ?_
  refine own_getF X0 hx hZ hown (host := "") (Or.inl (hw _ (List.mem_of_getElem? (i := 25) rfl))) Via.refl e0 Fv (hb hby d9_1) fun T68 X68 e68 => ?_
  refine own_arraylength X68 hx hZ e68 A (hb hby d9_4) ?_
  refine own_aloadN X68 hx (hb hby d9_5) rfl rfl ?_
  refine own_cVirt (W := 1) (rest := [(.int (4 : Int32))]) X68 hx hZ [] hown (hw _ (List.mem_of_getElem? (i := 52) rfl)) (hw _ (List.mem_of_getElem? (i := 53) rfl)) (notFace_of_selects (args := #[]) (mvT hZ (hw _ (List.mem_of_getElem? (i := 55) rfl)))) (hw _ (List.mem_of_getElem? (i := 55) rfl)) (hw _ (List.mem_of_getElem? (i := 54) rfl)) (by decide) (hw _ (List.mem_of_getElem? (i := 56) rfl)) (hw _ (List.mem_of_getElem? (i := 8) rfl)) e68 Ea (rmCd l Z a0 hw [] a cs h0 n0 Z0 Sc hcs Fc) (by rw [hml]; rfl) (lenOf pd_4 rfl) rfl (Nat.le_of_eq rfl) (hb hby d9_6) (by decide) (by decide) (by decide) (by decide) fun v69 T69 L69 X69 hQ69 => ?_
  obtain ⟨rfl, N69q, e69⟩ := hQ69
  have N69 := Fr.app N0 N69q
  show own_At p e below _ T69 m 9 _ [(.int (0 : Int32)), (.int (4 : Int32))]
  refine own_ishr X69 hx (hb hby d9_9) ?_
  rw [show ((4 : Int32) >>> ((0 : Int32) &&& 31)) = (4 : Int32) from by decide]
  refine own_retI X69 hx hlk hret (hb hby d9_10) (own_kN (by decide) (by decide) ?_)
  try rw [e69]
  exact ⟨rfl, N69, rfl⟩
theorem d13_0 : decode jdk_29_method_65_code 0 = .ok (.iload_n 0, 1) := by decide +kernel
theorem d13_1 : decode jdk_29_method_65_code 1 = .ok (.iload_n 1, 1) := by decide +kernel
theorem d13_2 : decode jdk_29_method_65_code 2 = .ok (.if_icmp .lt 7, 3) := by decide +kernel
theorem d13_5 : decode jdk_29_method_65_code 5 = .ok (.iload_n 0, 1) := by decide +kernel
theorem d13_6 : decode jdk_29_method_65_code 6 = .ok (.goto 4, 3) := by decide +kernel
theorem d13_9 : decode jdk_29_method_65_code 9 = .ok (.iload_n 1, 1) := by decide +kernel
theorem d13_10 : decode jdk_29_method_65_code 10 = .ok (.ireturn, 1) := by decide +kernel
set_option maxRecDepth 65536 in
set_option maxHeartbeats 40000000 in
theorem rmMax (l : Launch) (Z : State) (a0 : Array Value) (hw : ∀ d ∈ tables_1, d.before a0 Z = true) (ws : List Jvm.Cond)   (h0 : Heap) (n0 : Nat) (Z0 : n0 ≤ h0.size) :
    own_Met l (⟨"java/lang/Math", "max", "(II)I"⟩ : MethodName) jdk_29_method_65_code 2 (some .int) ws ({ frames := 0, cells := 0, slots := 0, locals := 0 } : Room) Z #[(.int (0 : Int32)), (.int (0 : Int32))] h0 (fun v h L => v = some (.int (0 : Int32)) ∧ Fr n0 L ∧ h = h0) := by
  refine own_body (Jvm.Free.JP.mathPlain rfl (by decide +kernel)) ?_
  intro p e s m below meth c s₁ X0 hx hby hml hown hnm hret hlk hZ e0
  replace hown : s.vm.findClass "java/lang/Math" = some m.cls := hown
  replace hml : c.maxLocals = 2 := hml
  replace hret : meth.sig.returnType = (some .int) := hret
  have N0 := Fr.nil n0
  have ef : entryFrame m #[(.int (0 : Int32)), (.int (0 : Int32))] 2 = mkF m 0 #[.val (.int (0 : Int32)), .val (.int (0 : Int32))] [] := by first | (simp [entryFrame, mkF, argsToLocals, Value.category]; done) | rfl
  refine own_step (S' := (s₁.setTop (mkF m 0 #[.val (.int (0 : Int32)), .val (.int (0 : Int32))] []))) (fun _ k => castTop ef k) ?_
  refine own_iloadN X0 hx (hb hby d13_0) rfl ?_
  refine own_iloadN X0 hx (hb hby d13_1) rfl ?_
  refine own_icmpNo X0 hx (hb hby d13_2) (flt (by decide : ¬ ((0 : Int32) < (0 : Int32)))).1 ?_
  refine own_iloadN X0 hx (hb hby d13_5) rfl ?_
  refine own_goto X0 hx 10 (hb hby d13_6) (by decide) (by decide) ?_
  refine own_retI X0 hx hlk hret (hb hby d13_10) (own_kN (by decide) (by decide) ?_)
  try rw [e0]
  exact ⟨rfl, N0, rfl⟩
theorem d12_0 : decode jdk_43_method_4_code 0 = .ok (.iload_n 0, 1) := by decide +kernel
theorem d12_1 : decode jdk_43_method_4_code 1 = .ok (.ifCond .lt 14, 3) := by decide +kernel
theorem d12_4 : decode jdk_43_method_4_code 4 = .ok (.iload_n 0, 1) := by decide +kernel
theorem d12_5 : decode jdk_43_method_4_code 5 = .ok (.sipush 255, 3) := by decide +kernel
theorem d12_8 : decode jdk_43_method_4_code 8 = .ok (.if_icmp .gt 7, 3) := by decide +kernel
theorem d12_11 : decode jdk_43_method_4_code 11 = .ok (.iconst 1, 1) := by decide +kernel
theorem d12_12 : decode jdk_43_method_4_code 12 = .ok (.goto 4, 3) := by decide +kernel
theorem d12_15 : decode jdk_43_method_4_code 15 = .ok (.iconst 0, 1) := by decide +kernel
theorem d12_16 : decode jdk_43_method_4_code 16 = .ok (.ireturn, 1) := by decide +kernel
theorem pn_3 : plainName "java/lang/StringLatin1" = true := by first | (simp [plainName, overriddenIn]; done) | decide +kernel
set_option maxRecDepth 65536 in
set_option maxHeartbeats 40000000 in
theorem rmCE (l : Launch) (Z : State) (a0 : Array Value) (hw : ∀ d ∈ tables_1, d.before a0 Z = true) (ws : List Jvm.Cond)   (h0 : Heap) (n0 : Nat) (Z0 : n0 ≤ h0.size) :
    own_Met l (⟨"java/lang/StringLatin1", "canEncode", "(I)Z"⟩ : MethodName) jdk_43_method_4_code 1 (some .boolean) ws ({ frames := 0, cells := 0, slots := 0, locals := 0 } : Room) Z #[(.int (46 : Int32))] h0 (fun v h L => v = some (.int (1 : Int32)) ∧ Fr n0 L ∧ h = h0) := by
  refine own_body (plainFor_of_name pn_3) ?_
  intro p e s m below meth c s₁ X0 hx hby hml hown hnm hret hlk hZ e0
  replace hown : s.vm.findClass "java/lang/StringLatin1" = some m.cls := hown
  replace hml : c.maxLocals = 1 := hml
  replace hret : meth.sig.returnType = (some .boolean) := hret
  have N0 := Fr.nil n0
  have ef : entryFrame m #[(.int (46 : Int32))] 1 = mkF m 0 #[.val (.int (46 : Int32))] [] := by first | (simp [entryFrame, mkF, argsToLocals, Value.category]; done) | rfl
  refine own_step (S' := (s₁.setTop (mkF m 0 #[.val (.int (46 : Int32))] []))) (fun _ k => castTop ef k) ?_
  refine own_iloadN X0 hx (hb hby d12_0) rfl ?_
  refine own_ifNo X0 hx (hb hby d12_1) (flt (by decide : ¬ ((46 : Int32) < (0 : Int32)))).1 ?_
  refine own_iloadN X0 hx (hb hby d12_4) rfl ?_
  refine own_sipush X0 hx (255 : Int32) (hb hby d12_5) rfl ?_
  refine own_icmpNo X0 hx (hb hby d12_8) (flt (by decide : ¬ ((255 : Int32) < (46 : Int32)))).2.2.1 ?_
  refine own_iconst X0 hx (1 : Int32) (hb hby d12_11) rfl ?_
  refine own_goto X0 hx 16 (hb hby d12_12) (by decide) (by decide) ?_
  refine own_retN X0 hx hlk hret (by simp) (by decide) (hb hby d12_16) (own_kN (by decide) (by decide) ?_)
  try rw [e0]
  exact ⟨rfl, N0, rfl⟩
theorem d14_0 : decode jdk_29_method_69_code 0 = .ok (.iload_n 0, 1) := by decide +kernel
theorem d14_1 : decode jdk_29_method_69_code 1 = .ok (.iload_n 1, 1) := by decide +kernel
theorem d14_2 : decode jdk_29_method_69_code 2 = .ok (.if_icmp .gt 7, 3) := by decide +kernel
theorem d14_5 : decode jdk_29_method_69_code 5 = .ok (.iload_n 0, 1) := by decide +kernel
theorem d14_6 : decode jdk_29_method_69_code 6 = .ok (.goto 4, 3) := by decide +kernel
theorem d14_9 : decode jdk_29_method_69_code 9 = .ok (.iload_n 1, 1) := by decide +kernel
theorem d14_10 : decode jdk_29_method_69_code 10 = .ok (.ireturn, 1) := by decide +kernel
set_option maxRecDepth 65536 in
set_option maxHeartbeats 40000000 in
theorem rmMin_0 (l : Launch) (Z : State) (a0 : Array Value) (hw : ∀ d ∈ tables_1, d.before a0 Z = true) (ws : List Jvm.Cond)   (h0 : Heap) (n0 : Nat) (Z0 : n0 ≤ h0.size) :
    own_Met l (⟨"java/lang/Math", "min", "(II)I"⟩ : MethodName) jdk_29_method_69_code 2 (some .int) ws ({ frames := 0, cells := 0, slots := 0, locals := 0 } : Room) Z #[(.int (0 : Int32)), (.int (0 : Int32))] h0 (fun v h L => v = some (.int (0 : Int32)) ∧ Fr n0 L ∧ h = h0) := by
  refine own_body (Jvm.Free.JP.mathPlain rfl (by decide +kernel)) ?_
  intro p e s m below meth c s₁ X0 hx hby hml hown hnm hret hlk hZ e0
  replace hown : s.vm.findClass "java/lang/Math" = some m.cls := hown
  replace hml : c.maxLocals = 2 := hml
  replace hret : meth.sig.returnType = (some .int) := hret
  have N0 := Fr.nil n0
  have ef : entryFrame m #[(.int (0 : Int32)), (.int (0 : Int32))] 2 = mkF m 0 #[.val (.int (0 : Int32)), .val (.int (0 : Int32))] [] := by first | (simp [entryFrame, mkF, argsToLocals, Value.category]; done) | rfl
  refine own_step (S' := (s₁.setTop (mkF m 0 #[.val (.int (0 : Int32)), .val (.int (0 : Int32))] []))) (fun _ k => castTop ef k) ?_
  refine own_iloadN X0 hx (hb hby d14_0) rfl ?_
  refine own_iloadN X0 hx (hb hby d14_1) rfl ?_
  refine own_icmpNo X0 hx (hb hby d14_2) (flt (by decide : ¬ ((0 : Int32) < (0 : Int32)))).2.2.1 ?_
  refine own_iloadN X0 hx (hb hby d14_5) rfl ?_
  refine own_goto X0 hx 10 (hb hby d14_6) (by decide) (by decide) ?_
  refine own_retI X0 hx hlk hret (hb hby d14_10) (own_kN (by decide) (by decide) ?_)
  try rw [e0]
  exact ⟨rfl, N0, rfl⟩
theorem d11_0 : decode jdk_43_method_22_code 0 = .ok (.iload_n 1, 1) := by decide +kernel
theorem d11_1 : decode jdk_43_method_22_code 1 = .ok (.invokestatic 88, 3) := by decide +kernel
theorem d11_4 : decode jdk_43_method_22_code 4 = .ok (.ifCond .ne 5, 3) := by decide +kernel
theorem d11_7 : decode jdk_43_method_22_code 7 = .ok (.iconst (-1), 1) := by decide +kernel
theorem d11_8 : decode jdk_43_method_22_code 8 = .ok (.ireturn, 1) := by decide +kernel
theorem d11_9 : decode jdk_43_method_22_code 9 = .ok (.iload_n 2, 1) := by decide +kernel
theorem d11_10 : decode jdk_43_method_22_code 10 = .ok (.iconst 0, 1) := by decide +kernel
theorem d11_11 : decode jdk_43_method_22_code 11 = .ok (.invokestatic 92, 3) := by decide +kernel
theorem d11_14 : decode jdk_43_method_22_code 14 = .ok (.istore_n 2, 1) := by decide +kernel
theorem d11_15 : decode jdk_43_method_22_code 15 = .ok (.iload_n 3, 1) := by decide +kernel
theorem d11_16 : decode jdk_43_method_22_code 16 = .ok (.aload_n 0, 1) := by decide +kernel
theorem d11_17 : decode jdk_43_method_22_code 17 = .ok (.arraylength, 1) := by decide +kernel
theorem d11_18 : decode jdk_43_method_22_code 18 = .ok (.invokestatic 38, 3) := by decide +kernel
theorem d11_21 : decode jdk_43_method_22_code 21 = .ok (.istore_n 3, 1) := by decide +kernel
theorem d11_22 : decode jdk_43_method_22_code 22 = .ok (.iload_n 2, 1) := by decide +kernel
theorem d11_23 : decode jdk_43_method_22_code 23 = .ok (.iload_n 3, 1) := by decide +kernel
theorem d11_24 : decode jdk_43_method_22_code 24 = .ok (.if_icmp .lt 5, 3) := by decide +kernel
theorem d11_27 : decode jdk_43_method_22_code 27 = .ok (.iconst (-1), 1) := by decide +kernel
theorem d11_28 : decode jdk_43_method_22_code 28 = .ok (.ireturn, 1) := by decide +kernel
theorem d11_29 : decode jdk_43_method_22_code 29 = .ok (.aload_n 0, 1) := by decide +kernel
theorem d11_30 : decode jdk_43_method_22_code 30 = .ok (.iload_n 1, 1) := by decide +kernel
theorem d11_31 : decode jdk_43_method_22_code 31 = .ok (.iload_n 2, 1) := by decide +kernel
theorem d11_32 : decode jdk_43_method_22_code 32 = .ok (.iload_n 3, 1) := by decide +kernel
theorem d11_33 : decode jdk_43_method_22_code 33 = .ok (.invokestatic 95, 3) := by decide +kernel
theorem d11_36 : decode jdk_43_method_22_code 36 = .ok (.ireturn, 1) := by decide +kernel
theorem pd_5 : parseMethodDescriptor "(I)Z" = some ⟨[.int], some .boolean⟩ := by decide +kernel
theorem pd_6 : parseMethodDescriptor "(II)I" = some ⟨[.int, .int], some .int⟩ := by decide +kernel
set_option maxRecDepth 65536 in
set_option maxHeartbeats 40000000 in
theorem rmL1_0 (l : Launch) (Z : State) (a0 : Array Value) (hw : ∀ d ∈ tables_1, d.before a0 Z = true) (ws : List Jvm.Cond) (b : Addr)   (h0 : Heap) (n0 : Nat) (Z0 : n0 ≤ h0.size) (A : own_Aln Z h0 b .byte (0 : Int32)) :
    own_Met l (⟨"java/lang/StringLatin1", "indexOf", "([BIII)I"⟩ : MethodName) jdk_43_method_22_code 4 (some .int) ws ({ frames := 1, cells := 0, slots := 0, locals := 17 } : Room) Z #[(.ref b), (.int (46 : Int32)), (.int (0 : Int32)), (.int (0 : Int32))] h0 (fun v h L => v = some (.int (-1 : Int32)) ∧ Fr n0 L ∧ h = h0) := by
  refine own_body (plainFor_of_name pn_3) ?_
  intro p e s m below meth c s₁ X0 hx hby hml hown hnm hret hlk hZ e0
  replace hown : s.vm.findClass "java/lang/StringLatin1" = some m.cls := hown
  replace hml : c.maxLocals = 4 := hml
  replace hret : meth.sig.returnType = (some .int) := hret
  have N0 := Fr.nil n0
  have ef : entryFrame m #[(.ref b), (.int (46 : Int32)), (.int (0 : Int32)), (.int (0 : Int32))] 4 = mkF m 0 #[.val (.ref b), .val (.int (46 : Int32)), .val (.int (0 : Int32)), .val (.int (0 : Int32))] [] := by first | (simp [entryFrame, mkF, argsToLocals, Value.category]; done) | rfl
  refine own_step (S' := (s₁.setTop (mkF m 0 #[.val (.ref b), .val (.int (46 : Int32)), .val (.int (0 : Int32)), .val (.int (0 : Int32))] []))) (fun _ k => castTop ef k) ?_
  refine own_iloadN X0 hx (hb hby d11_0) rfl ?_
  refine own_cStat (W := 0) (rest := []) X0 hx hZ [(.int (46 : Int32))] hown (hw _ (List.mem_of_getElem? (i := 61) rfl)) (hw _ (List.mem_of_getElem? (i := 62) rfl)) (by decide) (hw _ (List.mem_of_getElem? (i := 63) rfl)) (hw _ (List.mem_of_getElem? (i := 59) rfl)) e0 (rmCE l Z a0 hw [] h0 n0 Z0) (by rw [hml]; rfl) (lenOf pd_5 rfl) rfl (Nat.le_of_eq rfl) (hb hby d11_1) (by decide) (by decide) (by decide) (by decide) fun v70 T70 L70 X70 hQ70 => ?_
  obtain ⟨rfl, N70q, e70⟩ := hQ70
  have N70 := Fr.app N0 N70q
  show own_At p e below _ T70 m 4 _ [(.int (1 : Int32))]
  refine own_ifYes X70 hx 9 (hb hby d11_4) (feq (by decide : ¬ ((1 : Int32) = (0 : Int32)))).2 (by decide) (by decide) ?_
  refine own_iloadN X70 hx (hb hby d11_9) rfl ?_
  refine own_iconst X70 hx (0 : Int32) (hb hby d11_10) rfl ?_
  refine own_cStat (W := 0) (rest := []) X70 hx hZ [(.int (0 : Int32)), (.int (0 : Int32))] hown (hw _ (List.mem_of_getElem? (i := 64) rfl)) (hw _ (List.mem_of_getElem? (i := 65) rfl)) (by decide) (hw _ (List.mem_of_getElem? (i := 67) rfl)) (hw _ (List.mem_of_getElem? (i := 66) rfl)) e70 (rmMax l Z a0 hw [] h0 n0 Z0) (by rw [hml]; rfl) (lenOf pd_6 rfl) rfl (Nat.le_of_eq rfl) (hb hby d11_11) (by decide) (by decide) (by decide) (by decide) fun v71 T71 L71 X71 hQ71 => ?_
  obtain ⟨rfl, N71q, e71⟩ := hQ71
  have N71 := Fr.app N70 N71q
  show own_At p e below _ T71 m 14 _ [(.int (0 : Int32))]
  refine own_istoreN (l' := #[.val (.ref b), .val (.int (46 : Int32)), .val (.int (0 : Int32)), .val (.int (0 : Int32))]) X71 hx (hb hby d11_14) rfl ?_
  refine own_iloadN X71 hx (hb hby d11_15) rfl ?_
  refine own_aloadN X71 hx (hb hby d11_16) rfl rfl ?_
  refine own_arraylength X71 hx hZ e71 A (hb hby d11_17) ?_
  refine own_cStat (W := 0) (rest := []) X71 hx hZ [(.int (0 : Int32)), (.int (0 : Int32))] hown (hw _ (List.mem_of_getElem? (i := 68) rfl)) (hw _ (List.mem_of_getElem? (i := 69) rfl)) (by decide) (hw _ (List.mem_of_getElem? (i := 70) rfl)) (hw _ (List.mem_of_getElem? (i := 66) rfl)) e71 (rmMin_0 l Z a0 hw [] h0 n0 Z0) (by rw [hml]; rfl) (lenOf pd_6 rfl) rfl (Nat.le_of_eq rfl) (hb hby d11_18) (by decide) (by decide) (by decide) (by decide) fun v72 T72 L72 X72 hQ72 => ?_
  obtain ⟨rfl, N72q, e72⟩ := hQ72
  have N72 := Fr.app N71 N72q
  show own_At p e below _ T72 m 21 _ [(.int (0 : Int32))]
  refine own_istoreN (l' := #[.val (.ref b), .val (.int (46 : Int32)), .val (.int (0 : Int32)), .val (.int (0 : Int32))]) X72 hx (hb hby d11_21) rfl ?_
  refine own_iloadN X72 hx (hb hby d11_22) rfl ?_
  refine own_iloadN X72 hx (hb hby d11_23) rfl ?_
  refine own_icmpNo X72 hx (hb hby d11_24) (flt (by decide : ¬ ((0 : Int32) < (0 : Int32)))).1 ?_
  refine own_iconst X72 hx (-1 : Int32) (hb hby d11_27) rfl ?_
  refine own_retI X72 hx hlk hret (hb hby d11_28) (own_kN (by decide) (by decide) ?_)
  try rw [e72]
  exact ⟨rfl, N72, rfl⟩
theorem d7_0 : decode jdk_42_method_80_code 0 = .ok (.aload_n 0, 1) := by decide +kernel
theorem d7_1 : decode jdk_42_method_80_code 1 = .ok (.invokevirtual 492, 3) := by decide +kernel
theorem d7_4 : decode jdk_42_method_80_code 4 = .ok (.ifCond .eq 19, 3) := by decide +kernel
theorem d7_7 : decode jdk_42_method_80_code 7 = .ok (.aload_n 0, 1) := by decide +kernel
theorem d7_8 : decode jdk_42_method_80_code 8 = .ok (.getfield 9, 3) := by decide +kernel
theorem d7_11 : decode jdk_42_method_80_code 11 = .ok (.iload_n 1, 1) := by decide +kernel
theorem d7_12 : decode jdk_42_method_80_code 12 = .ok (.iload_n 2, 1) := by decide +kernel
theorem d7_13 : decode jdk_42_method_80_code 13 = .ok (.aload_n 0, 1) := by decide +kernel
theorem d7_14 : decode jdk_42_method_80_code 14 = .ok (.invokevirtual 505, 3) := by decide +kernel
theorem d7_17 : decode jdk_42_method_80_code 17 = .ok (.invokestatic 637, 3) := by decide +kernel
theorem d7_20 : decode jdk_42_method_80_code 20 = .ok (.goto 16, 3) := by decide +kernel
theorem d7_23 : decode jdk_42_method_80_code 23 = .ok (.aload_n 0, 1) := by decide +kernel
theorem d7_24 : decode jdk_42_method_80_code 24 = .ok (.getfield 9, 3) := by decide +kernel
theorem d7_27 : decode jdk_42_method_80_code 27 = .ok (.iload_n 1, 1) := by decide +kernel
theorem d7_28 : decode jdk_42_method_80_code 28 = .ok (.iload_n 2, 1) := by decide +kernel
theorem d7_29 : decode jdk_42_method_80_code 29 = .ok (.aload_n 0, 1) := by decide +kernel
theorem d7_30 : decode jdk_42_method_80_code 30 = .ok (.invokevirtual 505, 3) := by decide +kernel
theorem d7_33 : decode jdk_42_method_80_code 33 = .ok (.invokestatic 640, 3) := by decide +kernel
theorem d7_36 : decode jdk_42_method_80_code 36 = .ok (.ireturn, 1) := by decide +kernel
theorem pd_7 : parseMethodDescriptor "()Z" = some ⟨[], some .boolean⟩ := by decide +kernel
theorem pd_8 : parseMethodDescriptor "()I" = some ⟨[], some .int⟩ := by decide +kernel
theorem pd_9 : parseMethodDescriptor "([BIII)I" = some ⟨[(.array .byte), .int, .int, .int], some .int⟩ := by decide +kernel
set_option maxRecDepth 65536 in
set_option maxHeartbeats 40000000 in
theorem rmX2_0 (l : Launch) (Z : State) (a0 : Array Value) (hw : ∀ d ∈ tables_1, d.before a0 Z = true) (ws : List Jvm.Cond) (a b : Addr) (cs : Int32)   (h0 : Heap) (n0 : Nat) (Z0 : n0 ≤ h0.size) (Sc : Sta Z h0 "java/lang/String" "COMPACT_STRINGS" "Z" (.int cs)) (hcs : ¬ (cs = (0 : Int32))) (Ea : Exa Z h0 a "java/lang/String") (Fv : Fld Z h0 a "java/lang/String" "value" "[B" (.ref b)) (Fc : Fld Z h0 a "java/lang/String" "coder" "B" (.int (0 : Int32))) (A : own_Aln Z h0 b .byte (0 : Int32)) :
    own_Met l (⟨"java/lang/String", "indexOf", "(II)I"⟩ : MethodName) jdk_42_method_80_code 3 (some .int) ws ({ frames := 2, cells := 0, slots := 0, locals := 32 } : Room) Z #[(.ref a), (.int (46 : Int32)), (.int (0 : Int32))] h0 (fun v h L => v = some (.int (-1 : Int32)) ∧ Fr n0 L ∧ h = h0) := by
  refine own_body (plainFor_of_name pn_2) ?_
  intro p e s m below meth c s₁ X0 hx hby hml hown hnm hret hlk hZ e0
  replace hown : s.vm.findClass "java/lang/String" = some m.cls := hown
  replace hml : c.maxLocals = 3 := hml
  replace hret : meth.sig.returnType = (some .int) := hret
  have N0 := Fr.nil n0
  have ef : entryFrame m #[(.ref a), (.int (46 : Int32)), (.int (0 : Int32))] 3 = mkF m 0 #[.val (.ref a), .val (.int (46 : Int32)), .val (.int (0 : Int32))] [] := by first | (simp [entryFrame, mkF, argsToLocals, Value.category]; done) | rfl
  refine own_step (S' := (s₁.setTop (mkF m 0 #[.val (.ref a), .val (.int (46 : Int32)), .val (.int (0 : Int32))] []))) (fun _ k => castTop ef k) ?_
  refine own_aloadN X0 hx (hb hby d7_0) rfl rfl ?_
  refine own_cVirt (W := 0) (rest := []) X0 hx hZ [] hown (hw _ (List.mem_of_getElem? (i := 41) rfl)) (hw _ (List.mem_of_getElem? (i := 42) rfl)) (notFace_of_selects (args := #[]) (mvT hZ (hw _ (List.mem_of_getElem? (i := 44) rfl)))) (hw _ (List.mem_of_getElem? (i := 44) rfl)) (hw _ (List.mem_of_getElem? (i := 43) rfl)) (by decide) (hw _ (List.mem_of_getElem? (i := 45) rfl)) (hw _ (List.mem_of_getElem? (i := 8) rfl)) e0 Ea (rmL l Z a0 hw [] a cs h0 n0 Z0 Sc hcs Fc) (by rw [hml]; rfl) (lenOf pd_7 rfl) rfl (Nat.le_of_eq rfl) (hb hby d7_1) (by decide) (by decide) (by decide) (by decide) fun v73 T73 L73 X73 hQ73 => ?_
  obtain ⟨rfl, N73q, e73⟩ := hQ73
  have N73 := Fr.app N0 N73q
  show own_At p e below _ T73 m 4 _ [(.int (1 : Int32))]
  refine own_ifNo X73 hx (hb hby d7_4) (feq (by decide : ¬ ((1 : Int32) = (0 : Int32)))).1 ?_
  refine own_aloadN X73 hx (hb hby d7_7) rfl rfl ?_
  refine own_getF X73 hx hZ hown (host := "") (Or.inl (hw _ (List.mem_of_getElem? (i := 25) rfl))) Via.refl e73 Fv (hb hby d7_8) fun T74 X74 e74 => ?_
  refine own_iloadN X74 hx (hb hby d7_11) rfl ?_
  refine own_iloadN X74 hx (hb hby d7_12) rfl ?_
  refine own_aloadN X74 hx (hb hby d7_13) rfl rfl ?_
  refine own_cVirt (W := 3) (rest := [(.int (0 : Int32)), (.int (46 : Int32)), (.ref b)]) X74 hx hZ [] hown (hw _ (List.mem_of_getElem? (i := 47) rfl)) (hw _ (List.mem_of_getElem? (i := 48) rfl)) (notFace_of_selects (args := #[]) (mvT hZ (hw _ (List.mem_of_getElem? (i := 50) rfl)))) (hw _ (List.mem_of_getElem? (i := 50) rfl)) (hw _ (List.mem_of_getElem? (i := 49) rfl)) (by decide) (hw _ (List.mem_of_getElem? (i := 51) rfl)) (hw _ (List.mem_of_getElem? (i := 8) rfl)) e74 Ea (rmLen_0 l Z a0 hw [] a b cs h0 n0 Z0 Sc hcs Ea Fv Fc A) (by rw [hml]; rfl) (lenOf pd_8 rfl) rfl (Nat.le_of_eq rfl) (hb hby d7_14) (by decide) (by decide) (by decide) (by decide) fun v75 T75 L75 X75 hQ75 => ?_
  obtain ⟨rfl, N75q, e75⟩ := hQ75
  have N75 := Fr.app N73 N75q
  show own_At p e below _ T75 m 17 _ [(.int (0 : Int32)), (.int (0 : Int32)), (.int (46 : Int32)), (.ref b)]
  refine own_cStat (W := 0) (rest := []) X75 hx hZ [(.ref b), (.int (46 : Int32)), (.int (0 : Int32)), (.int (0 : Int32))] hown (hw _ (List.mem_of_getElem? (i := 57) rfl)) (hw _ (List.mem_of_getElem? (i := 58) rfl)) (by decide) (hw _ (List.mem_of_getElem? (i := 60) rfl)) (hw _ (List.mem_of_getElem? (i := 59) rfl)) e75 (rmL1_0 l Z a0 hw [] b  h0 n0 Z0 A ) (by rw [hml]; rfl) (lenOf pd_9 rfl) rfl (Nat.le_of_eq rfl) (hb hby d7_17) (by decide) (by decide) (by decide) (by decide) fun v76 T76 L76 X76 hQ76 => ?_
  obtain ⟨rfl, N76q, e76⟩ := hQ76
  have N76 := Fr.app N75 N76q
  show own_At p e below _ T76 m 20 _ [(.int (-1 : Int32))]
  refine own_goto X76 hx 36 (hb hby d7_20) (by decide) (by decide) ?_
  refine own_retI X76 hx hlk hret (hb hby d7_36) (own_kN (by decide) (by decide) ?_)
  try rw [e76]
  exact ⟨rfl, N76, rfl⟩
theorem d6_0 : decode jdk_42_method_79_code 0 = .ok (.aload_n 0, 1) := by decide +kernel
theorem d6_1 : decode jdk_42_method_79_code 1 = .ok (.iload_n 1, 1) := by decide +kernel
theorem d6_2 : decode jdk_42_method_79_code 2 = .ok (.iconst 0, 1) := by decide +kernel
theorem d6_3 : decode jdk_42_method_79_code 3 = .ok (.invokevirtual 633, 3) := by decide +kernel
theorem d6_6 : decode jdk_42_method_79_code 6 = .ok (.ireturn, 1) := by decide +kernel
set_option maxRecDepth 65536 in
set_option maxHeartbeats 40000000 in
theorem rmX1_0 (l : Launch) (Z : State) (a0 : Array Value) (hw : ∀ d ∈ tables_1, d.before a0 Z = true) (ws : List Jvm.Cond) (a b : Addr) (cs : Int32)   (h0 : Heap) (n0 : Nat) (Z0 : n0 ≤ h0.size) (Sc : Sta Z h0 "java/lang/String" "COMPACT_STRINGS" "Z" (.int cs)) (hcs : ¬ (cs = (0 : Int32))) (Ea : Exa Z h0 a "java/lang/String") (Fv : Fld Z h0 a "java/lang/String" "value" "[B" (.ref b)) (Fc : Fld Z h0 a "java/lang/String" "coder" "B" (.int (0 : Int32))) (A : own_Aln Z h0 b .byte (0 : Int32)) :
    own_Met l (⟨"java/lang/String", "indexOf", "(I)I"⟩ : MethodName) jdk_42_method_79_code 2 (some .int) ws ({ frames := 3, cells := 0, slots := 0, locals := 46 } : Room) Z #[(.ref a), (.int (46 : Int32))] h0 (fun v h L => v = some (.int (-1 : Int32)) ∧ Fr n0 L ∧ h = h0) := by
  refine own_body (plainFor_of_name pn_2) ?_
  intro p e s m below meth c s₁ X0 hx hby hml hown hnm hret hlk hZ e0
  replace hown : s.vm.findClass "java/lang/String" = some m.cls := hown
  replace hml : c.maxLocals = 2 := hml
  replace hret : meth.sig.returnType = (some .int) := hret
  have N0 := Fr.nil n0
  have ef : entryFrame m #[(.ref a), (.int (46 : Int32))] 2 = mkF m 0 #[.val (.ref a), .val (.int (46 : Int32))] [] := by first | (simp [entryFrame, mkF, argsToLocals, Value.category]; done) | rfl
  refine own_step (S' := (s₁.setTop (mkF m 0 #[.val (.ref a), .val (.int (46 : Int32))] []))) (fun _ k => castTop ef k) ?_
  refine own_aloadN X0 hx (hb hby d6_0) rfl rfl ?_
  refine own_iloadN X0 hx (hb hby d6_1) rfl ?_
  refine own_iconst X0 hx (0 : Int32) (hb hby d6_2) rfl ?_
  refine own_cVirt (W := 0) (rest := []) X0 hx hZ [(.int (46 : Int32)), (.int (0 : Int32))] hown (hw _ (List.mem_of_getElem? (i := 36) rfl)) (hw _ (List.mem_of_getElem? (i := 37) rfl)) (notFace_of_selects (args := #[]) (mvT hZ (hw _ (List.mem_of_getElem? (i := 39) rfl)))) (hw _ (List.mem_of_getElem? (i := 39) rfl)) (hw _ (List.mem_of_getElem? (i := 38) rfl)) (by decide) (hw _ (List.mem_of_getElem? (i := 40) rfl)) (hw _ (List.mem_of_getElem? (i := 8) rfl)) e0 Ea (rmX2_0 l Z a0 hw [] a b cs  h0 n0 Z0 Sc hcs Ea Fv Fc A ) (by rw [hml]; rfl) (lenOf pd_6 rfl) rfl (Nat.le_of_eq rfl) (hb hby d6_3) (by decide) (by decide) (by decide) (by decide) fun v77 T77 L77 X77 hQ77 => ?_
  obtain ⟨rfl, N77q, e77⟩ := hQ77
  have N77 := Fr.app N0 N77q
  show own_At p e below _ T77 m 6 _ [(.int (-1 : Int32))]
  refine own_retI X77 hx hlk hret (hb hby d6_6) (own_kN (by decide) (by decide) ?_)
  try rw [e77]
  exact ⟨rfl, N77, rfl⟩
theorem d5_0 : decode prog_9_method_3_code 0 = .ok (.aload_n 0, 1) := by decide +kernel
theorem d5_1 : decode prog_9_method_3_code 1 = .ok (.bipush 46, 2) := by decide +kernel
theorem d5_3 : decode prog_9_method_3_code 3 = .ok (.invokevirtual 25, 3) := by decide +kernel
theorem d5_6 : decode prog_9_method_3_code 6 = .ok (.ifCond .ge 7, 3) := by decide +kernel
theorem d5_9 : decode prog_9_method_3_code 9 = .ok (.iconst 1, 1) := by decide +kernel
theorem d5_10 : decode prog_9_method_3_code 10 = .ok (.goto 4, 3) := by decide +kernel
theorem d5_13 : decode prog_9_method_3_code 13 = .ok (.iconst 0, 1) := by decide +kernel
theorem d5_14 : decode prog_9_method_3_code 14 = .ok (.ireturn, 1) := by decide +kernel
theorem pn_4 : plainName "com/example/ratatoskr/ratatoskr/DomainName" = true := by first | (simp [plainName, overriddenIn]; done) | decide +kernel
theorem pd_10 : parseMethodDescriptor "(I)I" = some ⟨[.int], some .int⟩ := by decide +kernel
set_option maxRecDepth 65536 in
set_option maxHeartbeats 40000000 in
theorem rmSL_0_1 (l : Launch) (Z : State) (a0 : Array Value) (hw : ∀ d ∈ tables_1, d.before a0 Z = true) (ws : List Jvm.Cond) (a b : Addr) (cs : Int32)   (h0 : Heap) (n0 : Nat) (Z0 : n0 ≤ h0.size) (Sc : Sta Z h0 "java/lang/String" "COMPACT_STRINGS" "Z" (.int cs)) (hcs : ¬ (cs = (0 : Int32))) (Ea : Exa Z h0 a "java/lang/String") (Fv : Fld Z h0 a "java/lang/String" "value" "[B" (.ref b)) (Fc : Fld Z h0 a "java/lang/String" "coder" "B" (.int (0 : Int32))) (A : own_Aln Z h0 b .byte (0 : Int32)) :
    own_Met l (⟨"com/example/ratatoskr/ratatoskr/DomainName", "isSingleLabel", "(Ljava/lang/String;)Z"⟩ : MethodName) prog_9_method_3_code 1 (some .boolean) ws ({ frames := 4, cells := 0, slots := 0, locals := 59 } : Room) Z #[(.ref a)] h0 (fun v h L => v = some (.int (1 : Int32)) ∧ Fr n0 L ∧ h = h0) := by
  refine own_body (plainFor_of_name pn_4) ?_
  intro p e s m below meth c s₁ X0 hx hby hml hown hnm hret hlk hZ e0
  replace hown : s.vm.findClass "com/example/ratatoskr/ratatoskr/DomainName" = some m.cls := hown
  replace hml : c.maxLocals = 1 := hml
  replace hret : meth.sig.returnType = (some .boolean) := hret
  have N0 := Fr.nil n0
  have ef : entryFrame m #[(.ref a)] 1 = mkF m 0 #[.val (.ref a)] [] := by first | (simp [entryFrame, mkF, argsToLocals, Value.category]; done) | rfl
  refine own_step (S' := (s₁.setTop (mkF m 0 #[.val (.ref a)] []))) (fun _ k => castTop ef k) ?_
  refine own_aloadN X0 hx (hb hby d5_0) rfl rfl ?_
  refine own_bipush X0 hx (46 : Int32) (hb hby d5_1) rfl ?_
  refine own_cVirt (W := 0) (rest := []) X0 hx hZ [(.int (46 : Int32))] hown (hw _ (List.mem_of_getElem? (i := 31) rfl)) (hw _ (List.mem_of_getElem? (i := 32) rfl)) (notFace_of_selects (args := #[]) (mvT hZ (hw _ (List.mem_of_getElem? (i := 34) rfl)))) (hw _ (List.mem_of_getElem? (i := 34) rfl)) (hw _ (List.mem_of_getElem? (i := 33) rfl)) (by decide) (hw _ (List.mem_of_getElem? (i := 35) rfl)) (hw _ (List.mem_of_getElem? (i := 8) rfl)) e0 Ea (rmX1_0 l Z a0 hw [] a b cs  h0 n0 Z0 Sc hcs Ea Fv Fc A ) (by rw [hml]; rfl) (lenOf pd_10 rfl) rfl (Nat.le_of_eq rfl) (hb hby d5_3) (by decide) (by decide) (by decide) (by decide) fun v78 T78 L78 X78 hQ78 => ?_
  obtain ⟨rfl, N78q, e78⟩ := hQ78
  have N78 := Fr.app N0 N78q
  show own_At p e below _ T78 m 6 _ [(.int (-1 : Int32))]
  refine own_ifNo X78 hx (hb hby d5_6) (tlt (by decide : (-1 : Int32) < (0 : Int32))).2.1 ?_
  refine own_iconst X78 hx (1 : Int32) (hb hby d5_9) rfl ?_
  refine own_goto X78 hx 14 (hb hby d5_10) (by decide) (by decide) ?_
  refine own_retN X78 hx hlk hret (by simp) (by decide) (hb hby d5_14) (own_kN (by decide) (by decide) ?_)
  try rw [e78]
  exact ⟨rfl, N78, rfl⟩
set_option maxRecDepth 65536 in
set_option maxHeartbeats 40000000 in
theorem rmMin_1 (l : Launch) (Z : State) (a0 : Array Value) (hw : ∀ d ∈ tables_1, d.before a0 Z = true) (ws : List Jvm.Cond)   (h0 : Heap) (n0 : Nat) (Z0 : n0 ≤ h0.size) :
    own_Met l (⟨"java/lang/Math", "min", "(II)I"⟩ : MethodName) jdk_29_method_69_code 2 (some .int) ws ({ frames := 0, cells := 0, slots := 0, locals := 0 } : Room) Z #[(.int (1 : Int32)), (.int (1 : Int32))] h0 (fun v h L => v = some (.int (1 : Int32)) ∧ Fr n0 L ∧ h = h0) := by
  refine own_body (Jvm.Free.JP.mathPlain rfl (by decide +kernel)) ?_
  intro p e s m below meth c s₁ X0 hx hby hml hown hnm hret hlk hZ e0
  replace hown : s.vm.findClass "java/lang/Math" = some m.cls := hown
  replace hml : c.maxLocals = 2 := hml
  replace hret : meth.sig.returnType = (some .int) := hret
  have N0 := Fr.nil n0
  have ef : entryFrame m #[(.int (1 : Int32)), (.int (1 : Int32))] 2 = mkF m 0 #[.val (.int (1 : Int32)), .val (.int (1 : Int32))] [] := by first | (simp [entryFrame, mkF, argsToLocals, Value.category]; done) | rfl
  refine own_step (S' := (s₁.setTop (mkF m 0 #[.val (.int (1 : Int32)), .val (.int (1 : Int32))] []))) (fun _ k => castTop ef k) ?_
  refine own_iloadN X0 hx (hb hby d14_0) rfl ?_
  refine own_iloadN X0 hx (hb hby d14_1) rfl ?_
  refine own_icmpNo X0 hx (hb hby d14_2) (flt (by decide : ¬ ((1 : Int32) < (1 : Int32)))).2.2.1 ?_
  refine own_iloadN X0 hx (hb hby d14_5) rfl ?_
  refine own_goto X0 hx 10 (hb hby d14_6) (by decide) (by decide) ?_
  refine own_retI X0 hx hlk hret (hb hby d14_10) (own_kN (by decide) (by decide) ?_)
  try rw [e0]
  exact ⟨rfl, N0, rfl⟩
theorem d18_0 : decode jdk_43_method_23_code 0 = .ok (.iload_n 1, 1) := by decide +kernel
theorem d18_1 : decode jdk_43_method_23_code 1 = .ok (.i2b, 1) := by decide +kernel
theorem d18_2 : decode jdk_43_method_23_code 2 = .ok (.istore 4, 2) := by decide +kernel
theorem d18_4 : decode jdk_43_method_23_code 4 = .ok (.iload_n 2, 1) := by decide +kernel
theorem d18_5 : decode jdk_43_method_23_code 5 = .ok (.istore 5, 2) := by decide +kernel
theorem d18_7 : decode jdk_43_method_23_code 7 = .ok (.iload 5, 2) := by decide +kernel
theorem d18_9 : decode jdk_43_method_23_code 9 = .ok (.iload_n 3, 1) := by decide +kernel
theorem d18_10 : decode jdk_43_method_23_code 10 = .ok (.if_icmp .ge 21, 3) := by decide +kernel
theorem d18_13 : decode jdk_43_method_23_code 13 = .ok (.aload_n 0, 1) := by decide +kernel
theorem d18_14 : decode jdk_43_method_23_code 14 = .ok (.iload 5, 2) := by decide +kernel
theorem d18_16 : decode jdk_43_method_23_code 16 = .ok (.baload, 1) := by decide +kernel
theorem d18_17 : decode jdk_43_method_23_code 17 = .ok (.iload 4, 2) := by decide +kernel
theorem d18_19 : decode jdk_43_method_23_code 19 = .ok (.if_icmp .ne 6, 3) := by decide +kernel
theorem d18_22 : decode jdk_43_method_23_code 22 = .ok (.iload 5, 2) := by decide +kernel
theorem d18_24 : decode jdk_43_method_23_code 24 = .ok (.ireturn, 1) := by decide +kernel
theorem d18_25 : decode jdk_43_method_23_code 25 = .ok (.iinc 5 1, 3) := by decide +kernel
theorem d18_28 : decode jdk_43_method_23_code 28 = .ok (.goto (-21), 3) := by decide +kernel
theorem d18_31 : decode jdk_43_method_23_code 31 = .ok (.iconst (-1), 1) := by decide +kernel
theorem d18_32 : decode jdk_43_method_23_code 32 = .ok (.ireturn, 1) := by decide +kernel
set_option maxRecDepth 65536 in
set_option maxHeartbeats 40000000 in
theorem rmIC_1_n (l : Launch) (Z : State) (a0 : Array Value) (hw : ∀ d ∈ tables_1, d.before a0 Z = true) (ws : List Jvm.Cond) (b : Addr) (kb : ClassId) (c0 : Int32)  (h0 : Heap) (n0 : Nat) (Z0 : n0 ≤ h0.size) (Vb : Arv Z h0 b kb .byte (1 : Int32) [(.int (c0.toInt8.toInt32))] (.int (0 : Int32))) (hd0 : ¬ ((c0.toInt8.toInt32) = (46 : Int32))) :
    own_Met l (⟨"java/lang/StringLatin1", "indexOfChar", "([BIII)I"⟩ : MethodName) jdk_43_method_23_code 6 (some .int) ws ({ frames := 0, cells := 0, slots := 0, locals := 0 } : Room) Z #[(.ref b), (.int (46 : Int32)), (.int (0 : Int32)), (.int (1 : Int32))] h0 (fun v h L => v = some (.int (-1 : Int32)) ∧ Fr n0 L ∧ h = h0) := by
  refine own_body (plainFor_of_name pn_3) ?_
  intro p e s m below meth c s₁ X0 hx hby hml hown hnm hret hlk hZ e0
  replace hown : s.vm.findClass "java/lang/StringLatin1" = some m.cls := hown
  replace hml : c.maxLocals = 6 := hml
  replace hret : meth.sig.returnType = (some .int) := hret
  have N0 := Fr.nil n0
  have ef : entryFrame m #[(.ref b), (.int (46 : Int32)), (.int (0 : Int32)), (.int (1 : Int32))] 6 = mkF m 0 #[.val (.ref b), .val (.int (46 : Int32)), .val (.int (0 : Int32)), .val (.int (1 : Int32)), .unset, .unset] [] := by first | (simp [entryFrame, mkF, argsToLocals, Value.category]; done) | rfl
  refine own_step (S' := (s₁.setTop (mkF m 0 #[.val (.ref b), .val (.int (46 : Int32)), .val (.int (0 : Int32)), .val (.int (1 : Int32)), .unset, .unset] []))) (fun _ k => castTop ef k) ?_
  refine own_iloadN X0 hx (hb hby d18_0) rfl ?_
  refine own_i2b X0 hx (hb hby d18_1) ?_
  rw [show ((46 : Int32).toInt8.toInt32) = (46 : Int32) from by decide]
  refine own_istore (l' := #[.val (.ref b), .val (.int (46 : Int32)), .val (.int (0 : Int32)), .val (.int (1 : Int32)), .val (.int (46 : Int32)), .unset]) X0 hx (hb hby d18_2) rfl ?_
  refine own_iloadN X0 hx (hb hby d18_4) rfl ?_
  refine own_istore (l' := #[.val (.ref b), .val (.int (46 : Int32)), .val (.int (0 : Int32)), .val (.int (1 : Int32)), .val (.int (46 : Int32)), .val (.int (0 : Int32))]) X0 hx (hb hby d18_5) rfl ?_
  refine own_iload X0 hx (hb hby d18_7) rfl ?_
  refine own_iloadN X0 hx (hb hby d18_9) rfl ?_
  refine own_icmpNo X0 hx (hb hby d18_10) (tlt (by decide : (0 : Int32) < (1 : Int32))).2.1 ?_
  refine own_aloadN X0 hx (hb hby d18_13) rfl rfl ?_
  refine own_iload X0 hx (hb hby d18_14) rfl ?_
  refine own_baload X0 hx hZ (.int (c0.toInt8.toInt32)) e0 Vb ⟨by decide, by decide⟩ rfl (hb hby d18_16) ?_
  refine own_iload X0 hx (hb hby d18_17) rfl ?_
  refine own_icmpYes X0 hx 25 (hb hby d18_19) (feq hd0).2 (by decide) (by decide) ?_
  refine own_iinc (l' := #[.val (.ref b), .val (.int (46 : Int32)), .val (.int (0 : Int32)), .val (.int (1 : Int32)), .val (.int (46 : Int32)), .val (.int ((0 : Int32) + (1 : Int32)))]) X0 hx (hb hby d18_25) rfl rfl ?_
  rw [show ((0 : Int32) + (1 : Int32)) = (1 : Int32) from by decide]
  refine own_goto X0 hx 7 (hb hby d18_28) (by decide) (by decide) ?_
  refine own_iload X0 hx (hb hby d18_7) rfl ?_
  refine own_iloadN X0 hx (hb hby d18_9) rfl ?_
  refine own_icmpYes X0 hx 31 (hb hby d18_10) (flt (by decide : ¬ ((1 : Int32) < (1 : Int32)))).2.1 (by decide) (by decide) ?_
  refine own_iconst X0 hx (-1 : Int32) (hb hby d18_31) rfl ?_
  refine own_retI X0 hx hlk hret (hb hby d18_32) (own_kN (by decide) (by decide) ?_)
  try rw [e0]
  exact ⟨rfl, N0, rfl⟩
set_option maxRecDepth 65536 in
set_option maxHeartbeats 40000000 in
theorem rmIC_1_0 (l : Launch) (Z : State) (a0 : Array Value) (hw : ∀ d ∈ tables_1, d.before a0 Z = true) (ws : List Jvm.Cond) (b : Addr) (kb : ClassId) (c0 : Int32)  (h0 : Heap) (n0 : Nat) (Z0 : n0 ≤ h0.size) (Vb : Arv Z h0 b kb .byte (1 : Int32) [(.int (46 : Int32))] (.int (0 : Int32))) :
    own_Met l (⟨"java/lang/StringLatin1", "indexOfChar", "([BIII)I"⟩ : MethodName) jdk_43_method_23_code 6 (some .int) ws ({ frames := 0, cells := 0, slots := 0, locals := 0 } : Room) Z #[(.ref b), (.int (46 : Int32)), (.int (0 : Int32)), (.int (1 : Int32))] h0 (fun v h L => v = some (.int (0 : Int32)) ∧ Fr n0 L ∧ h = h0) := by
  refine own_body (plainFor_of_name pn_3) ?_
  intro p e s m below meth c s₁ X0 hx hby hml hown hnm hret hlk hZ e0
  replace hown : s.vm.findClass "java/lang/StringLatin1" = some m.cls := hown
  replace hml : c.maxLocals = 6 := hml
  replace hret : meth.sig.returnType = (some .int) := hret
  have N0 := Fr.nil n0
  have ef : entryFrame m #[(.ref b), (.int (46 : Int32)), (.int (0 : Int32)), (.int (1 : Int32))] 6 = mkF m 0 #[.val (.ref b), .val (.int (46 : Int32)), .val (.int (0 : Int32)), .val (.int (1 : Int32)), .unset, .unset] [] := by first | (simp [entryFrame, mkF, argsToLocals, Value.category]; done) | rfl
  refine own_step (S' := (s₁.setTop (mkF m 0 #[.val (.ref b), .val (.int (46 : Int32)), .val (.int (0 : Int32)), .val (.int (1 : Int32)), .unset, .unset] []))) (fun _ k => castTop ef k) ?_
  refine own_iloadN X0 hx (hb hby d18_0) rfl ?_
  refine own_i2b X0 hx (hb hby d18_1) ?_
  rw [show ((46 : Int32).toInt8.toInt32) = (46 : Int32) from by decide]
  refine own_istore (l' := #[.val (.ref b), .val (.int (46 : Int32)), .val (.int (0 : Int32)), .val (.int (1 : Int32)), .val (.int (46 : Int32)), .unset]) X0 hx (hb hby d18_2) rfl ?_
  refine own_iloadN X0 hx (hb hby d18_4) rfl ?_
  refine own_istore (l' := #[.val (.ref b), .val (.int (46 : Int32)), .val (.int (0 : Int32)), .val (.int (1 : Int32)), .val (.int (46 : Int32)), .val (.int (0 : Int32))]) X0 hx (hb hby d18_5) rfl ?_
  refine own_iload X0 hx (hb hby d18_7) rfl ?_
  refine own_iloadN X0 hx (hb hby d18_9) rfl ?_
  refine own_icmpNo X0 hx (hb hby d18_10) (tlt (by decide : (0 : Int32) < (1 : Int32))).2.1 ?_
  refine own_aloadN X0 hx (hb hby d18_13) rfl rfl ?_
  refine own_iload X0 hx (hb hby d18_14) rfl ?_
  refine own_baload X0 hx hZ (.int (46 : Int32)) e0 Vb ⟨by decide, by decide⟩ rfl (hb hby d18_16) ?_
  refine own_iload X0 hx (hb hby d18_17) rfl ?_
  refine own_icmpNo X0 hx (hb hby d18_19) (teq (by decide : (46 : Int32) = (46 : Int32))).2 ?_
  refine own_iload X0 hx (hb hby d18_22) rfl ?_
  refine own_retI X0 hx hlk hret (hb hby d18_24) (own_kN (by decide) (by decide) ?_)
  try rw [e0]
  exact ⟨rfl, N0, rfl⟩
set_option maxRecDepth 65536 in
set_option maxHeartbeats 40000000 in
theorem rmL1_1 (l : Launch) (Z : State) (a0 : Array Value) (hw : ∀ d ∈ tables_1, d.before a0 Z = true) (ws : List Jvm.Cond) (b : Addr) (r : Int32)  (h0 : Heap) (n0 : Nat) (Z0 : n0 ≤ h0.size) (A : own_Aln Z h0 b .byte (1 : Int32)) (hIC : own_Met l (⟨"java/lang/StringLatin1", "indexOfChar", "([BIII)I"⟩ : MethodName) jdk_43_method_23_code 6 (some .int) [] ({ frames := 0, cells := 0, slots := 0, locals := 0 } : Room) Z #[(.ref b), (.int (46 : Int32)), (.int (0 : Int32)), (.int (1 : Int32))] h0 (fun v h L => v = some (.int r) ∧ Fr n0 L ∧ h = h0)) :
    own_Met l (⟨"java/lang/StringLatin1", "indexOf", "([BIII)I"⟩ : MethodName) jdk_43_method_22_code 4 (some .int) ws ({ frames := 1, cells := 0, slots := 0, locals := 17 } : Room) Z #[(.ref b), (.int (46 : Int32)), (.int (0 : Int32)), (.int (1 : Int32))] h0 (fun v h L => v = some (.int r) ∧ Fr n0 L ∧ h = h0) := by
  refine own_body (plainFor_of_name pn_3) ?_
  intro p e s m below meth c s₁ X0 hx hby hml hown hnm hret hlk hZ e0
  replace hown : s.vm.findClass "java/lang/StringLatin1" = some m.cls := hown
  replace hml : c.maxLocals = 4 := hml
  replace hret : meth.sig.returnType = (some .int) := hret
  have N0 := Fr.nil n0
  have ef : entryFrame m #[(.ref b), (.int (46 : Int32)), (.int (0 : Int32)), (.int (1 : Int32))] 4 = mkF m 0 #[.val (.ref b), .val (.int (46 : Int32)), .val (.int (0 : Int32)), .val (.int (1 : Int32))] [] := by first | (simp [entryFrame, mkF, argsToLocals, Value.category]; done) | rfl
  refine own_step (S' := (s₁.setTop (mkF m 0 #[.val (.ref b), .val (.int (46 : Int32)), .val (.int (0 : Int32)), .val (.int (1 : Int32))] []))) (fun _ k => castTop ef k) ?_
  refine own_iloadN X0 hx (hb hby d11_0) rfl ?_
  refine own_cStat (W := 0) (rest := []) X0 hx hZ [(.int (46 : Int32))] hown (hw _ (List.mem_of_getElem? (i := 61) rfl)) (hw _ (List.mem_of_getElem? (i := 62) rfl)) (by decide) (hw _ (List.mem_of_getElem? (i := 63) rfl)) (hw _ (List.mem_of_getElem? (i := 59) rfl)) e0 (rmCE l Z a0 hw [] h0 n0 Z0) (by rw [hml]; rfl) (lenOf pd_5 rfl) rfl (Nat.le_of_eq rfl) (hb hby d11_1) (by decide) (by decide) (by decide) (by decide) fun v79 T79 L79 X79 hQ79 => ?_
  obtain ⟨rfl, N79q, e79⟩ := hQ79
  have N79 := Fr.app N0 N79q
  show own_At p e below _ T79 m 4 _ [(.int (1 : Int32))]
  refine own_ifYes X79 hx 9 (hb hby d11_4) (feq (by decide : ¬ ((1 : Int32) = (0 : Int32)))).2 (by decide) (by decide) ?_
  refine own_iloadN X79 hx (hb hby d11_9) rfl ?_
  refine own_iconst X79 hx (0 : Int32) (hb hby d11_10) rfl ?_
  refine own_cStat (W := 0) (rest := []) X79 hx hZ [(.int (0 : Int32)), (.int (0 : Int32))] hown (hw _ (List.mem_of_getElem? (i := 64) rfl)) (hw _ (List.mem_of_getElem? (i := 65) rfl)) (by decide) (hw _ (List.mem_of_getElem? (i := 67) rfl)) (hw _ (List.mem_of_getElem? (i := 66) rfl)) e79 (rmMax l Z a0 hw [] h0 n0 Z0) (by rw [hml]; rfl) (lenOf pd_6 rfl) rfl (Nat.le_of_eq rfl) (hb hby d11_11) (by decide) (by decide) (by decide) (by decide) fun v80 T80 L80 X80 hQ80 => ?_
  obtain ⟨rfl, N80q, e80⟩ := hQ80
  have N80 := Fr.app N79 N80q
  show own_At p e below _ T80 m 14 _ [(.int (0 : Int32))]
  refine own_istoreN (l' := #[.val (.ref b), .val (.int (46 : Int32)), .val (.int (0 : Int32)), .val (.int (1 : Int32))]) X80 hx (hb hby d11_14) rfl ?_
  refine own_iloadN X80 hx (hb hby d11_15) rfl ?_
  refine own_aloadN X80 hx (hb hby d11_16) rfl rfl ?_
  refine own_arraylength X80 hx hZ e80 A (hb hby d11_17) ?_
  refine own_cStat (W := 0) (rest := []) X80 hx hZ [(.int (1 : Int32)), (.int (1 : Int32))] hown (hw _ (List.mem_of_getElem? (i := 68) rfl)) (hw _ (List.mem_of_getElem? (i := 69) rfl)) (by decide) (hw _ (List.mem_of_getElem? (i := 70) rfl)) (hw _ (List.mem_of_getElem? (i := 66) rfl)) e80 (rmMin_1 l Z a0 hw [] h0 n0 Z0) (by rw [hml]; rfl) (lenOf pd_6 rfl) rfl (Nat.le_of_eq rfl) (hb hby d11_18) (by decide) (by decide) (by decide) (by decide) fun v81 T81 L81 X81 hQ81 => ?_
  obtain ⟨rfl, N81q, e81⟩ := hQ81
  have N81 := Fr.app N80 N81q
  show own_At p e below _ T81 m 21 _ [(.int (1 : Int32))]
  refine own_istoreN (l' := #[.val (.ref b), .val (.int (46 : Int32)), .val (.int (0 : Int32)), .val (.int (1 : Int32))]) X81 hx (hb hby d11_21) rfl ?_
  refine own_iloadN X81 hx (hb hby d11_22) rfl ?_
  refine own_iloadN X81 hx (hb hby d11_23) rfl ?_
  refine own_icmpYes X81 hx 29 (hb hby d11_24) (tlt (by decide : (0 : Int32) < (1 : Int32))).1 (by decide) (by decide) ?_
  refine own_aloadN X81 hx (hb hby d11_29) rfl rfl ?_
  refine own_iloadN X81 hx (hb hby d11_30) rfl ?_
  refine own_iloadN X81 hx (hb hby d11_31) rfl ?_
  refine own_iloadN X81 hx (hb hby d11_32) rfl ?_
  refine own_cStat (W := 0) (rest := []) X81 hx hZ [(.ref b), (.int (46 : Int32)), (.int (0 : Int32)), (.int (1 : Int32))] hown (hw _ (List.mem_of_getElem? (i := 81) rfl)) (hw _ (List.mem_of_getElem? (i := 82) rfl)) (by decide) (hw _ (List.mem_of_getElem? (i := 83) rfl)) (hw _ (List.mem_of_getElem? (i := 59) rfl)) e81 (hIC) (by rw [hml]; rfl) (lenOf pd_9 rfl) rfl (Nat.le_of_eq rfl) (hb hby d11_33) (by decide) (by decide) (by decide) (by decide) fun v82 T82 L82 X82 hQ82 => ?_
  obtain ⟨rfl, N82q, e82⟩ := hQ82
  have N82 := Fr.app N81 N82q
  show own_At p e below _ T82 m 36 _ [(.int r)]
  refine own_retI X82 hx hlk hret (hb hby d11_36) (own_kN (by decide) (by decide) ?_)
  try rw [e82]
  exact ⟨rfl, N82, rfl⟩
set_option maxRecDepth 65536 in
set_option maxHeartbeats 40000000 in
theorem rmX2_1 (l : Launch) (Z : State) (a0 : Array Value) (hw : ∀ d ∈ tables_1, d.before a0 Z = true) (ws : List Jvm.Cond) (a b : Addr) (cs : Int32) (r : Int32)  (h0 : Heap) (n0 : Nat) (Z0 : n0 ≤ h0.size) (Sc : Sta Z h0 "java/lang/String" "COMPACT_STRINGS" "Z" (.int cs)) (hcs : ¬ (cs = (0 : Int32))) (Ea : Exa Z h0 a "java/lang/String") (Fv : Fld Z h0 a "java/lang/String" "value" "[B" (.ref b)) (Fc : Fld Z h0 a "java/lang/String" "coder" "B" (.int (0 : Int32))) (A : own_Aln Z h0 b .byte (1 : Int32)) (hIC : own_Met l (⟨"java/lang/StringLatin1", "indexOfChar", "([BIII)I"⟩ : MethodName) jdk_43_method_23_code 6 (some .int) [] ({ frames := 0, cells := 0, slots := 0, locals := 0 } : Room) Z #[(.ref b), (.int (46 : Int32)), (.int (0 : Int32)), (.int (1 : Int32))] h0 (fun v h L => v = some (.int r) ∧ Fr n0 L ∧ h = h0)) :
    own_Met l (⟨"java/lang/String", "indexOf", "(II)I"⟩ : MethodName) jdk_42_method_80_code 3 (some .int) ws ({ frames := 2, cells := 0, slots := 0, locals := 32 } : Room) Z #[(.ref a), (.int (46 : Int32)), (.int (0 : Int32))] h0 (fun v h L => v = some (.int r) ∧ Fr n0 L ∧ h = h0) := by
  refine own_body (plainFor_of_name pn_2) ?_
  intro p e s m below meth c s₁ X0 hx hby hml hown hnm hret hlk hZ e0
  replace hown : s.vm.findClass "java/lang/String" = some m.cls := hown
  replace hml : c.maxLocals = 3 := hml
  replace hret : meth.sig.returnType = (some .int) := hret
  have N0 := Fr.nil n0
  have ef : entryFrame m #[(.ref a), (.int (46 : Int32)), (.int (0 : Int32))] 3 = mkF m 0 #[.val (.ref a), .val (.int (46 : Int32)), .val (.int (0 : Int32))] [] := by first | (simp [entryFrame, mkF, argsToLocals, Value.category]; done) | rfl
  refine own_step (S' := (s₁.setTop (mkF m 0 #[.val (.ref a), .val (.int (46 : Int32)), .val (.int (0 : Int32))] []))) (fun _ k => castTop ef k) ?_
  refine own_aloadN X0 hx (hb hby d7_0) rfl rfl ?_
  refine own_cVirt (W := 0) (rest := []) X0 hx hZ [] hown (hw _ (List.mem_of_getElem? (i := 41) rfl)) (hw _ (List.mem_of_getElem? (i := 42) rfl)) (notFace_of_selects (args := #[]) (mvT hZ (hw _ (List.mem_of_getElem? (i := 44) rfl)))) (hw _ (List.mem_of_getElem? (i := 44) rfl)) (hw _ (List.mem_of_getElem? (i := 43) rfl)) (by decide) (hw _ (List.mem_of_getElem? (i := 45) rfl)) (hw _ (List.mem_of_getElem? (i := 8) rfl)) e0 Ea (rmL l Z a0 hw [] a cs h0 n0 Z0 Sc hcs Fc) (by rw [hml]; rfl) (lenOf pd_7 rfl) rfl (Nat.le_of_eq rfl) (hb hby d7_1) (by decide) (by decide) (by decide) (by decide) fun v83 T83 L83 X83 hQ83 => ?_
  obtain ⟨rfl, N83q, e83⟩ := hQ83
  have N83 := Fr.app N0 N83q
  show own_At p e below _ T83 m 4 _ [(.int (1 : Int32))]
  refine own_ifNo X83 hx (hb hby d7_4) (feq (by decide : ¬ ((1 : Int32) = (0 : Int32)))).1 ?_
  refine own_aloadN X83 hx (hb hby d7_7) rfl rfl ?_
  refine own_getF X83 hx hZ hown (host := "") (Or.inl (hw _ (List.mem_of_getElem? (i := 25) rfl))) Via.refl e83 Fv (hb hby d7_8) fun T84 X84 e84 => ?_
  refine own_iloadN X84 hx (hb hby d7_11) rfl ?_
  refine own_iloadN X84 hx (hb hby d7_12) rfl ?_
  refine own_aloadN X84 hx (hb hby d7_13) rfl rfl ?_
  refine own_cVirt (W := 3) (rest := [(.int (0 : Int32)), (.int (46 : Int32)), (.ref b)]) X84 hx hZ [] hown (hw _ (List.mem_of_getElem? (i := 47) rfl)) (hw _ (List.mem_of_getElem? (i := 48) rfl)) (notFace_of_selects (args := #[]) (mvT hZ (hw _ (List.mem_of_getElem? (i := 50) rfl)))) (hw _ (List.mem_of_getElem? (i := 50) rfl)) (hw _ (List.mem_of_getElem? (i := 49) rfl)) (by decide) (hw _ (List.mem_of_getElem? (i := 51) rfl)) (hw _ (List.mem_of_getElem? (i := 8) rfl)) e84 Ea (rmLen_1 l Z a0 hw [] a b cs h0 n0 Z0 Sc hcs Ea Fv Fc A) (by rw [hml]; rfl) (lenOf pd_8 rfl) rfl (Nat.le_of_eq rfl) (hb hby d7_14) (by decide) (by decide) (by decide) (by decide) fun v85 T85 L85 X85 hQ85 => ?_
  obtain ⟨rfl, N85q, e85⟩ := hQ85
  have N85 := Fr.app N83 N85q
  show own_At p e below _ T85 m 17 _ [(.int (1 : Int32)), (.int (0 : Int32)), (.int (46 : Int32)), (.ref b)]
  refine own_cStat (W := 0) (rest := []) X85 hx hZ [(.ref b), (.int (46 : Int32)), (.int (0 : Int32)), (.int (1 : Int32))] hown (hw _ (List.mem_of_getElem? (i := 57) rfl)) (hw _ (List.mem_of_getElem? (i := 58) rfl)) (by decide) (hw _ (List.mem_of_getElem? (i := 60) rfl)) (hw _ (List.mem_of_getElem? (i := 59) rfl)) e85 (rmL1_1 l Z a0 hw [] b r h0 n0 Z0 A hIC) (by rw [hml]; rfl) (lenOf pd_9 rfl) rfl (Nat.le_of_eq rfl) (hb hby d7_17) (by decide) (by decide) (by decide) (by decide) fun v86 T86 L86 X86 hQ86 => ?_
  obtain ⟨rfl, N86q, e86⟩ := hQ86
  have N86 := Fr.app N85 N86q
  show own_At p e below _ T86 m 20 _ [(.int r)]
  refine own_goto X86 hx 36 (hb hby d7_20) (by decide) (by decide) ?_
  refine own_retI X86 hx hlk hret (hb hby d7_36) (own_kN (by decide) (by decide) ?_)
  try rw [e86]
  exact ⟨rfl, N86, rfl⟩
set_option maxRecDepth 65536 in
set_option maxHeartbeats 40000000 in
theorem rmX1_1 (l : Launch) (Z : State) (a0 : Array Value) (hw : ∀ d ∈ tables_1, d.before a0 Z = true) (ws : List Jvm.Cond) (a b : Addr) (cs : Int32) (r : Int32)  (h0 : Heap) (n0 : Nat) (Z0 : n0 ≤ h0.size) (Sc : Sta Z h0 "java/lang/String" "COMPACT_STRINGS" "Z" (.int cs)) (hcs : ¬ (cs = (0 : Int32))) (Ea : Exa Z h0 a "java/lang/String") (Fv : Fld Z h0 a "java/lang/String" "value" "[B" (.ref b)) (Fc : Fld Z h0 a "java/lang/String" "coder" "B" (.int (0 : Int32))) (A : own_Aln Z h0 b .byte (1 : Int32)) (hIC : own_Met l (⟨"java/lang/StringLatin1", "indexOfChar", "([BIII)I"⟩ : MethodName) jdk_43_method_23_code 6 (some .int) [] ({ frames := 0, cells := 0, slots := 0, locals := 0 } : Room) Z #[(.ref b), (.int (46 : Int32)), (.int (0 : Int32)), (.int (1 : Int32))] h0 (fun v h L => v = some (.int r) ∧ Fr n0 L ∧ h = h0)) :
    own_Met l (⟨"java/lang/String", "indexOf", "(I)I"⟩ : MethodName) jdk_42_method_79_code 2 (some .int) ws ({ frames := 3, cells := 0, slots := 0, locals := 46 } : Room) Z #[(.ref a), (.int (46 : Int32))] h0 (fun v h L => v = some (.int r) ∧ Fr n0 L ∧ h = h0) := by
  refine own_body (plainFor_of_name pn_2) ?_
  intro p e s m below meth c s₁ X0 hx hby hml hown hnm hret hlk hZ e0
  replace hown : s.vm.findClass "java/lang/String" = some m.cls := hown
  replace hml : c.maxLocals = 2 := hml
  replace hret : meth.sig.returnType = (some .int) := hret
  have N0 := Fr.nil n0
  have ef : entryFrame m #[(.ref a), (.int (46 : Int32))] 2 = mkF m 0 #[.val (.ref a), .val (.int (46 : Int32))] [] := by first | (simp [entryFrame, mkF, argsToLocals, Value.category]; done) | rfl
  refine own_step (S' := (s₁.setTop (mkF m 0 #[.val (.ref a), .val (.int (46 : Int32))] []))) (fun _ k => castTop ef k) ?_
  refine own_aloadN X0 hx (hb hby d6_0) rfl rfl ?_
  refine own_iloadN X0 hx (hb hby d6_1) rfl ?_
  refine own_iconst X0 hx (0 : Int32) (hb hby d6_2) rfl ?_
  refine own_cVirt (W := 0) (rest := []) X0 hx hZ [(.int (46 : Int32)), (.int (0 : Int32))] hown (hw _ (List.mem_of_getElem? (i := 36) rfl)) (hw _ (List.mem_of_getElem? (i := 37) rfl)) (notFace_of_selects (args := #[]) (mvT hZ (hw _ (List.mem_of_getElem? (i := 39) rfl)))) (hw _ (List.mem_of_getElem? (i := 39) rfl)) (hw _ (List.mem_of_getElem? (i := 38) rfl)) (by decide) (hw _ (List.mem_of_getElem? (i := 40) rfl)) (hw _ (List.mem_of_getElem? (i := 8) rfl)) e0 Ea (rmX2_1 l Z a0 hw [] a b cs r h0 n0 Z0 Sc hcs Ea Fv Fc A hIC) (by rw [hml]; rfl) (lenOf pd_6 rfl) rfl (Nat.le_of_eq rfl) (hb hby d6_3) (by decide) (by decide) (by decide) (by decide) fun v87 T87 L87 X87 hQ87 => ?_
  obtain ⟨rfl, N87q, e87⟩ := hQ87
  have N87 := Fr.app N0 N87q
  show own_At p e below _ T87 m 6 _ [(.int r)]
  refine own_retI X87 hx hlk hret (hb hby d6_6) (own_kN (by decide) (by decide) ?_)
  try rw [e87]
  exact ⟨rfl, N87, rfl⟩
set_option maxRecDepth 65536 in
set_option maxHeartbeats 40000000 in
theorem rmSL_1_1 (l : Launch) (Z : State) (a0 : Array Value) (hw : ∀ d ∈ tables_1, d.before a0 Z = true) (ws : List Jvm.Cond) (a b : Addr) (cs : Int32) (r : Int32)  (h0 : Heap) (n0 : Nat) (Z0 : n0 ≤ h0.size) (Sc : Sta Z h0 "java/lang/String" "COMPACT_STRINGS" "Z" (.int cs)) (hcs : ¬ (cs = (0 : Int32))) (Ea : Exa Z h0 a "java/lang/String") (Fv : Fld Z h0 a "java/lang/String" "value" "[B" (.ref b)) (Fc : Fld Z h0 a "java/lang/String" "coder" "B" (.int (0 : Int32))) (A : own_Aln Z h0 b .byte (1 : Int32)) (hIC : own_Met l (⟨"java/lang/StringLatin1", "indexOfChar", "([BIII)I"⟩ : MethodName) jdk_43_method_23_code 6 (some .int) [] ({ frames := 0, cells := 0, slots := 0, locals := 0 } : Room) Z #[(.ref b), (.int (46 : Int32)), (.int (0 : Int32)), (.int (1 : Int32))] h0 (fun v h L => v = some (.int r) ∧ Fr n0 L ∧ h = h0)) (hr : r < (0 : Int32)) :
    own_Met l (⟨"com/example/ratatoskr/ratatoskr/DomainName", "isSingleLabel", "(Ljava/lang/String;)Z"⟩ : MethodName) prog_9_method_3_code 1 (some .boolean) ws ({ frames := 4, cells := 0, slots := 0, locals := 59 } : Room) Z #[(.ref a)] h0 (fun v h L => v = some (.int (1 : Int32)) ∧ Fr n0 L ∧ h = h0) := by
  refine own_body (plainFor_of_name pn_4) ?_
  intro p e s m below meth c s₁ X0 hx hby hml hown hnm hret hlk hZ e0
  replace hown : s.vm.findClass "com/example/ratatoskr/ratatoskr/DomainName" = some m.cls := hown
  replace hml : c.maxLocals = 1 := hml
  replace hret : meth.sig.returnType = (some .boolean) := hret
  have N0 := Fr.nil n0
  have ef : entryFrame m #[(.ref a)] 1 = mkF m 0 #[.val (.ref a)] [] := by first | (simp [entryFrame, mkF, argsToLocals, Value.category]; done) | rfl
  refine own_step (S' := (s₁.setTop (mkF m 0 #[.val (.ref a)] []))) (fun _ k => castTop ef k) ?_
  refine own_aloadN X0 hx (hb hby d5_0) rfl rfl ?_
  refine own_bipush X0 hx (46 : Int32) (hb hby d5_1) rfl ?_
  refine own_cVirt (W := 0) (rest := []) X0 hx hZ [(.int (46 : Int32))] hown (hw _ (List.mem_of_getElem? (i := 31) rfl)) (hw _ (List.mem_of_getElem? (i := 32) rfl)) (notFace_of_selects (args := #[]) (mvT hZ (hw _ (List.mem_of_getElem? (i := 34) rfl)))) (hw _ (List.mem_of_getElem? (i := 34) rfl)) (hw _ (List.mem_of_getElem? (i := 33) rfl)) (by decide) (hw _ (List.mem_of_getElem? (i := 35) rfl)) (hw _ (List.mem_of_getElem? (i := 8) rfl)) e0 Ea (rmX1_1 l Z a0 hw [] a b cs r h0 n0 Z0 Sc hcs Ea Fv Fc A hIC) (by rw [hml]; rfl) (lenOf pd_10 rfl) rfl (Nat.le_of_eq rfl) (hb hby d5_3) (by decide) (by decide) (by decide) (by decide) fun v88 T88 L88 X88 hQ88 => ?_
  obtain ⟨rfl, N88q, e88⟩ := hQ88
  have N88 := Fr.app N0 N88q
  show own_At p e below _ T88 m 6 _ [(.int r)]
  refine own_ifNo X88 hx (hb hby d5_6) (tlt hr).2.1 ?_
  refine own_iconst X88 hx (1 : Int32) (hb hby d5_9) rfl ?_
  refine own_goto X88 hx 14 (hb hby d5_10) (by decide) (by decide) ?_
  refine own_retN X88 hx hlk hret (by simp) (by decide) (hb hby d5_14) (own_kN (by decide) (by decide) ?_)
  try rw [e88]
  exact ⟨rfl, N88, rfl⟩
set_option maxRecDepth 65536 in
set_option maxHeartbeats 40000000 in
theorem rmSL_1_0 (l : Launch) (Z : State) (a0 : Array Value) (hw : ∀ d ∈ tables_1, d.before a0 Z = true) (ws : List Jvm.Cond) (a b : Addr) (cs : Int32) (r : Int32)  (h0 : Heap) (n0 : Nat) (Z0 : n0 ≤ h0.size) (Sc : Sta Z h0 "java/lang/String" "COMPACT_STRINGS" "Z" (.int cs)) (hcs : ¬ (cs = (0 : Int32))) (Ea : Exa Z h0 a "java/lang/String") (Fv : Fld Z h0 a "java/lang/String" "value" "[B" (.ref b)) (Fc : Fld Z h0 a "java/lang/String" "coder" "B" (.int (0 : Int32))) (A : own_Aln Z h0 b .byte (1 : Int32)) (hIC : own_Met l (⟨"java/lang/StringLatin1", "indexOfChar", "([BIII)I"⟩ : MethodName) jdk_43_method_23_code 6 (some .int) [] ({ frames := 0, cells := 0, slots := 0, locals := 0 } : Room) Z #[(.ref b), (.int (46 : Int32)), (.int (0 : Int32)), (.int (1 : Int32))] h0 (fun v h L => v = some (.int r) ∧ Fr n0 L ∧ h = h0)) (hr : ¬ (r < (0 : Int32))) :
    own_Met l (⟨"com/example/ratatoskr/ratatoskr/DomainName", "isSingleLabel", "(Ljava/lang/String;)Z"⟩ : MethodName) prog_9_method_3_code 1 (some .boolean) ws ({ frames := 4, cells := 0, slots := 0, locals := 59 } : Room) Z #[(.ref a)] h0 (fun v h L => v = some (.int (0 : Int32)) ∧ Fr n0 L ∧ h = h0) := by
  refine own_body (plainFor_of_name pn_4) ?_
  intro p e s m below meth c s₁ X0 hx hby hml hown hnm hret hlk hZ e0
  replace hown : s.vm.findClass "com/example/ratatoskr/ratatoskr/DomainName" = some m.cls := hown
  replace hml : c.maxLocals = 1 := hml
  replace hret : meth.sig.returnType = (some .boolean) := hret
  have N0 := Fr.nil n0
  have ef : entryFrame m #[(.ref a)] 1 = mkF m 0 #[.val (.ref a)] [] := by first | (simp [entryFrame, mkF, argsToLocals, Value.category]; done) | rfl
  refine own_step (S' := (s₁.setTop (mkF m 0 #[.val (.ref a)] []))) (fun _ k => castTop ef k) ?_
  refine own_aloadN X0 hx (hb hby d5_0) rfl rfl ?_
  refine own_bipush X0 hx (46 : Int32) (hb hby d5_1) rfl ?_
  refine own_cVirt (W := 0) (rest := []) X0 hx hZ [(.int (46 : Int32))] hown (hw _ (List.mem_of_getElem? (i := 31) rfl)) (hw _ (List.mem_of_getElem? (i := 32) rfl)) (notFace_of_selects (args := #[]) (mvT hZ (hw _ (List.mem_of_getElem? (i := 34) rfl)))) (hw _ (List.mem_of_getElem? (i := 34) rfl)) (hw _ (List.mem_of_getElem? (i := 33) rfl)) (by decide) (hw _ (List.mem_of_getElem? (i := 35) rfl)) (hw _ (List.mem_of_getElem? (i := 8) rfl)) e0 Ea (rmX1_1 l Z a0 hw [] a b cs r h0 n0 Z0 Sc hcs Ea Fv Fc A hIC) (by rw [hml]; rfl) (lenOf pd_10 rfl) rfl (Nat.le_of_eq rfl) (hb hby d5_3) (by decide) (by decide) (by decide) (by decide) fun v89 T89 L89 X89 hQ89 => ?_
  obtain ⟨rfl, N89q, e89⟩ := hQ89
  have N89 := Fr.app N0 N89q
  show own_At p e below _ T89 m 6 _ [(.int r)]
  refine own_ifYes X89 hx 13 (hb hby d5_6) (flt hr).2.1 (by decide) (by decide) ?_
  refine own_iconst X89 hx (0 : Int32) (hb hby d5_13) rfl ?_
  refine own_retN X89 hx hlk hret (by simp) (by decide) (hb hby d5_14) (own_kN (by decide) (by decide) ?_)
  try rw [e89]
  exact ⟨rfl, N89, rfl⟩
set_option maxRecDepth 65536 in
set_option maxHeartbeats 40000000 in
theorem rmMin_2 (l : Launch) (Z : State) (a0 : Array Value) (hw : ∀ d ∈ tables_1, d.before a0 Z = true) (ws : List Jvm.Cond)   (h0 : Heap) (n0 : Nat) (Z0 : n0 ≤ h0.size) :
    own_Met l (⟨"java/lang/Math", "min", "(II)I"⟩ : MethodName) jdk_29_method_69_code 2 (some .int) ws ({ frames := 0, cells := 0, slots := 0, locals := 0 } : Room) Z #[(.int (2 : Int32)), (.int (2 : Int32))] h0 (fun v h L => v = some (.int (2 : Int32)) ∧ Fr n0 L ∧ h = h0) := by
  refine own_body (Jvm.Free.JP.mathPlain rfl (by decide +kernel)) ?_
  intro p e s m below meth c s₁ X0 hx hby hml hown hnm hret hlk hZ e0
  replace hown : s.vm.findClass "java/lang/Math" = some m.cls := hown
  replace hml : c.maxLocals = 2 := hml
  replace hret : meth.sig.returnType = (some .int) := hret
  have N0 := Fr.nil n0
  have ef : entryFrame m #[(.int (2 : Int32)), (.int (2 : Int32))] 2 = mkF m 0 #[.val (.int (2 : Int32)), .val (.int (2 : Int32))] [] := by first | (simp [entryFrame, mkF, argsToLocals, Value.category]; done) | rfl
  refine own_step (S' := (s₁.setTop (mkF m 0 #[.val (.int (2 : Int32)), .val (.int (2 : Int32))] []))) (fun _ k => castTop ef k) ?_
  refine own_iloadN X0 hx (hb hby d14_0) rfl ?_
  refine own_iloadN X0 hx (hb hby d14_1) rfl ?_
  refine own_icmpNo X0 hx (hb hby d14_2) (flt (by decide : ¬ ((2 : Int32) < (2 : Int32)))).2.2.1 ?_
  refine own_iloadN X0 hx (hb hby d14_5) rfl ?_
  refine own_goto X0 hx 10 (hb hby d14_6) (by decide) (by decide) ?_
  refine own_retI X0 hx hlk hret (hb hby d14_10) (own_kN (by decide) (by decide) ?_)
  try rw [e0]
  exact ⟨rfl, N0, rfl⟩
set_option maxRecDepth 65536 in
set_option maxHeartbeats 40000000 in
theorem rmIC_2_n (l : Launch) (Z : State) (a0 : Array Value) (hw : ∀ d ∈ tables_1, d.before a0 Z = true) (ws : List Jvm.Cond) (b : Addr) (kb : ClassId) (c0 c1 : Int32)  (h0 : Heap) (n0 : Nat) (Z0 : n0 ≤ h0.size) (Vb : Arv Z h0 b kb .byte (2 : Int32) [(.int (c0.toInt8.toInt32)), (.int (c1.toInt8.toInt32))] (.int (0 : Int32))) (hd0 : ¬ ((c0.toInt8.toInt32) = (46 : Int32))) (hd1 : ¬ ((c1.toInt8.toInt32) = (46 : Int32))) :
    own_Met l (⟨"java/lang/StringLatin1", "indexOfChar", "([BIII)I"⟩ : MethodName) jdk_43_method_23_code 6 (some .int) ws ({ frames := 0, cells := 0, slots := 0, locals := 0 } : Room) Z #[(.ref b), (.int (46 : Int32)), (.int (0 : Int32)), (.int (2 : Int32))] h0 (fun v h L => v = some (.int (-1 : Int32)) ∧ Fr n0 L ∧ h = h0) := by
  refine own_body (plainFor_of_name pn_3) ?_
  intro p e s m below meth c s₁ X0 hx hby hml hown hnm hret hlk hZ e0
  replace hown : s.vm.findClass "java/lang/StringLatin1" = some m.cls := hown
  replace hml : c.maxLocals = 6 := hml
  replace hret : meth.sig.returnType = (some .int) := hret
  have N0 := Fr.nil n0
  have ef : entryFrame m #[(.ref b), (.int (46 : Int32)), (.int (0 : Int32)), (.int (2 : Int32))] 6 = mkF m 0 #[.val (.ref b), .val (.int (46 : Int32)), .val (.int (0 : Int32)), .val (.int (2 : Int32)), .unset, .unset] [] := by first | (simp [entryFrame, mkF, argsToLocals, Value.category]; done) | rfl
  refine own_step (S' := (s₁.setTop (mkF m 0 #[.val (.ref b), .val (.int (46 : Int32)), .val (.int (0 : Int32)), .val (.int (2 : Int32)), .unset, .unset] []))) (fun _ k => castTop ef k) ?_
  refine own_iloadN X0 hx (hb hby d18_0) rfl ?_
  refine own_i2b X0 hx (hb hby d18_1) ?_
  rw [show ((46 : Int32).toInt8.toInt32) = (46 : Int32) from by decide]
  refine own_istore (l' := #[.val (.ref b), .val (.int (46 : Int32)), .val (.int (0 : Int32)), .val (.int (2 : Int32)), .val (.int (46 : Int32)), .unset]) X0 hx (hb hby d18_2) rfl ?_
  refine own_iloadN X0 hx (hb hby d18_4) rfl ?_
  refine own_istore (l' := #[.val (.ref b), .val (.int (46 : Int32)), .val (.int (0 : Int32)), .val (.int (2 : Int32)), .val (.int (46 : Int32)), .val (.int (0 : Int32))]) X0 hx (hb hby d18_5) rfl ?_
  refine own_iload X0 hx (hb hby d18_7) rfl ?_
  refine own_iloadN X0 hx (hb hby d18_9) rfl ?_
  refine own_icmpNo X0 hx (hb hby d18_10) (tlt (by decide : (0 : Int32) < (2 : Int32))).2.1 ?_
  refine own_aloadN X0 hx (hb hby d18_13) rfl rfl ?_
  refine own_iload X0 hx (hb hby d18_14) rfl ?_
  refine own_baload X0 hx hZ (.int (c0.toInt8.toInt32)) e0 Vb ⟨by decide, by decide⟩ rfl (hb hby d18_16) ?_
  refine own_iload X0 hx (hb hby d18_17) rfl ?_
  refine own_icmpYes X0 hx 25 (hb hby d18_19) (feq hd0).2 (by decide) (by decide) ?_
  refine own_iinc (l' := #[.val (.ref b), .val (.int (46 : Int32)), .val (.int (0 : Int32)), .val (.int (2 : Int32)), .val (.int (46 : Int32)), .val (.int ((0 : Int32) + (1 : Int32)))]) X0 hx (hb hby d18_25) rfl rfl ?_
  rw [show ((0 : Int32) + (1 : Int32)) = (1 : Int32) from by decide]
  refine own_goto X0 hx 7 (hb hby d18_28) (by decide) (by decide) ?_
  refine own_iload X0 hx (hb hby d18_7) rfl ?_
  refine own_iloadN X0 hx (hb hby d18_9) rfl ?_
  refine own_icmpNo X0 hx (hb hby d18_10) (tlt (by decide : (1 : Int32) < (2 : Int32))).2.1 ?_
  refine own_aloadN X0 hx (hb hby d18_13) rfl rfl ?_
  refine own_iload X0 hx (hb hby d18_14) rfl ?_
  refine own_baload X0 hx hZ (.int (c1.toInt8.toInt32)) e0 Vb ⟨by decide, by decide⟩ rfl (hb hby d18_16) ?_
  refine own_iload X0 hx (hb hby d18_17) rfl ?_
  refine own_icmpYes X0 hx 25 (hb hby d18_19) (feq hd1).2 (by decide) (by decide) ?_
  refine own_iinc (l' := #[.val (.ref b), .val (.int (46 : Int32)), .val (.int (0 : Int32)), .val (.int (2 : Int32)), .val (.int (46 : Int32)), .val (.int ((1 : Int32) + (1 : Int32)))]) X0 hx (hb hby d18_25) rfl rfl ?_
  rw [show ((1 : Int32) + (1 : Int32)) = (2 : Int32) from by decide]
  refine own_goto X0 hx 7 (hb hby d18_28) (by decide) (by decide) ?_
  refine own_iload X0 hx (hb hby d18_7) rfl ?_
  refine own_iloadN X0 hx (hb hby d18_9) rfl ?_
  refine own_icmpYes X0 hx 31 (hb hby d18_10) (flt (by decide : ¬ ((2 : Int32) < (2 : Int32)))).2.1 (by decide) (by decide) ?_
  refine own_iconst X0 hx (-1 : Int32) (hb hby d18_31) rfl ?_
  refine own_retI X0 hx hlk hret (hb hby d18_32) (own_kN (by decide) (by decide) ?_)
  try rw [e0]
  exact ⟨rfl, N0, rfl⟩
set_option maxRecDepth 65536 in
set_option maxHeartbeats 40000000 in
theorem rmIC_2_0 (l : Launch) (Z : State) (a0 : Array Value) (hw : ∀ d ∈ tables_1, d.before a0 Z = true) (ws : List Jvm.Cond) (b : Addr) (kb : ClassId) (c0 c1 : Int32)  (h0 : Heap) (n0 : Nat) (Z0 : n0 ≤ h0.size) (Vb : Arv Z h0 b kb .byte (2 : Int32) [(.int (46 : Int32)), (.int (c1.toInt8.toInt32))] (.int (0 : Int32))) :
    own_Met l (⟨"java/lang/StringLatin1", "indexOfChar", "([BIII)I"⟩ : MethodName) jdk_43_method_23_code 6 (some .int) ws ({ frames := 0, cells := 0, slots := 0, locals := 0 } : Room) Z #[(.ref b), (.int (46 : Int32)), (.int (0 : Int32)), (.int (2 : Int32))] h0 (fun v h L => v = some (.int (0 : Int32)) ∧ Fr n0 L ∧ h = h0) := by
  refine own_body (plainFor_of_name pn_3) ?_
  intro p e s m below meth c s₁ X0 hx hby hml hown hnm hret hlk hZ e0
  replace hown : s.vm.findClass "java/lang/StringLatin1" = some m.cls := hown
  replace hml : c.maxLocals = 6 := hml
  replace hret : meth.sig.returnType = (some .int) := hret
  have N0 := Fr.nil n0
  have ef : entryFrame m #[(.ref b), (.int (46 : Int32)), (.int (0 : Int32)), (.int (2 : Int32))] 6 = mkF m 0 #[.val (.ref b), .val (.int (46 : Int32)), .val (.int (0 : Int32)), .val (.int (2 : Int32)), .unset, .unset] [] := by first | (simp [entryFrame, mkF, argsToLocals, Value.category]; done) | rfl
  refine own_step (S' := (s₁.setTop (mkF m 0 #[.val (.ref b), .val (.int (46 : Int32)), .val (.int (0 : Int32)), .val (.int (2 : Int32)), .unset, .unset] []))) (fun _ k => castTop ef k) ?_
  refine own_iloadN X0 hx (hb hby d18_0) rfl ?_
  refine own_i2b X0 hx (hb hby d18_1) ?_
  rw [show ((46 : Int32).toInt8.toInt32) = (46 : Int32) from by decide]
  refine own_istore (l' := #[.val (.ref b), .val (.int (46 : Int32)), .val (.int (0 : Int32)), .val (.int (2 : Int32)), .val (.int (46 : Int32)), .unset]) X0 hx (hb hby d18_2) rfl ?_
  refine own_iloadN X0 hx (hb hby d18_4) rfl ?_
  refine own_istore (l' := #[.val (.ref b), .val (.int (46 : Int32)), .val (.int (0 : Int32)), .val (.int (2 : Int32)), .val (.int (46 : Int32)), .val (.int (0 : Int32))]) X0 hx (hb hby d18_5) rfl ?_
  refine own_iload X0 hx (hb hby d18_7) rfl ?_
  refine own_iloadN X0 hx (hb hby d18_9) rfl ?_
  refine own_icmpNo X0 hx (hb hby d18_10) (tlt (by decide : (0 : Int32) < (2 : Int32))).2.1 ?_
  refine own_aloadN X0 hx (hb hby d18_13) rfl rfl ?_
  refine own_iload X0 hx (hb hby d18_14) rfl ?_
  refine own_baload X0 hx hZ (.int (46 : Int32)) e0 Vb ⟨by decide, by decide⟩ rfl (hb hby d18_16) ?_
  refine own_iload X0 hx (hb hby d18_17) rfl ?_
  refine own_icmpNo X0 hx (hb hby d18_19) (teq (by decide : (46 : Int32) = (46 : Int32))).2 ?_
  refine own_iload X0 hx (hb hby d18_22) rfl ?_
  refine own_retI X0 hx hlk hret (hb hby d18_24) (own_kN (by decide) (by decide) ?_)
  try rw [e0]
  exact ⟨rfl, N0, rfl⟩
set_option maxRecDepth 65536 in
set_option maxHeartbeats 40000000 in
theorem rmIC_2_1 (l : Launch) (Z : State) (a0 : Array Value) (hw : ∀ d ∈ tables_1, d.before a0 Z = true) (ws : List Jvm.Cond) (b : Addr) (kb : ClassId) (c0 c1 : Int32)  (h0 : Heap) (n0 : Nat) (Z0 : n0 ≤ h0.size) (Vb : Arv Z h0 b kb .byte (2 : Int32) [(.int (c0.toInt8.toInt32)), (.int (46 : Int32))] (.int (0 : Int32))) (hd0 : ¬ ((c0.toInt8.toInt32) = (46 : Int32))) :
    own_Met l (⟨"java/lang/StringLatin1", "indexOfChar", "([BIII)I"⟩ : MethodName) jdk_43_method_23_code 6 (some .int) ws ({ frames := 0, cells := 0, slots := 0, locals := 0 } : Room) Z #[(.ref b), (.int (46 : Int32)), (.int (0 : Int32)), (.int (2 : Int32))] h0 (fun v h L => v = some (.int (1 : Int32)) ∧ Fr n0 L ∧ h = h0) := by
  refine own_body (plainFor_of_name pn_3) ?_
  intro p e s m below meth c s₁ X0 hx hby hml hown hnm hret hlk hZ e0
  replace hown : s.vm.findClass "java/lang/StringLatin1" = some m.cls := hown
  replace hml : c.maxLocals = 6 := hml
  replace hret : meth.sig.returnType = (some .int) := hret
  have N0 := Fr.nil n0
  have ef : entryFrame m #[(.ref b), (.int (46 : Int32)), (.int (0 : Int32)), (.int (2 : Int32))] 6 = mkF m 0 #[.val (.ref b), .val (.int (46 : Int32)), .val (.int (0 : Int32)), .val (.int (2 : Int32)), .unset, .unset] [] := by first | (simp [entryFrame, mkF, argsToLocals, Value.category]; done) | rfl
  refine own_step (S' := (s₁.setTop (mkF m 0 #[.val (.ref b), .val (.int (46 : Int32)), .val (.int (0 : Int32)), .val (.int (2 : Int32)), .unset, .unset] []))) (fun _ k => castTop ef k) ?_
  refine own_iloadN X0 hx (hb hby d18_0) rfl ?_
  refine own_i2b X0 hx (hb hby d18_1) ?_
  rw [show ((46 : Int32).toInt8.toInt32) = (46 : Int32) from by decide]
  refine own_istore (l' := #[.val (.ref b), .val (.int (46 : Int32)), .val (.int (0 : Int32)), .val (.int (2 : Int32)), .val (.int (46 : Int32)), .unset]) X0 hx (hb hby d18_2) rfl ?_
  refine own_iloadN X0 hx (hb hby d18_4) rfl ?_
  refine own_istore (l' := #[.val (.ref b), .val (.int (46 : Int32)), .val (.int (0 : Int32)), .val (.int (2 : Int32)), .val (.int (46 : Int32)), .val (.int (0 : Int32))]) X0 hx (hb hby d18_5) rfl ?_
  refine own_iload X0 hx (hb hby d18_7) rfl ?_
  refine own_iloadN X0 hx (hb hby d18_9) rfl ?_
  refine own_icmpNo X0 hx (hb hby d18_10) (tlt (by decide : (0 : Int32) < (2 : Int32))).2.1 ?_
  refine own_aloadN X0 hx (hb hby d18_13) rfl rfl ?_
  refine own_iload X0 hx (hb hby d18_14) rfl ?_
  refine own_baload X0 hx hZ (.int (c0.toInt8.toInt32)) e0 Vb ⟨by decide, by decide⟩ rfl (hb hby d18_16) ?_
  refine own_iload X0 hx (hb hby d18_17) rfl ?_
  refine own_icmpYes X0 hx 25 (hb hby d18_19) (feq hd0).2 (by decide) (by decide) ?_
  refine own_iinc (l' := #[.val (.ref b), .val (.int (46 : Int32)), .val (.int (0 : Int32)), .val (.int (2 : Int32)), .val (.int (46 : Int32)), .val (.int ((0 : Int32) + (1 : Int32)))]) X0 hx (hb hby d18_25) rfl rfl ?_
  rw [show ((0 : Int32) + (1 : Int32)) = (1 : Int32) from by decide]
  refine own_goto X0 hx 7 (hb hby d18_28) (by decide) (by decide) ?_
  refine own_iload X0 hx (hb hby d18_7) rfl ?_
  refine own_iloadN X0 hx (hb hby d18_9) rfl ?_
  refine own_icmpNo X0 hx (hb hby d18_10) (tlt (by decide : (1 : Int32) < (2 : Int32))).2.1 ?_
  refine own_aloadN X0 hx (hb hby d18_13) rfl rfl ?_
  refine own_iload X0 hx (hb hby d18_14) rfl ?_
  refine own_baload X0 hx hZ (.int (46 : Int32)) e0 Vb ⟨by decide, by decide⟩ rfl (hb hby d18_16) ?_
  refine own_iload X0 hx (hb hby d18_17) rfl ?_
  refine own_icmpNo X0 hx (hb hby d18_19) (teq (by decide : (46 : Int32) = (46 : Int32))).2 ?_
  refine own_iload X0 hx (hb hby d18_22) rfl ?_
  refine own_retI X0 hx hlk hret (hb hby d18_24) (own_kN (by decide) (by decide) ?_)
  try rw [e0]
  exact ⟨rfl, N0, rfl⟩
set_option maxRecDepth 65536 in
set_option maxHeartbeats 40000000 in
theorem rmL1_2 (l : Launch) (Z : State) (a0 : Array Value) (hw : ∀ d ∈ tables_1, d.before a0 Z = true) (ws : List Jvm.Cond) (b : Addr) (r : Int32)  (h0 : Heap) (n0 : Nat) (Z0 : n0 ≤ h0.size) (A : own_Aln Z h0 b .byte (2 : Int32)) (hIC : own_Met l (⟨"java/lang/StringLatin1", "indexOfChar", "([BIII)I"⟩ : MethodName) jdk_43_method_23_code 6 (some .int) [] ({ frames := 0, cells := 0, slots := 0, locals := 0 } : Room) Z #[(.ref b), (.int (46 : Int32)), (.int (0 : Int32)), (.int (2 : Int32))] h0 (fun v h L => v = some (.int r) ∧ Fr n0 L ∧ h = h0)) :
    own_Met l (⟨"java/lang/StringLatin1", "indexOf", "([BIII)I"⟩ : MethodName) jdk_43_method_22_code 4 (some .int) ws ({ frames := 1, cells := 0, slots := 0, locals := 17 } : Room) Z #[(.ref b), (.int (46 : Int32)), (.int (0 : Int32)), (.int (2 : Int32))] h0 (fun v h L => v = some (.int r) ∧ Fr n0 L ∧ h = h0) := by
  refine own_body (plainFor_of_name pn_3) ?_
  intro p e s m below meth c s₁ X0 hx hby hml hown hnm hret hlk hZ e0
  replace hown : s.vm.findClass "java/lang/StringLatin1" = some m.cls := hown
  replace hml : c.maxLocals = 4 := hml
  replace hret : meth.sig.returnType = (some .int) := hret
  have N0 := Fr.nil n0
  have ef : entryFrame m #[(.ref b), (.int (46 : Int32)), (.int (0 : Int32)), (.int (2 : Int32))] 4 = mkF m 0 #[.val (.ref b), .val (.int (46 : Int32)), .val (.int (0 : Int32)), .val (.int (2 : Int32))] [] := by first | (simp [entryFrame, mkF, argsToLocals, Value.category]; done) | rfl
  refine own_step (S' := (s₁.setTop (mkF m 0 #[.val (.ref b), .val (.int (46 : Int32)), .val (.int (0 : Int32)), .val (.int (2 : Int32))] []))) (fun _ k => castTop ef k) ?_
  refine own_iloadN X0 hx (hb hby d11_0) rfl ?_
  refine own_cStat (W := 0) (rest := []) X0 hx hZ [(.int (46 : Int32))] hown (hw _ (List.mem_of_getElem? (i := 61) rfl)) (hw _ (List.mem_of_getElem? (i := 62) rfl)) (by decide) (hw _ (List.mem_of_getElem? (i := 63) rfl)) (hw _ (List.mem_of_getElem? (i := 59) rfl)) e0 (rmCE l Z a0 hw [] h0 n0 Z0) (by rw [hml]; rfl) (lenOf pd_5 rfl) rfl (Nat.le_of_eq rfl) (hb hby d11_1) (by decide) (by decide) (by decide) (by decide) fun v90 T90 L90 X90 hQ90 => ?_
  obtain ⟨rfl, N90q, e90⟩ := hQ90
  have N90 := Fr.app N0 N90q
  show own_At p e below _ T90 m 4 _ [(.int (1 : Int32))]
  refine own_ifYes X90 hx 9 (hb hby d11_4) (feq (by decide : ¬ ((1 : Int32) = (0 : Int32)))).2 (by decide) (by decide) ?_
  refine own_iloadN X90 hx (hb hby d11_9) rfl ?_
  refine own_iconst X90 hx (0 : Int32) (hb hby d11_10) rfl ?_
  refine own_cStat (W := 0) (rest := []) X90 hx hZ [(.int (0 : Int32)), (.int (0 : Int32))] hown (hw _ (List.mem_of_getElem? (i := 64) rfl)) (hw _ (List.mem_of_getElem? (i := 65) rfl)) (by decide) (hw _ (List.mem_of_getElem? (i := 67) rfl)) (hw _ (List.mem_of_getElem? (i := 66) rfl)) e90 (rmMax l Z a0 hw [] h0 n0 Z0) (by rw [hml]; rfl) (lenOf pd_6 rfl) rfl (Nat.le_of_eq rfl) (hb hby d11_11) (by decide) (by decide) (by decide) (by decide) fun v91 T91 L91 X91 hQ91 => ?_
  obtain ⟨rfl, N91q, e91⟩ := hQ91
  have N91 := Fr.app N90 N91q
  show own_At p e below _ T91 m 14 _ [(.int (0 : Int32))]
  refine own_istoreN (l' := #[.val (.ref b), .val (.int (46 : Int32)), .val (.int (0 : Int32)), .val (.int (2 : Int32))]) X91 hx (hb hby d11_14) rfl ?_
  refine own_iloadN X91 hx (hb hby d11_15) rfl ?_
  refine own_aloadN X91 hx (hb hby d11_16) rfl rfl ?_
  refine own_arraylength X91 hx hZ e91 A (hb hby d11_17) ?_
  refine own_cStat (W := 0) (rest := []) X91 hx hZ [(.int (2 : Int32)), (.int (2 : Int32))] hown (hw _ (List.mem_of_getElem? (i := 68) rfl)) (hw _ (List.mem_of_getElem? (i := 69) rfl)) (by decide) (hw _ (List.mem_of_getElem? (i := 70) rfl)) (hw _ (List.mem_of_getElem? (i := 66) rfl)) e91 (rmMin_2 l Z a0 hw [] h0 n0 Z0) (by rw [hml]; rfl) (lenOf pd_6 rfl) rfl (Nat.le_of_eq rfl) (hb hby d11_18) (by decide) (by decide) (by decide) (by decide) fun v92 T92 L92 X92 hQ92 => ?_
  obtain ⟨rfl, N92q, e92⟩ := hQ92
  have N92 := Fr.app N91 N92q
  show own_At p e below _ T92 m 21 _ [(.int (2 : Int32))]
  refine own_istoreN (l' := #[.val (.ref b), .val (.int (46 : Int32)), .val (.int (0 : Int32)), .val (.int (2 : Int32))]) X92 hx (hb hby d11_21) rfl ?_
  refine own_iloadN X92 hx (hb hby d11_22) rfl ?_
  refine own_iloadN X92 hx (hb hby d11_23) rfl ?_
  refine own_icmpYes X92 hx 29 (hb hby d11_24) (tlt (by decide : (0 : Int32) < (2 : Int32))).1 (by decide) (by decide) ?_
  refine own_aloadN X92 hx (hb hby d11_29) rfl rfl ?_
  refine own_iloadN X92 hx (hb hby d11_30) rfl ?_
  refine own_iloadN X92 hx (hb hby d11_31) rfl ?_
  refine own_iloadN X92 hx (hb hby d11_32) rfl ?_
  refine own_cStat (W := 0) (rest := []) X92 hx hZ [(.ref b), (.int (46 : Int32)), (.int (0 : Int32)), (.int (2 : Int32))] hown (hw _ (List.mem_of_getElem? (i := 81) rfl)) (hw _ (List.mem_of_getElem? (i := 82) rfl)) (by decide) (hw _ (List.mem_of_getElem? (i := 83) rfl)) (hw _ (List.mem_of_getElem? (i := 59) rfl)) e92 (hIC) (by rw [hml]; rfl) (lenOf pd_9 rfl) rfl (Nat.le_of_eq rfl) (hb hby d11_33) (by decide) (by decide) (by decide) (by decide) fun v93 T93 L93 X93 hQ93 => ?_
  obtain ⟨rfl, N93q, e93⟩ := hQ93
  have N93 := Fr.app N92 N93q
  show own_At p e below _ T93 m 36 _ [(.int r)]
  refine own_retI X93 hx hlk hret (hb hby d11_36) (own_kN (by decide) (by decide) ?_)
  try rw [e93]
  exact ⟨rfl, N93, rfl⟩
set_option maxRecDepth 65536 in
set_option maxHeartbeats 40000000 in
theorem rmX2_2 (l : Launch) (Z : State) (a0 : Array Value) (hw : ∀ d ∈ tables_1, d.before a0 Z = true) (ws : List Jvm.Cond) (a b : Addr) (cs : Int32) (r : Int32)  (h0 : Heap) (n0 : Nat) (Z0 : n0 ≤ h0.size) (Sc : Sta Z h0 "java/lang/String" "COMPACT_STRINGS" "Z" (.int cs)) (hcs : ¬ (cs = (0 : Int32))) (Ea : Exa Z h0 a "java/lang/String") (Fv : Fld Z h0 a "java/lang/String" "value" "[B" (.ref b)) (Fc : Fld Z h0 a "java/lang/String" "coder" "B" (.int (0 : Int32))) (A : own_Aln Z h0 b .byte (2 : Int32)) (hIC : own_Met l (⟨"java/lang/StringLatin1", "indexOfChar", "([BIII)I"⟩ : MethodName) jdk_43_method_23_code 6 (some .int) [] ({ frames := 0, cells := 0, slots := 0, locals := 0 } : Room) Z #[(.ref b), (.int (46 : Int32)), (.int (0 : Int32)), (.int (2 : Int32))] h0 (fun v h L => v = some (.int r) ∧ Fr n0 L ∧ h = h0)) :
    own_Met l (⟨"java/lang/String", "indexOf", "(II)I"⟩ : MethodName) jdk_42_method_80_code 3 (some .int) ws ({ frames := 2, cells := 0, slots := 0, locals := 32 } : Room) Z #[(.ref a), (.int (46 : Int32)), (.int (0 : Int32))] h0 (fun v h L => v = some (.int r) ∧ Fr n0 L ∧ h = h0) := by
  refine own_body (plainFor_of_name pn_2) ?_
  intro p e s m below meth c s₁ X0 hx hby hml hown hnm hret hlk hZ e0
  replace hown : s.vm.findClass "java/lang/String" = some m.cls := hown
  replace hml : c.maxLocals = 3 := hml
  replace hret : meth.sig.returnType = (some .int) := hret
  have N0 := Fr.nil n0
  have ef : entryFrame m #[(.ref a), (.int (46 : Int32)), (.int (0 : Int32))] 3 = mkF m 0 #[.val (.ref a), .val (.int (46 : Int32)), .val (.int (0 : Int32))] [] := by first | (simp [entryFrame, mkF, argsToLocals, Value.category]; done) | rfl
  refine own_step (S' := (s₁.setTop (mkF m 0 #[.val (.ref a), .val (.int (46 : Int32)), .val (.int (0 : Int32))] []))) (fun _ k => castTop ef k) ?_
  refine own_aloadN X0 hx (hb hby d7_0) rfl rfl ?_
  refine own_cVirt (W := 0) (rest := []) X0 hx hZ [] hown (hw _ (List.mem_of_getElem? (i := 41) rfl)) (hw _ (List.mem_of_getElem? (i := 42) rfl)) (notFace_of_selects (args := #[]) (mvT hZ (hw _ (List.mem_of_getElem? (i := 44) rfl)))) (hw _ (List.mem_of_getElem? (i := 44) rfl)) (hw _ (List.mem_of_getElem? (i := 43) rfl)) (by decide) (hw _ (List.mem_of_getElem? (i := 45) rfl)) (hw _ (List.mem_of_getElem? (i := 8) rfl)) e0 Ea (rmL l Z a0 hw [] a cs h0 n0 Z0 Sc hcs Fc) (by rw [hml]; rfl) (lenOf pd_7 rfl) rfl (Nat.le_of_eq rfl) (hb hby d7_1) (by decide) (by decide) (by decide) (by decide) fun v94 T94 L94 X94 hQ94 => ?_
  obtain ⟨rfl, N94q, e94⟩ := hQ94
  have N94 := Fr.app N0 N94q
  show own_At p e below _ T94 m 4 _ [(.int (1 : Int32))]
  refine own_ifNo X94 hx (hb hby d7_4) (feq (by decide : ¬ ((1 : Int32) = (0 : Int32)))).1 ?_
  refine own_aloadN X94 hx (hb hby d7_7) rfl rfl ?_
  refine own_getF X94 hx hZ hown (host := "") (Or.inl (hw _ (List.mem_of_getElem? (i := 25) rfl))) Via.refl e94 Fv (hb hby d7_8) fun T95 X95 e95 => ?_
  refine own_iloadN X95 hx (hb hby d7_11) rfl ?_
  refine own_iloadN X95 hx (hb hby d7_12) rfl ?_
  refine own_aloadN X95 hx (hb hby d7_13) rfl rfl ?_
  refine own_cVirt (W := 3) (rest := [(.int (0 : Int32)), (.int (46 : Int32)), (.ref b)]) X95 hx hZ [] hown (hw _ (List.mem_of_getElem? (i := 47) rfl)) (hw _ (List.mem_of_getElem? (i := 48) rfl)) (notFace_of_selects (args := #[]) (mvT hZ (hw _ (List.mem_of_getElem? (i := 50) rfl)))) (hw _ (List.mem_of_getElem? (i := 50) rfl)) (hw _ (List.mem_of_getElem? (i := 49) rfl)) (by decide) (hw _ (List.mem_of_getElem? (i := 51) rfl)) (hw _ (List.mem_of_getElem? (i := 8) rfl)) e95 Ea (rmLen_2 l Z a0 hw [] a b cs h0 n0 Z0 Sc hcs Ea Fv Fc A) (by rw [hml]; rfl) (lenOf pd_8 rfl) rfl (Nat.le_of_eq rfl) (hb hby d7_14) (by decide) (by decide) (by decide) (by decide) fun v96 T96 L96 X96 hQ96 => ?_
  obtain ⟨rfl, N96q, e96⟩ := hQ96
  have N96 := Fr.app N94 N96q
  show own_At p e below _ T96 m 17 _ [(.int (2 : Int32)), (.int (0 : Int32)), (.int (46 : Int32)), (.ref b)]
  refine own_cStat (W := 0) (rest := []) X96 hx hZ [(.ref b), (.int (46 : Int32)), (.int (0 : Int32)), (.int (2 : Int32))] hown (hw _ (List.mem_of_getElem? (i := 57) rfl)) (hw _ (List.mem_of_getElem? (i := 58) rfl)) (by decide) (hw _ (List.mem_of_getElem? (i := 60) rfl)) (hw _ (List.mem_of_getElem? (i := 59) rfl)) e96 (rmL1_2 l Z a0 hw [] b r h0 n0 Z0 A hIC) (by rw [hml]; rfl) (lenOf pd_9 rfl) rfl (Nat.le_of_eq rfl) (hb hby d7_17) (by decide) (by decide) (by decide) (by decide) fun v97 T97 L97 X97 hQ97 => ?_
  obtain ⟨rfl, N97q, e97⟩ := hQ97
  have N97 := Fr.app N96 N97q
  show own_At p e below _ T97 m 20 _ [(.int r)]
  refine own_goto X97 hx 36 (hb hby d7_20) (by decide) (by decide) ?_
  refine own_retI X97 hx hlk hret (hb hby d7_36) (own_kN (by decide) (by decide) ?_)
  try rw [e97]
  exact ⟨rfl, N97, rfl⟩
set_option maxRecDepth 65536 in
set_option maxHeartbeats 40000000 in
theorem rmX1_2 (l : Launch) (Z : State) (a0 : Array Value) (hw : ∀ d ∈ tables_1, d.before a0 Z = true) (ws : List Jvm.Cond) (a b : Addr) (cs : Int32) (r : Int32)  (h0 : Heap) (n0 : Nat) (Z0 : n0 ≤ h0.size) (Sc : Sta Z h0 "java/lang/String" "COMPACT_STRINGS" "Z" (.int cs)) (hcs : ¬ (cs = (0 : Int32))) (Ea : Exa Z h0 a "java/lang/String") (Fv : Fld Z h0 a "java/lang/String" "value" "[B" (.ref b)) (Fc : Fld Z h0 a "java/lang/String" "coder" "B" (.int (0 : Int32))) (A : own_Aln Z h0 b .byte (2 : Int32)) (hIC : own_Met l (⟨"java/lang/StringLatin1", "indexOfChar", "([BIII)I"⟩ : MethodName) jdk_43_method_23_code 6 (some .int) [] ({ frames := 0, cells := 0, slots := 0, locals := 0 } : Room) Z #[(.ref b), (.int (46 : Int32)), (.int (0 : Int32)), (.int (2 : Int32))] h0 (fun v h L => v = some (.int r) ∧ Fr n0 L ∧ h = h0)) :
    own_Met l (⟨"java/lang/String", "indexOf", "(I)I"⟩ : MethodName) jdk_42_method_79_code 2 (some .int) ws ({ frames := 3, cells := 0, slots := 0, locals := 46 } : Room) Z #[(.ref a), (.int (46 : Int32))] h0 (fun v h L => v = some (.int r) ∧ Fr n0 L ∧ h = h0) := by
  refine own_body (plainFor_of_name pn_2) ?_
  intro p e s m below meth c s₁ X0 hx hby hml hown hnm hret hlk hZ e0
  replace hown : s.vm.findClass "java/lang/String" = some m.cls := hown
  replace hml : c.maxLocals = 2 := hml
  replace hret : meth.sig.returnType = (some .int) := hret
  have N0 := Fr.nil n0
  have ef : entryFrame m #[(.ref a), (.int (46 : Int32))] 2 = mkF m 0 #[.val (.ref a), .val (.int (46 : Int32))] [] := by first | (simp [entryFrame, mkF, argsToLocals, Value.category]; done) | rfl
  refine own_step (S' := (s₁.setTop (mkF m 0 #[.val (.ref a), .val (.int (46 : Int32))] []))) (fun _ k => castTop ef k) ?_
  refine own_aloadN X0 hx (hb hby d6_0) rfl rfl ?_
  refine own_iloadN X0 hx (hb hby d6_1) rfl ?_
  refine own_iconst X0 hx (0 : Int32) (hb hby d6_2) rfl ?_
  refine own_cVirt (W := 0) (rest := []) X0 hx hZ [(.int (46 : Int32)), (.int (0 : Int32))] hown (hw _ (List.mem_of_getElem? (i := 36) rfl)) (hw _ (List.mem_of_getElem? (i := 37) rfl)) (notFace_of_selects (args := #[]) (mvT hZ (hw _ (List.mem_of_getElem? (i := 39) rfl)))) (hw _ (List.mem_of_getElem? (i := 39) rfl)) (hw _ (List.mem_of_getElem? (i := 38) rfl)) (by decide) (hw _ (List.mem_of_getElem? (i := 40) rfl)) (hw _ (List.mem_of_getElem? (i := 8) rfl)) e0 Ea (rmX2_2 l Z a0 hw [] a b cs r h0 n0 Z0 Sc hcs Ea Fv Fc A hIC) (by rw [hml]; rfl) (lenOf pd_6 rfl) rfl (Nat.le_of_eq rfl) (hb hby d6_3) (by decide) (by decide) (by decide) (by decide) fun v98 T98 L98 X98 hQ98 => ?_
  obtain ⟨rfl, N98q, e98⟩ := hQ98
  have N98 := Fr.app N0 N98q
  show own_At p e below _ T98 m 6 _ [(.int r)]
  refine own_retI X98 hx hlk hret (hb hby d6_6) (own_kN (by decide) (by decide) ?_)
  try rw [e98]
  exact ⟨rfl, N98, rfl⟩
set_option maxRecDepth 65536 in
set_option maxHeartbeats 40000000 in
theorem rmSL_2_1 (l : Launch) (Z : State) (a0 : Array Value) (hw : ∀ d ∈ tables_1, d.before a0 Z = true) (ws : List Jvm.Cond) (a b : Addr) (cs : Int32) (r : Int32)  (h0 : Heap) (n0 : Nat) (Z0 : n0 ≤ h0.size) (Sc : Sta Z h0 "java/lang/String" "COMPACT_STRINGS" "Z" (.int cs)) (hcs : ¬ (cs = (0 : Int32))) (Ea : Exa Z h0 a "java/lang/String") (Fv : Fld Z h0 a "java/lang/String" "value" "[B" (.ref b)) (Fc : Fld Z h0 a "java/lang/String" "coder" "B" (.int (0 : Int32))) (A : own_Aln Z h0 b .byte (2 : Int32)) (hIC : own_Met l (⟨"java/lang/StringLatin1", "indexOfChar", "([BIII)I"⟩ : MethodName) jdk_43_method_23_code 6 (some .int) [] ({ frames := 0, cells := 0, slots := 0, locals := 0 } : Room) Z #[(.ref b), (.int (46 : Int32)), (.int (0 : Int32)), (.int (2 : Int32))] h0 (fun v h L => v = some (.int r) ∧ Fr n0 L ∧ h = h0)) (hr : r < (0 : Int32)) :
    own_Met l (⟨"com/example/ratatoskr/ratatoskr/DomainName", "isSingleLabel", "(Ljava/lang/String;)Z"⟩ : MethodName) prog_9_method_3_code 1 (some .boolean) ws ({ frames := 4, cells := 0, slots := 0, locals := 59 } : Room) Z #[(.ref a)] h0 (fun v h L => v = some (.int (1 : Int32)) ∧ Fr n0 L ∧ h = h0) := by
  refine own_body (plainFor_of_name pn_4) ?_
  intro p e s m below meth c s₁ X0 hx hby hml hown hnm hret hlk hZ e0
  replace hown : s.vm.findClass "com/example/ratatoskr/ratatoskr/DomainName" = some m.cls := hown
  replace hml : c.maxLocals = 1 := hml
  replace hret : meth.sig.returnType = (some .boolean) := hret
  have N0 := Fr.nil n0
  have ef : entryFrame m #[(.ref a)] 1 = mkF m 0 #[.val (.ref a)] [] := by first | (simp [entryFrame, mkF, argsToLocals, Value.category]; done) | rfl
  refine own_step (S' := (s₁.setTop (mkF m 0 #[.val (.ref a)] []))) (fun _ k => castTop ef k) ?_
  refine own_aloadN X0 hx (hb hby d5_0) rfl rfl ?_
  refine own_bipush X0 hx (46 : Int32) (hb hby d5_1) rfl ?_
  refine own_cVirt (W := 0) (rest := []) X0 hx hZ [(.int (46 : Int32))] hown (hw _ (List.mem_of_getElem? (i := 31) rfl)) (hw _ (List.mem_of_getElem? (i := 32) rfl)) (notFace_of_selects (args := #[]) (mvT hZ (hw _ (List.mem_of_getElem? (i := 34) rfl)))) (hw _ (List.mem_of_getElem? (i := 34) rfl)) (hw _ (List.mem_of_getElem? (i := 33) rfl)) (by decide) (hw _ (List.mem_of_getElem? (i := 35) rfl)) (hw _ (List.mem_of_getElem? (i := 8) rfl)) e0 Ea (rmX1_2 l Z a0 hw [] a b cs r h0 n0 Z0 Sc hcs Ea Fv Fc A hIC) (by rw [hml]; rfl) (lenOf pd_10 rfl) rfl (Nat.le_of_eq rfl) (hb hby d5_3) (by decide) (by decide) (by decide) (by decide) fun v99 T99 L99 X99 hQ99 => ?_
  obtain ⟨rfl, N99q, e99⟩ := hQ99
  have N99 := Fr.app N0 N99q
  show own_At p e below _ T99 m 6 _ [(.int r)]
  refine own_ifNo X99 hx (hb hby d5_6) (tlt hr).2.1 ?_
  refine own_iconst X99 hx (1 : Int32) (hb hby d5_9) rfl ?_
  refine own_goto X99 hx 14 (hb hby d5_10) (by decide) (by decide) ?_
  refine own_retN X99 hx hlk hret (by simp) (by decide) (hb hby d5_14) (own_kN (by decide) (by decide) ?_)
  try rw [e99]
  exact ⟨rfl, N99, rfl⟩
set_option maxRecDepth 65536 in
set_option maxHeartbeats 40000000 in
theorem rmSL_2_0 (l : Launch) (Z : State) (a0 : Array Value) (hw : ∀ d ∈ tables_1, d.before a0 Z = true) (ws : List Jvm.Cond) (a b : Addr) (cs : Int32) (r : Int32)  (h0 : Heap) (n0 : Nat) (Z0 : n0 ≤ h0.size) (Sc : Sta Z h0 "java/lang/String" "COMPACT_STRINGS" "Z" (.int cs)) (hcs : ¬ (cs = (0 : Int32))) (Ea : Exa Z h0 a "java/lang/String") (Fv : Fld Z h0 a "java/lang/String" "value" "[B" (.ref b)) (Fc : Fld Z h0 a "java/lang/String" "coder" "B" (.int (0 : Int32))) (A : own_Aln Z h0 b .byte (2 : Int32)) (hIC : own_Met l (⟨"java/lang/StringLatin1", "indexOfChar", "([BIII)I"⟩ : MethodName) jdk_43_method_23_code 6 (some .int) [] ({ frames := 0, cells := 0, slots := 0, locals := 0 } : Room) Z #[(.ref b), (.int (46 : Int32)), (.int (0 : Int32)), (.int (2 : Int32))] h0 (fun v h L => v = some (.int r) ∧ Fr n0 L ∧ h = h0)) (hr : ¬ (r < (0 : Int32))) :
    own_Met l (⟨"com/example/ratatoskr/ratatoskr/DomainName", "isSingleLabel", "(Ljava/lang/String;)Z"⟩ : MethodName) prog_9_method_3_code 1 (some .boolean) ws ({ frames := 4, cells := 0, slots := 0, locals := 59 } : Room) Z #[(.ref a)] h0 (fun v h L => v = some (.int (0 : Int32)) ∧ Fr n0 L ∧ h = h0) := by
  refine own_body (plainFor_of_name pn_4) ?_
  intro p e s m below meth c s₁ X0 hx hby hml hown hnm hret hlk hZ e0
  replace hown : s.vm.findClass "com/example/ratatoskr/ratatoskr/DomainName" = some m.cls := hown
  replace hml : c.maxLocals = 1 := hml
  replace hret : meth.sig.returnType = (some .boolean) := hret
  have N0 := Fr.nil n0
  have ef : entryFrame m #[(.ref a)] 1 = mkF m 0 #[.val (.ref a)] [] := by first | (simp [entryFrame, mkF, argsToLocals, Value.category]; done) | rfl
  refine own_step (S' := (s₁.setTop (mkF m 0 #[.val (.ref a)] []))) (fun _ k => castTop ef k) ?_
  refine own_aloadN X0 hx (hb hby d5_0) rfl rfl ?_
  refine own_bipush X0 hx (46 : Int32) (hb hby d5_1) rfl ?_
  refine own_cVirt (W := 0) (rest := []) X0 hx hZ [(.int (46 : Int32))] hown (hw _ (List.mem_of_getElem? (i := 31) rfl)) (hw _ (List.mem_of_getElem? (i := 32) rfl)) (notFace_of_selects (args := #[]) (mvT hZ (hw _ (List.mem_of_getElem? (i := 34) rfl)))) (hw _ (List.mem_of_getElem? (i := 34) rfl)) (hw _ (List.mem_of_getElem? (i := 33) rfl)) (by decide) (hw _ (List.mem_of_getElem? (i := 35) rfl)) (hw _ (List.mem_of_getElem? (i := 8) rfl)) e0 Ea (rmX1_2 l Z a0 hw [] a b cs r h0 n0 Z0 Sc hcs Ea Fv Fc A hIC) (by rw [hml]; rfl) (lenOf pd_10 rfl) rfl (Nat.le_of_eq rfl) (hb hby d5_3) (by decide) (by decide) (by decide) (by decide) fun v100 T100 L100 X100 hQ100 => ?_
  obtain ⟨rfl, N100q, e100⟩ := hQ100
  have N100 := Fr.app N0 N100q
  show own_At p e below _ T100 m 6 _ [(.int r)]
  refine own_ifYes X100 hx 13 (hb hby d5_6) (flt hr).2.1 (by decide) (by decide) ?_
  refine own_iconst X100 hx (0 : Int32) (hb hby d5_13) rfl ?_
  refine own_retN X100 hx hlk hret (by simp) (by decide) (hb hby d5_14) (own_kN (by decide) (by decide) ?_)
  try rw [e100]
  exact ⟨rfl, N100, rfl⟩
set_option maxRecDepth 65536 in
set_option maxHeartbeats 40000000 in
theorem rmMin_3 (l : Launch) (Z : State) (a0 : Array Value) (hw : ∀ d ∈ tables_1, d.before a0 Z = true) (ws : List Jvm.Cond)   (h0 : Heap) (n0 : Nat) (Z0 : n0 ≤ h0.size) :
    own_Met l (⟨"java/lang/Math", "min", "(II)I"⟩ : MethodName) jdk_29_method_69_code 2 (some .int) ws ({ frames := 0, cells := 0, slots := 0, locals := 0 } : Room) Z #[(.int (3 : Int32)), (.int (3 : Int32))] h0 (fun v h L => v = some (.int (3 : Int32)) ∧ Fr n0 L ∧ h = h0) := by
  refine own_body (Jvm.Free.JP.mathPlain rfl (by decide +kernel)) ?_
  intro p e s m below meth c s₁ X0 hx hby hml hown hnm hret hlk hZ e0
  replace hown : s.vm.findClass "java/lang/Math" = some m.cls := hown
  replace hml : c.maxLocals = 2 := hml
  replace hret : meth.sig.returnType = (some .int) := hret
  have N0 := Fr.nil n0
  have ef : entryFrame m #[(.int (3 : Int32)), (.int (3 : Int32))] 2 = mkF m 0 #[.val (.int (3 : Int32)), .val (.int (3 : Int32))] [] := by first | (simp [entryFrame, mkF, argsToLocals, Value.category]; done) | rfl
  refine own_step (S' := (s₁.setTop (mkF m 0 #[.val (.int (3 : Int32)), .val (.int (3 : Int32))] []))) (fun _ k => castTop ef k) ?_
  refine own_iloadN X0 hx (hb hby d14_0) rfl ?_
  refine own_iloadN X0 hx (hb hby d14_1) rfl ?_
  refine own_icmpNo X0 hx (hb hby d14_2) (flt (by decide : ¬ ((3 : Int32) < (3 : Int32)))).2.2.1 ?_
  refine own_iloadN X0 hx (hb hby d14_5) rfl ?_
  refine own_goto X0 hx 10 (hb hby d14_6) (by decide) (by decide) ?_
  refine own_retI X0 hx hlk hret (hb hby d14_10) (own_kN (by decide) (by decide) ?_)
  try rw [e0]
  exact ⟨rfl, N0, rfl⟩
set_option maxRecDepth 65536 in
set_option maxHeartbeats 40000000 in
theorem rmIC_3_n (l : Launch) (Z : State) (a0 : Array Value) (hw : ∀ d ∈ tables_1, d.before a0 Z = true) (ws : List Jvm.Cond) (b : Addr) (kb : ClassId) (c0 c1 c2 : Int32)  (h0 : Heap) (n0 : Nat) (Z0 : n0 ≤ h0.size) (Vb : Arv Z h0 b kb .byte (3 : Int32) [(.int (c0.toInt8.toInt32)), (.int (c1.toInt8.toInt32)), (.int (c2.toInt8.toInt32))] (.int (0 : Int32))) (hd0 : ¬ ((c0.toInt8.toInt32) = (46 : Int32))) (hd1 : ¬ ((c1.toInt8.toInt32) = (46 : Int32))) (hd2 : ¬ ((c2.toInt8.toInt32) = (46 : Int32))) :
    own_Met l (⟨"java/lang/StringLatin1", "indexOfChar", "([BIII)I"⟩ : MethodName) jdk_43_method_23_code 6 (some .int) ws ({ frames := 0, cells := 0, slots := 0, locals := 0 } : Room) Z #[(.ref b), (.int (46 : Int32)), (.int (0 : Int32)), (.int (3 : Int32))] h0 (fun v h L => v = some (.int (-1 : Int32)) ∧ Fr n0 L ∧ h = h0) := by
  refine own_body (plainFor_of_name pn_3) ?_
  intro p e s m below meth c s₁ X0 hx hby hml hown hnm hret hlk hZ e0
  replace hown : s.vm.findClass "java/lang/StringLatin1" = some m.cls := hown
  replace hml : c.maxLocals = 6 := hml
  replace hret : meth.sig.returnType = (some .int) := hret
  have N0 := Fr.nil n0
  have ef : entryFrame m #[(.ref b), (.int (46 : Int32)), (.int (0 : Int32)), (.int (3 : Int32))] 6 = mkF m 0 #[.val (.ref b), .val (.int (46 : Int32)), .val (.int (0 : Int32)), .val (.int (3 : Int32)), .unset, .unset] [] := by first | (simp [entryFrame, mkF, argsToLocals, Value.category]; done) | rfl
  refine own_step (S' := (s₁.setTop (mkF m 0 #[.val (.ref b), .val (.int (46 : Int32)), .val (.int (0 : Int32)), .val (.int (3 : Int32)), .unset, .unset] []))) (fun _ k => castTop ef k) ?_
  refine own_iloadN X0 hx (hb hby d18_0) rfl ?_
  refine own_i2b X0 hx (hb hby d18_1) ?_
  rw [show ((46 : Int32).toInt8.toInt32) = (46 : Int32) from by decide]
  refine own_istore (l' := #[.val (.ref b), .val (.int (46 : Int32)), .val (.int (0 : Int32)), .val (.int (3 : Int32)), .val (.int (46 : Int32)), .unset]) X0 hx (hb hby d18_2) rfl ?_
  refine own_iloadN X0 hx (hb hby d18_4) rfl ?_
  refine own_istore (l' := #[.val (.ref b), .val (.int (46 : Int32)), .val (.int (0 : Int32)), .val (.int (3 : Int32)), .val (.int (46 : Int32)), .val (.int (0 : Int32))]) X0 hx (hb hby d18_5) rfl ?_
  refine own_iload X0 hx (hb hby d18_7) rfl ?_
  refine own_iloadN X0 hx (hb hby d18_9) rfl ?_
  refine own_icmpNo X0 hx (hb hby d18_10) (tlt (by decide : (0 : Int32) < (3 : Int32))).2.1 ?_
  refine own_aloadN X0 hx (hb hby d18_13) rfl rfl ?_
  refine own_iload X0 hx (hb hby d18_14) rfl ?_
  refine own_baload X0 hx hZ (.int (c0.toInt8.toInt32)) e0 Vb ⟨by decide, by decide⟩ rfl (hb hby d18_16) ?_
  refine own_iload X0 hx (hb hby d18_17) rfl ?_
  refine own_icmpYes X0 hx 25 (hb hby d18_19) (feq hd0).2 (by decide) (by decide) ?_
  refine own_iinc (l' := #[.val (.ref b), .val (.int (46 : Int32)), .val (.int (0 : Int32)), .val (.int (3 : Int32)), .val (.int (46 : Int32)), .val (.int ((0 : Int32) + (1 : Int32)))]) X0 hx (hb hby d18_25) rfl rfl ?_
  rw [show ((0 : Int32) + (1 : Int32)) = (1 : Int32) from by decide]
  refine own_goto X0 hx 7 (hb hby d18_28) (by decide) (by decide) ?_
  refine own_iload X0 hx (hb hby d18_7) rfl ?_
  refine own_iloadN X0 hx (hb hby d18_9) rfl ?_
  refine own_icmpNo X0 hx (hb hby d18_10) (tlt (by decide : (1 : Int32) < (3 : Int32))).2.1 ?_
  refine own_aloadN X0 hx (hb hby d18_13) rfl rfl ?_
  refine own_iload X0 hx (hb hby d18_14) rfl ?_
  refine own_baload X0 hx hZ (.int (c1.toInt8.toInt32)) e0 Vb ⟨by decide, by decide⟩ rfl (hb hby d18_16) ?_
  refine own_iload X0 hx (hb hby d18_17) rfl ?_
  refine own_icmpYes X0 hx 25 (hb hby d18_19) (feq hd1).2 (by decide) (by decide) ?_
  refine own_iinc (l' := #[.val (.ref b), .val (.int (46 : Int32)), .val (.int (0 : Int32)), .val (.int (3 : Int32)), .val (.int (46 : Int32)), .val (.int ((1 : Int32) + (1 : Int32)))]) X0 hx (hb hby d18_25) rfl rfl ?_
  rw [show ((1 : Int32) + (1 : Int32)) = (2 : Int32) from by decide]
  refine own_goto X0 hx 7 (hb hby d18_28) (by decide) (by decide) ?_
  refine own_iload X0 hx (hb hby d18_7) rfl ?_
  refine own_iloadN X0 hx (hb hby d18_9) rfl ?_
  refine own_icmpNo X0 hx (hb hby d18_10) (tlt (by decide : (2 : Int32) < (3 : Int32))).2.1 ?_
  refine own_aloadN X0 hx (hb hby d18_13) rfl rfl ?_
  refine own_iload X0 hx (hb hby d18_14) rfl ?_
  refine own_baload X0 hx hZ (.int (c2.toInt8.toInt32)) e0 Vb ⟨by decide, by decide⟩ rfl (hb hby d18_16) ?_
  refine own_iload X0 hx (hb hby d18_17) rfl ?_
  refine own_icmpYes X0 hx 25 (hb hby d18_19) (feq hd2).2 (by decide) (by decide) ?_
  refine own_iinc (l' := #[.val (.ref b), .val (.int (46 : Int32)), .val (.int (0 : Int32)), .val (.int (3 : Int32)), .val (.int (46 : Int32)), .val (.int ((2 : Int32) + (1 : Int32)))]) X0 hx (hb hby d18_25) rfl rfl ?_
  rw [show ((2 : Int32) + (1 : Int32)) = (3 : Int32) from by decide]
  refine own_goto X0 hx 7 (hb hby d18_28) (by decide) (by decide) ?_
  refine own_iload X0 hx (hb hby d18_7) rfl ?_
  refine own_iloadN X0 hx (hb hby d18_9) rfl ?_
  refine own_icmpYes X0 hx 31 (hb hby d18_10) (flt (by decide : ¬ ((3 : Int32) < (3 : Int32)))).2.1 (by decide) (by decide) ?_
  refine own_iconst X0 hx (-1 : Int32) (hb hby d18_31) rfl ?_
  refine own_retI X0 hx hlk hret (hb hby d18_32) (own_kN (by decide) (by decide) ?_)
  try rw [e0]
  exact ⟨rfl, N0, rfl⟩
set_option maxRecDepth 65536 in
set_option maxHeartbeats 40000000 in
theorem rmIC_3_0 (l : Launch) (Z : State) (a0 : Array Value) (hw : ∀ d ∈ tables_1, d.before a0 Z = true) (ws : List Jvm.Cond) (b : Addr) (kb : ClassId) (c0 c1 c2 : Int32)  (h0 : Heap) (n0 : Nat) (Z0 : n0 ≤ h0.size) (Vb : Arv Z h0 b kb .byte (3 : Int32) [(.int (46 : Int32)), (.int (c1.toInt8.toInt32)), (.int (c2.toInt8.toInt32))] (.int (0 : Int32))) :
    own_Met l (⟨"java/lang/StringLatin1", "indexOfChar", "([BIII)I"⟩ : MethodName) jdk_43_method_23_code 6 (some .int) ws ({ frames := 0, cells := 0, slots := 0, locals := 0 } : Room) Z #[(.ref b), (.int (46 : Int32)), (.int (0 : Int32)), (.int (3 : Int32))] h0 (fun v h L => v = some (.int (0 : Int32)) ∧ Fr n0 L ∧ h = h0) := by
  refine own_body (plainFor_of_name pn_3) ?_
  intro p e s m below meth c s₁ X0 hx hby hml hown hnm hret hlk hZ e0
  replace hown : s.vm.findClass "java/lang/StringLatin1" = some m.cls := hown
  replace hml : c.maxLocals = 6 := hml
  replace hret : meth.sig.returnType = (some .int) := hret
  have N0 := Fr.nil n0
  have ef : entryFrame m #[(.ref b), (.int (46 : Int32)), (.int (0 : Int32)), (.int (3 : Int32))] 6 = mkF m 0 #[.val (.ref b), .val (.int (46 : Int32)), .val (.int (0 : Int32)), .val (.int (3 : Int32)), .unset, .unset] [] := by first | (simp [entryFrame, mkF, argsToLocals, Value.category]; done) | rfl
  refine own_step (S' := (s₁.setTop (mkF m 0 #[.val (.ref b), .val (.int (46 : Int32)), .val (.int (0 : Int32)), .val (.int (3 : Int32)), .unset, .unset] []))) (fun _ k => castTop ef k) ?_
  refine own_iloadN X0 hx (hb hby d18_0) rfl ?_
  refine own_i2b X0 hx (hb hby d18_1) ?_
  rw [show ((46 : Int32).toInt8.toInt32) = (46 : Int32) from by decide]
  refine own_istore (l' := #[.val (.ref b), .val (.int (46 : Int32)), .val (.int (0 : Int32)), .val (.int (3 : Int32)), .val (.int (46 : Int32)), .unset]) X0 hx (hb hby d18_2) rfl ?_
  refine own_iloadN X0 hx (hb hby d18_4) rfl ?_
  refine own_istore (l' := #[.val (.ref b), .val (.int (46 : Int32)), .val (.int (0 : Int32)), .val (.int (3 : Int32)), .val (.int (46 : Int32)), .val (.int (0 : Int32))]) X0 hx (hb hby d18_5) rfl ?_
  refine own_iload X0 hx (hb hby d18_7) rfl ?_
  refine own_iloadN X0 hx (hb hby d18_9) rfl ?_
  refine own_icmpNo X0 hx (hb hby d18_10) (tlt (by decide : (0 : Int32) < (3 : Int32))).2.1 ?_
  refine own_aloadN X0 hx (hb hby d18_13) rfl rfl ?_
  refine own_iload X0 hx (hb hby d18_14) rfl ?_
  refine own_baload X0 hx hZ (.int (46 : Int32)) e0 Vb ⟨by decide, by decide⟩ rfl (hb hby d18_16) ?_
  refine own_iload X0 hx (hb hby d18_17) rfl ?_
  refine own_icmpNo X0 hx (hb hby d18_19) (teq (by decide : (46 : Int32) = (46 : Int32))).2 ?_
  refine own_iload X0 hx (hb hby d18_22) rfl ?_
  refine own_retI X0 hx hlk hret (hb hby d18_24) (own_kN (by decide) (by decide) ?_)
  try rw [e0]
  exact ⟨rfl, N0, rfl⟩
set_option maxRecDepth 65536 in
set_option maxHeartbeats 40000000 in
theorem rmIC_3_1 (l : Launch) (Z : State) (a0 : Array Value) (hw : ∀ d ∈ tables_1, d.before a0 Z = true) (ws : List Jvm.Cond) (b : Addr) (kb : ClassId) (c0 c1 c2 : Int32)  (h0 : Heap) (n0 : Nat) (Z0 : n0 ≤ h0.size) (Vb : Arv Z h0 b kb .byte (3 : Int32) [(.int (c0.toInt8.toInt32)), (.int (46 : Int32)), (.int (c2.toInt8.toInt32))] (.int (0 : Int32))) (hd0 : ¬ ((c0.toInt8.toInt32) = (46 : Int32))) :
    own_Met l (⟨"java/lang/StringLatin1", "indexOfChar", "([BIII)I"⟩ : MethodName) jdk_43_method_23_code 6 (some .int) ws ({ frames := 0, cells := 0, slots := 0, locals := 0 } : Room) Z #[(.ref b), (.int (46 : Int32)), (.int (0 : Int32)), (.int (3 : Int32))] h0 (fun v h L => v = some (.int (1 : Int32)) ∧ Fr n0 L ∧ h = h0) := by
  refine own_body (plainFor_of_name pn_3) ?_
  intro p e s m below meth c s₁ X0 hx hby hml hown hnm hret hlk hZ e0
  replace hown : s.vm.findClass "java/lang/StringLatin1" = some m.cls := hown
  replace hml : c.maxLocals = 6 := hml
  replace hret : meth.sig.returnType = (some .int) := hret
  have N0 := Fr.nil n0
  have ef : entryFrame m #[(.ref b), (.int (46 : Int32)), (.int (0 : Int32)), (.int (3 : Int32))] 6 = mkF m 0 #[.val (.ref b), .val (.int (46 : Int32)), .val (.int (0 : Int32)), .val (.int (3 : Int32)), .unset, .unset] [] := by first | (simp [entryFrame, mkF, argsToLocals, Value.category]; done) | rfl
  refine own_step (S' := (s₁.setTop (mkF m 0 #[.val (.ref b), .val (.int (46 : Int32)), .val (.int (0 : Int32)), .val (.int (3 : Int32)), .unset, .unset] []))) (fun _ k => castTop ef k) ?_
  refine own_iloadN X0 hx (hb hby d18_0) rfl ?_
  refine own_i2b X0 hx (hb hby d18_1) ?_
  rw [show ((46 : Int32).toInt8.toInt32) = (46 : Int32) from by decide]
  refine own_istore (l' := #[.val (.ref b), .val (.int (46 : Int32)), .val (.int (0 : Int32)), .val (.int (3 : Int32)), .val (.int (46 : Int32)), .unset]) X0 hx (hb hby d18_2) rfl ?_
  refine own_iloadN X0 hx (hb hby d18_4) rfl ?_
  refine own_istore (l' := #[.val (.ref b), .val (.int (46 : Int32)), .val (.int (0 : Int32)), .val (.int (3 : Int32)), .val (.int (46 : Int32)), .val (.int (0 : Int32))]) X0 hx (hb hby d18_5) rfl ?_
  refine own_iload X0 hx (hb hby d18_7) rfl ?_
  refine own_iloadN X0 hx (hb hby d18_9) rfl ?_
  refine own_icmpNo X0 hx (hb hby d18_10) (tlt (by decide : (0 : Int32) < (3 : Int32))).2.1 ?_
  refine own_aloadN X0 hx (hb hby d18_13) rfl rfl ?_
  refine own_iload X0 hx (hb hby d18_14) rfl ?_
  refine own_baload X0 hx hZ (.int (c0.toInt8.toInt32)) e0 Vb ⟨by decide, by decide⟩ rfl (hb hby d18_16) ?_
  refine own_iload X0 hx (hb hby d18_17) rfl ?_
  refine own_icmpYes X0 hx 25 (hb hby d18_19) (feq hd0).2 (by decide) (by decide) ?_
  refine own_iinc (l' := #[.val (.ref b), .val (.int (46 : Int32)), .val (.int (0 : Int32)), .val (.int (3 : Int32)), .val (.int (46 : Int32)), .val (.int ((0 : Int32) + (1 : Int32)))]) X0 hx (hb hby d18_25) rfl rfl ?_
  rw [show ((0 : Int32) + (1 : Int32)) = (1 : Int32) from by decide]
  refine own_goto X0 hx 7 (hb hby d18_28) (by decide) (by decide) ?_
  refine own_iload X0 hx (hb hby d18_7) rfl ?_
  refine own_iloadN X0 hx (hb hby d18_9) rfl ?_
  refine own_icmpNo X0 hx (hb hby d18_10) (tlt (by decide : (1 : Int32) < (3 : Int32))).2.1 ?_
  refine own_aloadN X0 hx (hb hby d18_13) rfl rfl ?_
  refine own_iload X0 hx (hb hby d18_14) rfl ?_
  refine own_baload X0 hx hZ (.int (46 : Int32)) e0 Vb ⟨by decide, by decide⟩ rfl (hb hby d18_16) ?_
  refine own_iload X0 hx (hb hby d18_17) rfl ?_
  refine own_icmpNo X0 hx (hb hby d18_19) (teq (by decide : (46 : Int32) = (46 : Int32))).2 ?_
  refine own_iload X0 hx (hb hby d18_22) rfl ?_
  refine own_retI X0 hx hlk hret (hb hby d18_24) (own_kN (by decide) (by decide) ?_)
  try rw [e0]
  exact ⟨rfl, N0, rfl⟩
set_option maxRecDepth 65536 in
set_option maxHeartbeats 40000000 in
theorem rmIC_3_2 (l : Launch) (Z : State) (a0 : Array Value) (hw : ∀ d ∈ tables_1, d.before a0 Z = true) (ws : List Jvm.Cond) (b : Addr) (kb : ClassId) (c0 c1 c2 : Int32)  (h0 : Heap) (n0 : Nat) (Z0 : n0 ≤ h0.size) (Vb : Arv Z h0 b kb .byte (3 : Int32) [(.int (c0.toInt8.toInt32)), (.int (c1.toInt8.toInt32)), (.int (46 : Int32))] (.int (0 : Int32))) (hd0 : ¬ ((c0.toInt8.toInt32) = (46 : Int32))) (hd1 : ¬ ((c1.toInt8.toInt32) = (46 : Int32))) :
    own_Met l (⟨"java/lang/StringLatin1", "indexOfChar", "([BIII)I"⟩ : MethodName) jdk_43_method_23_code 6 (some .int) ws ({ frames := 0, cells := 0, slots := 0, locals := 0 } : Room) Z #[(.ref b), (.int (46 : Int32)), (.int (0 : Int32)), (.int (3 : Int32))] h0 (fun v h L => v = some (.int (2 : Int32)) ∧ Fr n0 L ∧ h = h0) := by
  refine own_body (plainFor_of_name pn_3) ?_
  intro p e s m below meth c s₁ X0 hx hby hml hown hnm hret hlk hZ e0
  replace hown : s.vm.findClass "java/lang/StringLatin1" = some m.cls := hown
  replace hml : c.maxLocals = 6 := hml
  replace hret : meth.sig.returnType = (some .int) := hret
  have N0 := Fr.nil n0
  have ef : entryFrame m #[(.ref b), (.int (46 : Int32)), (.int (0 : Int32)), (.int (3 : Int32))] 6 = mkF m 0 #[.val (.ref b), .val (.int (46 : Int32)), .val (.int (0 : Int32)), .val (.int (3 : Int32)), .unset, .unset] [] := by first | (simp [entryFrame, mkF, argsToLocals, Value.category]; done) | rfl
  refine own_step (S' := (s₁.setTop (mkF m 0 #[.val (.ref b), .val (.int (46 : Int32)), .val (.int (0 : Int32)), .val (.int (3 : Int32)), .unset, .unset] []))) (fun _ k => castTop ef k) ?_
  refine own_iloadN X0 hx (hb hby d18_0) rfl ?_
  refine own_i2b X0 hx (hb hby d18_1) ?_
  rw [show ((46 : Int32).toInt8.toInt32) = (46 : Int32) from by decide]
  refine own_istore (l' := #[.val (.ref b), .val (.int (46 : Int32)), .val (.int (0 : Int32)), .val (.int (3 : Int32)), .val (.int (46 : Int32)), .unset]) X0 hx (hb hby d18_2) rfl ?_
  refine own_iloadN X0 hx (hb hby d18_4) rfl ?_
  refine own_istore (l' := #[.val (.ref b), .val (.int (46 : Int32)), .val (.int (0 : Int32)), .val (.int (3 : Int32)), .val (.int (46 : Int32)), .val (.int (0 : Int32))]) X0 hx (hb hby d18_5) rfl ?_
  refine own_iload X0 hx (hb hby d18_7) rfl ?_
  refine own_iloadN X0 hx (hb hby d18_9) rfl ?_
  refine own_icmpNo X0 hx (hb hby d18_10) (tlt (by decide : (0 : Int32) < (3 : Int32))).2.1 ?_
  refine own_aloadN X0 hx (hb hby d18_13) rfl rfl ?_
  refine own_iload X0 hx (hb hby d18_14) rfl ?_
  refine own_baload X0 hx hZ (.int (c0.toInt8.toInt32)) e0 Vb ⟨by decide, by decide⟩ rfl (hb hby d18_16) ?_
  refine own_iload X0 hx (hb hby d18_17) rfl ?_
  refine own_icmpYes X0 hx 25 (hb hby d18_19) (feq hd0).2 (by decide) (by decide) ?_
  refine own_iinc (l' := #[.val (.ref b), .val (.int (46 : Int32)), .val (.int (0 : Int32)), .val (.int (3 : Int32)), .val (.int (46 : Int32)), .val (.int ((0 : Int32) + (1 : Int32)))]) X0 hx (hb hby d18_25) rfl rfl ?_
  rw [show ((0 : Int32) + (1 : Int32)) = (1 : Int32) from by decide]
  refine own_goto X0 hx 7 (hb hby d18_28) (by decide) (by decide) ?_
  refine own_iload X0 hx (hb hby d18_7) rfl ?_
  refine own_iloadN X0 hx (hb hby d18_9) rfl ?_
  refine own_icmpNo X0 hx (hb hby d18_10) (tlt (by decide : (1 : Int32) < (3 : Int32))).2.1 ?_
  refine own_aloadN X0 hx (hb hby d18_13) rfl rfl ?_
  refine own_iload X0 hx (hb hby d18_14) rfl ?_
  refine own_baload X0 hx hZ (.int (c1.toInt8.toInt32)) e0 Vb ⟨by decide, by decide⟩ rfl (hb hby d18_16) ?_
  refine own_iload X0 hx (hb hby d18_17) rfl ?_
  refine own_icmpYes X0 hx 25 (hb hby d18_19) (feq hd1).2 (by decide) (by decide) ?_
  refine own_iinc (l' := #[.val (.ref b), .val (.int (46 : Int32)), .val (.int (0 : Int32)), .val (.int (3 : Int32)), .val (.int (46 : Int32)), .val (.int ((1 : Int32) + (1 : Int32)))]) X0 hx (hb hby d18_25) rfl rfl ?_
  rw [show ((1 : Int32) + (1 : Int32)) = (2 : Int32) from by decide]
  refine own_goto X0 hx 7 (hb hby d18_28) (by decide) (by decide) ?_
  refine own_iload X0 hx (hb hby d18_7) rfl ?_
  refine own_iloadN X0 hx (hb hby d18_9) rfl ?_
  refine own_icmpNo X0 hx (hb hby d18_10) (tlt (by decide : (2 : Int32) < (3 : Int32))).2.1 ?_
  refine own_aloadN X0 hx (hb hby d18_13) rfl rfl ?_
  refine own_iload X0 hx (hb hby d18_14) rfl ?_
  refine own_baload X0 hx hZ (.int (46 : Int32)) e0 Vb ⟨by decide, by decide⟩ rfl (hb hby d18_16) ?_
  refine own_iload X0 hx (hb hby d18_17) rfl ?_
  refine own_icmpNo X0 hx (hb hby d18_19) (teq (by decide : (46 : Int32) = (46 : Int32))).2 ?_
  refine own_iload X0 hx (hb hby d18_22) rfl ?_
  refine own_retI X0 hx hlk hret (hb hby d18_24) (own_kN (by decide) (by decide) ?_)
  try rw [e0]
  exact ⟨rfl, N0, rfl⟩
set_option maxRecDepth 65536 in
set_option maxHeartbeats 40000000 in
theorem rmL1_3 (l : Launch) (Z : State) (a0 : Array Value) (hw : ∀ d ∈ tables_1, d.before a0 Z = true) (ws : List Jvm.Cond) (b : Addr) (r : Int32)  (h0 : Heap) (n0 : Nat) (Z0 : n0 ≤ h0.size) (A : own_Aln Z h0 b .byte (3 : Int32)) (hIC : own_Met l (⟨"java/lang/StringLatin1", "indexOfChar", "([BIII)I"⟩ : MethodName) jdk_43_method_23_code 6 (some .int) [] ({ frames := 0, cells := 0, slots := 0, locals := 0 } : Room) Z #[(.ref b), (.int (46 : Int32)), (.int (0 : Int32)), (.int (3 : Int32))] h0 (fun v h L => v = some (.int r) ∧ Fr n0 L ∧ h = h0)) :
    own_Met l (⟨"java/lang/StringLatin1", "indexOf", "([BIII)I"⟩ : MethodName) jdk_43_method_22_code 4 (some .int) ws ({ frames := 1, cells := 0, slots := 0, locals := 17 } : Room) Z #[(.ref b), (.int (46 : Int32)), (.int (0 : Int32)), (.int (3 : Int32))] h0 (fun v h L => v = some (.int r) ∧ Fr n0 L ∧ h = h0) := by
  refine own_body (plainFor_of_name pn_3) ?_
  intro p e s m below meth c s₁ X0 hx hby hml hown hnm hret hlk hZ e0
  replace hown : s.vm.findClass "java/lang/StringLatin1" = some m.cls := hown
  replace hml : c.maxLocals = 4 := hml
  replace hret : meth.sig.returnType = (some .int) := hret
  have N0 := Fr.nil n0
  have ef : entryFrame m #[(.ref b), (.int (46 : Int32)), (.int (0 : Int32)), (.int (3 : Int32))] 4 = mkF m 0 #[.val (.ref b), .val (.int (46 : Int32)), .val (.int (0 : Int32)), .val (.int (3 : Int32))] [] := by first | (simp [entryFrame, mkF, argsToLocals, Value.category]; done) | rfl
  refine own_step (S' := (s₁.setTop (mkF m 0 #[.val (.ref b), .val (.int (46 : Int32)), .val (.int (0 : Int32)), .val (.int (3 : Int32))] []))) (fun _ k => castTop ef k) ?_
  refine own_iloadN X0 hx (hb hby d11_0) rfl ?_
  refine own_cStat (W := 0) (rest := []) X0 hx hZ [(.int (46 : Int32))] hown (hw _ (List.mem_of_getElem? (i := 61) rfl)) (hw _ (List.mem_of_getElem? (i := 62) rfl)) (by decide) (hw _ (List.mem_of_getElem? (i := 63) rfl)) (hw _ (List.mem_of_getElem? (i := 59) rfl)) e0 (rmCE l Z a0 hw [] h0 n0 Z0) (by rw [hml]; rfl) (lenOf pd_5 rfl) rfl (Nat.le_of_eq rfl) (hb hby d11_1) (by decide) (by decide) (by decide) (by decide) fun v101 T101 L101 X101 hQ101 => ?_
  obtain ⟨rfl, N101q, e101⟩ := hQ101
  have N101 := Fr.app N0 N101q
  show own_At p e below _ T101 m 4 _ [(.int (1 : Int32))]
  refine own_ifYes X101 hx 9 (hb hby d11_4) (feq (by decide : ¬ ((1 : Int32) = (0 : Int32)))).2 (by decide) (by decide) ?_
  refine own_iloadN X101 hx (hb hby d11_9) rfl ?_
  refine own_iconst X101 hx (0 : Int32) (hb hby d11_10) rfl ?_
  refine own_cStat (W := 0) (rest := []) X101 hx hZ [(.int (0 : Int32)), (.int (0 : Int32))] hown (hw _ (List.mem_of_getElem? (i := 64) rfl)) (hw _ (List.mem_of_getElem? (i := 65) rfl)) (by decide) (hw _ (List.mem_of_getElem? (i := 67) rfl)) (hw _ (List.mem_of_getElem? (i := 66) rfl)) e101 (rmMax l Z a0 hw [] h0 n0 Z0) (by rw [hml]; rfl) (lenOf pd_6 rfl) rfl (Nat.le_of_eq rfl) (hb hby d11_11) (by decide) (by decide) (by decide) (by decide) fun v102 T102 L102 X102 hQ102 => ?_
  obtain ⟨rfl, N102q, e102⟩ := hQ102
  have N102 := Fr.app N101 N102q
  show own_At p e below _ T102 m 14 _ [(.int (0 : Int32))]
  refine own_istoreN (l' := #[.val (.ref b), .val (.int (46 : Int32)), .val (.int (0 : Int32)), .val (.int (3 : Int32))]) X102 hx (hb hby d11_14) rfl ?_
  refine own_iloadN X102 hx (hb hby d11_15) rfl ?_
  refine own_aloadN X102 hx (hb hby d11_16) rfl rfl ?_
  refine own_arraylength X102 hx hZ e102 A (hb hby d11_17) ?_
  refine own_cStat (W := 0) (rest := []) X102 hx hZ [(.int (3 : Int32)), (.int (3 : Int32))] hown (hw _ (List.mem_of_getElem? (i := 68) rfl)) (hw _ (List.mem_of_getElem? (i := 69) rfl)) (by decide) (hw _ (List.mem_of_getElem? (i := 70) rfl)) (hw _ (List.mem_of_getElem? (i := 66) rfl)) e102 (rmMin_3 l Z a0 hw [] h0 n0 Z0) (by rw [hml]; rfl) (lenOf pd_6 rfl) rfl (Nat.le_of_eq rfl) (hb hby d11_18) (by decide) (by decide) (by decide) (by decide) fun v103 T103 L103 X103 hQ103 => ?_
  obtain ⟨rfl, N103q, e103⟩ := hQ103
  have N103 := Fr.app N102 N103q
  show own_At p e below _ T103 m 21 _ [(.int (3 : Int32))]
  refine own_istoreN (l' := #[.val (.ref b), .val (.int (46 : Int32)), .val (.int (0 : Int32)), .val (.int (3 : Int32))]) X103 hx (hb hby d11_21) rfl ?_
  refine own_iloadN X103 hx (hb hby d11_22) rfl ?_
  refine own_iloadN X103 hx (hb hby d11_23) rfl ?_
  refine own_icmpYes X103 hx 29 (hb hby d11_24) (tlt (by decide : (0 : Int32) < (3 : Int32))).1 (by decide) (by decide) ?_
  refine own_aloadN X103 hx (hb hby d11_29) rfl rfl ?_
  refine own_iloadN X103 hx (hb hby d11_30) rfl ?_
  refine own_iloadN X103 hx (hb hby d11_31) rfl ?_
  refine own_iloadN X103 hx (hb hby d11_32) rfl ?_
  refine own_cStat (W := 0) (rest := []) X103 hx hZ [(.ref b), (.int (46 : Int32)), (.int (0 : Int32)), (.int (3 : Int32))] hown (hw _ (List.mem_of_getElem? (i := 81) rfl)) (hw _ (List.mem_of_getElem? (i := 82) rfl)) (by decide) (hw _ (List.mem_of_getElem? (i := 83) rfl)) (hw _ (List.mem_of_getElem? (i := 59) rfl)) e103 (hIC) (by rw [hml]; rfl) (lenOf pd_9 rfl) rfl (Nat.le_of_eq rfl) (hb hby d11_33) (by decide) (by decide) (by decide) (by decide) fun v104 T104 L104 X104 hQ104 => ?_
  obtain ⟨rfl, N104q, e104⟩ := hQ104
  have N104 := Fr.app N103 N104q
  show own_At p e below _ T104 m 36 _ [(.int r)]
  refine own_retI X104 hx hlk hret (hb hby d11_36) (own_kN (by decide) (by decide) ?_)
  try rw [e104]
  exact ⟨rfl, N104, rfl⟩
set_option maxRecDepth 65536 in
set_option maxHeartbeats 40000000 in
theorem rmX2_3 (l : Launch) (Z : State) (a0 : Array Value) (hw : ∀ d ∈ tables_1, d.before a0 Z = true) (ws : List Jvm.Cond) (a b : Addr) (cs : Int32) (r : Int32)  (h0 : Heap) (n0 : Nat) (Z0 : n0 ≤ h0.size) (Sc : Sta Z h0 "java/lang/String" "COMPACT_STRINGS" "Z" (.int cs)) (hcs : ¬ (cs = (0 : Int32))) (Ea : Exa Z h0 a "java/lang/String") (Fv : Fld Z h0 a "java/lang/String" "value" "[B" (.ref b)) (Fc : Fld Z h0 a "java/lang/String" "coder" "B" (.int (0 : Int32))) (A : own_Aln Z h0 b .byte (3 : Int32)) (hIC : own_Met l (⟨"java/lang/StringLatin1", "indexOfChar", "([BIII)I"⟩ : MethodName) jdk_43_method_23_code 6 (some .int) [] ({ frames := 0, cells := 0, slots := 0, locals := 0 } : Room) Z #[(.ref b), (.int (46 : Int32)), (.int (0 : Int32)), (.int (3 : Int32))] h0 (fun v h L => v = some (.int r) ∧ Fr n0 L ∧ h = h0)) :
    own_Met l (⟨"java/lang/String", "indexOf", "(II)I"⟩ : MethodName) jdk_42_method_80_code 3 (some .int) ws ({ frames := 2, cells := 0, slots := 0, locals := 32 } : Room) Z #[(.ref a), (.int (46 : Int32)), (.int (0 : Int32))] h0 (fun v h L => v = some (.int r) ∧ Fr n0 L ∧ h = h0) := by
  refine own_body (plainFor_of_name pn_2) ?_
  intro p e s m below meth c s₁ X0 hx hby hml hown hnm hret hlk hZ e0
  replace hown : s.vm.findClass "java/lang/String" = some m.cls := hown
  replace hml : c.maxLocals = 3 := hml
  replace hret : meth.sig.returnType = (some .int) := hret
  have N0 := Fr.nil n0
  have ef : entryFrame m #[(.ref a), (.int (46 : Int32)), (.int (0 : Int32))] 3 = mkF m 0 #[.val (.ref a), .val (.int (46 : Int32)), .val (.int (0 : Int32))] [] := by first | (simp [entryFrame, mkF, argsToLocals, Value.category]; done) | rfl
  refine own_step (S' := (s₁.setTop (mkF m 0 #[.val (.ref a), .val (.int (46 : Int32)), .val (.int (0 : Int32))] []))) (fun _ k => castTop ef k) ?_
  refine own_aloadN X0 hx (hb hby d7_0) rfl rfl ?_
  refine own_cVirt (W := 0) (rest := []) X0 hx hZ [] hown (hw _ (List.mem_of_getElem? (i := 41) rfl)) (hw _ (List.mem_of_getElem? (i := 42) rfl)) (notFace_of_selects (args := #[]) (mvT hZ (hw _ (List.mem_of_getElem? (i := 44) rfl)))) (hw _ (List.mem_of_getElem? (i := 44) rfl)) (hw _ (List.mem_of_getElem? (i := 43) rfl)) (by decide) (hw _ (List.mem_of_getElem? (i := 45) rfl)) (hw _ (List.mem_of_getElem? (i := 8) rfl)) e0 Ea (rmL l Z a0 hw [] a cs h0 n0 Z0 Sc hcs Fc) (by rw [hml]; rfl) (lenOf pd_7 rfl) rfl (Nat.le_of_eq rfl) (hb hby d7_1) (by decide) (by decide) (by decide) (by decide) fun v105 T105 L105 X105 hQ105 => ?_
  obtain ⟨rfl, N105q, e105⟩ := hQ105
  have N105 := Fr.app N0 N105q
  show own_At p e below _ T105 m 4 _ [(.int (1 : Int32))]
  refine own_ifNo X105 hx (hb hby d7_4) (feq (by decide : ¬ ((1 : Int32) = (0 : Int32)))).1 ?_
  refine own_aloadN X105 hx (hb hby d7_7) rfl rfl ?_
  refine own_getF X105 hx hZ hown (host := "") (Or.inl (hw _ (List.mem_of_getElem? (i := 25) rfl))) Via.refl e105 Fv (hb hby d7_8) fun T106 X106 e106 => ?_
  refine own_iloadN X106 hx (hb hby d7_11) rfl ?_
  refine own_iloadN X106 hx (hb hby d7_12) rfl ?_
  refine own_aloadN X106 hx (hb hby d7_13) rfl rfl ?_
  refine own_cVirt (W := 3) (rest := [(.int (0 : Int32)), (.int (46 : Int32)), (.ref b)]) X106 hx hZ [] hown (hw _ (List.mem_of_getElem? (i := 47) rfl)) (hw _ (List.mem_of_getElem? (i := 48) rfl)) (notFace_of_selects (args := #[]) (mvT hZ (hw _ (List.mem_of_getElem? (i := 50) rfl)))) (hw _ (List.mem_of_getElem? (i := 50) rfl)) (hw _ (List.mem_of_getElem? (i := 49) rfl)) (by decide) (hw _ (List.mem_of_getElem? (i := 51) rfl)) (hw _ (List.mem_of_getElem? (i := 8) rfl)) e106 Ea (rmLen_3 l Z a0 hw [] a b cs h0 n0 Z0 Sc hcs Ea Fv Fc A) (by rw [hml]; rfl) (lenOf pd_8 rfl) rfl (Nat.le_of_eq rfl) (hb hby d7_14) (by decide) (by decide) (by decide) (by decide) fun v107 T107 L107 X107 hQ107 => ?_
  obtain ⟨rfl, N107q, e107⟩ := hQ107
  have N107 := Fr.app N105 N107q
  show own_At p e below _ T107 m 17 _ [(.int (3 : Int32)), (.int (0 : Int32)), (.int (46 : Int32)), (.ref b)]
  refine own_cStat (W := 0) (rest := []) X107 hx hZ [(.ref b), (.int (46 : Int32)), (.int (0 : Int32)), (.int (3 : Int32))] hown (hw _ (List.mem_of_getElem? (i := 57) rfl)) (hw _ (List.mem_of_getElem? (i := 58) rfl)) (by decide) (hw _ (List.mem_of_getElem? (i := 60) rfl)) (hw _ (List.mem_of_getElem? (i := 59) rfl)) e107 (rmL1_3 l Z a0 hw [] b r h0 n0 Z0 A hIC) (by rw [hml]; rfl) (lenOf pd_9 rfl) rfl (Nat.le_of_eq rfl) (hb hby d7_17) (by decide) (by decide) (by decide) (by decide) fun v108 T108 L108 X108 hQ108 => ?_
  obtain ⟨rfl, N108q, e108⟩ := hQ108
  have N108 := Fr.app N107 N108q
  show own_At p e below _ T108 m 20 _ [(.int r)]
  refine own_goto X108 hx 36 (hb hby d7_20) (by decide) (by decide) ?_
  refine own_retI X108 hx hlk hret (hb hby d7_36) (own_kN (by decide) (by decide) ?_)
  try rw [e108]
  exact ⟨rfl, N108, rfl⟩
set_option maxRecDepth 65536 in
set_option maxHeartbeats 40000000 in
theorem rmX1_3 (l : Launch) (Z : State) (a0 : Array Value) (hw : ∀ d ∈ tables_1, d.before a0 Z = true) (ws : List Jvm.Cond) (a b : Addr) (cs : Int32) (r : Int32)  (h0 : Heap) (n0 : Nat) (Z0 : n0 ≤ h0.size) (Sc : Sta Z h0 "java/lang/String" "COMPACT_STRINGS" "Z" (.int cs)) (hcs : ¬ (cs = (0 : Int32))) (Ea : Exa Z h0 a "java/lang/String") (Fv : Fld Z h0 a "java/lang/String" "value" "[B" (.ref b)) (Fc : Fld Z h0 a "java/lang/String" "coder" "B" (.int (0 : Int32))) (A : own_Aln Z h0 b .byte (3 : Int32)) (hIC : own_Met l (⟨"java/lang/StringLatin1", "indexOfChar", "([BIII)I"⟩ : MethodName) jdk_43_method_23_code 6 (some .int) [] ({ frames := 0, cells := 0, slots := 0, locals := 0 } : Room) Z #[(.ref b), (.int (46 : Int32)), (.int (0 : Int32)), (.int (3 : Int32))] h0 (fun v h L => v = some (.int r) ∧ Fr n0 L ∧ h = h0)) :
    own_Met l (⟨"java/lang/String", "indexOf", "(I)I"⟩ : MethodName) jdk_42_method_79_code 2 (some .int) ws ({ frames := 3, cells := 0, slots := 0, locals := 46 } : Room) Z #[(.ref a), (.int (46 : Int32))] h0 (fun v h L => v = some (.int r) ∧ Fr n0 L ∧ h = h0) := by
  refine own_body (plainFor_of_name pn_2) ?_
  intro p e s m below meth c s₁ X0 hx hby hml hown hnm hret hlk hZ e0
  replace hown : s.vm.findClass "java/lang/String" = some m.cls := hown
  replace hml : c.maxLocals = 2 := hml
  replace hret : meth.sig.returnType = (some .int) := hret
  have N0 := Fr.nil n0
  have ef : entryFrame m #[(.ref a), (.int (46 : Int32))] 2 = mkF m 0 #[.val (.ref a), .val (.int (46 : Int32))] [] := by first | (simp [entryFrame, mkF, argsToLocals, Value.category]; done) | rfl
  refine own_step (S' := (s₁.setTop (mkF m 0 #[.val (.ref a), .val (.int (46 : Int32))] []))) (fun _ k => castTop ef k) ?_
  refine own_aloadN X0 hx (hb hby d6_0) rfl rfl ?_
  refine own_iloadN X0 hx (hb hby d6_1) rfl ?_
  refine own_iconst X0 hx (0 : Int32) (hb hby d6_2) rfl ?_
  refine own_cVirt (W := 0) (rest := []) X0 hx hZ [(.int (46 : Int32)), (.int (0 : Int32))] hown (hw _ (List.mem_of_getElem? (i := 36) rfl)) (hw _ (List.mem_of_getElem? (i := 37) rfl)) (notFace_of_selects (args := #[]) (mvT hZ (hw _ (List.mem_of_getElem? (i := 39) rfl)))) (hw _ (List.mem_of_getElem? (i := 39) rfl)) (hw _ (List.mem_of_getElem? (i := 38) rfl)) (by decide) (hw _ (List.mem_of_getElem? (i := 40) rfl)) (hw _ (List.mem_of_getElem? (i := 8) rfl)) e0 Ea (rmX2_3 l Z a0 hw [] a b cs r h0 n0 Z0 Sc hcs Ea Fv Fc A hIC) (by rw [hml]; rfl) (lenOf pd_6 rfl) rfl (Nat.le_of_eq rfl) (hb hby d6_3) (by decide) (by decide) (by decide) (by decide) fun v109 T109 L109 X109 hQ109 => ?_
  obtain ⟨rfl, N109q, e109⟩ := hQ109
  have N109 := Fr.app N0 N109q
  show own_At p e below _ T109 m 6 _ [(.int r)]
  refine own_retI X109 hx hlk hret (hb hby d6_6) (own_kN (by decide) (by decide) ?_)
  try rw [e109]
  exact ⟨rfl, N109, rfl⟩
set_option maxRecDepth 65536 in
set_option maxHeartbeats 40000000 in
theorem rmSL_3_1 (l : Launch) (Z : State) (a0 : Array Value) (hw : ∀ d ∈ tables_1, d.before a0 Z = true) (ws : List Jvm.Cond) (a b : Addr) (cs : Int32) (r : Int32)  (h0 : Heap) (n0 : Nat) (Z0 : n0 ≤ h0.size) (Sc : Sta Z h0 "java/lang/String" "COMPACT_STRINGS" "Z" (.int cs)) (hcs : ¬ (cs = (0 : Int32))) (Ea : Exa Z h0 a "java/lang/String") (Fv : Fld Z h0 a "java/lang/String" "value" "[B" (.ref b)) (Fc : Fld Z h0 a "java/lang/String" "coder" "B" (.int (0 : Int32))) (A : own_Aln Z h0 b .byte (3 : Int32)) (hIC : own_Met l (⟨"java/lang/StringLatin1", "indexOfChar", "([BIII)I"⟩ : MethodName) jdk_43_method_23_code 6 (some .int) [] ({ frames := 0, cells := 0, slots := 0, locals := 0 } : Room) Z #[(.ref b), (.int (46 : Int32)), (.int (0 : Int32)), (.int (3 : Int32))] h0 (fun v h L => v = some (.int r) ∧ Fr n0 L ∧ h = h0)) (hr : r < (0 : Int32)) :
    own_Met l (⟨"com/example/ratatoskr/ratatoskr/DomainName", "isSingleLabel", "(Ljava/lang/String;)Z"⟩ : MethodName) prog_9_method_3_code 1 (some .boolean) ws ({ frames := 4, cells := 0, slots := 0, locals := 59 } : Room) Z #[(.ref a)] h0 (fun v h L => v = some (.int (1 : Int32)) ∧ Fr n0 L ∧ h = h0) := by
  refine own_body (plainFor_of_name pn_4) ?_
  intro p e s m below meth c s₁ X0 hx hby hml hown hnm hret hlk hZ e0
  replace hown : s.vm.findClass "com/example/ratatoskr/ratatoskr/DomainName" = some m.cls := hown
  replace hml : c.maxLocals = 1 := hml
  replace hret : meth.sig.returnType = (some .boolean) := hret
  have N0 := Fr.nil n0
  have ef : entryFrame m #[(.ref a)] 1 = mkF m 0 #[.val (.ref a)] [] := by first | (simp [entryFrame, mkF, argsToLocals, Value.category]; done) | rfl
  refine own_step (S' := (s₁.setTop (mkF m 0 #[.val (.ref a)] []))) (fun _ k => castTop ef k) ?_
  refine own_aloadN X0 hx (hb hby d5_0) rfl rfl ?_
  refine own_bipush X0 hx (46 : Int32) (hb hby d5_1) rfl ?_
  refine own_cVirt (W := 0) (rest := []) X0 hx hZ [(.int (46 : Int32))] hown (hw _ (List.mem_of_getElem? (i := 31) rfl)) (hw _ (List.mem_of_getElem? (i := 32) rfl)) (notFace_of_selects (args := #[]) (mvT hZ (hw _ (List.mem_of_getElem? (i := 34) rfl)))) (hw _ (List.mem_of_getElem? (i := 34) rfl)) (hw _ (List.mem_of_getElem? (i := 33) rfl)) (by decide) (hw _ (List.mem_of_getElem? (i := 35) rfl)) (hw _ (List.mem_of_getElem? (i := 8) rfl)) e0 Ea (rmX1_3 l Z a0 hw [] a b cs r h0 n0 Z0 Sc hcs Ea Fv Fc A hIC) (by rw [hml]; rfl) (lenOf pd_10 rfl) rfl (Nat.le_of_eq rfl) (hb hby d5_3) (by decide) (by decide) (by decide) (by decide) fun v110 T110 L110 X110 hQ110 => ?_
  obtain ⟨rfl, N110q, e110⟩ := hQ110
  have N110 := Fr.app N0 N110q
  show own_At p e below _ T110 m 6 _ [(.int r)]
  refine own_ifNo X110 hx (hb hby d5_6) (tlt hr).2.1 ?_
  refine own_iconst X110 hx (1 : Int32) (hb hby d5_9) rfl ?_
  refine own_goto X110 hx 14 (hb hby d5_10) (by decide) (by decide) ?_
  refine own_retN X110 hx hlk hret (by simp) (by decide) (hb hby d5_14) (own_kN (by decide) (by decide) ?_)
  try rw [e110]
  exact ⟨rfl, N110, rfl⟩
set_option maxRecDepth 65536 in
set_option maxHeartbeats 40000000 in
theorem rmSL_3_0 (l : Launch) (Z : State) (a0 : Array Value) (hw : ∀ d ∈ tables_1, d.before a0 Z = true) (ws : List Jvm.Cond) (a b : Addr) (cs : Int32) (r : Int32)  (h0 : Heap) (n0 : Nat) (Z0 : n0 ≤ h0.size) (Sc : Sta Z h0 "java/lang/String" "COMPACT_STRINGS" "Z" (.int cs)) (hcs : ¬ (cs = (0 : Int32))) (Ea : Exa Z h0 a "java/lang/String") (Fv : Fld Z h0 a "java/lang/String" "value" "[B" (.ref b)) (Fc : Fld Z h0 a "java/lang/String" "coder" "B" (.int (0 : Int32))) (A : own_Aln Z h0 b .byte (3 : Int32)) (hIC : own_Met l (⟨"java/lang/StringLatin1", "indexOfChar", "([BIII)I"⟩ : MethodName) jdk_43_method_23_code 6 (some .int) [] ({ frames := 0, cells := 0, slots := 0, locals := 0 } : Room) Z #[(.ref b), (.int (46 : Int32)), (.int (0 : Int32)), (.int (3 : Int32))] h0 (fun v h L => v = some (.int r) ∧ Fr n0 L ∧ h = h0)) (hr : ¬ (r < (0 : Int32))) :
    own_Met l (⟨"com/example/ratatoskr/ratatoskr/DomainName", "isSingleLabel", "(Ljava/lang/String;)Z"⟩ : MethodName) prog_9_method_3_code 1 (some .boolean) ws ({ frames := 4, cells := 0, slots := 0, locals := 59 } : Room) Z #[(.ref a)] h0 (fun v h L => v = some (.int (0 : Int32)) ∧ Fr n0 L ∧ h = h0) := by
  refine own_body (plainFor_of_name pn_4) ?_
  intro p e s m below meth c s₁ X0 hx hby hml hown hnm hret hlk hZ e0
  replace hown : s.vm.findClass "com/example/ratatoskr/ratatoskr/DomainName" = some m.cls := hown
  replace hml : c.maxLocals = 1 := hml
  replace hret : meth.sig.returnType = (some .boolean) := hret
  have N0 := Fr.nil n0
  have ef : entryFrame m #[(.ref a)] 1 = mkF m 0 #[.val (.ref a)] [] := by first | (simp [entryFrame, mkF, argsToLocals, Value.category]; done) | rfl
  refine own_step (S' := (s₁.setTop (mkF m 0 #[.val (.ref a)] []))) (fun _ k => castTop ef k) ?_
  refine own_aloadN X0 hx (hb hby d5_0) rfl rfl ?_
  refine own_bipush X0 hx (46 : Int32) (hb hby d5_1) rfl ?_
  refine own_cVirt (W := 0) (rest := []) X0 hx hZ [(.int (46 : Int32))] hown (hw _ (List.mem_of_getElem? (i := 31) rfl)) (hw _ (List.mem_of_getElem? (i := 32) rfl)) (notFace_of_selects (args := #[]) (mvT hZ (hw _ (List.mem_of_getElem? (i := 34) rfl)))) (hw _ (List.mem_of_getElem? (i := 34) rfl)) (hw _ (List.mem_of_getElem? (i := 33) rfl)) (by decide) (hw _ (List.mem_of_getElem? (i := 35) rfl)) (hw _ (List.mem_of_getElem? (i := 8) rfl)) e0 Ea (rmX1_3 l Z a0 hw [] a b cs r h0 n0 Z0 Sc hcs Ea Fv Fc A hIC) (by rw [hml]; rfl) (lenOf pd_10 rfl) rfl (Nat.le_of_eq rfl) (hb hby d5_3) (by decide) (by decide) (by decide) (by decide) fun v111 T111 L111 X111 hQ111 => ?_
  obtain ⟨rfl, N111q, e111⟩ := hQ111
  have N111 := Fr.app N0 N111q
  show own_At p e below _ T111 m 6 _ [(.int r)]
  refine own_ifYes X111 hx 13 (hb hby d5_6) (flt hr).2.1 (by decide) (by decide) ?_
  refine own_iconst X111 hx (0 : Int32) (hb hby d5_13) rfl ?_
  refine own_retN X111 hx hlk hret (by simp) (by decide) (hb hby d5_14) (own_kN (by decide) (by decide) ?_)
  try rw [e111]
  exact ⟨rfl, N111, rfl⟩
set_option maxRecDepth 65536 in
set_option maxHeartbeats 40000000 in
theorem rmMin_4 (l : Launch) (Z : State) (a0 : Array Value) (hw : ∀ d ∈ tables_1, d.before a0 Z = true) (ws : List Jvm.Cond)   (h0 : Heap) (n0 : Nat) (Z0 : n0 ≤ h0.size) :
    own_Met l (⟨"java/lang/Math", "min", "(II)I"⟩ : MethodName) jdk_29_method_69_code 2 (some .int) ws ({ frames := 0, cells := 0, slots := 0, locals := 0 } : Room) Z #[(.int (4 : Int32)), (.int (4 : Int32))] h0 (fun v h L => v = some (.int (4 : Int32)) ∧ Fr n0 L ∧ h = h0) := by
  refine own_body (Jvm.Free.JP.mathPlain rfl (by decide +kernel)) ?_
  intro p e s m below meth c s₁ X0 hx hby hml hown hnm hret hlk hZ e0
  replace hown : s.vm.findClass "java/lang/Math" = some m.cls := hown
  replace hml : c.maxLocals = 2 := hml
  replace hret : meth.sig.returnType = (some .int) := hret
  have N0 := Fr.nil n0
  have ef : entryFrame m #[(.int (4 : Int32)), (.int (4 : Int32))] 2 = mkF m 0 #[.val (.int (4 : Int32)), .val (.int (4 : Int32))] [] := by first | (simp [entryFrame, mkF, argsToLocals, Value.category]; done) | rfl
  refine own_step (S' := (s₁.setTop (mkF m 0 #[.val (.int (4 : Int32)), .val (.int (4 : Int32))] []))) (fun _ k => castTop ef k) ?_
  refine own_iloadN X0 hx (hb hby d14_0) rfl ?_
  refine own_iloadN X0 hx (hb hby d14_1) rfl ?_
  refine own_icmpNo X0 hx (hb hby d14_2) (flt (by decide : ¬ ((4 : Int32) < (4 : Int32)))).2.2.1 ?_
  refine own_iloadN X0 hx (hb hby d14_5) rfl ?_
  refine own_goto X0 hx 10 (hb hby d14_6) (by decide) (by decide) ?_
  refine own_retI X0 hx hlk hret (hb hby d14_10) (own_kN (by decide) (by decide) ?_)
  try rw [e0]
  exact ⟨rfl, N0, rfl⟩
set_option maxRecDepth 65536 in
set_option maxHeartbeats 40000000 in
theorem rmIC_4_n (l : Launch) (Z : State) (a0 : Array Value) (hw : ∀ d ∈ tables_1, d.before a0 Z = true) (ws : List Jvm.Cond) (b : Addr) (kb : ClassId) (c0 c1 c2 c3 : Int32)  (h0 : Heap) (n0 : Nat) (Z0 : n0 ≤ h0.size) (Vb : Arv Z h0 b kb .byte (4 : Int32) [(.int (c0.toInt8.toInt32)), (.int (c1.toInt8.toInt32)), (.int (c2.toInt8.toInt32)), (.int (c3.toInt8.toInt32))] (.int (0 : Int32))) (hd0 : ¬ ((c0.toInt8.toInt32) = (46 : Int32))) (hd1 : ¬ ((c1.toInt8.toInt32) = (46 : Int32))) (hd2 : ¬ ((c2.toInt8.toInt32) = (46 : Int32))) (hd3 : ¬ ((c3.toInt8.toInt32) = (46 : Int32))) :
    own_Met l (⟨"java/lang/StringLatin1", "indexOfChar", "([BIII)I"⟩ : MethodName) jdk_43_method_23_code 6 (some .int) ws ({ frames := 0, cells := 0, slots := 0, locals := 0 } : Room) Z #[(.ref b), (.int (46 : Int32)), (.int (0 : Int32)), (.int (4 : Int32))] h0 (fun v h L => v = some (.int (-1 : Int32)) ∧ Fr n0 L ∧ h = h0) := by
  refine own_body (plainFor_of_name pn_3) ?_
  intro p e s m below meth c s₁ X0 hx hby hml hown hnm hret hlk hZ e0
  replace hown : s.vm.findClass "java/lang/StringLatin1" = some m.cls := hown
  replace hml : c.maxLocals = 6 := hml
  replace hret : meth.sig.returnType = (some .int) := hret
  have N0 := Fr.nil n0
  have ef : entryFrame m #[(.ref b), (.int (46 : Int32)), (.int (0 : Int32)), (.int (4 : Int32))] 6 = mkF m 0 #[.val (.ref b), .val (.int (46 : Int32)), .val (.int (0 : Int32)), .val (.int (4 : Int32)), .unset, .unset] [] := by first | (simp [entryFrame, mkF, argsToLocals, Value.category]; done) | rfl
  refine own_step (S' := (s₁.setTop (mkF m 0 #[.val (.ref b), .val (.int (46 : Int32)), .val (.int (0 : Int32)), .val (.int (4 : Int32)), .unset, .unset] []))) (fun _ k => castTop ef k) ?_
  refine own_iloadN X0 hx (hb hby d18_0) rfl ?_
  refine own_i2b X0 hx (hb hby d18_1) ?_
  rw [show ((46 : Int32).toInt8.toInt32) = (46 : Int32) from by decide]
  refine own_istore (l' := #[.val (.ref b), .val (.int (46 : Int32)), .val (.int (0 : Int32)), .val (.int (4 : Int32)), .val (.int (46 : Int32)), .unset]) X0 hx (hb hby d18_2) rfl ?_
  refine own_iloadN X0 hx (hb hby d18_4) rfl ?_
  refine own_istore (l' := #[.val (.ref b), .val (.int (46 : Int32)), .val (.int (0 : Int32)), .val (.int (4 : Int32)), .val (.int (46 : Int32)), .val (.int (0 : Int32))]) X0 hx (hb hby d18_5) rfl ?_
  refine own_iload X0 hx (hb hby d18_7) rfl ?_
  refine own_iloadN X0 hx (hb hby d18_9) rfl ?_
  refine own_icmpNo X0 hx (hb hby d18_10) (tlt (by decide : (0 : Int32) < (4 : Int32))).2.1 ?_
  refine own_aloadN X0 hx (hb hby d18_13) rfl rfl ?_
  refine own_iload X0 hx (hb hby d18_14) rfl ?_
  refine own_baload X0 hx hZ (.int (c0.toInt8.toInt32)) e0 Vb ⟨by decide, by decide⟩ rfl (hb hby d18_16) ?_
  refine own_iload X0 hx (hb hby d18_17) rfl ?_
  refine own_icmpYes X0 hx 25 (hb hby d18_19) (feq hd0).2 (by decide) (by decide) ?_
  refine own_iinc (l' := #[.val (.ref b), .val (.int (46 : Int32)), .val (.int (0 : Int32)), .val (.int (4 : Int32)), .val (.int (46 : Int32)), .val (.int ((0 : Int32) + (1 : Int32)))]) X0 hx (hb hby d18_25) rfl rfl ?_
  rw [show ((0 : Int32) + (1 : Int32)) = (1 : Int32) from by decide]
  refine own_goto X0 hx 7 (hb hby d18_28) (by decide) (by decide) ?_
  refine own_iload X0 hx (hb hby d18_7) rfl ?_
  refine own_iloadN X0 hx (hb hby d18_9) rfl ?_
  refine own_icmpNo X0 hx (hb hby d18_10) (tlt (by decide : (1 : Int32) < (4 : Int32))).2.1 ?_
  refine own_aloadN X0 hx (hb hby d18_13) rfl rfl ?_
  refine own_iload X0 hx (hb hby d18_14) rfl ?_
  refine own_baload X0 hx hZ (.int (c1.toInt8.toInt32)) e0 Vb ⟨by decide, by decide⟩ rfl (hb hby d18_16) ?_
  refine own_iload X0 hx (hb hby d18_17) rfl ?_
  refine own_icmpYes X0 hx 25 (hb hby d18_19) (feq hd1).2 (by decide) (by decide) ?_
  refine own_iinc (l' := #[.val (.ref b), .val (.int (46 : Int32)), .val (.int (0 : Int32)), .val (.int (4 : Int32)), .val (.int (46 : Int32)), .val (.int ((1 : Int32) + (1 : Int32)))]) X0 hx (hb hby d18_25) rfl rfl ?_
  rw [show ((1 : Int32) + (1 : Int32)) = (2 : Int32) from by decide]
  refine own_goto X0 hx 7 (hb hby d18_28) (by decide) (by decide) ?_
  refine own_iload X0 hx (hb hby d18_7) rfl ?_
  refine own_iloadN X0 hx (hb hby d18_9) rfl ?_
  refine own_icmpNo X0 hx (hb hby d18_10) (tlt (by decide : (2 : Int32) < (4 : Int32))).2.1 ?_
  refine own_aloadN X0 hx (hb hby d18_13) rfl rfl ?_
  refine own_iload X0 hx (hb hby d18_14) rfl ?_
  refine own_baload X0 hx hZ (.int (c2.toInt8.toInt32)) e0 Vb ⟨by decide, by decide⟩ rfl (hb hby d18_16) ?_
  refine own_iload X0 hx (hb hby d18_17) rfl ?_
  refine own_icmpYes X0 hx 25 (hb hby d18_19) (feq hd2).2 (by decide) (by decide) ?_
  refine own_iinc (l' := #[.val (.ref b), .val (.int (46 : Int32)), .val (.int (0 : Int32)), .val (.int (4 : Int32)), .val (.int (46 : Int32)), .val (.int ((2 : Int32) + (1 : Int32)))]) X0 hx (hb hby d18_25) rfl rfl ?_
  rw [show ((2 : Int32) + (1 : Int32)) = (3 : Int32) from by decide]
  refine own_goto X0 hx 7 (hb hby d18_28) (by decide) (by decide) ?_
  refine own_iload X0 hx (hb hby d18_7) rfl ?_
  refine own_iloadN X0 hx (hb hby d18_9) rfl ?_
  refine own_icmpNo X0 hx (hb hby d18_10) (tlt (by decide : (3 : Int32) < (4 : Int32))).2.1 ?_
  refine own_aloadN X0 hx (hb hby d18_13) rfl rfl ?_
  refine own_iload X0 hx (hb hby d18_14) rfl ?_
  refine own_baload X0 hx hZ (.int (c3.toInt8.toInt32)) e0 Vb ⟨by decide, by decide⟩ rfl (hb hby d18_16) ?_
  refine own_iload X0 hx (hb hby d18_17) rfl ?_
  refine own_icmpYes X0 hx 25 (hb hby d18_19) (feq hd3).2 (by decide) (by decide) ?_
  refine own_iinc (l' := #[.val (.ref b), .val (.int (46 : Int32)), .val (.int (0 : Int32)), .val (.int (4 : Int32)), .val (.int (46 : Int32)), .val (.int ((3 : Int32) + (1 : Int32)))]) X0 hx (hb hby d18_25) rfl rfl ?_
  rw [show ((3 : Int32) + (1 : Int32)) = (4 : Int32) from by decide]
  refine own_goto X0 hx 7 (hb hby d18_28) (by decide) (by decide) ?_
  refine own_iload X0 hx (hb hby d18_7) rfl ?_
  refine own_iloadN X0 hx (hb hby d18_9) rfl ?_
  refine own_icmpYes X0 hx 31 (hb hby d18_10) (flt (by decide : ¬ ((4 : Int32) < (4 : Int32)))).2.1 (by decide) (by decide) ?_
  refine own_iconst X0 hx (-1 : Int32) (hb hby d18_31) rfl ?_
  refine own_retI X0 hx hlk hret (hb hby d18_32) (own_kN (by decide) (by decide) ?_)
  try rw [e0]
  exact ⟨rfl, N0, rfl⟩
set_option maxRecDepth 65536 in
set_option maxHeartbeats 40000000 in
theorem rmIC_4_0 (l : Launch) (Z : State) (a0 : Array Value) (hw : ∀ d ∈ tables_1, d.before a0 Z = true) (ws : List Jvm.Cond) (b : Addr) (kb : ClassId) (c0 c1 c2 c3 : Int32)  (h0 : Heap) (n0 : Nat) (Z0 : n0 ≤ h0.size) (Vb : Arv Z h0 b kb .byte (4 : Int32) [(.int (46 : Int32)), (.int (c1.toInt8.toInt32)), (.int (c2.toInt8.toInt32)), (.int (c3.toInt8.toInt32))] (.int (0 : Int32))) :
    own_Met l (⟨"java/lang/StringLatin1", "indexOfChar", "([BIII)I"⟩ : MethodName) jdk_43_method_23_code 6 (some .int) ws ({ frames := 0, cells := 0, slots := 0, locals := 0 } : Room) Z #[(.ref b), (.int (46 : Int32)), (.int (0 : Int32)), (.int (4 : Int32))] h0 (fun v h L => v = some (.int (0 : Int32)) ∧ Fr n0 L ∧ h = h0) := by
  refine own_body (plainFor_of_name pn_3) ?_
  intro p e s m below meth c s₁ X0 hx hby hml hown hnm hret hlk hZ e0
  replace hown : s.vm.findClass "java/lang/StringLatin1" = some m.cls := hown
  replace hml : c.maxLocals = 6 := hml
  replace hret : meth.sig.returnType = (some .int) := hret
  have N0 := Fr.nil n0
  have ef : entryFrame m #[(.ref b), (.int (46 : Int32)), (.int (0 : Int32)), (.int (4 : Int32))] 6 = mkF m 0 #[.val (.ref b), .val (.int (46 : Int32)), .val (.int (0 : Int32)), .val (.int (4 : Int32)), .unset, .unset] [] := by first | (simp [entryFrame, mkF, argsToLocals, Value.category]; done) | rfl
  refine own_step (S' := (s₁.setTop (mkF m 0 #[.val (.ref b), .val (.int (46 : Int32)), .val (.int (0 : Int32)), .val (.int (4 : Int32)), .unset, .unset] []))) (fun _ k => castTop ef k) ?_
  refine own_iloadN X0 hx (hb hby d18_0) rfl ?_
  refine own_i2b X0 hx (hb hby d18_1) ?_
  rw [show ((46 : Int32).toInt8.toInt32) = (46 : Int32) from by decide]
  refine own_istore (l' := #[.val (.ref b), .val (.int (46 : Int32)), .val (.int (0 : Int32)), .val (.int (4 : Int32)), .val (.int (46 : Int32)), .unset]) X0 hx (hb hby d18_2) rfl ?_
  refine own_iloadN X0 hx (hb hby d18_4) rfl ?_
  refine own_istore (l' := #[.val (.ref b), .val (.int (46 : Int32)), .val (.int (0 : Int32)), .val (.int (4 : Int32)), .val (.int (46 : Int32)), .val (.int (0 : Int32))]) X0 hx (hb hby d18_5) rfl ?_
  refine own_iload X0 hx (hb hby d18_7) rfl ?_
  refine own_iloadN X0 hx (hb hby d18_9) rfl ?_
  refine own_icmpNo X0 hx (hb hby d18_10) (tlt (by decide : (0 : Int32) < (4 : Int32))).2.1 ?_
  refine own_aloadN X0 hx (hb hby d18_13) rfl rfl ?_
  refine own_iload X0 hx (hb hby d18_14) rfl ?_
  refine own_baload X0 hx hZ (.int (46 : Int32)) e0 Vb ⟨by decide, by decide⟩ rfl (hb hby d18_16) ?_
  refine own_iload X0 hx (hb hby d18_17) rfl ?_
  refine own_icmpNo X0 hx (hb hby d18_19) (teq (by decide : (46 : Int32) = (46 : Int32))).2 ?_
  refine own_iload X0 hx (hb hby d18_22) rfl ?_
  refine own_retI X0 hx hlk hret (hb hby d18_24) (own_kN (by decide) (by decide) ?_)
  try rw [e0]
  exact ⟨rfl, N0, rfl⟩
set_option maxRecDepth 65536 in
set_option maxHeartbeats 40000000 in
theorem rmIC_4_1 (l : Launch) (Z : State) (a0 : Array Value) (hw : ∀ d ∈ tables_1, d.before a0 Z = true) (ws : List Jvm.Cond) (b : Addr) (kb : ClassId) (c0 c1 c2 c3 : Int32)  (h0 : Heap) (n0 : Nat) (Z0 : n0 ≤ h0.size) (Vb : Arv Z h0 b kb .byte (4 : Int32) [(.int (c0.toInt8.toInt32)), (.int (46 : Int32)), (.int (c2.toInt8.toInt32)), (.int (c3.toInt8.toInt32))] (.int (0 : Int32))) (hd0 : ¬ ((c0.toInt8.toInt32) = (46 : Int32))) :
    own_Met l (⟨"java/lang/StringLatin1", "indexOfChar", "([BIII)I"⟩ : MethodName) jdk_43_method_23_code 6 (some .int) ws ({ frames := 0, cells := 0, slots := 0, locals := 0 } : Room) Z #[(.ref b), (.int (46 : Int32)), (.int (0 : Int32)), (.int (4 : Int32))] h0 (fun v h L => v = some (.int (1 : Int32)) ∧ Fr n0 L ∧ h = h0) := by
  refine own_body (plainFor_of_name pn_3) ?_
  intro p e s m below meth c s₁ X0 hx hby hml hown hnm hret hlk hZ e0
  replace hown : s.vm.findClass "java/lang/StringLatin1" = some m.cls := hown
  replace hml : c.maxLocals = 6 := hml
  replace hret : meth.sig.returnType = (some .int) := hret
  have N0 := Fr.nil n0
  have ef : entryFrame m #[(.ref b), (.int (46 : Int32)), (.int (0 : Int32)), (.int (4 : Int32))] 6 = mkF m 0 #[.val (.ref b), .val (.int (46 : Int32)), .val (.int (0 : Int32)), .val (.int (4 : Int32)), .unset, .unset] [] := by first | (simp [entryFrame, mkF, argsToLocals, Value.category]; done) | rfl
  refine own_step (S' := (s₁.setTop (mkF m 0 #[.val (.ref b), .val (.int (46 : Int32)), .val (.int (0 : Int32)), .val (.int (4 : Int32)), .unset, .unset] []))) (fun _ k => castTop ef k) ?_
  refine own_iloadN X0 hx (hb hby d18_0) rfl ?_
  refine own_i2b X0 hx (hb hby d18_1) ?_
  rw [show ((46 : Int32).toInt8.toInt32) = (46 : Int32) from by decide]
  refine own_istore (l' := #[.val (.ref b), .val (.int (46 : Int32)), .val (.int (0 : Int32)), .val (.int (4 : Int32)), .val (.int (46 : Int32)), .unset]) X0 hx (hb hby d18_2) rfl ?_
  refine own_iloadN X0 hx (hb hby d18_4) rfl ?_
  refine own_istore (l' := #[.val (.ref b), .val (.int (46 : Int32)), .val (.int (0 : Int32)), .val (.int (4 : Int32)), .val (.int (46 : Int32)), .val (.int (0 : Int32))]) X0 hx (hb hby d18_5) rfl ?_
  refine own_iload X0 hx (hb hby d18_7) rfl ?_
  refine own_iloadN X0 hx (hb hby d18_9) rfl ?_
  refine own_icmpNo X0 hx (hb hby d18_10) (tlt (by decide : (0 : Int32) < (4 : Int32))).2.1 ?_
  refine own_aloadN X0 hx (hb hby d18_13) rfl rfl ?_
  refine own_iload X0 hx (hb hby d18_14) rfl ?_
  refine own_baload X0 hx hZ (.int (c0.toInt8.toInt32)) e0 Vb ⟨by decide, by decide⟩ rfl (hb hby d18_16) ?_
  refine own_iload X0 hx (hb hby d18_17) rfl ?_
  refine own_icmpYes X0 hx 25 (hb hby d18_19) (feq hd0).2 (by decide) (by decide) ?_
  refine own_iinc (l' := #[.val (.ref b), .val (.int (46 : Int32)), .val (.int (0 : Int32)), .val (.int (4 : Int32)), .val (.int (46 : Int32)), .val (.int ((0 : Int32) + (1 : Int32)))]) X0 hx (hb hby d18_25) rfl rfl ?_
  rw [show ((0 : Int32) + (1 : Int32)) = (1 : Int32) from by decide]
  refine own_goto X0 hx 7 (hb hby d18_28) (by decide) (by decide) ?_
  refine own_iload X0 hx (hb hby d18_7) rfl ?_
  refine own_iloadN X0 hx (hb hby d18_9) rfl ?_
  refine own_icmpNo X0 hx (hb hby d18_10) (tlt (by decide : (1 : Int32) < (4 : Int32))).2.1 ?_
  refine own_aloadN X0 hx (hb hby d18_13) rfl rfl ?_
  refine own_iload X0 hx (hb hby d18_14) rfl ?_
  refine own_baload X0 hx hZ (.int (46 : Int32)) e0 Vb ⟨by decide, by decide⟩ rfl (hb hby d18_16) ?_
  refine own_iload X0 hx (hb hby d18_17) rfl ?_
  refine own_icmpNo X0 hx (hb hby d18_19) (teq (by decide : (46 : Int32) = (46 : Int32))).2 ?_
  refine own_iload X0 hx (hb hby d18_22) rfl ?_
  refine own_retI X0 hx hlk hret (hb hby d18_24) (own_kN (by decide) (by decide) ?_)
  try rw [e0]
  exact ⟨rfl, N0, rfl⟩
set_option maxRecDepth 65536 in
set_option maxHeartbeats 40000000 in
theorem rmIC_4_2 (l : Launch) (Z : State) (a0 : Array Value) (hw : ∀ d ∈ tables_1, d.before a0 Z = true) (ws : List Jvm.Cond) (b : Addr) (kb : ClassId) (c0 c1 c2 c3 : Int32)  (h0 : Heap) (n0 : Nat) (Z0 : n0 ≤ h0.size) (Vb : Arv Z h0 b kb .byte (4 : Int32) [(.int (c0.toInt8.toInt32)), (.int (c1.toInt8.toInt32)), (.int (46 : Int32)), (.int (c3.toInt8.toInt32))] (.int (0 : Int32))) (hd0 : ¬ ((c0.toInt8.toInt32) = (46 : Int32))) (hd1 : ¬ ((c1.toInt8.toInt32) = (46 : Int32))) :
    own_Met l (⟨"java/lang/StringLatin1", "indexOfChar", "([BIII)I"⟩ : MethodName) jdk_43_method_23_code 6 (some .int) ws ({ frames := 0, cells := 0, slots := 0, locals := 0 } : Room) Z #[(.ref b), (.int (46 : Int32)), (.int (0 : Int32)), (.int (4 : Int32))] h0 (fun v h L => v = some (.int (2 : Int32)) ∧ Fr n0 L ∧ h = h0) := by
  refine own_body (plainFor_of_name pn_3) ?_
  intro p e s m below meth c s₁ X0 hx hby hml hown hnm hret hlk hZ e0
  replace hown : s.vm.findClass "java/lang/StringLatin1" = some m.cls := hown
  replace hml : c.maxLocals = 6 := hml
  replace hret : meth.sig.returnType = (some .int) := hret
  have N0 := Fr.nil n0
  have ef : entryFrame m #[(.ref b), (.int (46 : Int32)), (.int (0 : Int32)), (.int (4 : Int32))] 6 = mkF m 0 #[.val (.ref b), .val (.int (46 : Int32)), .val (.int (0 : Int32)), .val (.int (4 : Int32)), .unset, .unset] [] := by first | (simp [entryFrame, mkF, argsToLocals, Value.category]; done) | rfl
  refine own_step (S' := (s₁.setTop (mkF m 0 #[.val (.ref b), .val (.int (46 : Int32)), .val (.int (0 : Int32)), .val (.int (4 : Int32)), .unset, .unset] []))) (fun _ k => castTop ef k) ?_
  refine own_iloadN X0 hx (hb hby d18_0) rfl ?_
  refine own_i2b X0 hx (hb hby d18_1) ?_
  rw [show ((46 : Int32).toInt8.toInt32) = (46 : Int32) from by decide]
  refine own_istore (l' := #[.val (.ref b), .val (.int (46 : Int32)), .val (.int (0 : Int32)), .val (.int (4 : Int32)), .val (.int (46 : Int32)), .unset]) X0 hx (hb hby d18_2) rfl ?_
  refine own_iloadN X0 hx (hb hby d18_4) rfl ?_
  refine own_istore (l' := #[.val (.ref b), .val (.int (46 : Int32)), .val (.int (0 : Int32)), .val (.int (4 : Int32)), .val (.int (46 : Int32)), .val (.int (0 : Int32))]) X0 hx (hb hby d18_5) rfl ?_
  refine own_iload X0 hx (hb hby d18_7) rfl ?_
  refine own_iloadN X0 hx (hb hby d18_9) rfl ?_
  refine own_icmpNo X0 hx (hb hby d18_10) (tlt (by decide : (0 : Int32) < (4 : Int32))).2.1 ?_
  refine own_aloadN X0 hx (hb hby d18_13) rfl rfl ?_
  refine own_iload X0 hx (hb hby d18_14) rfl ?_
  refine own_baload X0 hx hZ (.int (c0.toInt8.toInt32)) e0 Vb ⟨by decide, by decide⟩ rfl (hb hby d18_16) ?_
  refine own_iload X0 hx (hb hby d18_17) rfl ?_
  refine own_icmpYes X0 hx 25 (hb hby d18_19) (feq hd0).2 (by decide) (by decide) ?_
  refine own_iinc (l' := #[.val (.ref b), .val (.int (46 : Int32)), .val (.int (0 : Int32)), .val (.int (4 : Int32)), .val (.int (46 : Int32)), .val (.int ((0 : Int32) + (1 : Int32)))]) X0 hx (hb hby d18_25) rfl rfl ?_
  rw [show ((0 : Int32) + (1 : Int32)) = (1 : Int32) from by decide]
  refine own_goto X0 hx 7 (hb hby d18_28) (by decide) (by decide) ?_
  refine own_iload X0 hx (hb hby d18_7) rfl ?_
  refine own_iloadN X0 hx (hb hby d18_9) rfl ?_
  refine own_icmpNo X0 hx (hb hby d18_10) (tlt (by decide : (1 : Int32) < (4 : Int32))).2.1 ?_
  refine own_aloadN X0 hx (hb hby d18_13) rfl rfl ?_
  refine own_iload X0 hx (hb hby d18_14) rfl ?_
  refine own_baload X0 hx hZ (.int (c1.toInt8.toInt32)) e0 Vb ⟨by decide, by decide⟩ rfl (hb hby d18_16) ?_
  refine own_iload X0 hx (hb hby d18_17) rfl ?_
  refine own_icmpYes X0 hx 25 (hb hby d18_19) (feq hd1).2 (by decide) (by decide) ?_
  refine own_iinc (l' := #[.val (.ref b), .val (.int (46 : Int32)), .val (.int (0 : Int32)), .val (.int (4 : Int32)), .val (.int (46 : Int32)), .val (.int ((1 : Int32) + (1 : Int32)))]) X0 hx (hb hby d18_25) rfl rfl ?_
  rw [show ((1 : Int32) + (1 : Int32)) = (2 : Int32) from by decide]
  refine own_goto X0 hx 7 (hb hby d18_28) (by decide) (by decide) ?_
  refine own_iload X0 hx (hb hby d18_7) rfl ?_
  refine own_iloadN X0 hx (hb hby d18_9) rfl ?_
  refine own_icmpNo X0 hx (hb hby d18_10) (tlt (by decide : (2 : Int32) < (4 : Int32))).2.1 ?_
  refine own_aloadN X0 hx (hb hby d18_13) rfl rfl ?_
  refine own_iload X0 hx (hb hby d18_14) rfl ?_
  refine own_baload X0 hx hZ (.int (46 : Int32)) e0 Vb ⟨by decide, by decide⟩ rfl (hb hby d18_16) ?_
  refine own_iload X0 hx (hb hby d18_17) rfl ?_
  refine own_icmpNo X0 hx (hb hby d18_19) (teq (by decide : (46 : Int32) = (46 : Int32))).2 ?_
  refine own_iload X0 hx (hb hby d18_22) rfl ?_
  refine own_retI X0 hx hlk hret (hb hby d18_24) (own_kN (by decide) (by decide) ?_)
  try rw [e0]
  exact ⟨rfl, N0, rfl⟩
set_option maxRecDepth 65536 in
set_option maxHeartbeats 40000000 in
theorem rmIC_4_3 (l : Launch) (Z : State) (a0 : Array Value) (hw : ∀ d ∈ tables_1, d.before a0 Z = true) (ws : List Jvm.Cond) (b : Addr) (kb : ClassId) (c0 c1 c2 c3 : Int32)  (h0 : Heap) (n0 : Nat) (Z0 : n0 ≤ h0.size) (Vb : Arv Z h0 b kb .byte (4 : Int32) [(.int (c0.toInt8.toInt32)), (.int (c1.toInt8.toInt32)), (.int (c2.toInt8.toInt32)), (.int (46 : Int32))] (.int (0 : Int32))) (hd0 : ¬ ((c0.toInt8.toInt32) = (46 : Int32))) (hd1 : ¬ ((c1.toInt8.toInt32) = (46 : Int32))) (hd2 : ¬ ((c2.toInt8.toInt32) = (46 : Int32))) :
    own_Met l (⟨"java/lang/StringLatin1", "indexOfChar", "([BIII)I"⟩ : MethodName) jdk_43_method_23_code 6 (some .int) ws ({ frames := 0, cells := 0, slots := 0, locals := 0 } : Room) Z #[(.ref b), (.int (46 : Int32)), (.int (0 : Int32)), (.int (4 : Int32))] h0 (fun v h L => v = some (.int (3 : Int32)) ∧ Fr n0 L ∧ h = h0) := by
  refine own_body (plainFor_of_name pn_3) ?_
  intro p e s m below meth c s₁ X0 hx hby hml hown hnm hret hlk hZ e0
  replace hown : s.vm.findClass "java/lang/StringLatin1" = some m.cls := hown
  replace hml : c.maxLocals = 6 := hml
  replace hret : meth.sig.returnType = (some .int) := hret
  have N0 := Fr.nil n0
  have ef : entryFrame m #[(.ref b), (.int (46 : Int32)), (.int (0 : Int32)), (.int (4 : Int32))] 6 = mkF m 0 #[.val (.ref b), .val (.int (46 : Int32)), .val (.int (0 : Int32)), .val (.int (4 : Int32)), .unset, .unset] [] := by first | (simp [entryFrame, mkF, argsToLocals, Value.category]; done) | rfl
  refine own_step (S' := (s₁.setTop (mkF m 0 #[.val (.ref b), .val (.int (46 : Int32)), .val (.int (0 : Int32)), .val (.int (4 : Int32)), .unset, .unset] []))) (fun _ k => castTop ef k) ?_
  refine own_iloadN X0 hx (hb hby d18_0) rfl ?_
  refine own_i2b X0 hx (hb hby d18_1) ?_
  rw [show ((46 : Int32).toInt8.toInt32) = (46 : Int32) from by decide]
  refine own_istore (l' := #[.val (.ref b), .val (.int (46 : Int32)), .val (.int (0 : Int32)), .val (.int (4 : Int32)), .val (.int (46 : Int32)), .unset]) X0 hx (hb hby d18_2) rfl ?_
  refine own_iloadN X0 hx (hb hby d18_4) rfl ?_
  refine own_istore (l' := #[.val (.ref b), .val (.int (46 : Int32)), .val (.int (0 : Int32)), .val (.int (4 : Int32)), .val (.int (46 : Int32)), .val (.int (0 : Int32))]) X0 hx (hb hby d18_5) rfl ?_
  refine own_iload X0 hx (hb hby d18_7) rfl ?_
  refine own_iloadN X0 hx (hb hby d18_9) rfl ?_
  refine own_icmpNo X0 hx (hb hby d18_10) (tlt (by decide : (0 : Int32) < (4 : Int32))).2.1 ?_
  refine own_aloadN X0 hx (hb hby d18_13) rfl rfl ?_
  refine own_iload X0 hx (hb hby d18_14) rfl ?_
  refine own_baload X0 hx hZ (.int (c0.toInt8.toInt32)) e0 Vb ⟨by decide, by decide⟩ rfl (hb hby d18_16) ?_
  refine own_iload X0 hx (hb hby d18_17) rfl ?_
  refine own_icmpYes X0 hx 25 (hb hby d18_19) (feq hd0).2 (by decide) (by decide) ?_
  refine own_iinc (l' := #[.val (.ref b), .val (.int (46 : Int32)), .val (.int (0 : Int32)), .val (.int (4 : Int32)), .val (.int (46 : Int32)), .val (.int ((0 : Int32) + (1 : Int32)))]) X0 hx (hb hby d18_25) rfl rfl ?_
  rw [show ((0 : Int32) + (1 : Int32)) = (1 : Int32) from by decide]
  refine own_goto X0 hx 7 (hb hby d18_28) (by decide) (by decide) ?_
  refine own_iload X0 hx (hb hby d18_7) rfl ?_
  refine own_iloadN X0 hx (hb hby d18_9) rfl ?_
  refine own_icmpNo X0 hx (hb hby d18_10) (tlt (by decide : (1 : Int32) < (4 : Int32))).2.1 ?_
  refine own_aloadN X0 hx (hb hby d18_13) rfl rfl ?_
  refine own_iload X0 hx (hb hby d18_14) rfl ?_
  refine own_baload X0 hx hZ (.int (c1.toInt8.toInt32)) e0 Vb ⟨by decide, by decide⟩ rfl (hb hby d18_16) ?_
  refine own_iload X0 hx (hb hby d18_17) rfl ?_
  refine own_icmpYes X0 hx 25 (hb hby d18_19) (feq hd1).2 (by decide) (by decide) ?_
  refine own_iinc (l' := #[.val (.ref b), .val (.int (46 : Int32)), .val (.int (0 : Int32)), .val (.int (4 : Int32)), .val (.int (46 : Int32)), .val (.int ((1 : Int32) + (1 : Int32)))]) X0 hx (hb hby d18_25) rfl rfl ?_
  rw [show ((1 : Int32) + (1 : Int32)) = (2 : Int32) from by decide]
  refine own_goto X0 hx 7 (hb hby d18_28) (by decide) (by decide) ?_
  refine own_iload X0 hx (hb hby d18_7) rfl ?_
  refine own_iloadN X0 hx (hb hby d18_9) rfl ?_
  refine own_icmpNo X0 hx (hb hby d18_10) (tlt (by decide : (2 : Int32) < (4 : Int32))).2.1 ?_
  refine own_aloadN X0 hx (hb hby d18_13) rfl rfl ?_
  refine own_iload X0 hx (hb hby d18_14) rfl ?_
  refine own_baload X0 hx hZ (.int (c2.toInt8.toInt32)) e0 Vb ⟨by decide, by decide⟩ rfl (hb hby d18_16) ?_
  refine own_iload X0 hx (hb hby d18_17) rfl ?_
  refine own_icmpYes X0 hx 25 (hb hby d18_19) (feq hd2).2 (by decide) (by decide) ?_
  refine own_iinc (l' := #[.val (.ref b), .val (.int (46 : Int32)), .val (.int (0 : Int32)), .val (.int (4 : Int32)), .val (.int (46 : Int32)), .val (.int ((2 : Int32) + (1 : Int32)))]) X0 hx (hb hby d18_25) rfl rfl ?_
  rw [show ((2 : Int32) + (1 : Int32)) = (3 : Int32) from by decide]
  refine own_goto X0 hx 7 (hb hby d18_28) (by decide) (by decide) ?_
  refine own_iload X0 hx (hb hby d18_7) rfl ?_
  refine own_iloadN X0 hx (hb hby d18_9) rfl ?_
  refine own_icmpNo X0 hx (hb hby d18_10) (tlt (by decide : (3 : Int32) < (4 : Int32))).2.1 ?_
  refine own_aloadN X0 hx (hb hby d18_13) rfl rfl ?_
  refine own_iload X0 hx (hb hby d18_14) rfl ?_
  refine own_baload X0 hx hZ (.int (46 : Int32)) e0 Vb ⟨by decide, by decide⟩ rfl (hb hby d18_16) ?_
  refine own_iload X0 hx (hb hby d18_17) rfl ?_
  refine own_icmpNo X0 hx (hb hby d18_19) (teq (by decide : (46 : Int32) = (46 : Int32))).2 ?_
  refine own_iload X0 hx (hb hby d18_22) rfl ?_
  refine own_retI X0 hx hlk hret (hb hby d18_24) (own_kN (by decide) (by decide) ?_)
  try rw [e0]
  exact ⟨rfl, N0, rfl⟩
set_option maxRecDepth 65536 in
set_option maxHeartbeats 40000000 in
theorem rmL1_4 (l : Launch) (Z : State) (a0 : Array Value) (hw : ∀ d ∈ tables_1, d.before a0 Z = true) (ws : List Jvm.Cond) (b : Addr) (r : Int32)  (h0 : Heap) (n0 : Nat) (Z0 : n0 ≤ h0.size) (A : own_Aln Z h0 b .byte (4 : Int32)) (hIC : own_Met l (⟨"java/lang/StringLatin1", "indexOfChar", "([BIII)I"⟩ : MethodName) jdk_43_method_23_code 6 (some .int) [] ({ frames := 0, cells := 0, slots := 0, locals := 0 } : Room) Z #[(.ref b), (.int (46 : Int32)), (.int (0 : Int32)), (.int (4 : Int32))] h0 (fun v h L => v = some (.int r) ∧ Fr n0 L ∧ h = h0)) :
    own_Met l (⟨"java/lang/StringLatin1", "indexOf", "([BIII)I"⟩ : MethodName) jdk_43_method_22_code 4 (some .int) ws ({ frames := 1, cells := 0, slots := 0, locals := 17 } : Room) Z #[(.ref b), (.int (46 : Int32)), (.int (0 : Int32)), (.int (4 : Int32))] h0 (fun v h L => v = some (.int r) ∧ Fr n0 L ∧ h = h0) := by
  refine own_body (plainFor_of_name pn_3) ?_
  intro p e s m below meth c s₁ X0 hx hby hml hown hnm hret hlk hZ e0
  replace hown : s.vm.findClass "java/lang/StringLatin1" = some m.cls := hown
  replace hml : c.maxLocals = 4 := hml
  replace hret : meth.sig.returnType = (some .int) := hret
  have N0 := Fr.nil n0
  have ef : entryFrame m #[(.ref b), (.int (46 : Int32)), (.int (0 : Int32)), (.int (4 : Int32))] 4 = mkF m 0 #[.val (.ref b), .val (.int (46 : Int32)), .val (.int (0 : Int32)), .val (.int (4 : Int32))] [] := by first | (simp [entryFrame, mkF, argsToLocals, Value.category]; done) | rfl
  refine own_step (S' := (s₁.setTop (mkF m 0 #[.val (.ref b), .val (.int (46 : Int32)), .val (.int (0 : Int32)), .val (.int (4 : Int32))] []))) (fun _ k => castTop ef k) ?_
  refine own_iloadN X0 hx (hb hby d11_0) rfl ?_
  refine own_cStat (W := 0) (rest := []) X0 hx hZ [(.int (46 : Int32))] hown (hw _ (List.mem_of_getElem? (i := 61) rfl)) (hw _ (List.mem_of_getElem? (i := 62) rfl)) (by decide) (hw _ (List.mem_of_getElem? (i := 63) rfl)) (hw _ (List.mem_of_getElem? (i := 59) rfl)) e0 (rmCE l Z a0 hw [] h0 n0 Z0) (by rw [hml]; rfl) (lenOf pd_5 rfl) rfl (Nat.le_of_eq rfl) (hb hby d11_1) (by decide) (by decide) (by decide) (by decide) fun v112 T112 L112 X112 hQ112 => ?_
  obtain ⟨rfl, N112q, e112⟩ := hQ112
  have N112 := Fr.app N0 N112q
  show own_At p e below _ T112 m 4 _ [(.int (1 : Int32))]
  refine own_ifYes X112 hx 9 (hb hby d11_4) (feq (by decide : ¬ ((1 : Int32) = (0 : Int32)))).2 (by decide) (by decide) ?_
  refine own_iloadN X112 hx (hb hby d11_9) rfl ?_
  refine own_iconst X112 hx (0 : Int32) (hb hby d11_10) rfl ?_
  refine own_cStat (W := 0) (rest := []) X112 hx hZ [(.int (0 : Int32)), (.int (0 : Int32))] hown (hw _ (List.mem_of_getElem? (i := 64) rfl)) (hw _ (List.mem_of_getElem? (i := 65) rfl)) (by decide) (hw _ (List.mem_of_getElem? (i := 67) rfl)) (hw _ (List.mem_of_getElem? (i := 66) rfl)) e112 (rmMax l Z a0 hw [] h0 n0 Z0) (by rw [hml]; rfl) (lenOf pd_6 rfl) rfl (Nat.le_of_eq rfl) (hb hby d11_11) (by decide) (by decide) (by decide) (by decide) fun v113 T113 L113 X113 hQ113 => ?_
  obtain ⟨rfl, N113q, e113⟩ := hQ113
  have N113 := Fr.app N112 N113q
  show own_At p e below _ T113 m 14 _ [(.int (0 : Int32))]
  refine own_istoreN (l' := #[.val (.ref b), .val (.int (46 : Int32)), .val (.int (0 : Int32)), .val (.int (4 : Int32))]) X113 hx (hb hby d11_14) rfl ?_
  refine own_iloadN X113 hx (hb hby d11_15) rfl ?_
  refine own_aloadN X113 hx (hb hby d11_16) rfl rfl ?_
  refine own_arraylength X113 hx hZ e113 A (hb hby d11_17) ?_
  refine own_cStat (W := 0) (rest := []) X113 hx hZ [(.int (4 : Int32)), (.int (4 : Int32))] hown (hw _ (List.mem_of_getElem? (i := 68) rfl)) (hw _ (List.mem_of_getElem? (i := 69) rfl)) (by decide) (hw _ (List.mem_of_getElem? (i := 70) rfl)) (hw _ (List.mem_of_getElem? (i := 66) rfl)) e113 (rmMin_4 l Z a0 hw [] h0 n0 Z0) (by rw [hml]; rfl) (lenOf pd_6 rfl) rfl (Nat.le_of_eq rfl) (hb hby d11_18) (by decide) (by decide) (by decide) (by decide) fun v114 T114 L114 X114 hQ114 => ?_
  obtain ⟨rfl, N114q, e114⟩ := hQ114
  have N114 := Fr.app N113 N114q
  show own_At p e below _ T114 m 21 _ [(.int (4 : Int32))]
  refine own_istoreN (l' := #[.val (.ref b), .val (.int (46 : Int32)), .val (.int (0 : Int32)), .val (.int (4 : Int32))]) X114 hx (hb hby d11_21) rfl ?_
  refine own_iloadN X114 hx (hb hby d11_22) rfl ?_
  refine own_iloadN X114 hx (hb hby d11_23) rfl ?_
  refine own_icmpYes X114 hx 29 (hb hby d11_24) (tlt (by decide : (0 : Int32) < (4 : Int32))).1 (by decide) (by decide) ?_
  refine own_aloadN X114 hx (hb hby d11_29) rfl rfl ?_
  refine own_iloadN X114 hx (hb hby d11_30) rfl ?_
  refine own_iloadN X114 hx (hb hby d11_31) rfl ?_
  refine own_iloadN X114 hx (hb hby d11_32) rfl ?_
  refine own_cStat (W := 0) (rest := []) X114 hx hZ [(.ref b), (.int (46 : Int32)), (.int (0 : Int32)), (.int (4 : Int32))] hown (hw _ (List.mem_of_getElem? (i := 81) rfl)) (hw _ (List.mem_of_getElem? (i := 82) rfl)) (by decide) (hw _ (List.mem_of_getElem? (i := 83) rfl)) (hw _ (List.mem_of_getElem? (i := 59) rfl)) e114 (hIC) (by rw [hml]; rfl) (lenOf pd_9 rfl) rfl (Nat.le_of_eq rfl) (hb hby d11_33) (by decide) (by decide) (by decide) (by decide) fun v115 T115 L115 X115 hQ115 => ?_
  obtain ⟨rfl, N115q, e115⟩ := hQ115
  have N115 := Fr.app N114 N115q
  show own_At p e below _ T115 m 36 _ [(.int r)]
  refine own_retI X115 hx hlk hret (hb hby d11_36) (own_kN (by decide) (by decide) ?_)
  try rw [e115]
  exact ⟨rfl, N115, rfl⟩
set_option maxRecDepth 65536 in
set_option maxHeartbeats 40000000 in
theorem rmX2_4 (l : Launch) (Z : State) (a0 : Array Value) (hw : ∀ d ∈ tables_1, d.before a0 Z = true) (ws : List Jvm.Cond) (a b : Addr) (cs : Int32) (r : Int32)  (h0 : Heap) (n0 : Nat) (Z0 : n0 ≤ h0.size) (Sc : Sta Z h0 "java/lang/String" "COMPACT_STRINGS" "Z" (.int cs)) (hcs : ¬ (cs = (0 : Int32))) (Ea : Exa Z h0 a "java/lang/String") (Fv : Fld Z h0 a "java/lang/String" "value" "[B" (.ref b)) (Fc : Fld Z h0 a "java/lang/String" "coder" "B" (.int (0 : Int32))) (A : own_Aln Z h0 b .byte (4 : Int32)) (hIC : own_Met l (⟨"java/lang/StringLatin1", "indexOfChar", "([BIII)I"⟩ : MethodName) jdk_43_method_23_code 6 (some .int) [] ({ frames := 0, cells := 0, slots := 0, locals := 0 } : Room) Z #[(.ref b), (.int (46 : Int32)), (.int (0 : Int32)), (.int (4 : Int32))] h0 (fun v h L => v = some (.int r) ∧ Fr n0 L ∧ h = h0)) :
    own_Met l (⟨"java/lang/String", "indexOf", "(II)I"⟩ : MethodName) jdk_42_method_80_code 3 (some .int) ws ({ frames := 2, cells := 0, slots := 0, locals := 32 } : Room) Z #[(.ref a), (.int (46 : Int32)), (.int (0 : Int32))] h0 (fun v h L => v = some (.int r) ∧ Fr n0 L ∧ h = h0) := by
  refine own_body (plainFor_of_name pn_2) ?_
  intro p e s m below meth c s₁ X0 hx hby hml hown hnm hret hlk hZ e0
  replace hown : s.vm.findClass "java/lang/String" = some m.cls := hown
  replace hml : c.maxLocals = 3 := hml
  replace hret : meth.sig.returnType = (some .int) := hret
  have N0 := Fr.nil n0
  have ef : entryFrame m #[(.ref a), (.int (46 : Int32)), (.int (0 : Int32))] 3 = mkF m 0 #[.val (.ref a), .val (.int (46 : Int32)), .val (.int (0 : Int32))] [] := by first | (simp [entryFrame, mkF, argsToLocals, Value.category]; done) | rfl
  refine own_step (S' := (s₁.setTop (mkF m 0 #[.val (.ref a), .val (.int (46 : Int32)), .val (.int (0 : Int32))] []))) (fun _ k => castTop ef k) ?_
  refine own_aloadN X0 hx (hb hby d7_0) rfl rfl ?_
  refine own_cVirt (W := 0) (rest := []) X0 hx hZ [] hown (hw _ (List.mem_of_getElem? (i := 41) rfl)) (hw _ (List.mem_of_getElem? (i := 42) rfl)) (notFace_of_selects (args := #[]) (mvT hZ (hw _ (List.mem_of_getElem? (i := 44) rfl)))) (hw _ (List.mem_of_getElem? (i := 44) rfl)) (hw _ (List.mem_of_getElem? (i := 43) rfl)) (by decide) (hw _ (List.mem_of_getElem? (i := 45) rfl)) (hw _ (List.mem_of_getElem? (i := 8) rfl)) e0 Ea (rmL l Z a0 hw [] a cs h0 n0 Z0 Sc hcs Fc) (by rw [hml]; rfl) (lenOf pd_7 rfl) rfl (Nat.le_of_eq rfl) (hb hby d7_1) (by decide) (by decide) (by decide) (by decide) fun v116 T116 L116 X116 hQ116 => ?_
  obtain ⟨rfl, N116q, e116⟩ := hQ116
  have N116 := Fr.app N0 N116q
  show own_At p e below _ T116 m 4 _ [(.int (1 : Int32))]
  refine own_ifNo X116 hx (hb hby d7_4) (feq (by decide : ¬ ((1 : Int32) = (0 : Int32)))).1 ?_
  refine own_aloadN X116 hx (hb hby d7_7) rfl rfl ?_
  refine own_getF X116 hx hZ hown (host := "") (Or.inl (hw _ (List.mem_of_getElem? (i := 25) rfl))) Via.refl e116 Fv (hb hby d7_8) fun T117 X117 e117 => ?_
  refine own_iloadN X117 hx (hb hby d7_11) rfl ?_
  refine own_iloadN X117 hx (hb hby d7_12) rfl ?_
  refine own_aloadN X117 hx (hb hby d7_13) rfl rfl ?_
  refine own_cVirt (W := 3) (rest := [(.int (0 : Int32)), (.int (46 : Int32)), (.ref b)]) X117 hx hZ [] hown (hw _ (List.mem_of_getElem? (i := 47) rfl)) (hw _ (List.mem_of_getElem? (i := 48) rfl)) (notFace_of_selects (args := #[]) (mvT hZ (hw _ (List.mem_of_getElem? (i := 50) rfl)))) (hw _ (List.mem_of_getElem? (i := 50) rfl)) (hw _ (List.mem_of_getElem? (i := 49) rfl)) (by decide) (hw _ (List.mem_of_getElem? (i := 51) rfl)) (hw _ (List.mem_of_getElem? (i := 8) rfl)) e117 Ea (rmLen_4 l Z a0 hw [] a b cs h0 n0 Z0 Sc hcs Ea Fv Fc A) (by rw [hml]; rfl) (lenOf pd_8 rfl) rfl (Nat.le_of_eq rfl) (hb hby d7_14) (by decide) (by decide) (by decide) (by decide) fun v118 T118 L118 X118 hQ118 => ?_
  obtain ⟨rfl, N118q, e118⟩ := hQ118
  have N118 := Fr.app N116 N118q
  show own_At p e below _ T118 m 17 _ [(.int (4 : Int32)), (.int (0 : Int32)), (.int (46 : Int32)), (.ref b)]
  refine own_cStat (W := 0) (rest := []) X118 hx hZ [(.ref b), (.int (46 : Int32)), (.int (0 : Int32)), (.int (4 : Int32))] hown (hw _ (List.mem_of_getElem? (i := 57) rfl)) (hw _ (List.mem_of_getElem? (i := 58) rfl)) (by decide) (hw _ (List.mem_of_getElem? (i := 60) rfl)) (hw _ (List.mem_of_getElem? (i := 59) rfl)) e118 (rmL1_4 l Z a0 hw [] b r h0 n0 Z0 A hIC) (by rw [hml]; rfl) (lenOf pd_9 rfl) rfl (Nat.le_of_eq rfl) (hb hby d7_17) (by decide) (by decide) (by decide) (by decide) fun v119 T119 L119 X119 hQ119 => ?_
  obtain ⟨rfl, N119q, e119⟩ := hQ119
  have N119 := Fr.app N118 N119q
  show own_At p e below _ T119 m 20 _ [(.int r)]
  refine own_goto X119 hx 36 (hb hby d7_20) (by decide) (by decide) ?_
  refine own_retI X119 hx hlk hret (hb hby d7_36) (own_kN (by decide) (by decide) ?_)
  try rw [e119]
  exact ⟨rfl, N119, rfl⟩
set_option maxRecDepth 65536 in
set_option maxHeartbeats 40000000 in
theorem rmX1_4 (l : Launch) (Z : State) (a0 : Array Value) (hw : ∀ d ∈ tables_1, d.before a0 Z = true) (ws : List Jvm.Cond) (a b : Addr) (cs : Int32) (r : Int32)  (h0 : Heap) (n0 : Nat) (Z0 : n0 ≤ h0.size) (Sc : Sta Z h0 "java/lang/String" "COMPACT_STRINGS" "Z" (.int cs)) (hcs : ¬ (cs = (0 : Int32))) (Ea : Exa Z h0 a "java/lang/String") (Fv : Fld Z h0 a "java/lang/String" "value" "[B" (.ref b)) (Fc : Fld Z h0 a "java/lang/String" "coder" "B" (.int (0 : Int32))) (A : own_Aln Z h0 b .byte (4 : Int32)) (hIC : own_Met l (⟨"java/lang/StringLatin1", "indexOfChar", "([BIII)I"⟩ : MethodName) jdk_43_method_23_code 6 (some .int) [] ({ frames := 0, cells := 0, slots := 0, locals := 0 } : Room) Z #[(.ref b), (.int (46 : Int32)), (.int (0 : Int32)), (.int (4 : Int32))] h0 (fun v h L => v = some (.int r) ∧ Fr n0 L ∧ h = h0)) :
    own_Met l (⟨"java/lang/String", "indexOf", "(I)I"⟩ : MethodName) jdk_42_method_79_code 2 (some .int) ws ({ frames := 3, cells := 0, slots := 0, locals := 46 } : Room) Z #[(.ref a), (.int (46 : Int32))] h0 (fun v h L => v = some (.int r) ∧ Fr n0 L ∧ h = h0) := by
  refine own_body (plainFor_of_name pn_2) ?_
  intro p e s m below meth c s₁ X0 hx hby hml hown hnm hret hlk hZ e0
  replace hown : s.vm.findClass "java/lang/String" = some m.cls := hown
  replace hml : c.maxLocals = 2 := hml
  replace hret : meth.sig.returnType = (some .int) := hret
  have N0 := Fr.nil n0
  have ef : entryFrame m #[(.ref a), (.int (46 : Int32))] 2 = mkF m 0 #[.val (.ref a), .val (.int (46 : Int32))] [] := by first | (simp [entryFrame, mkF, argsToLocals, Value.category]; done) | rfl
  refine own_step (S' := (s₁.setTop (mkF m 0 #[.val (.ref a), .val (.int (46 : Int32))] []))) (fun _ k => castTop ef k) ?_
  refine own_aloadN X0 hx (hb hby d6_0) rfl rfl ?_
  refine own_iloadN X0 hx (hb hby d6_1) rfl ?_
  refine own_iconst X0 hx (0 : Int32) (hb hby d6_2) rfl ?_
  refine own_cVirt (W := 0) (rest := []) X0 hx hZ [(.int (46 : Int32)), (.int (0 : Int32))] hown (hw _ (List.mem_of_getElem? (i := 36) rfl)) (hw _ (List.mem_of_getElem? (i := 37) rfl)) (notFace_of_selects (args := #[]) (mvT hZ (hw _ (List.mem_of_getElem? (i := 39) rfl)))) (hw _ (List.mem_of_getElem? (i := 39) rfl)) (hw _ (List.mem_of_getElem? (i := 38) rfl)) (by decide) (hw _ (List.mem_of_getElem? (i := 40) rfl)) (hw _ (List.mem_of_getElem? (i := 8) rfl)) e0 Ea (rmX2_4 l Z a0 hw [] a b cs r h0 n0 Z0 Sc hcs Ea Fv Fc A hIC) (by rw [hml]; rfl) (lenOf pd_6 rfl) rfl (Nat.le_of_eq rfl) (hb hby d6_3) (by decide) (by decide) (by decide) (by decide) fun v120 T120 L120 X120 hQ120 => ?_
  obtain ⟨rfl, N120q, e120⟩ := hQ120
  have N120 := Fr.app N0 N120q
  show own_At p e below _ T120 m 6 _ [(.int r)]
  refine own_retI X120 hx hlk hret (hb hby d6_6) (own_kN (by decide) (by decide) ?_)
  try rw [e120]
  exact ⟨rfl, N120, rfl⟩
set_option maxRecDepth 65536 in
set_option maxHeartbeats 40000000 in
theorem rmSL_4_1 (l : Launch) (Z : State) (a0 : Array Value) (hw : ∀ d ∈ tables_1, d.before a0 Z = true) (ws : List Jvm.Cond) (a b : Addr) (cs : Int32) (r : Int32)  (h0 : Heap) (n0 : Nat) (Z0 : n0 ≤ h0.size) (Sc : Sta Z h0 "java/lang/String" "COMPACT_STRINGS" "Z" (.int cs)) (hcs : ¬ (cs = (0 : Int32))) (Ea : Exa Z h0 a "java/lang/String") (Fv : Fld Z h0 a "java/lang/String" "value" "[B" (.ref b)) (Fc : Fld Z h0 a "java/lang/String" "coder" "B" (.int (0 : Int32))) (A : own_Aln Z h0 b .byte (4 : Int32)) (hIC : own_Met l (⟨"java/lang/StringLatin1", "indexOfChar", "([BIII)I"⟩ : MethodName) jdk_43_method_23_code 6 (some .int) [] ({ frames := 0, cells := 0, slots := 0, locals := 0 } : Room) Z #[(.ref b), (.int (46 : Int32)), (.int (0 : Int32)), (.int (4 : Int32))] h0 (fun v h L => v = some (.int r) ∧ Fr n0 L ∧ h = h0)) (hr : r < (0 : Int32)) :
    own_Met l (⟨"com/example/ratatoskr/ratatoskr/DomainName", "isSingleLabel", "(Ljava/lang/String;)Z"⟩ : MethodName) prog_9_method_3_code 1 (some .boolean) ws ({ frames := 4, cells := 0, slots := 0, locals := 59 } : Room) Z #[(.ref a)] h0 (fun v h L => v = some (.int (1 : Int32)) ∧ Fr n0 L ∧ h = h0) := by
  refine own_body (plainFor_of_name pn_4) ?_
  intro p e s m below meth c s₁ X0 hx hby hml hown hnm hret hlk hZ e0
  replace hown : s.vm.findClass "com/example/ratatoskr/ratatoskr/DomainName" = some m.cls := hown
  replace hml : c.maxLocals = 1 := hml
  replace hret : meth.sig.returnType = (some .boolean) := hret
  have N0 := Fr.nil n0
  have ef : entryFrame m #[(.ref a)] 1 = mkF m 0 #[.val (.ref a)] [] := by first | (simp [entryFrame, mkF, argsToLocals, Value.category]; done) | rfl
  refine own_step (S' := (s₁.setTop (mkF m 0 #[.val (.ref a)] []))) (fun _ k => castTop ef k) ?_
  refine own_aloadN X0 hx (hb hby d5_0) rfl rfl ?_
  refine own_bipush X0 hx (46 : Int32) (hb hby d5_1) rfl ?_
  refine own_cVirt (W := 0) (rest := []) X0 hx hZ [(.int (46 : Int32))] hown (hw _ (List.mem_of_getElem? (i := 31) rfl)) (hw _ (List.mem_of_getElem? (i := 32) rfl)) (notFace_of_selects (args := #[]) (mvT hZ (hw _ (List.mem_of_getElem? (i := 34) rfl)))) (hw _ (List.mem_of_getElem? (i := 34) rfl)) (hw _ (List.mem_of_getElem? (i := 33) rfl)) (by decide) (hw _ (List.mem_of_getElem? (i := 35) rfl)) (hw _ (List.mem_of_getElem? (i := 8) rfl)) e0 Ea (rmX1_4 l Z a0 hw [] a b cs r h0 n0 Z0 Sc hcs Ea Fv Fc A hIC) (by rw [hml]; rfl) (lenOf pd_10 rfl) rfl (Nat.le_of_eq rfl) (hb hby d5_3) (by decide) (by decide) (by decide) (by decide) fun v121 T121 L121 X121 hQ121 => ?_
  obtain ⟨rfl, N121q, e121⟩ := hQ121
  have N121 := Fr.app N0 N121q
  show own_At p e below _ T121 m 6 _ [(.int r)]
  refine own_ifNo X121 hx (hb hby d5_6) (tlt hr).2.1 ?_
  refine own_iconst X121 hx (1 : Int32) (hb hby d5_9) rfl ?_
  refine own_goto X121 hx 14 (hb hby d5_10) (by decide) (by decide) ?_
  refine own_retN X121 hx hlk hret (by simp) (by decide) (hb hby d5_14) (own_kN (by decide) (by decide) ?_)
  try rw [e121]
  exact ⟨rfl, N121, rfl⟩
set_option maxRecDepth 65536 in
set_option maxHeartbeats 40000000 in
theorem rmSL_4_0 (l : Launch) (Z : State) (a0 : Array Value) (hw : ∀ d ∈ tables_1, d.before a0 Z = true) (ws : List Jvm.Cond) (a b : Addr) (cs : Int32) (r : Int32)  (h0 : Heap) (n0 : Nat) (Z0 : n0 ≤ h0.size) (Sc : Sta Z h0 "java/lang/String" "COMPACT_STRINGS" "Z" (.int cs)) (hcs : ¬ (cs = (0 : Int32))) (Ea : Exa Z h0 a "java/lang/String") (Fv : Fld Z h0 a "java/lang/String" "value" "[B" (.ref b)) (Fc : Fld Z h0 a "java/lang/String" "coder" "B" (.int (0 : Int32))) (A : own_Aln Z h0 b .byte (4 : Int32)) (hIC : own_Met l (⟨"java/lang/StringLatin1", "indexOfChar", "([BIII)I"⟩ : MethodName) jdk_43_method_23_code 6 (some .int) [] ({ frames := 0, cells := 0, slots := 0, locals := 0 } : Room) Z #[(.ref b), (.int (46 : Int32)), (.int (0 : Int32)), (.int (4 : Int32))] h0 (fun v h L => v = some (.int r) ∧ Fr n0 L ∧ h = h0)) (hr : ¬ (r < (0 : Int32))) :
    own_Met l (⟨"com/example/ratatoskr/ratatoskr/DomainName", "isSingleLabel", "(Ljava/lang/String;)Z"⟩ : MethodName) prog_9_method_3_code 1 (some .boolean) ws ({ frames := 4, cells := 0, slots := 0, locals := 59 } : Room) Z #[(.ref a)] h0 (fun v h L => v = some (.int (0 : Int32)) ∧ Fr n0 L ∧ h = h0) := by
  refine own_body (plainFor_of_name pn_4) ?_
  intro p e s m below meth c s₁ X0 hx hby hml hown hnm hret hlk hZ e0
  replace hown : s.vm.findClass "com/example/ratatoskr/ratatoskr/DomainName" = some m.cls := hown
  replace hml : c.maxLocals = 1 := hml
  replace hret : meth.sig.returnType = (some .boolean) := hret
  have N0 := Fr.nil n0
  have ef : entryFrame m #[(.ref a)] 1 = mkF m 0 #[.val (.ref a)] [] := by first | (simp [entryFrame, mkF, argsToLocals, Value.category]; done) | rfl
  refine own_step (S' := (s₁.setTop (mkF m 0 #[.val (.ref a)] []))) (fun _ k => castTop ef k) ?_
  refine own_aloadN X0 hx (hb hby d5_0) rfl rfl ?_
  refine own_bipush X0 hx (46 : Int32) (hb hby d5_1) rfl ?_
  refine own_cVirt (W := 0) (rest := []) X0 hx hZ [(.int (46 : Int32))] hown (hw _ (List.mem_of_getElem? (i := 31) rfl)) (hw _ (List.mem_of_getElem? (i := 32) rfl)) (notFace_of_selects (args := #[]) (mvT hZ (hw _ (List.mem_of_getElem? (i := 34) rfl)))) (hw _ (List.mem_of_getElem? (i := 34) rfl)) (hw _ (List.mem_of_getElem? (i := 33) rfl)) (by decide) (hw _ (List.mem_of_getElem? (i := 35) rfl)) (hw _ (List.mem_of_getElem? (i := 8) rfl)) e0 Ea (rmX1_4 l Z a0 hw [] a b cs r h0 n0 Z0 Sc hcs Ea Fv Fc A hIC) (by rw [hml]; rfl) (lenOf pd_10 rfl) rfl (Nat.le_of_eq rfl) (hb hby d5_3) (by decide) (by decide) (by decide) (by decide) fun v122 T122 L122 X122 hQ122 => ?_
  obtain ⟨rfl, N122q, e122⟩ := hQ122
  have N122 := Fr.app N0 N122q
  show own_At p e below _ T122 m 6 _ [(.int r)]
  refine own_ifYes X122 hx 13 (hb hby d5_6) (flt hr).2.1 (by decide) (by decide) ?_
  refine own_iconst X122 hx (0 : Int32) (hb hby d5_13) rfl ?_
  refine own_retN X122 hx hlk hret (by simp) (by decide) (hb hby d5_14) (own_kN (by decide) (by decide) ?_)
  try rw [e122]
  exact ⟨rfl, N122, rfl⟩
theorem own_rem5 (p1 : Int32) : ((p1 &&& (2147483647 : Int32)) % (5 : Int32)) = (0 : Int32) ∨ ((p1 &&& (2147483647 : Int32)) % (5 : Int32)) = (1 : Int32) ∨ ((p1 &&& (2147483647 : Int32)) % (5 : Int32)) = (2 : Int32) ∨ ((p1 &&& (2147483647 : Int32)) % (5 : Int32)) = (3 : Int32) ∨ ((p1 &&& (2147483647 : Int32)) % (5 : Int32)) = (4 : Int32) := by
  have h1 := c_mask p1 2147483647 31 (by decide) (by decide)
  have h2 := (c_irem (p1 &&& (2147483647 : Int32)) 5 5 (by decide)).1
  simp only [← Int32.toInt_inj]
  have e0 : (0 : Int32).toInt = 0 := by decide
  have e1 : (1 : Int32).toInt = 1 := by decide
  have e2 : (2 : Int32).toInt = 2 := by decide
  have e3 : (3 : Int32).toInt = 3 := by decide
  have e4 : (4 : Int32).toInt = 4 := by decide
  rw [e0, e1, e2, e3, e4]
  omega
theorem pd_11 : parseMethodDescriptor "(I)C" = some ⟨[.int], some .char⟩ := by decide +kernel
theorem pd_12 : parseMethodDescriptor "([C)V" = some ⟨[(.array .char)], none⟩ := by decide +kernel
theorem pd_13 : parseMethodDescriptor "(Ljava/lang/String;)Z" = some ⟨[(.object "java/lang/String")], some .boolean⟩ := by decide +kernel
set_option maxRecDepth 65536 in
set_option maxHeartbeats 40000000 in
theorem rm0 (l : Launch) (Z : State) (a0 : Array Value) (hw : ∀ d ∈ tables_1, d.before a0 Z = true) (ws : List Jvm.Cond) (cs : Int32) (p1 : Int32) (p2 : Int32) (p3 : Int32) (p4 : Int32) (p5 : Int32) (h0 : Heap) (n0 : Nat) (Z0 : n0 ≤ h0.size) (Sc : Sta Z h0 "java/lang/String" "COMPACT_STRINGS" "Z" (.int cs)) (hcs : ¬ (cs = (0 : Int32))) :
    own_MetL l x code maxLocals ret ws room_1 Z own_EL #[(.int p1), (.int p2), (.int p3), (.int p4), (.int p5)] h0 (fun v h L => v = some (.int 1) ∧ Fr n0 L) := by
  refine own_bodyL (plainFor_of_name pn_0) ?_
  intro p e s m below meth c s₁ X0 hx hby hml hown hnm hret hlk hZ e0 hs0 CH0 hS0
  replace hown : (s.setVm s.vm).vm.findClass "com/example/ratatoskr/ratatoskr/DomainNameIsSingleLabelPinLaw" = some m.cls := hown
  replace hml : c.maxLocals = 13 := hml
  replace hret : meth.sig.returnType = (some .boolean) := hret
  have N0 := Fr.nil n0
  have hEL : EW Z a0 own_EL := own_ELw hw
  have ef : entryFrame m #[(.int p1), (.int p2), (.int p3), (.int p4), (.int p5)] maxLocals = mkF m 0 #[.val (.int p1), .val (.int p2), .val (.int p3), .val (.int p4), .val (.int p5), .unset, .unset, .unset, .unset, .unset, .unset, .unset, .unset] [] := by first | (simp [entryFrame, mkF, argsToLocals, Value.category, maxLocals]; done) | rfl
  refine own_step (S' := (s₁.setTop (mkF m 0 #[.val (.int p1), .val (.int p2), .val (.int p3), .val (.int p4), .val (.int p5), .unset, .unset, .unset, .unset, .unset, .unset, .unset, .unset] []))) (fun _ k => castTop ef k) ?_
  refine own_iloadN X0 hx (hb hby at_0) rfl ?_
  refine own_ldcI X0 hx hZ hown (hw _ (List.mem_of_getElem? (i := 0) rfl)) (hb hby at_1) ?_
  refine own_iand X0 hx (hb hby at_3) ?_
  refine own_iconst X0 hx (5 : Int32) (hb hby at_4) rfl ?_
  refine own_irem X0 hx (hb hby at_5) (by decide) ?_
  refine own_istore (l' := #[.val (.int p1), .val (.int p2), .val (.int p3), .val (.int p4), .val (.int p5), .val (.int ((p1 &&& (2147483647 : Int32)) % (5 : Int32))), .unset, .unset, .unset, .unset, .unset, .unset, .unset]) X0 hx (hb hby at_6) rfl ?_
  refine own_iloadN X0 hx (hb hby at_8) rfl ?_
  refine own_cStat (W := 0) (rest := []) X0 hx hZ [(.int p2)] hown (hw _ (List.mem_of_getElem? (i := 1) rfl)) (hw _ (List.mem_of_getElem? (i := 2) rfl)) (by decide) (hw _ (List.mem_of_getElem? (i := 4) rfl)) (hw _ (List.mem_of_getElem? (i := 3) rfl)) e0 (rmCh l Z a0 hw [] p2 h0 n0 Z0) (by rw [hml]; rfl) (lenOf pd_11 rfl) rfl (Nat.le_of_eq rfl) (hb hby at_9) (by decide) (by decide) (by decide) (by decide) fun v123 T123 L123 X123 hQ123 => ?_
  obtain ⟨c123, rfl, N123q, e123, lo123, hi123⟩ := hQ123
  have N123 := Fr.app N0 N123q
  show own_At p e below _ T123 m 12 _ [(.int c123)]
  refine own_istore (l' := #[.val (.int p1), .val (.int p2), .val (.int p3), .val (.int p4), .val (.int p5), .val (.int ((p1 &&& (2147483647 : Int32)) % (5 : Int32))), .val (.int c123), .unset, .unset, .unset, .unset, .unset, .unset]) X123 hx (hb hby at_12) rfl ?_
  refine own_iloadN X123 hx (hb hby at_14) rfl ?_
  refine own_cStat (W := 0) (rest := []) X123 hx hZ [(.int p3)] hown (hw _ (List.mem_of_getElem? (i := 1) rfl)) (hw _ (List.mem_of_getElem? (i := 2) rfl)) (by decide) (hw _ (List.mem_of_getElem? (i := 4) rfl)) (hw _ (List.mem_of_getElem? (i := 3) rfl)) e123 (rmCh l Z a0 hw [] p3 h0 n0 Z0) (by rw [hml]; rfl) (lenOf pd_11 rfl) rfl (Nat.le_of_eq rfl) (hb hby at_15) (by decide) (by decide) (by decide) (by decide) fun v124 T124 L124 X124 hQ124 => ?_
  obtain ⟨c124, rfl, N124q, e124, lo124, hi124⟩ := hQ124
  have N124 := Fr.app N123 N124q
  show own_At p e below _ T124 m 18 _ [(.int c124)]
  refine own_istore (l' := #[.val (.int p1), .val (.int p2), .val (.int p3), .val (.int p4), .val (.int p5), .val (.int ((p1 &&& (2147483647 : Int32)) % (5 : Int32))), .val (.int c123), .val (.int c124), .unset, .unset, .unset, .unset, .unset]) X124 hx (hb hby at_18) rfl ?_
  refine own_iloadN X124 hx (hb hby at_20) rfl ?_
  refine own_cStat (W := 0) (rest := []) X124 hx hZ [(.int p4)] hown (hw _ (List.mem_of_getElem? (i := 1) rfl)) (hw _ (List.mem_of_getElem? (i := 2) rfl)) (by decide) (hw _ (List.mem_of_getElem? (i := 4) rfl)) (hw _ (List.mem_of_getElem? (i := 3) rfl)) e124 (rmCh l Z a0 hw [] p4 h0 n0 Z0) (by rw [hml]; rfl) (lenOf pd_11 rfl) rfl (Nat.le_of_eq rfl) (hb hby at_21) (by decide) (by decide) (by decide) (by decide) fun v125 T125 L125 X125 hQ125 => ?_
  obtain ⟨c125, rfl, N125q, e125, lo125, hi125⟩ := hQ125
  have N125 := Fr.app N124 N125q
  show own_At p e below _ T125 m 24 _ [(.int c125)]
  refine own_istore (l' := #[.val (.int p1), .val (.int p2), .val (.int p3), .val (.int p4), .val (.int p5), .val (.int ((p1 &&& (2147483647 : Int32)) % (5 : Int32))), .val (.int c123), .val (.int c124), .val (.int c125), .unset, .unset, .unset, .unset]) X125 hx (hb hby at_24) rfl ?_
  refine own_iload X125 hx (hb hby at_26) rfl ?_
  refine own_cStat (W := 0) (rest := []) X125 hx hZ [(.int p5)] hown (hw _ (List.mem_of_getElem? (i := 1) rfl)) (hw _ (List.mem_of_getElem? (i := 2) rfl)) (by decide) (hw _ (List.mem_of_getElem? (i := 4) rfl)) (hw _ (List.mem_of_getElem? (i := 3) rfl)) e125 (rmCh l Z a0 hw [] p5 h0 n0 Z0) (by rw [hml]; rfl) (lenOf pd_11 rfl) rfl (Nat.le_of_eq rfl) (hb hby at_28) (by decide) (by decide) (by decide) (by decide) fun v126 T126 L126 X126 hQ126 => ?_
  obtain ⟨c126, rfl, N126q, e126, lo126, hi126⟩ := hQ126
  have N126 := Fr.app N125 N126q
  show own_At p e below _ T126 m 31 _ [(.int c126)]
  refine own_istore (l' := #[.val (.int p1), .val (.int p2), .val (.int p3), .val (.int p4), .val (.int p5), .val (.int ((p1 &&& (2147483647 : Int32)) % (5 : Int32))), .val (.int c123), .val (.int c124), .val (.int c125), .val (.int c126), .unset, .unset, .unset]) X126 hx (hb hby at_31) rfl ?_
  rcases own_rem5 p1 with hr127 | hr127 | hr127 | hr127 | hr127
  · rw [hr127]
    refine own_iload X126 hx (hb hby at_33) rfl ?_
    refine own_ifNo X126 hx (hb hby at_35) (teq (by decide : (0 : Int32) = (0 : Int32))).2 ?_
    refine own_iconst X126 hx (0 : Int32) (hb hby at_38) rfl ?_
    refine own_newP (n := (0 : Int32)) (cap := 0) (ad := "[C") X126 hx hZ (hw _ (List.mem_of_getElem? (i := 5) rfl)) e126 (hb hby at_39) (by decide) (by decide) (by decide) (by decide) (by decide) (by decide) fun T128 h128 k128 b128 g128 X128 e128 E128 A128 Ex128 => ?_
    have g_b128 : n0 ≤ b128 := Nat.le_trans Z0 (Nat.le_of_eq g128.symm)
    have szo_b128 : h0.size ≤ b128 := Nat.le_trans (Nat.le_refl h0.size) (Nat.le_of_eq g128.symm)
    have V128 : Arv Z h128 b128 k128 .char (0 : Int32) [] (.int (0 : Int32)) := Arv.new A128 (by decide)
    refine own_astore (l' := #[.val (.int p1), .val (.int p2), .val (.int p3), .val (.int p4), .val (.int p5), .val (.int (0 : Int32)), .val (.int c123), .val (.int c124), .val (.int c125), .val (.int c126), .val (.ref b128), .unset, .unset]) X128 hx (hb hby at_41) rfl rfl ?_
    refine own_goto X128 hx 143 (hb hby at_43) (by decide) (by decide) ?_
    refine own_newO X128 hx hZ hown (hw _ (List.mem_of_getElem? (i := 6) rfl)) (hw _ (List.mem_of_getElem? (i := 7) rfl)) (hw _ (List.mem_of_getElem? (i := 8) rfl)) e128 (hb hby at_143) (by decide) (by decide) fun T129 h129 b129 g129 X129 e129 E129 A129 D129 => ?_
    have g_b129 : n0 ≤ b129 := Nat.le_trans (Nat.le_trans Z0 E128.1) (Nat.le_of_eq g129.symm)
    have szo_b129 : h0.size ≤ b129 := Nat.le_trans (Nat.le_trans (Nat.le_refl h0.size) E128.1) (Nat.le_of_eq g129.symm)
    have F_value_b129 : Fld Z h129 b129 "java/lang/String" "value" "[B" .null := D129 (Or.inr (hw _ (List.mem_of_getElem? (i := 21) rfl))) (ty := (.array .byte)) (by decide)
    have F_coder_b129 : Fld Z h129 b129 "java/lang/String" "coder" "B" (.int (0 : Int32)) := D129 (Or.inr (hw _ (List.mem_of_getElem? (i := 22) rfl))) (ty := .byte) (by decide)
    refine own_dup X129 hx (hb hby at_146) rfl ?_
    refine own_aload X129 hx (hb hby at_147) rfl rfl ?_
    have f130 := (Sta.ext E129 (Sta.ext E128 Sc))
    have f131 := (Exa.ext E129 Ex128)
    have f132 := (V128.ext E129)
    have Zs133 : n0 ≤ h129.size := (Nat.le_trans (Nat.le_trans Z0 E128.1) E129.1)
    refine own_cSpecW (b := b129) (W := 1) (rest := [(.ref b129)]) X129 hx hZ [(.ref b128)] rfl hown (hw _ (List.mem_of_getElem? (i := 9) rfl)) (hw _ (List.mem_of_getElem? (i := 10) rfl)) (by decide) (hw _ (List.mem_of_getElem? (i := 11) rfl)) (hw _ (List.mem_of_getElem? (i := 8) rfl)) e129 (rmI1_0 l Z a0 hw [] b129 b128 k128 h129 n0 Zs133 A129 F_value_b129 F_coder_b129 g_b129 f132) hEL (CHv.ext E129 (CHv.ext E128 CH0)) hS0 (Nat.le_trans (Nat.le_trans (Nat.le_refl _) E128.1) E129.1) (by rw [hml]; rfl) (lenOf pd_12 rfl) rfl (Nat.le_of_eq rfl) (hb hby at_149) (by decide) (by decide) (by decide) (by decide) fun v134 T134 L134 X134 hS134 hZ134 ho134 CR134 hQ134 => ?_
    obtain ⟨rfl, N134q, K134, sb134, kb134, Ea134, Fv134, Fc134, Vb134⟩ := hQ134
    have N134 := Fr.app N126 N134q
    show own_At p e below _ T134 m 152 _ [(.ref b129)]
    refine own_astore (l' := #[.val (.int p1), .val (.int p2), .val (.int p3), .val (.int p4), .val (.int p5), .val (.int (0 : Int32)), .val (.int c123), .val (.int c124), .val (.int c125), .val (.int c126), .val (.ref b128), .val (.ref b129), .unset]) X134 hx (hb hby at_152) rfl rfl ?_
    refine own_iconst X134 hx (0 : Int32) (hb hby at_154) rfl ?_
    refine own_istore (l' := #[.val (.int p1), .val (.int p2), .val (.int p3), .val (.int p4), .val (.int p5), .val (.int (0 : Int32)), .val (.int c123), .val (.int c124), .val (.int c125), .val (.int c126), .val (.ref b128), .val (.ref b129), .val (.int (0 : Int32))]) X134 hx (hb hby at_155) rfl ?_
    refine own_iload X134 hx (hb hby at_157) rfl ?_
    refine own_ifYes X134 hx 172 (hb hby at_159) (flt (by decide : ¬ ((0 : Int32) < (0 : Int32)))).2.2.2 (by decide) (by decide) ?_
    refine own_iload X134 hx (hb hby at_172) rfl ?_
    refine own_iconst X134 hx (1 : Int32) (hb hby at_174) rfl ?_
    refine own_icmpYes X134 hx 188 (hb hby at_175) (flt (by decide : ¬ ((1 : Int32) < (0 : Int32)))).2.2.2 (by decide) (by decide) ?_
    refine own_iload X134 hx (hb hby at_188) rfl ?_
    refine own_iconst X134 hx (2 : Int32) (hb hby at_190) rfl ?_
    refine own_icmpYes X134 hx 204 (hb hby at_191) (flt (by decide : ¬ ((2 : Int32) < (0 : Int32)))).2.2.2 (by decide) (by decide) ?_
    refine own_iload X134 hx (hb hby at_204) rfl ?_
    refine own_iconst X134 hx (3 : Int32) (hb hby at_206) rfl ?_
    refine own_icmpYes X134 hx 220 (hb hby at_207) (flt (by decide : ¬ ((3 : Int32) < (0 : Int32)))).2.2.2 (by decide) (by decide) ?_
    refine own_aload X134 hx (hb hby at_220) rfl rfl ?_
    refine own_cStat (W := 0) (rest := []) X134 hx hZ134 [(.ref b129)] ho134 (hw _ (List.mem_of_getElem? (i := 27) rfl)) (hw _ (List.mem_of_getElem? (i := 28) rfl)) (by decide) (hw _ (List.mem_of_getElem? (i := 30) rfl)) (hw _ (List.mem_of_getElem? (i := 29) rfl)) rfl (rmSL_0_1 l Z a0 hw [] b129 sb134 cs T134.heap n0 (Nat.le_trans Zs133 K134.1) (own_staKeep f130 K134 (allS (own_exaStat A129) all0)) hcs Ea134 Fv134 Fc134 (own_alnV Vb134)) (by rw [hml]; rfl) (lenOf pd_13 rfl) rfl (Nat.le_of_eq rfl) (hb hby at_222) (by decide) (by decide) (by decide) (by decide) fun v135 T135 L135 X135 hQ135 => ?_
    obtain ⟨rfl, N135q, e135⟩ := hQ135
    have N135 := Fr.app N134 N135q
    show own_At p e below _ T135 m 225 _ [(.int (1 : Int32))]
    refine own_iload X135 hx (hb hby at_225) rfl ?_
    refine own_ifNo X135 hx (hb hby at_227) (teq (by decide : (0 : Int32) = (0 : Int32))).2 ?_
    refine own_iconst X135 hx (1 : Int32) (hb hby at_230) rfl ?_
    refine own_goto X135 hx 235 (hb hby at_231) (by decide) (by decide) ?_
    refine own_icmpNo X135 hx (hb hby at_235) (teq (by decide : (1 : Int32) = (1 : Int32))).2 ?_
    refine own_iconst X135 hx (1 : Int32) (hb hby at_238) rfl ?_
    refine own_goto X135 hx 243 (hb hby at_239) (by decide) (by decide) ?_
    refine own_retN X135 hx hlk hret (by simp) (by decide) (hb hby at_243) (own_kL hS134 (by rw [e135]; exact (Nat.le_refl _)) (by decide) (by decide) ?_)
    try rw [e135]
    exact ⟨rfl, N135⟩
  · rw [hr127]
    refine own_iload X126 hx (hb hby at_33) rfl ?_
    refine own_ifYes X126 hx 46 (hb hby at_35) (feq (by decide : ¬ ((1 : Int32) = (0 : Int32)))).2 (by decide) (by decide) ?_
    refine own_iload X126 hx (hb hby at_46) rfl ?_
    refine own_iconst X126 hx (1 : Int32) (hb hby at_48) rfl ?_
    refine own_icmpNo X126 hx (hb hby at_49) (teq (by decide : (1 : Int32) = (1 : Int32))).2 ?_
    refine own_iconst X126 hx (1 : Int32) (hb hby at_52) rfl ?_
    refine own_newP (n := (1 : Int32)) (cap := 1) (ad := "[C") X126 hx hZ (hw _ (List.mem_of_getElem? (i := 5) rfl)) e126 (hb hby at_53) (by decide) (by decide) (by decide) (by decide) (by decide) (by decide) fun T136 h136 k136 b136 g136 X136 e136 E136 A136 Ex136 => ?_
    have g_b136 : n0 ≤ b136 := Nat.le_trans Z0 (Nat.le_of_eq g136.symm)
    have szo_b136 : h0.size ≤ b136 := Nat.le_trans (Nat.le_refl h0.size) (Nat.le_of_eq g136.symm)
    have V136 : Arv Z h136 b136 k136 .char (1 : Int32) [(.int (0 : Int32))] (.int (0 : Int32)) := (Arv.new A136 (by decide)).pad (pad_rep [] (.int (0 : Int32)) 1)
    refine own_dup X136 hx (hb hby at_55) rfl ?_
    refine own_iconst X136 hx (0 : Int32) (hb hby at_56) rfl ?_
    refine own_iload X136 hx (hb hby at_57) rfl ?_
    refine own_stC (vs' := [(.int c123)]) (w := (.int c123)) X136 hx hZ e136 V136 ⟨by decide, by decide⟩ 0 rfl (Nat.le_of_ble_eq_true rfl) (congrArg Value.int (own_narc lo123 hi123)) rfl (hb hby at_59) fun T137 h137 X137 e137 W137 V137 => ?_
    have N137 := Fr.snoc X137 N126 g_b136
    refine own_astore (l' := #[.val (.int p1), .val (.int p2), .val (.int p3), .val (.int p4), .val (.int p5), .val (.int (1 : Int32)), .val (.int c123), .val (.int c124), .val (.int c125), .val (.int c126), .val (.ref b136), .unset, .unset]) X137 hx (hb hby at_60) rfl rfl ?_
    refine own_goto X137 hx 143 (hb hby at_62) (by decide) (by decide) ?_
    refine own_newO X137 hx hZ hown (hw _ (List.mem_of_getElem? (i := 6) rfl)) (hw _ (List.mem_of_getElem? (i := 7) rfl)) (hw _ (List.mem_of_getElem? (i := 8) rfl)) e137 (hb hby at_143) (by decide) (by decide) fun T138 h138 b138 g138 X138 e138 E138 A138 D138 => ?_
    have g_b138 : n0 ≤ b138 := Nat.le_trans (Nat.le_trans (Nat.le_trans Z0 E136.1) (Keep.of_wr W137).1) (Nat.le_of_eq g138.symm)
    have szo_b138 : h0.size ≤ b138 := Nat.le_trans (Nat.le_trans (Nat.le_trans (Nat.le_refl h0.size) E136.1) (Keep.of_wr W137).1) (Nat.le_of_eq g138.symm)
    have F_value_b138 : Fld Z h138 b138 "java/lang/String" "value" "[B" .null := D138 (Or.inr (hw _ (List.mem_of_getElem? (i := 21) rfl))) (ty := (.array .byte)) (by decide)
    have F_coder_b138 : Fld Z h138 b138 "java/lang/String" "coder" "B" (.int (0 : Int32)) := D138 (Or.inr (hw _ (List.mem_of_getElem? (i := 22) rfl))) (ty := .byte) (by decide)
    refine own_dup X138 hx (hb hby at_146) rfl ?_
    refine own_aload X138 hx (hb hby at_147) rfl rfl ?_
    have f139 := (Sta.ext E138 (Sta.wr W137 (Sta.ext E136 Sc)))
    have f140 := (Exa.ext E138 (Exa.wr W137 Ex136))
    have f141 := (V137.ext E138)
    have Zs142 : n0 ≤ h138.size := (Nat.le_trans (Nat.le_trans (Nat.le_trans Z0 E136.1) (Keep.of_wr W137).1) E138.1)
    refine own_cSpec (b := b138) (W := 1) (rest := [(.ref b138)]) X138 hx hZ [(.ref b136)] rfl hown (hw _ (List.mem_of_getElem? (i := 9) rfl)) (hw _ (List.mem_of_getElem? (i := 10) rfl)) (by decide) (hw _ (List.mem_of_getElem? (i := 11) rfl)) (hw _ (List.mem_of_getElem? (i := 8) rfl)) e138 (rmI1_1 l Z a0 hw [] b138 b136 k136 cs c123 h138 n0 Zs142 A138 F_value_b138 F_coder_b138 g_b138 f139 hcs f141 f140 hi123) (by rw [hml]; rfl) (lenOf pd_12 rfl) rfl (Nat.le_of_eq rfl) (hb hby at_149) (by decide) (by decide) (by decide) (by decide) fun v143 T143 L143 X143 hQ143 => ?_
    obtain ⟨rfl, N143q, K143, sb143, kb143, szb143, Eb143, Ea143, Fv143, Fc143, Vb143⟩ := hQ143
    have N143 := Fr.app N137 N143q
    show own_At p e below _ T143 m 152 _ [(.ref b138)]
    refine own_astore (l' := #[.val (.int p1), .val (.int p2), .val (.int p3), .val (.int p4), .val (.int p5), .val (.int (1 : Int32)), .val (.int c123), .val (.int c124), .val (.int c125), .val (.int c126), .val (.ref b136), .val (.ref b138), .unset]) X143 hx (hb hby at_152) rfl rfl ?_
    refine own_iconst X143 hx (0 : Int32) (hb hby at_154) rfl ?_
    refine own_istore (l' := #[.val (.int p1), .val (.int p2), .val (.int p3), .val (.int p4), .val (.int p5), .val (.int (1 : Int32)), .val (.int c123), .val (.int c124), .val (.int c125), .val (.int c126), .val (.ref b136), .val (.ref b138), .val (.int (0 : Int32))]) X143 hx (hb hby at_155) rfl ?_
    refine own_iload X143 hx (hb hby at_157) rfl ?_
    refine own_ifNo X143 hx (hb hby at_159) (tlt (by decide : (0 : Int32) < (1 : Int32))).2.2.2 ?_
    refine own_iload X143 hx (hb hby at_162) rfl ?_
    refine own_bipush X143 hx (46 : Int32) (hb hby at_164) rfl ?_
    by_cases hc144 : c123 = (46 : Int32)
    · refine own_icmpNo X143 hx (hb hby at_166) (teq hc144).2 ?_
      refine own_iconst X143 hx (1 : Int32) (hb hby at_169) rfl ?_
      refine own_istore (l' := #[.val (.int p1), .val (.int p2), .val (.int p3), .val (.int p4), .val (.int p5), .val (.int (1 : Int32)), .val (.int c123), .val (.int c124), .val (.int c125), .val (.int c126), .val (.ref b136), .val (.ref b138), .val (.int (1 : Int32))]) X143 hx (hb hby at_170) rfl ?_
      refine own_iload X143 hx (hb hby at_172) rfl ?_
      refine own_iconst X143 hx (1 : Int32) (hb hby at_174) rfl ?_
      refine own_icmpYes X143 hx 188 (hb hby at_175) (flt (by decide : ¬ ((1 : Int32) < (1 : Int32)))).2.2.2 (by decide) (by decide) ?_
      refine own_iload X143 hx (hb hby at_188) rfl ?_
      refine own_iconst X143 hx (2 : Int32) (hb hby at_190) rfl ?_
      refine own_icmpYes X143 hx 204 (hb hby at_191) (flt (by decide : ¬ ((2 : Int32) < (1 : Int32)))).2.2.2 (by decide) (by decide) ?_
      refine own_iload X143 hx (hb hby at_204) rfl ?_
      refine own_iconst X143 hx (3 : Int32) (hb hby at_206) rfl ?_
      refine own_icmpYes X143 hx 220 (hb hby at_207) (flt (by decide : ¬ ((3 : Int32) < (1 : Int32)))).2.2.2 (by decide) (by decide) ?_
      refine own_aload X143 hx (hb hby at_220) rfl rfl ?_
      have hV : Arv Z T143.heap sb143 kb143 .byte (1 : Int32) [(.int (46 : Int32))] (.int (0 : Int32)) := by have q := Vb143; rw [show (c123.toInt8.toInt32) = (46 : Int32) from by rw [hc144]; decide] at q; exact q
      have hIC := rmIC_1_0 l Z a0 hw [] sb143 kb143 c123 T143.heap n0 (Nat.le_trans Zs142 K143.1) hV 
      refine own_cStat (W := 0) (rest := []) X143 hx hZ [(.ref b138)] hown (hw _ (List.mem_of_getElem? (i := 27) rfl)) (hw _ (List.mem_of_getElem? (i := 28) rfl)) (by decide) (hw _ (List.mem_of_getElem? (i := 30) rfl)) (hw _ (List.mem_of_getElem? (i := 29) rfl)) rfl (rmSL_1_0 l Z a0 hw [] b138 sb143 cs (0 : Int32) T143.heap n0 (Nat.le_trans Zs142 K143.1) (own_staKeep f139 K143 (allS (own_exaStat A138) all0)) hcs Ea143 Fv143 Fc143 (own_alnV Vb143) hIC (by decide)) (by rw [hml]; rfl) (lenOf pd_13 rfl) rfl (Nat.le_of_eq rfl) (hb hby at_222) (by decide) (by decide) (by decide) (by decide) fun v145 T145 L145 X145 hQ145 => ?_
      obtain ⟨rfl, N145q, e145⟩ := hQ145
      have N145 := Fr.app N143 N145q
      show own_At p e below _ T145 m 225 _ [(.int (0 : Int32))]
      refine own_iload X145 hx (hb hby at_225) rfl ?_
      refine own_ifYes X145 hx 234 (hb hby at_227) (feq (by decide : ¬ ((1 : Int32) = (0 : Int32)))).2 (by decide) (by decide) ?_
      refine own_iconst X145 hx (0 : Int32) (hb hby at_234) rfl ?_
      refine own_icmpNo X145 hx (hb hby at_235) (teq (by decide : (0 : Int32) = (0 : Int32))).2 ?_
      refine own_iconst X145 hx (1 : Int32) (hb hby at_238) rfl ?_
      refine own_goto X145 hx 243 (hb hby at_239) (by decide) (by decide) ?_
      refine own_retN X145 hx hlk hret (by simp) (by decide) (hb hby at_243) (own_kL hS0 (by rw [e145]; exact (Nat.le_trans (Nat.le_trans (Nat.le_trans (Nat.le_trans (Nat.le_refl _) E136.1) (Keep.of_wr W137).1) E138.1) K143.1)) (by decide) (by decide) ?_)
      try rw [e145]
      exact ⟨rfl, N145⟩
    · refine own_icmpYes X143 hx 172 (hb hby at_166) (feq hc144).2 (by decide) (by decide) ?_
      refine own_iload X143 hx (hb hby at_172) rfl ?_
      refine own_iconst X143 hx (1 : Int32) (hb hby at_174) rfl ?_
      refine own_icmpYes X143 hx 188 (hb hby at_175) (flt (by decide : ¬ ((1 : Int32) < (1 : Int32)))).2.2.2 (by decide) (by decide) ?_
      refine own_iload X143 hx (hb hby at_188) rfl ?_
      refine own_iconst X143 hx (2 : Int32) (hb hby at_190) rfl ?_
      refine own_icmpYes X143 hx 204 (hb hby at_191) (flt (by decide : ¬ ((2 : Int32) < (1 : Int32)))).2.2.2 (by decide) (by decide) ?_
      refine own_iload X143 hx (hb hby at_204) rfl ?_
      refine own_iconst X143 hx (3 : Int32) (hb hby at_206) rfl ?_
      refine own_icmpYes X143 hx 220 (hb hby at_207) (flt (by decide : ¬ ((3 : Int32) < (1 : Int32)))).2.2.2 (by decide) (by decide) ?_
      refine own_aload X143 hx (hb hby at_220) rfl rfl ?_
      have hIC := rmIC_1_n l Z a0 hw [] sb143 kb143 c123 T143.heap n0 (Nat.le_trans Zs142 K143.1) Vb143 (own_dot lo123 hi123 hc144)
      refine own_cStat (W := 0) (rest := []) X143 hx hZ [(.ref b138)] hown (hw _ (List.mem_of_getElem? (i := 27) rfl)) (hw _ (List.mem_of_getElem? (i := 28) rfl)) (by decide) (hw _ (List.mem_of_getElem? (i := 30) rfl)) (hw _ (List.mem_of_getElem? (i := 29) rfl)) rfl (rmSL_1_1 l Z a0 hw [] b138 sb143 cs (-1 : Int32) T143.heap n0 (Nat.le_trans Zs142 K143.1) (own_staKeep f139 K143 (allS (own_exaStat A138) all0)) hcs Ea143 Fv143 Fc143 (own_alnV Vb143) hIC (by decide)) (by rw [hml]; rfl) (lenOf pd_13 rfl) rfl (Nat.le_of_eq rfl) (hb hby at_222) (by decide) (by decide) (by decide) (by decide) fun v146 T146 L146 X146 hQ146 => ?_
      obtain ⟨rfl, N146q, e146⟩ := hQ146
      have N146 := Fr.app N143 N146q
      show own_At p e below _ T146 m 225 _ [(.int (1 : Int32))]
      refine own_iload X146 hx (hb hby at_225) rfl ?_
      refine own_ifNo X146 hx (hb hby at_227) (teq (by decide : (0 : Int32) = (0 : Int32))).2 ?_
      refine own_iconst X146 hx (1 : Int32) (hb hby at_230) rfl ?_
      refine own_goto X146 hx 235 (hb hby at_231) (by decide) (by decide) ?_
      refine own_icmpNo X146 hx (hb hby at_235) (teq (by decide : (1 : Int32) = (1 : Int32))).2 ?_
      refine own_iconst X146 hx (1 : Int32) (hb hby at_238) rfl ?_
      refine own_goto X146 hx 243 (hb hby at_239) (by decide) (by decide) ?_
      refine own_retN X146 hx hlk hret (by simp) (by decide) (hb hby at_243) (own_kL hS0 (by rw [e146]; exact (Nat.le_trans (Nat.le_trans (Nat.le_trans (Nat.le_trans (Nat.le_refl _) E136.1) (Keep.of_wr W137).1) E138.1) K143.1)) (by decide) (by decide) ?_)
      try rw [e146]
      exact ⟨rfl, N146⟩
  · rw [hr127]
    refine own_iload X126 hx (hb hby at_33) rfl ?_
    refine own_ifYes X126 hx 46 (hb hby at_35) (feq (by decide : ¬ ((2 : Int32) = (0 : Int32)))).2 (by decide) (by decide) ?_
    refine own_iload X126 hx (hb hby at_46) rfl ?_
    refine own_iconst X126 hx (1 : Int32) (hb hby at_48) rfl ?_
    refine own_icmpYes X126 hx 65 (hb hby at_49) (feq (by decide : ¬ ((2 : Int32) = (1 : Int32)))).2 (by decide) (by decide) ?_
    refine own_iload X126 hx (hb hby at_65) rfl ?_
    refine own_iconst X126 hx (2 : Int32) (hb hby at_67) rfl ?_
    refine own_icmpNo X126 hx (hb hby at_68) (teq (by decide : (2 : Int32) = (2 : Int32))).2 ?_
    refine own_iconst X126 hx (2 : Int32) (hb hby at_71) rfl ?_
    refine own_newP (n := (2 : Int32)) (cap := 2) (ad := "[C") X126 hx hZ (hw _ (List.mem_of_getElem? (i := 5) rfl)) e126 (hb hby at_72) (by decide) (by decide) (by decide) (by decide) (by decide) (by decide) fun T147 h147 k147 b147 g147 X147 e147 E147 A147 Ex147 => ?_
    have g_b147 : n0 ≤ b147 := Nat.le_trans Z0 (Nat.le_of_eq g147.symm)
    have szo_b147 : h0.size ≤ b147 := Nat.le_trans (Nat.le_refl h0.size) (Nat.le_of_eq g147.symm)
    have V147 : Arv Z h147 b147 k147 .char (2 : Int32) [(.int (0 : Int32)), (.int (0 : Int32))] (.int (0 : Int32)) := (Arv.new A147 (by decide)).pad (pad_rep [] (.int (0 : Int32)) 2)
    refine own_dup X147 hx (hb hby at_74) rfl ?_
    refine own_iconst X147 hx (0 : Int32) (hb hby at_75) rfl ?_
    refine own_iload X147 hx (hb hby at_76) rfl ?_
    refine own_stC (vs' := [(.int c123), (.int (0 : Int32))]) (w := (.int c123)) X147 hx hZ e147 V147 ⟨by decide, by decide⟩ 0 rfl (Nat.le_of_ble_eq_true rfl) (congrArg Value.int (own_narc lo123 hi123)) rfl (hb hby at_78) fun T148 h148 X148 e148 W148 V148 => ?_
    have N148 := Fr.snoc X148 N126 g_b147
    refine own_dup X148 hx (hb hby at_79) rfl ?_
    refine own_iconst X148 hx (1 : Int32) (hb hby at_80) rfl ?_
    refine own_iload X148 hx (hb hby at_81) rfl ?_
    refine own_stC (vs' := [(.int c123), (.int c124)]) (w := (.int c124)) X148 hx hZ e148 V148 ⟨by decide, by decide⟩ 1 rfl (Nat.le_of_ble_eq_true rfl) (congrArg Value.int (own_narc lo124 hi124)) rfl (hb hby at_83) fun T149 h149 X149 e149 W149 V149 => ?_
    have N149 := Fr.snoc X149 N148 g_b147
    refine own_astore (l' := #[.val (.int p1), .val (.int p2), .val (.int p3), .val (.int p4), .val (.int p5), .val (.int (2 : Int32)), .val (.int c123), .val (.int c124), .val (.int c125), .val (.int c126), .val (.ref b147), .unset, .unset]) X149 hx (hb hby at_84) rfl rfl ?_
    refine own_goto X149 hx 143 (hb hby at_86) (by decide) (by decide) ?_
    refine own_newO X149 hx hZ hown (hw _ (List.mem_of_getElem? (i := 6) rfl)) (hw _ (List.mem_of_getElem? (i := 7) rfl)) (hw _ (List.mem_of_getElem? (i := 8) rfl)) e149 (hb hby at_143) (by decide) (by decide) fun T150 h150 b150 g150 X150 e150 E150 A150 D150 => ?_
    have g_b150 : n0 ≤ b150 := Nat.le_trans (Nat.le_trans (Nat.le_trans (Nat.le_trans Z0 E147.1) (Keep.of_wr W148).1) (Keep.of_wr W149).1) (Nat.le_of_eq g150.symm)
    have szo_b150 : h0.size ≤ b150 := Nat.le_trans (Nat.le_trans (Nat.le_trans (Nat.le_trans (Nat.le_refl h0.size) E147.1) (Keep.of_wr W148).1) (Keep.of_wr W149).1) (Nat.le_of_eq g150.symm)
    have F_value_b150 : Fld Z h150 b150 "java/lang/String" "value" "[B" .null := D150 (Or.inr (hw _ (List.mem_of_getElem? (i := 21) rfl))) (ty := (.array .byte)) (by decide)
    have F_coder_b150 : Fld Z h150 b150 "java/lang/String" "coder" "B" (.int (0 : Int32)) := D150 (Or.inr (hw _ (List.mem_of_getElem? (i := 22) rfl))) (ty := .byte) (by decide)
    refine own_dup X150 hx (hb hby at_146) rfl ?_
    refine own_aload X150 hx (hb hby at_147) rfl rfl ?_
    have f151 := (Sta.ext E150 (Sta.wr W149 (Sta.wr W148 (Sta.ext E147 Sc))))
    have f152 := (Exa.ext E150 (Exa.wr W149 (Exa.wr W148 Ex147)))
    have f153 := (V149.ext E150)
    have Zs154 : n0 ≤ h150.size := (Nat.le_trans (Nat.le_trans (Nat.le_trans (Nat.le_trans Z0 E147.1) (Keep.of_wr W148).1) (Keep.of_wr W149).1) E150.1)
    refine own_cSpec (b := b150) (W := 1) (rest := [(.ref b150)]) X150 hx hZ [(.ref b147)] rfl hown (hw _ (List.mem_of_getElem? (i := 9) rfl)) (hw _ (List.mem_of_getElem? (i := 10) rfl)) (by decide) (hw _ (List.mem_of_getElem? (i := 11) rfl)) (hw _ (List.mem_of_getElem? (i := 8) rfl)) e150 (rmI1_2 l Z a0 hw [] b150 b147 k147 cs c123 c124 h150 n0 Zs154 A150 F_value_b150 F_coder_b150 g_b150 f151 hcs f153 f152 hi123 hi124) (by rw [hml]; rfl) (lenOf pd_12 rfl) rfl (Nat.le_of_eq rfl) (hb hby at_149) (by decide) (by decide) (by decide) (by decide) fun v155 T155 L155 X155 hQ155 => ?_
    obtain ⟨rfl, N155q, K155, sb155, kb155, szb155, Eb155, Ea155, Fv155, Fc155, Vb155⟩ := hQ155
    have N155 := Fr.app N149 N155q
    show own_At p e below _ T155 m 152 _ [(.ref b150)]
    refine own_astore (l' := #[.val (.int p1), .val (.int p2), .val (.int p3), .val (.int p4), .val (.int p5), .val (.int (2 : Int32)), .val (.int c123), .val (.int c124), .val (.int c125), .val (.int c126), .val (.ref b147), .val (.ref b150), .unset]) X155 hx (hb hby at_152) rfl rfl ?_
    refine own_iconst X155 hx (0 : Int32) (hb hby at_154) rfl ?_
    refine own_istore (l' := #[.val (.int p1), .val (.int p2), .val (.int p3), .val (.int p4), .val (.int p5), .val (.int (2 : Int32)), .val (.int c123), .val (.int c124), .val (.int c125), .val (.int c126), .val (.ref b147), .val (.ref b150), .val (.int (0 : Int32))]) X155 hx (hb hby at_155) rfl ?_
    refine own_iload X155 hx (hb hby at_157) rfl ?_
    refine own_ifNo X155 hx (hb hby at_159) (tlt (by decide : (0 : Int32) < (2 : Int32))).2.2.2 ?_
    refine own_iload X155 hx (hb hby at_162) rfl ?_
    refine own_bipush X155 hx (46 : Int32) (hb hby at_164) rfl ?_
    by_cases hc156 : c123 = (46 : Int32)
    · refine own_icmpNo X155 hx (hb hby at_166) (teq hc156).2 ?_
      refine own_iconst X155 hx (1 : Int32) (hb hby at_169) rfl ?_
      refine own_istore (l' := #[.val (.int p1), .val (.int p2), .val (.int p3), .val (.int p4), .val (.int p5), .val (.int (2 : Int32)), .val (.int c123), .val (.int c124), .val (.int c125), .val (.int c126), .val (.ref b147), .val (.ref b150), .val (.int (1 : Int32))]) X155 hx (hb hby at_170) rfl ?_
      refine own_iload X155 hx (hb hby at_172) rfl ?_
      refine own_iconst X155 hx (1 : Int32) (hb hby at_174) rfl ?_
      refine own_icmpNo X155 hx (hb hby at_175) (tlt (by decide : (1 : Int32) < (2 : Int32))).2.2.2 ?_
      refine own_iload X155 hx (hb hby at_178) rfl ?_
      refine own_bipush X155 hx (46 : Int32) (hb hby at_180) rfl ?_
      by_cases hc157 : c124 = (46 : Int32)
      · refine own_icmpNo X155 hx (hb hby at_182) (teq hc157).2 ?_
        refine own_iconst X155 hx (1 : Int32) (hb hby at_185) rfl ?_
        refine own_istore (l' := #[.val (.int p1), .val (.int p2), .val (.int p3), .val (.int p4), .val (.int p5), .val (.int (2 : Int32)), .val (.int c123), .val (.int c124), .val (.int c125), .val (.int c126), .val (.ref b147), .val (.ref b150), .val (.int (1 : Int32))]) X155 hx (hb hby at_186) rfl ?_
        refine own_iload X155 hx (hb hby at_188) rfl ?_
        refine own_iconst X155 hx (2 : Int32) (hb hby at_190) rfl ?_
        refine own_icmpYes X155 hx 204 (hb hby at_191) (flt (by decide : ¬ ((2 : Int32) < (2 : Int32)))).2.2.2 (by decide) (by decide) ?_
        refine own_iload X155 hx (hb hby at_204) rfl ?_
        refine own_iconst X155 hx (3 : Int32) (hb hby at_206) rfl ?_
        refine own_icmpYes X155 hx 220 (hb hby at_207) (flt (by decide : ¬ ((3 : Int32) < (2 : Int32)))).2.2.2 (by decide) (by decide) ?_
        refine own_aload X155 hx (hb hby at_220) rfl rfl ?_
        have hV : Arv Z T155.heap sb155 kb155 .byte (2 : Int32) [(.int (46 : Int32)), (.int (c124.toInt8.toInt32))] (.int (0 : Int32)) := by have q := Vb155; rw [show (c123.toInt8.toInt32) = (46 : Int32) from by rw [hc156]; decide] at q; exact q
        have hIC := rmIC_2_0 l Z a0 hw [] sb155 kb155 c123 c124 T155.heap n0 (Nat.le_trans Zs154 K155.1) hV 
        refine own_cStat (W := 0) (rest := []) X155 hx hZ [(.ref b150)] hown (hw _ (List.mem_of_getElem? (i := 27) rfl)) (hw _ (List.mem_of_getElem? (i := 28) rfl)) (by decide) (hw _ (List.mem_of_getElem? (i := 30) rfl)) (hw _ (List.mem_of_getElem? (i := 29) rfl)) rfl (rmSL_2_0 l Z a0 hw [] b150 sb155 cs (0 : Int32) T155.heap n0 (Nat.le_trans Zs154 K155.1) (own_staKeep f151 K155 (allS (own_exaStat A150) all0)) hcs Ea155 Fv155 Fc155 (own_alnV Vb155) hIC (by decide)) (by rw [hml]; rfl) (lenOf pd_13 rfl) rfl (Nat.le_of_eq rfl) (hb hby at_222) (by decide) (by decide) (by decide) (by decide) fun v158 T158 L158 X158 hQ158 => ?_
        obtain ⟨rfl, N158q, e158⟩ := hQ158
        have N158 := Fr.app N155 N158q
        show own_At p e below _ T158 m 225 _ [(.int (0 : Int32))]
        refine own_iload X158 hx (hb hby at_225) rfl ?_
        refine own_ifYes X158 hx 234 (hb hby at_227) (feq (by decide : ¬ ((1 : Int32) = (0 : Int32)))).2 (by decide) (by decide) ?_
        refine own_iconst X158 hx (0 : Int32) (hb hby at_234) rfl ?_
        refine own_icmpNo X158 hx (hb hby at_235) (teq (by decide : (0 : Int32) = (0 : Int32))).2 ?_
        refine own_iconst X158 hx (1 : Int32) (hb hby at_238) rfl ?_
        refine own_goto X158 hx 243 (hb hby at_239) (by decide) (by decide) ?_
        refine own_retN X158 hx hlk hret (by simp) (by decide) (hb hby at_243) (own_kL hS0 (by rw [e158]; exact (Nat.le_trans (Nat.le_trans (Nat.le_trans (Nat.le_trans (Nat.le_trans (Nat.le_refl _) E147.1) (Keep.of_wr W148).1) (Keep.of_wr W149).1) E150.1) K155.1)) (by decide) (by decide) ?_)
        try rw [e158]
        exact ⟨rfl, N158⟩
      · refine own_icmpYes X155 hx 188 (hb hby at_182) (feq hc157).2 (by decide) (by decide) ?_
        refine own_iload X155 hx (hb hby at_188) rfl ?_
        refine own_iconst X155 hx (2 : Int32) (hb hby at_190) rfl ?_
        refine own_icmpYes X155 hx 204 (hb hby at_191) (flt (by decide : ¬ ((2 : Int32) < (2 : Int32)))).2.2.2 (by decide) (by decide) ?_
        refine own_iload X155 hx (hb hby at_204) rfl ?_
        refine own_iconst X155 hx (3 : Int32) (hb hby at_206) rfl ?_
        refine own_icmpYes X155 hx 220 (hb hby at_207) (flt (by decide : ¬ ((3 : Int32) < (2 : Int32)))).2.2.2 (by decide) (by decide) ?_
        refine own_aload X155 hx (hb hby at_220) rfl rfl ?_
        have hV : Arv Z T155.heap sb155 kb155 .byte (2 : Int32) [(.int (46 : Int32)), (.int (c124.toInt8.toInt32))] (.int (0 : Int32)) := by have q := Vb155; rw [show (c123.toInt8.toInt32) = (46 : Int32) from by rw [hc156]; decide] at q; exact q
        have hIC := rmIC_2_0 l Z a0 hw [] sb155 kb155 c123 c124 T155.heap n0 (Nat.le_trans Zs154 K155.1) hV 
        refine own_cStat (W := 0) (rest := []) X155 hx hZ [(.ref b150)] hown (hw _ (List.mem_of_getElem? (i := 27) rfl)) (hw _ (List.mem_of_getElem? (i := 28) rfl)) (by decide) (hw _ (List.mem_of_getElem? (i := 30) rfl)) (hw _ (List.mem_of_getElem? (i := 29) rfl)) rfl (rmSL_2_0 l Z a0 hw [] b150 sb155 cs (0 : Int32) T155.heap n0 (Nat.le_trans Zs154 K155.1) (own_staKeep f151 K155 (allS (own_exaStat A150) all0)) hcs Ea155 Fv155 Fc155 (own_alnV Vb155) hIC (by decide)) (by rw [hml]; rfl) (lenOf pd_13 rfl) rfl (Nat.le_of_eq rfl) (hb hby at_222) (by decide) (by decide) (by decide) (by decide) fun v159 T159 L159 X159 hQ159 => ?_
        obtain ⟨rfl, N159q, e159⟩ := hQ159
        have N159 := Fr.app N155 N159q
        show own_At p e below _ T159 m 225 _ [(.int (0 : Int32))]
        refine own_iload X159 hx (hb hby at_225) rfl ?_
        refine own_ifYes X159 hx 234 (hb hby at_227) (feq (by decide : ¬ ((1 : Int32) = (0 : Int32)))).2 (by decide) (by decide) ?_
        refine own_iconst X159 hx (0 : Int32) (hb hby at_234) rfl ?_
        refine own_icmpNo X159 hx (hb hby at_235) (teq (by decide : (0 : Int32) = (0 : Int32))).2 ?_
        refine own_iconst X159 hx (1 : Int32) (hb hby at_238) rfl ?_
        refine own_goto X159 hx 243 (hb hby at_239) (by decide) (by decide) ?_
        refine own_retN X159 hx hlk hret (by simp) (by decide) (hb hby at_243) (own_kL hS0 (by rw [e159]; exact (Nat.le_trans (Nat.le_trans (Nat.le_trans (Nat.le_trans (Nat.le_trans (Nat.le_refl _) E147.1) (Keep.of_wr W148).1) (Keep.of_wr W149).1) E150.1) K155.1)) (by decide) (by decide) ?_)
        try rw [e159]
        exact ⟨rfl, N159⟩
    · refine own_icmpYes X155 hx 172 (hb hby at_166) (feq hc156).2 (by decide) (by decide) ?_
      refine own_iload X155 hx (hb hby at_172) rfl ?_
      refine own_iconst X155 hx (1 : Int32) (hb hby at_174) rfl ?_
      refine own_icmpNo X155 hx (hb hby at_175) (tlt (by decide : (1 : Int32) < (2 : Int32))).2.2.2 ?_
      refine own_iload X155 hx (hb hby at_178) rfl ?_
      refine own_bipush X155 hx (46 : Int32) (hb hby at_180) rfl ?_
      by_cases hc160 : c124 = (46 : Int32)
      · refine own_icmpNo X155 hx (hb hby at_182) (teq hc160).2 ?_
        refine own_iconst X155 hx (1 : Int32) (hb hby at_185) rfl ?_
        refine own_istore (l' := #[.val (.int p1), .val (.int p2), .val (.int p3), .val (.int p4), .val (.int p5), .val (.int (2 : Int32)), .val (.int c123), .val (.int c124), .val (.int c125), .val (.int c126), .val (.ref b147), .val (.ref b150), .val (.int (1 : Int32))]) X155 hx (hb hby at_186) rfl ?_
        refine own_iload X155 hx (hb hby at_188) rfl ?_
        refine own_iconst X155 hx (2 : Int32) (hb hby at_190) rfl ?_
        refine own_icmpYes X155 hx 204 (hb hby at_191) (flt (by decide : ¬ ((2 : Int32) < (2 : Int32)))).2.2.2 (by decide) (by decide) ?_
        refine own_iload X155 hx (hb hby at_204) rfl ?_
        refine own_iconst X155 hx (3 : Int32) (hb hby at_206) rfl ?_
        refine own_icmpYes X155 hx 220 (hb hby at_207) (flt (by decide : ¬ ((3 : Int32) < (2 : Int32)))).2.2.2 (by decide) (by decide) ?_
        refine own_aload X155 hx (hb hby at_220) rfl rfl ?_
        have hV : Arv Z T155.heap sb155 kb155 .byte (2 : Int32) [(.int (c123.toInt8.toInt32)), (.int (46 : Int32))] (.int (0 : Int32)) := by have q := Vb155; rw [show (c124.toInt8.toInt32) = (46 : Int32) from by rw [hc160]; decide] at q; exact q
        have hIC := rmIC_2_1 l Z a0 hw [] sb155 kb155 c123 c124 T155.heap n0 (Nat.le_trans Zs154 K155.1) hV (own_dot lo123 hi123 hc156)
        refine own_cStat (W := 0) (rest := []) X155 hx hZ [(.ref b150)] hown (hw _ (List.mem_of_getElem? (i := 27) rfl)) (hw _ (List.mem_of_getElem? (i := 28) rfl)) (by decide) (hw _ (List.mem_of_getElem? (i := 30) rfl)) (hw _ (List.mem_of_getElem? (i := 29) rfl)) rfl (rmSL_2_0 l Z a0 hw [] b150 sb155 cs (1 : Int32) T155.heap n0 (Nat.le_trans Zs154 K155.1) (own_staKeep f151 K155 (allS (own_exaStat A150) all0)) hcs Ea155 Fv155 Fc155 (own_alnV Vb155) hIC (by decide)) (by rw [hml]; rfl) (lenOf pd_13 rfl) rfl (Nat.le_of_eq rfl) (hb hby at_222) (by decide) (by decide) (by decide) (by decide) fun v161 T161 L161 X161 hQ161 => ?_
        obtain ⟨rfl, N161q, e161⟩ := hQ161
        have N161 := Fr.app N155 N161q
        show own_At p e below _ T161 m 225 _ [(.int (0 : Int32))]
        refine own_iload X161 hx (hb hby at_225) rfl ?_
        refine own_ifYes X161 hx 234 (hb hby at_227) (feq (by decide : ¬ ((1 : Int32) = (0 : Int32)))).2 (by decide) (by decide) ?_
        refine own_iconst X161 hx (0 : Int32) (hb hby at_234) rfl ?_
        refine own_icmpNo X161 hx (hb hby at_235) (teq (by decide : (0 : Int32) = (0 : Int32))).2 ?_
        refine own_iconst X161 hx (1 : Int32) (hb hby at_238) rfl ?_
        refine own_goto X161 hx 243 (hb hby at_239) (by decide) (by decide) ?_
        refine own_retN X161 hx hlk hret (by simp) (by decide) (hb hby at_243) (own_kL hS0 (by rw [e161]; exact (Nat.le_trans (Nat.le_trans (Nat.le_trans (Nat.le_trans (Nat.le_trans (Nat.le_refl _) E147.1) (Keep.of_wr W148).1) (Keep.of_wr W149).1) E150.1) K155.1)) (by decide) (by decide) ?_)
        try rw [e161]
        exact ⟨rfl, N161⟩
      · refine own_icmpYes X155 hx 188 (hb hby at_182) (feq hc160).2 (by decide) (by decide) ?_
        refine own_iload X155 hx (hb hby at_188) rfl ?_
        refine own_iconst X155 hx (2 : Int32) (hb hby at_190) rfl ?_
        refine own_icmpYes X155 hx 204 (hb hby at_191) (flt (by decide : ¬ ((2 : Int32) < (2 : Int32)))).2.2.2 (by decide) (by decide) ?_
        refine own_iload X155 hx (hb hby at_204) rfl ?_
        refine own_iconst X155 hx (3 : Int32) (hb hby at_206) rfl ?_
        refine own_icmpYes X155 hx 220 (hb hby at_207) (flt (by decide : ¬ ((3 : Int32) < (2 : Int32)))).2.2.2 (by decide) (by decide) ?_
        refine own_aload X155 hx (hb hby at_220) rfl rfl ?_
        have hIC := rmIC_2_n l Z a0 hw [] sb155 kb155 c123 c124 T155.heap n0 (Nat.le_trans Zs154 K155.1) Vb155 (own_dot lo123 hi123 hc156) (own_dot lo124 hi124 hc160)
        refine own_cStat (W := 0) (rest := []) X155 hx hZ [(.ref b150)] hown (hw _ (List.mem_of_getElem? (i := 27) rfl)) (hw _ (List.mem_of_getElem? (i := 28) rfl)) (by decide) (hw _ (List.mem_of_getElem? (i := 30) rfl)) (hw _ (List.mem_of_getElem? (i := 29) rfl)) rfl (rmSL_2_1 l Z a0 hw [] b150 sb155 cs (-1 : Int32) T155.heap n0 (Nat.le_trans Zs154 K155.1) (own_staKeep f151 K155 (allS (own_exaStat A150) all0)) hcs Ea155 Fv155 Fc155 (own_alnV Vb155) hIC (by decide)) (by rw [hml]; rfl) (lenOf pd_13 rfl) rfl (Nat.le_of_eq rfl) (hb hby at_222) (by decide) (by decide) (by decide) (by decide) fun v162 T162 L162 X162 hQ162 => ?_
        obtain ⟨rfl, N162q, e162⟩ := hQ162
        have N162 := Fr.app N155 N162q
        show own_At p e below _ T162 m 225 _ [(.int (1 : Int32))]
        refine own_iload X162 hx (hb hby at_225) rfl ?_
        refine own_ifNo X162 hx (hb hby at_227) (teq (by decide : (0 : Int32) = (0 : Int32))).2 ?_
        refine own_iconst X162 hx (1 : Int32) (hb hby at_230) rfl ?_
        refine own_goto X162 hx 235 (hb hby at_231) (by decide) (by decide) ?_
        refine own_icmpNo X162 hx (hb hby at_235) (teq (by decide : (1 : Int32) = (1 : Int32))).2 ?_
        refine own_iconst X162 hx (1 : Int32) (hb hby at_238) rfl ?_
        refine own_goto X162 hx 243 (hb hby at_239) (by decide) (by decide) ?_
        refine own_retN X162 hx hlk hret (by simp) (by decide) (hb hby at_243) (own_kL hS0 (by rw [e162]; exact (Nat.le_trans (Nat.le_trans (Nat.le_trans (Nat.le_trans (Nat.le_trans (Nat.le_refl _) E147.1) (Keep.of_wr W148).1) (Keep.of_wr W149).1) E150.1) K155.1)) (by decide) (by decide) ?_)
        try rw [e162]
        exact ⟨rfl, N162⟩
  · rw [hr127]
    refine own_iload X126 hx (hb hby at_33) rfl ?_
    refine own_ifYes X126 hx 46 (hb hby at_35) (feq (by decide : ¬ ((3 : Int32) = (0 : Int32)))).2 (by decide) (by decide) ?_
    refine own_iload X126 hx (hb hby at_46) rfl ?_
    refine own_iconst X126 hx (1 : Int32) (hb hby at_48) rfl ?_
    refine own_icmpYes X126 hx 65 (hb hby at_49) (feq (by decide : ¬ ((3 : Int32) = (1 : Int32)))).2 (by decide) (by decide) ?_
    refine own_iload X126 hx (hb hby at_65) rfl ?_
    refine own_iconst X126 hx (2 : Int32) (hb hby at_67) rfl ?_
    refine own_icmpYes X126 hx 89 (hb hby at_68) (feq (by decide : ¬ ((3 : Int32) = (2 : Int32)))).2 (by decide) (by decide) ?_
    refine own_iload X126 hx (hb hby at_89) rfl ?_
    refine own_iconst X126 hx (3 : Int32) (hb hby at_91) rfl ?_
    refine own_icmpNo X126 hx (hb hby at_92) (teq (by decide : (3 : Int32) = (3 : Int32))).2 ?_
    refine own_iconst X126 hx (3 : Int32) (hb hby at_95) rfl ?_
    refine own_newP (n := (3 : Int32)) (cap := 3) (ad := "[C") X126 hx hZ (hw _ (List.mem_of_getElem? (i := 5) rfl)) e126 (hb hby at_96) (by decide) (by decide) (by decide) (by decide) (by decide) (by decide) fun T163 h163 k163 b163 g163 X163 e163 E163 A163 Ex163 => ?_
    have g_b163 : n0 ≤ b163 := Nat.le_trans Z0 (Nat.le_of_eq g163.symm)
    have szo_b163 : h0.size ≤ b163 := Nat.le_trans (Nat.le_refl h0.size) (Nat.le_of_eq g163.symm)
    have V163 : Arv Z h163 b163 k163 .char (3 : Int32) [(.int (0 : Int32)), (.int (0 : Int32)), (.int (0 : Int32))] (.int (0 : Int32)) := (Arv.new A163 (by decide)).pad (pad_rep [] (.int (0 : Int32)) 3)
    refine own_dup X163 hx (hb hby at_98) rfl ?_
    refine own_iconst X163 hx (0 : Int32) (hb hby at_99) rfl ?_
    refine own_iload X163 hx (hb hby at_100) rfl ?_
    refine own_stC (vs' := [(.int c123), (.int (0 : Int32)), (.int (0 : Int32))]) (w := (.int c123)) X163 hx hZ e163 V163 ⟨by decide, by decide⟩ 0 rfl (Nat.le_of_ble_eq_true rfl) (congrArg Value.int (own_narc lo123 hi123)) rfl (hb hby at_102) fun T164 h164 X164 e164 W164 V164 => ?_
    have N164 := Fr.snoc X164 N126 g_b163
    refine own_dup X164 hx (hb hby at_103) rfl ?_
    refine own_iconst X164 hx (1 : Int32) (hb hby at_104) rfl ?_
    refine own_iload X164 hx (hb hby at_105) rfl ?_
    refine own_stC (vs' := [(.int c123), (.int c124), (.int (0 : Int32))]) (w := (.int c124)) X164 hx hZ e164 V164 ⟨by decide, by decide⟩ 1 rfl (Nat.le_of_ble_eq_true rfl) (congrArg Value.int (own_narc lo124 hi124)) rfl (hb hby at_107) fun T165 h165 X165 e165 W165 V165 => ?_
    have N165 := Fr.snoc X165 N164 g_b163
    refine own_dup X165 hx (hb hby at_108) rfl ?_
    refine own_iconst X165 hx (2 : Int32) (hb hby at_109) rfl ?_
    refine own_iload X165 hx (hb hby at_110) rfl ?_
    refine own_stC (vs' := [(.int c123), (.int c124), (.int c125)]) (w := (.int c125)) X165 hx hZ e165 V165 ⟨by decide, by decide⟩ 2 rfl (Nat.le_of_ble_eq_true rfl) (congrArg Value.int (own_narc lo125 hi125)) rfl (hb hby at_112) fun T166 h166 X166 e166 W166 V166 => ?_
    have N166 := Fr.snoc X166 N165 g_b163
    refine own_astore (l' := #[.val (.int p1), .val (.int p2), .val (.int p3), .val (.int p4), .val (.int p5), .val (.int (3 : Int32)), .val (.int c123), .val (.int c124), .val (.int c125), .val (.int c126), .val (.ref b163), .unset, .unset]) X166 hx (hb hby at_113) rfl rfl ?_
    refine own_goto X166 hx 143 (hb hby at_115) (by decide) (by decide) ?_
    refine own_newO X166 hx hZ hown (hw _ (List.mem_of_getElem? (i := 6) rfl)) (hw _ (List.mem_of_getElem? (i := 7) rfl)) (hw _ (List.mem_of_getElem? (i := 8) rfl)) e166 (hb hby at_143) (by decide) (by decide) fun T167 h167 b167 g167 X167 e167 E167 A167 D167 => ?_
    have g_b167 : n0 ≤ b167 := Nat.le_trans (Nat.le_trans (Nat.le_trans (Nat.le_trans (Nat.le_trans Z0 E163.1) (Keep.of_wr W164).1) (Keep.of_wr W165).1) (Keep.of_wr W166).1) (Nat.le_of_eq g167.symm)
    have szo_b167 : h0.size ≤ b167 := Nat.le_trans (Nat.le_trans (Nat.le_trans (Nat.le_trans (Nat.le_trans (Nat.le_refl h0.size) E163.1) (Keep.of_wr W164).1) (Keep.of_wr W165).1) (Keep.of_wr W166).1) (Nat.le_of_eq g167.symm)
    have F_value_b167 : Fld Z h167 b167 "java/lang/String" "value" "[B" .null := D167 (Or.inr (hw _ (List.mem_of_getElem? (i := 21) rfl))) (ty := (.array .byte)) (by decide)
    have F_coder_b167 : Fld Z h167 b167 "java/lang/String" "coder" "B" (.int (0 : Int32)) := D167 (Or.inr (hw _ (List.mem_of_getElem? (i := 22) rfl))) (ty := .byte) (by decide)
    refine own_dup X167 hx (hb hby at_146) rfl ?_
    refine own_aload X167 hx (hb hby at_147) rfl rfl ?_
    have f168 := (Sta.ext E167 (Sta.wr W166 (Sta.wr W165 (Sta.wr W164 (Sta.ext E163 Sc)))))
    have f169 := (Exa.ext E167 (Exa.wr W166 (Exa.wr W165 (Exa.wr W164 Ex163))))
    have f170 := (V166.ext E167)
    have Zs171 : n0 ≤ h167.size := (Nat.le_trans (Nat.le_trans (Nat.le_trans (Nat.le_trans (Nat.le_trans Z0 E163.1) (Keep.of_wr W164).1) (Keep.of_wr W165).1) (Keep.of_wr W166).1) E167.1)
    refine own_cSpec (b := b167) (W := 1) (rest := [(.ref b167)]) X167 hx hZ [(.ref b163)] rfl hown (hw _ (List.mem_of_getElem? (i := 9) rfl)) (hw _ (List.mem_of_getElem? (i := 10) rfl)) (by decide) (hw _ (List.mem_of_getElem? (i := 11) rfl)) (hw _ (List.mem_of_getElem? (i := 8) rfl)) e167 (rmI1_3 l Z a0 hw [] b167 b163 k163 cs c123 c124 c125 h167 n0 Zs171 A167 F_value_b167 F_coder_b167 g_b167 f168 hcs f170 f169 hi123 hi124 hi125) (by rw [hml]; rfl) (lenOf pd_12 rfl) rfl (Nat.le_of_eq rfl) (hb hby at_149) (by decide) (by decide) (by decide) (by decide) fun v172 T172 L172 X172 hQ172 => ?_
    obtain ⟨rfl, N172q, K172, sb172, kb172, szb172, Eb172, Ea172, Fv172, Fc172, Vb172⟩ := hQ172
    have N172 := Fr.app N166 N172q
    show own_At p e below _ T172 m 152 _ [(.ref b167)]
    refine own_astore (l' := #[.val (.int p1), .val (.int p2), .val (.int p3), .val (.int p4), .val (.int p5), .val (.int (3 : Int32)), .val (.int c123), .val (.int c124), .val (.int c125), .val (.int c126), .val (.ref b163), .val (.ref b167), .unset]) X172 hx (hb hby at_152) rfl rfl ?_
    refine own_iconst X172 hx (0 : Int32) (hb hby at_154) rfl ?_
    refine own_istore (l' := #[.val (.int p1), .val (.int p2), .val (.int p3), .val (.int p4), .val (.int p5), .val (.int (3 : Int32)), .val (.int c123), .val (.int c124), .val (.int c125), .val (.int c126), .val (.ref b163), .val (.ref b167), .val (.int (0 : Int32))]) X172 hx (hb hby at_155) rfl ?_
    refine own_iload X172 hx (hb hby at_157) rfl ?_
    refine own_ifNo X172 hx (hb hby at_159) (tlt (by decide : (0 : Int32) < (3 : Int32))).2.2.2 ?_
    refine own_iload X172 hx (hb hby at_162) rfl ?_
    refine own_bipush X172 hx (46 : Int32) (hb hby at_164) rfl ?_
    by_cases hc173 : c123 = (46 : Int32)
    · refine own_icmpNo X172 hx (hb hby at_166) (teq hc173).2 ?_
      refine own_iconst X172 hx (1 : Int32) (hb hby at_169) rfl ?_
      refine own_istore (l' := #[.val (.int p1), .val (.int p2), .val (.int p3), .val (.int p4), .val (.int p5), .val (.int (3 : Int32)), .val (.int c123), .val (.int c124), .val (.int c125), .val (.int c126), .val (.ref b163), .val (.ref b167), .val (.int (1 : Int32))]) X172 hx (hb hby at_170) rfl ?_
      refine own_iload X172 hx (hb hby at_172) rfl ?_
      refine own_iconst X172 hx (1 : Int32) (hb hby at_174) rfl ?_
      refine own_icmpNo X172 hx (hb hby at_175) (tlt (by decide : (1 : Int32) < (3 : Int32))).2.2.2 ?_
      refine own_iload X172 hx (hb hby at_178) rfl ?_
      refine own_bipush X172 hx (46 : Int32) (hb hby at_180) rfl ?_
      by_cases hc174 : c124 = (46 : Int32)
      · refine own_icmpNo X172 hx (hb hby at_182) (teq hc174).2 ?_
        refine own_iconst X172 hx (1 : Int32) (hb hby at_185) rfl ?_
        refine own_istore (l' := #[.val (.int p1), .val (.int p2), .val (.int p3), .val (.int p4), .val (.int p5), .val (.int (3 : Int32)), .val (.int c123), .val (.int c124), .val (.int c125), .val (.int c126), .val (.ref b163), .val (.ref b167), .val (.int (1 : Int32))]) X172 hx (hb hby at_186) rfl ?_
        refine own_iload X172 hx (hb hby at_188) rfl ?_
        refine own_iconst X172 hx (2 : Int32) (hb hby at_190) rfl ?_
        refine own_icmpNo X172 hx (hb hby at_191) (tlt (by decide : (2 : Int32) < (3 : Int32))).2.2.2 ?_
        refine own_iload X172 hx (hb hby at_194) rfl ?_
        refine own_bipush X172 hx (46 : Int32) (hb hby at_196) rfl ?_
        by_cases hc175 : c125 = (46 : Int32)
        · refine own_icmpNo X172 hx (hb hby at_198) (teq hc175).2 ?_
          refine own_iconst X172 hx (1 : Int32) (hb hby at_201) rfl ?_
          refine own_istore (l' := #[.val (.int p1), .val (.int p2), .val (.int p3), .val (.int p4), .val (.int p5), .val (.int (3 : Int32)), .val (.int c123), .val (.int c124), .val (.int c125), .val (.int c126), .val (.ref b163), .val (.ref b167), .val (.int (1 : Int32))]) X172 hx (hb hby at_202) rfl ?_
          refine own_iload X172 hx (hb hby at_204) rfl ?_
          refine own_iconst X172 hx (3 : Int32) (hb hby at_206) rfl ?_
          refine own_icmpYes X172 hx 220 (hb hby at_207) (flt (by decide : ¬ ((3 : Int32) < (3 : Int32)))).2.2.2 (by decide) (by decide) ?_
          refine own_aload X172 hx (hb hby at_220) rfl rfl ?_
          have hV : Arv Z T172.heap sb172 kb172 .byte (3 : Int32) [(.int (46 : Int32)), (.int (c124.toInt8.toInt32)), (.int (c125.toInt8.toInt32))] (.int (0 : Int32)) := by have q := Vb172; rw [show (c123.toInt8.toInt32) = (46 : Int32) from by rw [hc173]; decide] at q; exact q
          have hIC := rmIC_3_0 l Z a0 hw [] sb172 kb172 c123 c124 c125 T172.heap n0 (Nat.le_trans Zs171 K172.1) hV 
          refine own_cStat (W := 0) (rest := []) X172 hx hZ [(.ref b167)] hown (hw _ (List.mem_of_getElem? (i := 27) rfl)) (hw _ (List.mem_of_getElem? (i := 28) rfl)) (by decide) (hw _ (List.mem_of_getElem? (i := 30) rfl)) (hw _ (List.mem_of_getElem? (i := 29) rfl)) rfl (rmSL_3_0 l Z a0 hw [] b167 sb172 cs (0 : Int32) T172.heap n0 (Nat.le_trans Zs171 K172.1) (own_staKeep f168 K172 (allS (own_exaStat A167) all0)) hcs Ea172 Fv172 Fc172 (own_alnV Vb172) hIC (by decide)) (by rw [hml]; rfl) (lenOf pd_13 rfl) rfl (Nat.le_of_eq rfl) (hb hby at_222) (by decide) (by decide) (by decide) (by decide) fun v176 T176 L176 X176 hQ176 => ?_
          obtain ⟨rfl, N176q, e176⟩ := hQ176
          have N176 := Fr.app N172 N176q
          show own_At p e below _ T176 m 225 _ [(.int (0 : Int32))]
          refine own_iload X176 hx (hb hby at_225) rfl ?_
          refine own_ifYes X176 hx 234 (hb hby at_227) (feq (by decide : ¬ ((1 : Int32) = (0 : Int32)))).2 (by decide) (by decide) ?_
          refine own_iconst X176 hx (0 : Int32) (hb hby at_234) rfl ?_
          refine own_icmpNo X176 hx (hb hby at_235) (teq (by decide : (0 : Int32) = (0 : Int32))).2 ?_
          refine own_iconst X176 hx (1 : Int32) (hb hby at_238) rfl ?_
          refine own_goto X176 hx 243 (hb hby at_239) (by decide) (by decide) ?_
          refine own_retN X176 hx hlk hret (by simp) (by decide) (hb hby at_243) (own_kL hS0 (by rw [e176]; exact (Nat.le_trans (Nat.le_trans (Nat.le_trans (Nat.le_trans (Nat.le_trans (Nat.le_trans (Nat.le_refl _) E163.1) (Keep.of_wr W164).1) (Keep.of_wr W165).1) (Keep.of_wr W166).1) E167.1) K172.1)) (by decide) (by decide) ?_)
          try rw [e176]
          exact ⟨rfl, N176⟩
        · refine own_icmpYes X172 hx 204 (hb hby at_198) (feq hc175).2 (by decide) (by decide) ?_
          refine own_iload X172 hx (hb hby at_204) rfl ?_
          refine own_iconst X172 hx (3 : Int32) (hb hby at_206) rfl ?_
          refine own_icmpYes X172 hx 220 (hb hby at_207) (flt (by decide : ¬ ((3 : Int32) < (3 : Int32)))).2.2.2 (by decide) (by decide) ?_
          refine own_aload X172 hx (hb hby at_220) rfl rfl ?_
          have hV : Arv Z T172.heap sb172 kb172 .byte (3 : Int32) [(.int (46 : Int32)), (.int (c124.toInt8.toInt32)), (.int (c125.toInt8.toInt32))] (.int (0 : Int32)) := by have q := Vb172; rw [show (c123.toInt8.toInt32) = (46 : Int32) from by rw [hc173]; decide] at q; exact q
          have hIC := rmIC_3_0 l Z a0 hw [] sb172 kb172 c123 c124 c125 T172.heap n0 (Nat.le_trans Zs171 K172.1) hV 
          refine own_cStat (W := 0) (rest := []) X172 hx hZ [(.ref b167)] hown (hw _ (List.mem_of_getElem? (i := 27) rfl)) (hw _ (List.mem_of_getElem? (i := 28) rfl)) (by decide) (hw _ (List.mem_of_getElem? (i := 30) rfl)) (hw _ (List.mem_of_getElem? (i := 29) rfl)) rfl (rmSL_3_0 l Z a0 hw [] b167 sb172 cs (0 : Int32) T172.heap n0 (Nat.le_trans Zs171 K172.1) (own_staKeep f168 K172 (allS (own_exaStat A167) all0)) hcs Ea172 Fv172 Fc172 (own_alnV Vb172) hIC (by decide)) (by rw [hml]; rfl) (lenOf pd_13 rfl) rfl (Nat.le_of_eq rfl) (hb hby at_222) (by decide) (by decide) (by decide) (by decide) fun v177 T177 L177 X177 hQ177 => ?_
          obtain ⟨rfl, N177q, e177⟩ := hQ177
          have N177 := Fr.app N172 N177q
          show own_At p e below _ T177 m 225 _ [(.int (0 : Int32))]
          refine own_iload X177 hx (hb hby at_225) rfl ?_
          refine own_ifYes X177 hx 234 (hb hby at_227) (feq (by decide : ¬ ((1 : Int32) = (0 : Int32)))).2 (by decide) (by decide) ?_
          refine own_iconst X177 hx (0 : Int32) (hb hby at_234) rfl ?_
          refine own_icmpNo X177 hx (hb hby at_235) (teq (by decide : (0 : Int32) = (0 : Int32))).2 ?_
          refine own_iconst X177 hx (1 : Int32) (hb hby at_238) rfl ?_
          refine own_goto X177 hx 243 (hb hby at_239) (by decide) (by decide) ?_
          refine own_retN X177 hx hlk hret (by simp) (by decide) (hb hby at_243) (own_kL hS0 (by rw [e177]; exact (Nat.le_trans (Nat.le_trans (Nat.le_trans (Nat.le_trans (Nat.le_trans (Nat.le_trans (Nat.le_refl _) E163.1) (Keep.of_wr W164).1) (Keep.of_wr W165).1) (Keep.of_wr W166).1) E167.1) K172.1)) (by decide) (by decide) ?_)
          try rw [e177]
          exact ⟨rfl, N177⟩
      · refine own_icmpYes X172 hx 188 (hb hby at_182) (feq hc174).2 (by decide) (by decide) ?_
        refine own_iload X172 hx (hb hby at_188) rfl ?_
        refine own_iconst X172 hx (2 : Int32) (hb hby at_190) rfl ?_
        refine own_icmpNo X172 hx (hb hby at_191) (tlt (by decide : (2 : Int32) < (3 : Int32))).2.2.2 ?_
        refine own_iload X172 hx (hb hby at_194) rfl ?_
        refine own_bipush X172 hx (46 : Int32) (hb hby at_196) rfl ?_
        by_cases hc178 : c125 = (46 : Int32)
        · refine own_icmpNo X172 hx (hb hby at_198) (teq hc178).2 ?_
          refine own_iconst X172 hx (1 : Int32) (hb hby at_201) rfl ?_
          refine own_istore (l' := #[.val (.int p1), .val (.int p2), .val (.int p3), .val (.int p4), .val (.int p5), .val (.int (3 : Int32)), .val (.int c123), .val (.int c124), .val (.int c125), .val (.int c126), .val (.ref b163), .val (.ref b167), .val (.int (1 : Int32))]) X172 hx (hb hby at_202) rfl ?_
          refine own_iload X172 hx (hb hby at_204) rfl ?_
          refine own_iconst X172 hx (3 : Int32) (hb hby at_206) rfl ?_
          refine own_icmpYes X172 hx 220 (hb hby at_207) (flt (by decide : ¬ ((3 : Int32) < (3 : Int32)))).2.2.2 (by decide) (by decide) ?_
          refine own_aload X172 hx (hb hby at_220) rfl rfl ?_
          have hV : Arv Z T172.heap sb172 kb172 .byte (3 : Int32) [(.int (46 : Int32)), (.int (c124.toInt8.toInt32)), (.int (c125.toInt8.toInt32))] (.int (0 : Int32)) := by have q := Vb172; rw [show (c123.toInt8.toInt32) = (46 : Int32) from by rw [hc173]; decide] at q; exact q
          have hIC := rmIC_3_0 l Z a0 hw [] sb172 kb172 c123 c124 c125 T172.heap n0 (Nat.le_trans Zs171 K172.1) hV 
          refine own_cStat (W := 0) (rest := []) X172 hx hZ [(.ref b167)] hown (hw _ (List.mem_of_getElem? (i := 27) rfl)) (hw _ (List.mem_of_getElem? (i := 28) rfl)) (by decide) (hw _ (List.mem_of_getElem? (i := 30) rfl)) (hw _ (List.mem_of_getElem? (i := 29) rfl)) rfl (rmSL_3_0 l Z a0 hw [] b167 sb172 cs (0 : Int32) T172.heap n0 (Nat.le_trans Zs171 K172.1) (own_staKeep f168 K172 (allS (own_exaStat A167) all0)) hcs Ea172 Fv172 Fc172 (own_alnV Vb172) hIC (by decide)) (by rw [hml]; rfl) (lenOf pd_13 rfl) rfl (Nat.le_of_eq rfl) (hb hby at_222) (by decide) (by decide) (by decide) (by decide) fun v179 T179 L179 X179 hQ179 => ?_
          obtain ⟨rfl, N179q, e179⟩ := hQ179
          have N179 := Fr.app N172 N179q
          show own_At p e below _ T179 m 225 _ [(.int (0 : Int32))]
          refine own_iload X179 hx (hb hby at_225) rfl ?_
          refine own_ifYes X179 hx 234 (hb hby at_227) (feq (by decide : ¬ ((1 : Int32) = (0 : Int32)))).2 (by decide) (by decide) ?_
          refine own_iconst X179 hx (0 : Int32) (hb hby at_234) rfl ?_
          refine own_icmpNo X179 hx (hb hby at_235) (teq (by decide : (0 : Int32) = (0 : Int32))).2 ?_
          refine own_iconst X179 hx (1 : Int32) (hb hby at_238) rfl ?_
          refine own_goto X179 hx 243 (hb hby at_239) (by decide) (by decide) ?_
          refine own_retN X179 hx hlk hret (by simp) (by decide) (hb hby at_243) (own_kL hS0 (by rw [e179]; exact (Nat.le_trans (Nat.le_trans (Nat.le_trans (Nat.le_trans (Nat.le_trans (Nat.le_trans (Nat.le_refl _) E163.1) (Keep.of_wr W164).1) (Keep.of_wr W165).1) (Keep.of_wr W166).1) E167.1) K172.1)) (by decide) (by decide) ?_)
          try rw [e179]
          exact ⟨rfl, N179⟩
        · refine own_icmpYes X172 hx 204 (hb hby at_198) (feq hc178).2 (by decide) (by decide) ?_
          refine own_iload X172 hx (hb hby at_204) rfl ?_
          refine own_iconst X172 hx (3 : Int32) (hb hby at_206) rfl ?_
          refine own_icmpYes X172 hx 220 (hb hby at_207) (flt (by decide : ¬ ((3 : Int32) < (3 : Int32)))).2.2.2 (by decide) (by decide) ?_
          refine own_aload X172 hx (hb hby at_220) rfl rfl ?_
          have hV : Arv Z T172.heap sb172 kb172 .byte (3 : Int32) [(.int (46 : Int32)), (.int (c124.toInt8.toInt32)), (.int (c125.toInt8.toInt32))] (.int (0 : Int32)) := by have q := Vb172; rw [show (c123.toInt8.toInt32) = (46 : Int32) from by rw [hc173]; decide] at q; exact q
          have hIC := rmIC_3_0 l Z a0 hw [] sb172 kb172 c123 c124 c125 T172.heap n0 (Nat.le_trans Zs171 K172.1) hV 
          refine own_cStat (W := 0) (rest := []) X172 hx hZ [(.ref b167)] hown (hw _ (List.mem_of_getElem? (i := 27) rfl)) (hw _ (List.mem_of_getElem? (i := 28) rfl)) (by decide) (hw _ (List.mem_of_getElem? (i := 30) rfl)) (hw _ (List.mem_of_getElem? (i := 29) rfl)) rfl (rmSL_3_0 l Z a0 hw [] b167 sb172 cs (0 : Int32) T172.heap n0 (Nat.le_trans Zs171 K172.1) (own_staKeep f168 K172 (allS (own_exaStat A167) all0)) hcs Ea172 Fv172 Fc172 (own_alnV Vb172) hIC (by decide)) (by rw [hml]; rfl) (lenOf pd_13 rfl) rfl (Nat.le_of_eq rfl) (hb hby at_222) (by decide) (by decide) (by decide) (by decide) fun v180 T180 L180 X180 hQ180 => ?_
          obtain ⟨rfl, N180q, e180⟩ := hQ180
          have N180 := Fr.app N172 N180q
          show own_At p e below _ T180 m 225 _ [(.int (0 : Int32))]
          refine own_iload X180 hx (hb hby at_225) rfl ?_
          refine own_ifYes X180 hx 234 (hb hby at_227) (feq (by decide : ¬ ((1 : Int32) = (0 : Int32)))).2 (by decide) (by decide) ?_
          refine own_iconst X180 hx (0 : Int32) (hb hby at_234) rfl ?_
          refine own_icmpNo X180 hx (hb hby at_235) (teq (by decide : (0 : Int32) = (0 : Int32))).2 ?_
          refine own_iconst X180 hx (1 : Int32) (hb hby at_238) rfl ?_
          refine own_goto X180 hx 243 (hb hby at_239) (by decide) (by decide) ?_
          refine own_retN X180 hx hlk hret (by simp) (by decide) (hb hby at_243) (own_kL hS0 (by rw [e180]; exact (Nat.le_trans (Nat.le_trans (Nat.le_trans (Nat.le_trans (Nat.le_trans (Nat.le_trans (Nat.le_refl _) E163.1) (Keep.of_wr W164).1) (Keep.of_wr W165).1) (Keep.of_wr W166).1) E167.1) K172.1)) (by decide) (by decide) ?_)
          try rw [e180]
          exact ⟨rfl, N180⟩
    · refine own_icmpYes X172 hx 172 (hb hby at_166) (feq hc173).2 (by decide) (by decide) ?_
      refine own_iload X172 hx (hb hby at_172) rfl ?_
      refine own_iconst X172 hx (1 : Int32) (hb hby at_174) rfl ?_
      refine own_icmpNo X172 hx (hb hby at_175) (tlt (by decide : (1 : Int32) < (3 : Int32))).2.2.2 ?_
      refine own_iload X172 hx (hb hby at_178) rfl ?_
      refine own_bipush X172 hx (46 : Int32) (hb hby at_180) rfl ?_
      by_cases hc181 : c124 = (46 : Int32)
      · refine own_icmpNo X172 hx (hb hby at_182) (teq hc181).2 ?_
        refine own_iconst X172 hx (1 : Int32) (hb hby at_185) rfl ?_
        refine own_istore (l' := #[.val (.int p1), .val (.int p2), .val (.int p3), .val (.int p4), .val (.int p5), .val (.int (3 : Int32)), .val (.int c123), .val (.int c124), .val (.int c125), .val (.int c126), .val (.ref b163), .val (.ref b167), .val (.int (1 : Int32))]) X172 hx (hb hby at_186) rfl ?_
        refine own_iload X172 hx (hb hby at_188) rfl ?_
        refine own_iconst X172 hx (2 : Int32) (hb hby at_190) rfl ?_
        refine own_icmpNo X172 hx (hb hby at_191) (tlt (by decide : (2 : Int32) < (3 : Int32))).2.2.2 ?_
        refine own_iload X172 hx (hb hby at_194) rfl ?_
        refine own_bipush X172 hx (46 : Int32) (hb hby at_196) rfl ?_
        by_cases hc182 : c125 = (46 : Int32)
        · refine own_icmpNo X172 hx (hb hby at_198) (teq hc182).2 ?_
          refine own_iconst X172 hx (1 : Int32) (hb hby at_201) rfl ?_
          refine own_istore (l' := #[.val (.int p1), .val (.int p2), .val (.int p3), .val (.int p4), .val (.int p5), .val (.int (3 : Int32)), .val (.int c123), .val (.int c124), .val (.int c125), .val (.int c126), .val (.ref b163), .val (.ref b167), .val (.int (1 : Int32))]) X172 hx (hb hby at_202) rfl ?_
          refine own_iload X172 hx (hb hby at_204) rfl ?_
          refine own_iconst X172 hx (3 : Int32) (hb hby at_206) rfl ?_
          refine own_icmpYes X172 hx 220 (hb hby at_207) (flt (by decide : ¬ ((3 : Int32) < (3 : Int32)))).2.2.2 (by decide) (by decide) ?_
          refine own_aload X172 hx (hb hby at_220) rfl rfl ?_
          have hV : Arv Z T172.heap sb172 kb172 .byte (3 : Int32) [(.int (c123.toInt8.toInt32)), (.int (46 : Int32)), (.int (c125.toInt8.toInt32))] (.int (0 : Int32)) := by have q := Vb172; rw [show (c124.toInt8.toInt32) = (46 : Int32) from by rw [hc181]; decide] at q; exact q
          have hIC := rmIC_3_1 l Z a0 hw [] sb172 kb172 c123 c124 c125 T172.heap n0 (Nat.le_trans Zs171 K172.1) hV (own_dot lo123 hi123 hc173)
          refine own_cStat (W := 0) (rest := []) X172 hx hZ [(.ref b167)] hown (hw _ (List.mem_of_getElem? (i := 27) rfl)) (hw _ (List.mem_of_getElem? (i := 28) rfl)) (by decide) (hw _ (List.mem_of_getElem? (i := 30) rfl)) (hw _ (List.mem_of_getElem? (i := 29) rfl)) rfl (rmSL_3_0 l Z a0 hw [] b167 sb172 cs (1 : Int32) T172.heap n0 (Nat.le_trans Zs171 K172.1) (own_staKeep f168 K172 (allS (own_exaStat A167) all0)) hcs Ea172 Fv172 Fc172 (own_alnV Vb172) hIC (by decide)) (by rw [hml]; rfl) (lenOf pd_13 rfl) rfl (Nat.le_of_eq rfl) (hb hby at_222) (by decide) (by decide) (by decide) (by decide) fun v183 T183 L183 X183 hQ183 => ?_
          obtain ⟨rfl, N183q, e183⟩ := hQ183
          have N183 := Fr.app N172 N183q
          show own_At p e below _ T183 m 225 _ [(.int (0 : Int32))]
          refine own_iload X183 hx (hb hby at_225) rfl ?_
          refine own_ifYes X183 hx 234 (hb hby at_227) (feq (by decide : ¬ ((1 : Int32) = (0 : Int32)))).2 (by decide) (by decide) ?_
          refine own_iconst X183 hx (0 : Int32) (hb hby at_234) rfl ?_
          refine own_icmpNo X183 hx (hb hby at_235) (teq (by decide : (0 : Int32) = (0 : Int32))).2 ?_
          refine own_iconst X183 hx (1 : Int32) (hb hby at_238) rfl ?_
          refine own_goto X183 hx 243 (hb hby at_239) (by decide) (by decide) ?_
          refine own_retN X183 hx hlk hret (by simp) (by decide) (hb hby at_243) (own_kL hS0 (by rw [e183]; exact (Nat.le_trans (Nat.le_trans (Nat.le_trans (Nat.le_trans (Nat.le_trans (Nat.le_trans (Nat.le_refl _) E163.1) (Keep.of_wr W164).1) (Keep.of_wr W165).1) (Keep.of_wr W166).1) E167.1) K172.1)) (by decide) (by decide) ?_)
          try rw [e183]
          exact ⟨rfl, N183⟩
        · refine own_icmpYes X172 hx 204 (hb hby at_198) (feq hc182).2 (by decide) (by decide) ?_
          refine own_iload X172 hx (hb hby at_204) rfl ?_
          refine own_iconst X172 hx (3 : Int32) (hb hby at_206) rfl ?_
          refine own_icmpYes X172 hx 220 (hb hby at_207) (flt (by decide : ¬ ((3 : Int32) < (3 : Int32)))).2.2.2 (by decide) (by decide) ?_
          refine own_aload X172 hx (hb hby at_220) rfl rfl ?_
          have hV : Arv Z T172.heap sb172 kb172 .byte (3 : Int32) [(.int (c123.toInt8.toInt32)), (.int (46 : Int32)), (.int (c125.toInt8.toInt32))] (.int (0 : Int32)) := by have q := Vb172; rw [show (c124.toInt8.toInt32) = (46 : Int32) from by rw [hc181]; decide] at q; exact q
          have hIC := rmIC_3_1 l Z a0 hw [] sb172 kb172 c123 c124 c125 T172.heap n0 (Nat.le_trans Zs171 K172.1) hV (own_dot lo123 hi123 hc173)
          refine own_cStat (W := 0) (rest := []) X172 hx hZ [(.ref b167)] hown (hw _ (List.mem_of_getElem? (i := 27) rfl)) (hw _ (List.mem_of_getElem? (i := 28) rfl)) (by decide) (hw _ (List.mem_of_getElem? (i := 30) rfl)) (hw _ (List.mem_of_getElem? (i := 29) rfl)) rfl (rmSL_3_0 l Z a0 hw [] b167 sb172 cs (1 : Int32) T172.heap n0 (Nat.le_trans Zs171 K172.1) (own_staKeep f168 K172 (allS (own_exaStat A167) all0)) hcs Ea172 Fv172 Fc172 (own_alnV Vb172) hIC (by decide)) (by rw [hml]; rfl) (lenOf pd_13 rfl) rfl (Nat.le_of_eq rfl) (hb hby at_222) (by decide) (by decide) (by decide) (by decide) fun v184 T184 L184 X184 hQ184 => ?_
          obtain ⟨rfl, N184q, e184⟩ := hQ184
          have N184 := Fr.app N172 N184q
          show own_At p e below _ T184 m 225 _ [(.int (0 : Int32))]
          refine own_iload X184 hx (hb hby at_225) rfl ?_
          refine own_ifYes X184 hx 234 (hb hby at_227) (feq (by decide : ¬ ((1 : Int32) = (0 : Int32)))).2 (by decide) (by decide) ?_
          refine own_iconst X184 hx (0 : Int32) (hb hby at_234) rfl ?_
          refine own_icmpNo X184 hx (hb hby at_235) (teq (by decide : (0 : Int32) = (0 : Int32))).2 ?_
          refine own_iconst X184 hx (1 : Int32) (hb hby at_238) rfl ?_
          refine own_goto X184 hx 243 (hb hby at_239) (by decide) (by decide) ?_
          refine own_retN X184 hx hlk hret (by simp) (by decide) (hb hby at_243) (own_kL hS0 (by rw [e184]; exact (Nat.le_trans (Nat.le_trans (Nat.le_trans (Nat.le_trans (Nat.le_trans (Nat.le_trans (Nat.le_refl _) E163.1) (Keep.of_wr W164).1) (Keep.of_wr W165).1) (Keep.of_wr W166).1) E167.1) K172.1)) (by decide) (by decide) ?_)
          try rw [e184]
          exact ⟨rfl, N184⟩
      · refine own_icmpYes X172 hx 188 (hb hby at_182) (feq hc181).2 (by decide) (by decide) ?_
        refine own_iload X172 hx (hb hby at_188) rfl ?_
        refine own_iconst X172 hx (2 : Int32) (hb hby at_190) rfl ?_
        refine own_icmpNo X172 hx (hb hby at_191) (tlt (by decide : (2 : Int32) < (3 : Int32))).2.2.2 ?_
        refine own_iload X172 hx (hb hby at_194) rfl ?_
        refine own_bipush X172 hx (46 : Int32) (hb hby at_196) rfl ?_
        by_cases hc185 : c125 = (46 : Int32)
        · refine own_icmpNo X172 hx (hb hby at_198) (teq hc185).2 ?_
          refine own_iconst X172 hx (1 : Int32) (hb hby at_201) rfl ?_
          refine own_istore (l' := #[.val (.int p1), .val (.int p2), .val (.int p3), .val (.int p4), .val (.int p5), .val (.int (3 : Int32)), .val (.int c123), .val (.int c124), .val (.int c125), .val (.int c126), .val (.ref b163), .val (.ref b167), .val (.int (1 : Int32))]) X172 hx (hb hby at_202) rfl ?_
          refine own_iload X172 hx (hb hby at_204) rfl ?_
          refine own_iconst X172 hx (3 : Int32) (hb hby at_206) rfl ?_
          refine own_icmpYes X172 hx 220 (hb hby at_207) (flt (by decide : ¬ ((3 : Int32) < (3 : Int32)))).2.2.2 (by decide) (by decide) ?_
          refine own_aload X172 hx (hb hby at_220) rfl rfl ?_
          have hV : Arv Z T172.heap sb172 kb172 .byte (3 : Int32) [(.int (c123.toInt8.toInt32)), (.int (c124.toInt8.toInt32)), (.int (46 : Int32))] (.int (0 : Int32)) := by have q := Vb172; rw [show (c125.toInt8.toInt32) = (46 : Int32) from by rw [hc185]; decide] at q; exact q
          have hIC := rmIC_3_2 l Z a0 hw [] sb172 kb172 c123 c124 c125 T172.heap n0 (Nat.le_trans Zs171 K172.1) hV (own_dot lo123 hi123 hc173) (own_dot lo124 hi124 hc181)
          refine own_cStat (W := 0) (rest := []) X172 hx hZ [(.ref b167)] hown (hw _ (List.mem_of_getElem? (i := 27) rfl)) (hw _ (List.mem_of_getElem? (i := 28) rfl)) (by decide) (hw _ (List.mem_of_getElem? (i := 30) rfl)) (hw _ (List.mem_of_getElem? (i := 29) rfl)) rfl (rmSL_3_0 l Z a0 hw [] b167 sb172 cs (2 : Int32) T172.heap n0 (Nat.le_trans Zs171 K172.1) (own_staKeep f168 K172 (allS (own_exaStat A167) all0)) hcs Ea172 Fv172 Fc172 (own_alnV Vb172) hIC (by decide)) (by rw [hml]; rfl) (lenOf pd_13 rfl) rfl (Nat.le_of_eq rfl) (hb hby at_222) (by decide) (by decide) (by decide) (by decide) fun v186 T186 L186 X186 hQ186 => ?_
          obtain ⟨rfl, N186q, e186⟩ := hQ186
          have N186 := Fr.app N172 N186q
          show own_At p e below _ T186 m 225 _ [(.int (0 : Int32))]
          refine own_iload X186 hx (hb hby at_225) rfl ?_
          refine own_ifYes X186 hx 234 (hb hby at_227) (feq (by decide : ¬ ((1 : Int32) = (0 : Int32)))).2 (by decide) (by decide) ?_
          refine own_iconst X186 hx (0 : Int32) (hb hby at_234) rfl ?_
          refine own_icmpNo X186 hx (hb hby at_235) (teq (by decide : (0 : Int32) = (0 : Int32))).2 ?_
          refine own_iconst X186 hx (1 : Int32) (hb hby at_238) rfl ?_
          refine own_goto X186 hx 243 (hb hby at_239) (by decide) (by decide) ?_
          refine own_retN X186 hx hlk hret (by simp) (by decide) (hb hby at_243) (own_kL hS0 (by rw [e186]; exact (Nat.le_trans (Nat.le_trans (Nat.le_trans (Nat.le_trans (Nat.le_trans (Nat.le_trans (Nat.le_refl _) E163.1) (Keep.of_wr W164).1) (Keep.of_wr W165).1) (Keep.of_wr W166).1) E167.1) K172.1)) (by decide) (by decide) ?_)
          try rw [e186]
          exact ⟨rfl, N186⟩
        · refine own_icmpYes X172 hx 204 (hb hby at_198) (feq hc185).2 (by decide) (by decide) ?_
          refine own_iload X172 hx (hb hby at_204) rfl ?_
          refine own_iconst X172 hx (3 : Int32) (hb hby at_206) rfl ?_
          refine own_icmpYes X172 hx 220 (hb hby at_207) (flt (by decide : ¬ ((3 : Int32) < (3 : Int32)))).2.2.2 (by decide) (by decide) ?_
          refine own_aload X172 hx (hb hby at_220) rfl rfl ?_
          have hIC := rmIC_3_n l Z a0 hw [] sb172 kb172 c123 c124 c125 T172.heap n0 (Nat.le_trans Zs171 K172.1) Vb172 (own_dot lo123 hi123 hc173) (own_dot lo124 hi124 hc181) (own_dot lo125 hi125 hc185)
          refine own_cStat (W := 0) (rest := []) X172 hx hZ [(.ref b167)] hown (hw _ (List.mem_of_getElem? (i := 27) rfl)) (hw _ (List.mem_of_getElem? (i := 28) rfl)) (by decide) (hw _ (List.mem_of_getElem? (i := 30) rfl)) (hw _ (List.mem_of_getElem? (i := 29) rfl)) rfl (rmSL_3_1 l Z a0 hw [] b167 sb172 cs (-1 : Int32) T172.heap n0 (Nat.le_trans Zs171 K172.1) (own_staKeep f168 K172 (allS (own_exaStat A167) all0)) hcs Ea172 Fv172 Fc172 (own_alnV Vb172) hIC (by decide)) (by rw [hml]; rfl) (lenOf pd_13 rfl) rfl (Nat.le_of_eq rfl) (hb hby at_222) (by decide) (by decide) (by decide) (by decide) fun v187 T187 L187 X187 hQ187 => ?_
          obtain ⟨rfl, N187q, e187⟩ := hQ187
          have N187 := Fr.app N172 N187q
          show own_At p e below _ T187 m 225 _ [(.int (1 : Int32))]
          refine own_iload X187 hx (hb hby at_225) rfl ?_
          refine own_ifNo X187 hx (hb hby at_227) (teq (by decide : (0 : Int32) = (0 : Int32))).2 ?_
          refine own_iconst X187 hx (1 : Int32) (hb hby at_230) rfl ?_
          refine own_goto X187 hx 235 (hb hby at_231) (by decide) (by decide) ?_
          refine own_icmpNo X187 hx (hb hby at_235) (teq (by decide : (1 : Int32) = (1 : Int32))).2 ?_
          refine own_iconst X187 hx (1 : Int32) (hb hby at_238) rfl ?_
          refine own_goto X187 hx 243 (hb hby at_239) (by decide) (by decide) ?_
          refine own_retN X187 hx hlk hret (by simp) (by decide) (hb hby at_243) (own_kL hS0 (by rw [e187]; exact (Nat.le_trans (Nat.le_trans (Nat.le_trans (Nat.le_trans (Nat.le_trans (Nat.le_trans (Nat.le_refl _) E163.1) (Keep.of_wr W164).1) (Keep.of_wr W165).1) (Keep.of_wr W166).1) E167.1) K172.1)) (by decide) (by decide) ?_)
          try rw [e187]
          exact ⟨rfl, N187⟩
  · rw [hr127]
    refine own_iload X126 hx (hb hby at_33) rfl ?_
    refine own_ifYes X126 hx 46 (hb hby at_35) (feq (by decide : ¬ ((4 : Int32) = (0 : Int32)))).2 (by decide) (by decide) ?_
    refine own_iload X126 hx (hb hby at_46) rfl ?_
    refine own_iconst X126 hx (1 : Int32) (hb hby at_48) rfl ?_
    refine own_icmpYes X126 hx 65 (hb hby at_49) (feq (by decide : ¬ ((4 : Int32) = (1 : Int32)))).2 (by decide) (by decide) ?_
    refine own_iload X126 hx (hb hby at_65) rfl ?_
    refine own_iconst X126 hx (2 : Int32) (hb hby at_67) rfl ?_
    refine own_icmpYes X126 hx 89 (hb hby at_68) (feq (by decide : ¬ ((4 : Int32) = (2 : Int32)))).2 (by decide) (by decide) ?_
    refine own_iload X126 hx (hb hby at_89) rfl ?_
    refine own_iconst X126 hx (3 : Int32) (hb hby at_91) rfl ?_
    refine own_icmpYes X126 hx 118 (hb hby at_92) (feq (by decide : ¬ ((4 : Int32) = (3 : Int32)))).2 (by decide) (by decide) ?_
    refine own_iconst X126 hx (4 : Int32) (hb hby at_118) rfl ?_
    refine own_newP (n := (4 : Int32)) (cap := 4) (ad := "[C") X126 hx hZ (hw _ (List.mem_of_getElem? (i := 5) rfl)) e126 (hb hby at_119) (by decide) (by decide) (by decide) (by decide) (by decide) (by decide) fun T188 h188 k188 b188 g188 X188 e188 E188 A188 Ex188 => ?_
    have g_b188 : n0 ≤ b188 := Nat.le_trans Z0 (Nat.le_of_eq g188.symm)
    have szo_b188 : h0.size ≤ b188 := Nat.le_trans (Nat.le_refl h0.size) (Nat.le_of_eq g188.symm)
    have V188 : Arv Z h188 b188 k188 .char (4 : Int32) [(.int (0 : Int32)), (.int (0 : Int32)), (.int (0 : Int32)), (.int (0 : Int32))] (.int (0 : Int32)) := (Arv.new A188 (by decide)).pad (pad_rep [] (.int (0 : Int32)) 4)
    refine own_dup X188 hx (hb hby at_121) rfl ?_
    refine own_iconst X188 hx (0 : Int32) (hb hby at_122) rfl ?_
    refine own_iload X188 hx (hb hby at_123) rfl ?_
    refine own_stC (vs' := [(.int c123), (.int (0 : Int32)), (.int (0 : Int32)), (.int (0 : Int32))]) (w := (.int c123)) X188 hx hZ e188 V188 ⟨by decide, by decide⟩ 0 rfl (Nat.le_of_ble_eq_true rfl) (congrArg Value.int (own_narc lo123 hi123)) rfl (hb hby at_125) fun T189 h189 X189 e189 W189 V189 => ?_
    have N189 := Fr.snoc X189 N126 g_b188
    refine own_dup X189 hx (hb hby at_126) rfl ?_
    refine own_iconst X189 hx (1 : Int32) (hb hby at_127) rfl ?_
    refine own_iload X189 hx (hb hby at_128) rfl ?_
    refine own_stC (vs' := [(.int c123), (.int c124), (.int (0 : Int32)), (.int (0 : Int32))]) (w := (.int c124)) X189 hx hZ e189 V189 ⟨by decide, by decide⟩ 1 rfl (Nat.le_of_ble_eq_true rfl) (congrArg Value.int (own_narc lo124 hi124)) rfl (hb hby at_130) fun T190 h190 X190 e190 W190 V190 => ?_
    have N190 := Fr.snoc X190 N189 g_b188
    refine own_dup X190 hx (hb hby at_131) rfl ?_
    refine own_iconst X190 hx (2 : Int32) (hb hby at_132) rfl ?_
    refine own_iload X190 hx (hb hby at_133) rfl ?_
    refine own_stC (vs' := [(.int c123), (.int c124), (.int c125), (.int (0 : Int32))]) (w := (.int c125)) X190 hx hZ e190 V190 ⟨by decide, by decide⟩ 2 rfl (Nat.le_of_ble_eq_true rfl) (congrArg Value.int (own_narc lo125 hi125)) rfl (hb hby at_135) fun T191 h191 X191 e191 W191 V191 => ?_
    have N191 := Fr.snoc X191 N190 g_b188
    refine own_dup X191 hx (hb hby at_136) rfl ?_
    refine own_iconst X191 hx (3 : Int32) (hb hby at_137) rfl ?_
    refine own_iload X191 hx (hb hby at_138) rfl ?_
    refine own_stC (vs' := [(.int c123), (.int c124), (.int c125), (.int c126)]) (w := (.int c126)) X191 hx hZ e191 V191 ⟨by decide, by decide⟩ 3 rfl (Nat.le_of_ble_eq_true rfl) (congrArg Value.int (own_narc lo126 hi126)) rfl (hb hby at_140) fun T192 h192 X192 e192 W192 V192 => ?_
    have N192 := Fr.snoc X192 N191 g_b188
    refine own_astore (l' := #[.val (.int p1), .val (.int p2), .val (.int p3), .val (.int p4), .val (.int p5), .val (.int (4 : Int32)), .val (.int c123), .val (.int c124), .val (.int c125), .val (.int c126), .val (.ref b188), .unset, .unset]) X192 hx (hb hby at_141) rfl rfl ?_
    refine own_newO X192 hx hZ hown (hw _ (List.mem_of_getElem? (i := 6) rfl)) (hw _ (List.mem_of_getElem? (i := 7) rfl)) (hw _ (List.mem_of_getElem? (i := 8) rfl)) e192 (hb hby at_143) (by decide) (by decide) fun T193 h193 b193 g193 X193 e193 E193 A193 D193 => ?_
    have g_b193 : n0 ≤ b193 := Nat.le_trans (Nat.le_trans (Nat.le_trans (Nat.le_trans (Nat.le_trans (Nat.le_trans Z0 E188.1) (Keep.of_wr W189).1) (Keep.of_wr W190).1) (Keep.of_wr W191).1) (Keep.of_wr W192).1) (Nat.le_of_eq g193.symm)
    have szo_b193 : h0.size ≤ b193 := Nat.le_trans (Nat.le_trans (Nat.le_trans (Nat.le_trans (Nat.le_trans (Nat.le_trans (Nat.le_refl h0.size) E188.1) (Keep.of_wr W189).1) (Keep.of_wr W190).1) (Keep.of_wr W191).1) (Keep.of_wr W192).1) (Nat.le_of_eq g193.symm)
    have F_value_b193 : Fld Z h193 b193 "java/lang/String" "value" "[B" .null := D193 (Or.inr (hw _ (List.mem_of_getElem? (i := 21) rfl))) (ty := (.array .byte)) (by decide)
    have F_coder_b193 : Fld Z h193 b193 "java/lang/String" "coder" "B" (.int (0 : Int32)) := D193 (Or.inr (hw _ (List.mem_of_getElem? (i := 22) rfl))) (ty := .byte) (by decide)
    refine own_dup X193 hx (hb hby at_146) rfl ?_
    refine own_aload X193 hx (hb hby at_147) rfl rfl ?_
    have f194 := (Sta.ext E193 (Sta.wr W192 (Sta.wr W191 (Sta.wr W190 (Sta.wr W189 (Sta.ext E188 Sc))))))
    have f195 := (Exa.ext E193 (Exa.wr W192 (Exa.wr W191 (Exa.wr W190 (Exa.wr W189 Ex188)))))
    have f196 := (V192.ext E193)
    have Zs197 : n0 ≤ h193.size := (Nat.le_trans (Nat.le_trans (Nat.le_trans (Nat.le_trans (Nat.le_trans (Nat.le_trans Z0 E188.1) (Keep.of_wr W189).1) (Keep.of_wr W190).1) (Keep.of_wr W191).1) (Keep.of_wr W192).1) E193.1)
    refine own_cSpec (b := b193) (W := 1) (rest := [(.ref b193)]) X193 hx hZ [(.ref b188)] rfl hown (hw _ (List.mem_of_getElem? (i := 9) rfl)) (hw _ (List.mem_of_getElem? (i := 10) rfl)) (by decide) (hw _ (List.mem_of_getElem? (i := 11) rfl)) (hw _ (List.mem_of_getElem? (i := 8) rfl)) e193 (rmI1_4 l Z a0 hw [] b193 b188 k188 cs c123 c124 c125 c126 h193 n0 Zs197 A193 F_value_b193 F_coder_b193 g_b193 f194 hcs f196 f195 hi123 hi124 hi125 hi126) (by rw [hml]; rfl) (lenOf pd_12 rfl) rfl (Nat.le_of_eq rfl) (hb hby at_149) (by decide) (by decide) (by decide) (by decide) fun v198 T198 L198 X198 hQ198 => ?_
    obtain ⟨rfl, N198q, K198, sb198, kb198, szb198, Eb198, Ea198, Fv198, Fc198, Vb198⟩ := hQ198
    have N198 := Fr.app N192 N198q
    show own_At p e below _ T198 m 152 _ [(.ref b193)]
    refine own_astore (l' := #[.val (.int p1), .val (.int p2), .val (.int p3), .val (.int p4), .val (.int p5), .val (.int (4 : Int32)), .val (.int c123), .val (.int c124), .val (.int c125), .val (.int c126), .val (.ref b188), .val (.ref b193), .unset]) X198 hx (hb hby at_152) rfl rfl ?_
    refine own_iconst X198 hx (0 : Int32) (hb hby at_154) rfl ?_
    refine own_istore (l' := #[.val (.int p1), .val (.int p2), .val (.int p3), .val (.int p4), .val (.int p5), .val (.int (4 : Int32)), .val (.int c123), .val (.int c124), .val (.int c125), .val (.int c126), .val (.ref b188), .val (.ref b193), .val (.int (0 : Int32))]) X198 hx (hb hby at_155) rfl ?_
    refine own_iload X198 hx (hb hby at_157) rfl ?_
    refine own_ifNo X198 hx (hb hby at_159) (tlt (by decide : (0 : Int32) < (4 : Int32))).2.2.2 ?_
    refine own_iload X198 hx (hb hby at_162) rfl ?_
    refine own_bipush X198 hx (46 : Int32) (hb hby at_164) rfl ?_
    by_cases hc199 : c123 = (46 : Int32)
    · refine own_icmpNo X198 hx (hb hby at_166) (teq hc199).2 ?_
      refine own_iconst X198 hx (1 : Int32) (hb hby at_169) rfl ?_
      refine own_istore (l' := #[.val (.int p1), .val (.int p2), .val (.int p3), .val (.int p4), .val (.int p5), .val (.int (4 : Int32)), .val (.int c123), .val (.int c124), .val (.int c125), .val (.int c126), .val (.ref b188), .val (.ref b193), .val (.int (1 : Int32))]) X198 hx (hb hby at_170) rfl ?_
      refine own_iload X198 hx (hb hby at_172) rfl ?_
      refine own_iconst X198 hx (1 : Int32) (hb hby at_174) rfl ?_
      refine own_icmpNo X198 hx (hb hby at_175) (tlt (by decide : (1 : Int32) < (4 : Int32))).2.2.2 ?_
      refine own_iload X198 hx (hb hby at_178) rfl ?_
      refine own_bipush X198 hx (46 : Int32) (hb hby at_180) rfl ?_
      by_cases hc200 : c124 = (46 : Int32)
      · refine own_icmpNo X198 hx (hb hby at_182) (teq hc200).2 ?_
        refine own_iconst X198 hx (1 : Int32) (hb hby at_185) rfl ?_
        refine own_istore (l' := #[.val (.int p1), .val (.int p2), .val (.int p3), .val (.int p4), .val (.int p5), .val (.int (4 : Int32)), .val (.int c123), .val (.int c124), .val (.int c125), .val (.int c126), .val (.ref b188), .val (.ref b193), .val (.int (1 : Int32))]) X198 hx (hb hby at_186) rfl ?_
        refine own_iload X198 hx (hb hby at_188) rfl ?_
        refine own_iconst X198 hx (2 : Int32) (hb hby at_190) rfl ?_
        refine own_icmpNo X198 hx (hb hby at_191) (tlt (by decide : (2 : Int32) < (4 : Int32))).2.2.2 ?_
        refine own_iload X198 hx (hb hby at_194) rfl ?_
        refine own_bipush X198 hx (46 : Int32) (hb hby at_196) rfl ?_
        by_cases hc201 : c125 = (46 : Int32)
        · refine own_icmpNo X198 hx (hb hby at_198) (teq hc201).2 ?_
          refine own_iconst X198 hx (1 : Int32) (hb hby at_201) rfl ?_
          refine own_istore (l' := #[.val (.int p1), .val (.int p2), .val (.int p3), .val (.int p4), .val (.int p5), .val (.int (4 : Int32)), .val (.int c123), .val (.int c124), .val (.int c125), .val (.int c126), .val (.ref b188), .val (.ref b193), .val (.int (1 : Int32))]) X198 hx (hb hby at_202) rfl ?_
          refine own_iload X198 hx (hb hby at_204) rfl ?_
          refine own_iconst X198 hx (3 : Int32) (hb hby at_206) rfl ?_
          refine own_icmpNo X198 hx (hb hby at_207) (tlt (by decide : (3 : Int32) < (4 : Int32))).2.2.2 ?_
          refine own_iload X198 hx (hb hby at_210) rfl ?_
          refine own_bipush X198 hx (46 : Int32) (hb hby at_212) rfl ?_
          by_cases hc202 : c126 = (46 : Int32)
          · refine own_icmpNo X198 hx (hb hby at_214) (teq hc202).2 ?_
            refine own_iconst X198 hx (1 : Int32) (hb hby at_217) rfl ?_
            refine own_istore (l' := #[.val (.int p1), .val (.int p2), .val (.int p3), .val (.int p4), .val (.int p5), .val (.int (4 : Int32)), .val (.int c123), .val (.int c124), .val (.int c125), .val (.int c126), .val (.ref b188), .val (.ref b193), .val (.int (1 : Int32))]) X198 hx (hb hby at_218) rfl ?_
            refine own_aload X198 hx (hb hby at_220) rfl rfl ?_
            have hV : Arv Z T198.heap sb198 kb198 .byte (4 : Int32) [(.int (46 : Int32)), (.int (c124.toInt8.toInt32)), (.int (c125.toInt8.toInt32)), (.int (c126.toInt8.toInt32))] (.int (0 : Int32)) := by have q := Vb198; rw [show (c123.toInt8.toInt32) = (46 : Int32) from by rw [hc199]; decide] at q; exact q
            have hIC := rmIC_4_0 l Z a0 hw [] sb198 kb198 c123 c124 c125 c126 T198.heap n0 (Nat.le_trans Zs197 K198.1) hV 
            refine own_cStat (W := 0) (rest := []) X198 hx hZ [(.ref b193)] hown (hw _ (List.mem_of_getElem? (i := 27) rfl)) (hw _ (List.mem_of_getElem? (i := 28) rfl)) (by decide) (hw _ (List.mem_of_getElem? (i := 30) rfl)) (hw _ (List.mem_of_getElem? (i := 29) rfl)) rfl (rmSL_4_0 l Z a0 hw [] b193 sb198 cs (0 : Int32) T198.heap n0 (Nat.le_trans Zs197 K198.1) (own_staKeep f194 K198 (allS (own_exaStat A193) all0)) hcs Ea198 Fv198 Fc198 (own_alnV Vb198) hIC (by decide)) (by rw [hml]; rfl) (lenOf pd_13 rfl) rfl (Nat.le_of_eq rfl) (hb hby at_222) (by decide) (by decide) (by decide) (by decide) fun v203 T203 L203 X203 hQ203 => ?_
            obtain ⟨rfl, N203q, e203⟩ := hQ203
            have N203 := Fr.app N198 N203q
            show own_At p e below _ T203 m 225 _ [(.int (0 : Int32))]
            refine own_iload X203 hx (hb hby at_225) rfl ?_
            refine own_ifYes X203 hx 234 (hb hby at_227) (feq (by decide : ¬ ((1 : Int32) = (0 : Int32)))).2 (by decide) (by decide) ?_
            refine own_iconst X203 hx (0 : Int32) (hb hby at_234) rfl ?_
            refine own_icmpNo X203 hx (hb hby at_235) (teq (by decide : (0 : Int32) = (0 : Int32))).2 ?_
            refine own_iconst X203 hx (1 : Int32) (hb hby at_238) rfl ?_
            refine own_goto X203 hx 243 (hb hby at_239) (by decide) (by decide) ?_
            refine own_retN X203 hx hlk hret (by simp) (by decide) (hb hby at_243) (own_kL hS0 (by rw [e203]; exact (Nat.le_trans (Nat.le_trans (Nat.le_trans (Nat.le_trans (Nat.le_trans (Nat.le_trans (Nat.le_trans (Nat.le_refl _) E188.1) (Keep.of_wr W189).1) (Keep.of_wr W190).1) (Keep.of_wr W191).1) (Keep.of_wr W192).1) E193.1) K198.1)) (by decide) (by decide) ?_)
            try rw [e203]
            exact ⟨rfl, N203⟩
          · refine own_icmpYes X198 hx 220 (hb hby at_214) (feq hc202).2 (by decide) (by decide) ?_
            refine own_aload X198 hx (hb hby at_220) rfl rfl ?_
            have hV : Arv Z T198.heap sb198 kb198 .byte (4 : Int32) [(.int (46 : Int32)), (.int (c124.toInt8.toInt32)), (.int (c125.toInt8.toInt32)), (.int (c126.toInt8.toInt32))] (.int (0 : Int32)) := by have q := Vb198; rw [show (c123.toInt8.toInt32) = (46 : Int32) from by rw [hc199]; decide] at q; exact q
            have hIC := rmIC_4_0 l Z a0 hw [] sb198 kb198 c123 c124 c125 c126 T198.heap n0 (Nat.le_trans Zs197 K198.1) hV 
            refine own_cStat (W := 0) (rest := []) X198 hx hZ [(.ref b193)] hown (hw _ (List.mem_of_getElem? (i := 27) rfl)) (hw _ (List.mem_of_getElem? (i := 28) rfl)) (by decide) (hw _ (List.mem_of_getElem? (i := 30) rfl)) (hw _ (List.mem_of_getElem? (i := 29) rfl)) rfl (rmSL_4_0 l Z a0 hw [] b193 sb198 cs (0 : Int32) T198.heap n0 (Nat.le_trans Zs197 K198.1) (own_staKeep f194 K198 (allS (own_exaStat A193) all0)) hcs Ea198 Fv198 Fc198 (own_alnV Vb198) hIC (by decide)) (by rw [hml]; rfl) (lenOf pd_13 rfl) rfl (Nat.le_of_eq rfl) (hb hby at_222) (by decide) (by decide) (by decide) (by decide) fun v204 T204 L204 X204 hQ204 => ?_
            obtain ⟨rfl, N204q, e204⟩ := hQ204
            have N204 := Fr.app N198 N204q
            show own_At p e below _ T204 m 225 _ [(.int (0 : Int32))]
            refine own_iload X204 hx (hb hby at_225) rfl ?_
            refine own_ifYes X204 hx 234 (hb hby at_227) (feq (by decide : ¬ ((1 : Int32) = (0 : Int32)))).2 (by decide) (by decide) ?_
            refine own_iconst X204 hx (0 : Int32) (hb hby at_234) rfl ?_
            refine own_icmpNo X204 hx (hb hby at_235) (teq (by decide : (0 : Int32) = (0 : Int32))).2 ?_
            refine own_iconst X204 hx (1 : Int32) (hb hby at_238) rfl ?_
            refine own_goto X204 hx 243 (hb hby at_239) (by decide) (by decide) ?_
            refine own_retN X204 hx hlk hret (by simp) (by decide) (hb hby at_243) (own_kL hS0 (by rw [e204]; exact (Nat.le_trans (Nat.le_trans (Nat.le_trans (Nat.le_trans (Nat.le_trans (Nat.le_trans (Nat.le_trans (Nat.le_refl _) E188.1) (Keep.of_wr W189).1) (Keep.of_wr W190).1) (Keep.of_wr W191).1) (Keep.of_wr W192).1) E193.1) K198.1)) (by decide) (by decide) ?_)
            try rw [e204]
            exact ⟨rfl, N204⟩
        · refine own_icmpYes X198 hx 204 (hb hby at_198) (feq hc201).2 (by decide) (by decide) ?_
          refine own_iload X198 hx (hb hby at_204) rfl ?_
          refine own_iconst X198 hx (3 : Int32) (hb hby at_206) rfl ?_
          refine own_icmpNo X198 hx (hb hby at_207) (tlt (by decide : (3 : Int32) < (4 : Int32))).2.2.2 ?_
          refine own_iload X198 hx (hb hby at_210) rfl ?_
          refine own_bipush X198 hx (46 : Int32) (hb hby at_212) rfl ?_
          by_cases hc205 : c126 = (46 : Int32)
          · refine own_icmpNo X198 hx (hb hby at_214) (teq hc205).2 ?_
            refine own_iconst X198 hx (1 : Int32) (hb hby at_217) rfl ?_
            refine own_istore (l' := #[.val (.int p1), .val (.int p2), .val (.int p3), .val (.int p4), .val (.int p5), .val (.int (4 : Int32)), .val (.int c123), .val (.int c124), .val (.int c125), .val (.int c126), .val (.ref b188), .val (.ref b193), .val (.int (1 : Int32))]) X198 hx (hb hby at_218) rfl ?_
            refine own_aload X198 hx (hb hby at_220) rfl rfl ?_
            have hV : Arv Z T198.heap sb198 kb198 .byte (4 : Int32) [(.int (46 : Int32)), (.int (c124.toInt8.toInt32)), (.int (c125.toInt8.toInt32)), (.int (c126.toInt8.toInt32))] (.int (0 : Int32)) := by have q := Vb198; rw [show (c123.toInt8.toInt32) = (46 : Int32) from by rw [hc199]; decide] at q; exact q
            have hIC := rmIC_4_0 l Z a0 hw [] sb198 kb198 c123 c124 c125 c126 T198.heap n0 (Nat.le_trans Zs197 K198.1) hV 
            refine own_cStat (W := 0) (rest := []) X198 hx hZ [(.ref b193)] hown (hw _ (List.mem_of_getElem? (i := 27) rfl)) (hw _ (List.mem_of_getElem? (i := 28) rfl)) (by decide) (hw _ (List.mem_of_getElem? (i := 30) rfl)) (hw _ (List.mem_of_getElem? (i := 29) rfl)) rfl (rmSL_4_0 l Z a0 hw [] b193 sb198 cs (0 : Int32) T198.heap n0 (Nat.le_trans Zs197 K198.1) (own_staKeep f194 K198 (allS (own_exaStat A193) all0)) hcs Ea198 Fv198 Fc198 (own_alnV Vb198) hIC (by decide)) (by rw [hml]; rfl) (lenOf pd_13 rfl) rfl (Nat.le_of_eq rfl) (hb hby at_222) (by decide) (by decide) (by decide) (by decide) fun v206 T206 L206 X206 hQ206 => ?_
            obtain ⟨rfl, N206q, e206⟩ := hQ206
            have N206 := Fr.app N198 N206q
            show own_At p e below _ T206 m 225 _ [(.int (0 : Int32))]
            refine own_iload X206 hx (hb hby at_225) rfl ?_
            refine own_ifYes X206 hx 234 (hb hby at_227) (feq (by decide : ¬ ((1 : Int32) = (0 : Int32)))).2 (by decide) (by decide) ?_
            refine own_iconst X206 hx (0 : Int32) (hb hby at_234) rfl ?_
            refine own_icmpNo X206 hx (hb hby at_235) (teq (by decide : (0 : Int32) = (0 : Int32))).2 ?_
            refine own_iconst X206 hx (1 : Int32) (hb hby at_238) rfl ?_
            refine own_goto X206 hx 243 (hb hby at_239) (by decide) (by decide) ?_
            refine own_retN X206 hx hlk hret (by simp) (by decide) (hb hby at_243) (own_kL hS0 (by rw [e206]; exact (Nat.le_trans (Nat.le_trans (Nat.le_trans (Nat.le_trans (Nat.le_trans (Nat.le_trans (Nat.le_trans (Nat.le_refl _) E188.1) (Keep.of_wr W189).1) (Keep.of_wr W190).1) (Keep.of_wr W191).1) (Keep.of_wr W192).1) E193.1) K198.1)) (by decide) (by decide) ?_)
            try rw [e206]
            exact ⟨rfl, N206⟩
          · refine own_icmpYes X198 hx 220 (hb hby at_214) (feq hc205).2 (by decide) (by decide) ?_
            refine own_aload X198 hx (hb hby at_220) rfl rfl ?_
            have hV : Arv Z T198.heap sb198 kb198 .byte (4 : Int32) [(.int (46 : Int32)), (.int (c124.toInt8.toInt32)), (.int (c125.toInt8.toInt32)), (.int (c126.toInt8.toInt32))] (.int (0 : Int32)) := by have q := Vb198; rw [show (c123.toInt8.toInt32) = (46 : Int32) from by rw [hc199]; decide] at q; exact q
            have hIC := rmIC_4_0 l Z a0 hw [] sb198 kb198 c123 c124 c125 c126 T198.heap n0 (Nat.le_trans Zs197 K198.1) hV 
            refine own_cStat (W := 0) (rest := []) X198 hx hZ [(.ref b193)] hown (hw _ (List.mem_of_getElem? (i := 27) rfl)) (hw _ (List.mem_of_getElem? (i := 28) rfl)) (by decide) (hw _ (List.mem_of_getElem? (i := 30) rfl)) (hw _ (List.mem_of_getElem? (i := 29) rfl)) rfl (rmSL_4_0 l Z a0 hw [] b193 sb198 cs (0 : Int32) T198.heap n0 (Nat.le_trans Zs197 K198.1) (own_staKeep f194 K198 (allS (own_exaStat A193) all0)) hcs Ea198 Fv198 Fc198 (own_alnV Vb198) hIC (by decide)) (by rw [hml]; rfl) (lenOf pd_13 rfl) rfl (Nat.le_of_eq rfl) (hb hby at_222) (by decide) (by decide) (by decide) (by decide) fun v207 T207 L207 X207 hQ207 => ?_
            obtain ⟨rfl, N207q, e207⟩ := hQ207
            have N207 := Fr.app N198 N207q
            show own_At p e below _ T207 m 225 _ [(.int (0 : Int32))]
            refine own_iload X207 hx (hb hby at_225) rfl ?_
            refine own_ifYes X207 hx 234 (hb hby at_227) (feq (by decide : ¬ ((1 : Int32) = (0 : Int32)))).2 (by decide) (by decide) ?_
            refine own_iconst X207 hx (0 : Int32) (hb hby at_234) rfl ?_
            refine own_icmpNo X207 hx (hb hby at_235) (teq (by decide : (0 : Int32) = (0 : Int32))).2 ?_
            refine own_iconst X207 hx (1 : Int32) (hb hby at_238) rfl ?_
            refine own_goto X207 hx 243 (hb hby at_239) (by decide) (by decide) ?_
            refine own_retN X207 hx hlk hret (by simp) (by decide) (hb hby at_243) (own_kL hS0 (by rw [e207]; exact (Nat.le_trans (Nat.le_trans (Nat.le_trans (Nat.le_trans (Nat.le_trans (Nat.le_trans (Nat.le_trans (Nat.le_refl _) E188.1) (Keep.of_wr W189).1) (Keep.of_wr W190).1) (Keep.of_wr W191).1) (Keep.of_wr W192).1) E193.1) K198.1)) (by decide) (by decide) ?_)
            try rw [e207]
            exact ⟨rfl, N207⟩
      · refine own_icmpYes X198 hx 188 (hb hby at_182) (feq hc200).2 (by decide) (by decide) ?_
        refine own_iload X198 hx (hb hby at_188) rfl ?_
        refine own_iconst X198 hx (2 : Int32) (hb hby at_190) rfl ?_
        refine own_icmpNo X198 hx (hb hby at_191) (tlt (by decide : (2 : Int32) < (4 : Int32))).2.2.2 ?_
        refine own_iload X198 hx (hb hby at_194) rfl ?_
        refine own_bipush X198 hx (46 : Int32) (hb hby at_196) rfl ?_
        by_cases hc208 : c125 = (46 : Int32)
        · refine own_icmpNo X198 hx (hb hby at_198) (teq hc208).2 ?_
          refine own_iconst X198 hx (1 : Int32) (hb hby at_201) rfl ?_
          refine own_istore (l' := #[.val (.int p1), .val (.int p2), .val (.int p3), .val (.int p4), .val (.int p5), .val (.int (4 : Int32)), .val (.int c123), .val (.int c124), .val (.int c125), .val (.int c126), .val (.ref b188), .val (.ref b193), .val (.int (1 : Int32))]) X198 hx (hb hby at_202) rfl ?_
          refine own_iload X198 hx (hb hby at_204) rfl ?_
          refine own_iconst X198 hx (3 : Int32) (hb hby at_206) rfl ?_
          refine own_icmpNo X198 hx (hb hby at_207) (tlt (by decide : (3 : Int32) < (4 : Int32))).2.2.2 ?_
          refine own_iload X198 hx (hb hby at_210) rfl ?_
          refine own_bipush X198 hx (46 : Int32) (hb hby at_212) rfl ?_
          by_cases hc209 : c126 = (46 : Int32)
          · refine own_icmpNo X198 hx (hb hby at_214) (teq hc209).2 ?_
            refine own_iconst X198 hx (1 : Int32) (hb hby at_217) rfl ?_
            refine own_istore (l' := #[.val (.int p1), .val (.int p2), .val (.int p3), .val (.int p4), .val (.int p5), .val (.int (4 : Int32)), .val (.int c123), .val (.int c124), .val (.int c125), .val (.int c126), .val (.ref b188), .val (.ref b193), .val (.int (1 : Int32))]) X198 hx (hb hby at_218) rfl ?_
            refine own_aload X198 hx (hb hby at_220) rfl rfl ?_
            have hV : Arv Z T198.heap sb198 kb198 .byte (4 : Int32) [(.int (46 : Int32)), (.int (c124.toInt8.toInt32)), (.int (c125.toInt8.toInt32)), (.int (c126.toInt8.toInt32))] (.int (0 : Int32)) := by have q := Vb198; rw [show (c123.toInt8.toInt32) = (46 : Int32) from by rw [hc199]; decide] at q; exact q
            have hIC := rmIC_4_0 l Z a0 hw [] sb198 kb198 c123 c124 c125 c126 T198.heap n0 (Nat.le_trans Zs197 K198.1) hV 
            refine own_cStat (W := 0) (rest := []) X198 hx hZ [(.ref b193)] hown (hw _ (List.mem_of_getElem? (i := 27) rfl)) (hw _ (List.mem_of_getElem? (i := 28) rfl)) (by decide) (hw _ (List.mem_of_getElem? (i := 30) rfl)) (hw _ (List.mem_of_getElem? (i := 29) rfl)) rfl (rmSL_4_0 l Z a0 hw [] b193 sb198 cs (0 : Int32) T198.heap n0 (Nat.le_trans Zs197 K198.1) (own_staKeep f194 K198 (allS (own_exaStat A193) all0)) hcs Ea198 Fv198 Fc198 (own_alnV Vb198) hIC (by decide)) (by rw [hml]; rfl) (lenOf pd_13 rfl) rfl (Nat.le_of_eq rfl) (hb hby at_222) (by decide) (by decide) (by decide) (by decide) fun v210 T210 L210 X210 hQ210 => ?_
            obtain ⟨rfl, N210q, e210⟩ := hQ210
            have N210 := Fr.app N198 N210q
            show own_At p e below _ T210 m 225 _ [(.int (0 : Int32))]
            refine own_iload X210 hx (hb hby at_225) rfl ?_
            refine own_ifYes X210 hx 234 (hb hby at_227) (feq (by decide : ¬ ((1 : Int32) = (0 : Int32)))).2 (by decide) (by decide) ?_
            refine own_iconst X210 hx (0 : Int32) (hb hby at_234) rfl ?_
            refine own_icmpNo X210 hx (hb hby at_235) (teq (by decide : (0 : Int32) = (0 : Int32))).2 ?_
            refine own_iconst X210 hx (1 : Int32) (hb hby at_238) rfl ?_
            refine own_goto X210 hx 243 (hb hby at_239) (by decide) (by decide) ?_
            refine own_retN X210 hx hlk hret (by simp) (by decide) (hb hby at_243) (own_kL hS0 (by rw [e210]; exact (Nat.le_trans (Nat.le_trans (Nat.le_trans (Nat.le_trans (Nat.le_trans (Nat.le_trans (Nat.le_trans (Nat.le_refl _) E188.1) (Keep.of_wr W189).1) (Keep.of_wr W190).1) (Keep.of_wr W191).1) (Keep.of_wr W192).1) E193.1) K198.1)) (by decide) (by decide) ?_)
            try rw [e210]
            exact ⟨rfl, N210⟩
          · refine own_icmpYes X198 hx 220 (hb hby at_214) (feq hc209).2 (by decide) (by decide) ?_
            refine own_aload X198 hx (hb hby at_220) rfl rfl ?_
            have hV : Arv Z T198.heap sb198 kb198 .byte (4 : Int32) [(.int (46 : Int32)), (.int (c124.toInt8.toInt32)), (.int (c125.toInt8.toInt32)), (.int (c126.toInt8.toInt32))] (.int (0 : Int32)) := by have q := Vb198; rw [show (c123.toInt8.toInt32) = (46 : Int32) from by rw [hc199]; decide] at q; exact q
            have hIC := rmIC_4_0 l Z a0 hw [] sb198 kb198 c123 c124 c125 c126 T198.heap n0 (Nat.le_trans Zs197 K198.1) hV 
            refine own_cStat (W := 0) (rest := []) X198 hx hZ [(.ref b193)] hown (hw _ (List.mem_of_getElem? (i := 27) rfl)) (hw _ (List.mem_of_getElem? (i := 28) rfl)) (by decide) (hw _ (List.mem_of_getElem? (i := 30) rfl)) (hw _ (List.mem_of_getElem? (i := 29) rfl)) rfl (rmSL_4_0 l Z a0 hw [] b193 sb198 cs (0 : Int32) T198.heap n0 (Nat.le_trans Zs197 K198.1) (own_staKeep f194 K198 (allS (own_exaStat A193) all0)) hcs Ea198 Fv198 Fc198 (own_alnV Vb198) hIC (by decide)) (by rw [hml]; rfl) (lenOf pd_13 rfl) rfl (Nat.le_of_eq rfl) (hb hby at_222) (by decide) (by decide) (by decide) (by decide) fun v211 T211 L211 X211 hQ211 => ?_
            obtain ⟨rfl, N211q, e211⟩ := hQ211
            have N211 := Fr.app N198 N211q
            show own_At p e below _ T211 m 225 _ [(.int (0 : Int32))]
            refine own_iload X211 hx (hb hby at_225) rfl ?_
            refine own_ifYes X211 hx 234 (hb hby at_227) (feq (by decide : ¬ ((1 : Int32) = (0 : Int32)))).2 (by decide) (by decide) ?_
            refine own_iconst X211 hx (0 : Int32) (hb hby at_234) rfl ?_
            refine own_icmpNo X211 hx (hb hby at_235) (teq (by decide : (0 : Int32) = (0 : Int32))).2 ?_
            refine own_iconst X211 hx (1 : Int32) (hb hby at_238) rfl ?_
            refine own_goto X211 hx 243 (hb hby at_239) (by decide) (by decide) ?_
            refine own_retN X211 hx hlk hret (by simp) (by decide) (hb hby at_243) (own_kL hS0 (by rw [e211]; exact (Nat.le_trans (Nat.le_trans (Nat.le_trans (Nat.le_trans (Nat.le_trans (Nat.le_trans (Nat.le_trans (Nat.le_refl _) E188.1) (Keep.of_wr W189).1) (Keep.of_wr W190).1) (Keep.of_wr W191).1) (Keep.of_wr W192).1) E193.1) K198.1)) (by decide) (by decide) ?_)
            try rw [e211]
            exact ⟨rfl, N211⟩
        · refine own_icmpYes X198 hx 204 (hb hby at_198) (feq hc208).2 (by decide) (by decide) ?_
          refine own_iload X198 hx (hb hby at_204) rfl ?_
          refine own_iconst X198 hx (3 : Int32) (hb hby at_206) rfl ?_
          refine own_icmpNo X198 hx (hb hby at_207) (tlt (by decide : (3 : Int32) < (4 : Int32))).2.2.2 ?_
          refine own_iload X198 hx (hb hby at_210) rfl ?_
          refine own_bipush X198 hx (46 : Int32) (hb hby at_212) rfl ?_
          by_cases hc212 : c126 = (46 : Int32)
          · refine own_icmpNo X198 hx (hb hby at_214) (teq hc212).2 ?_
            refine own_iconst X198 hx (1 : Int32) (hb hby at_217) rfl ?_
            refine own_istore (l' := #[.val (.int p1), .val (.int p2), .val (.int p3), .val (.int p4), .val (.int p5), .val (.int (4 : Int32)), .val (.int c123), .val (.int c124), .val (.int c125), .val (.int c126), .val (.ref b188), .val (.ref b193), .val (.int (1 : Int32))]) X198 hx (hb hby at_218) rfl ?_
            refine own_aload X198 hx (hb hby at_220) rfl rfl ?_
            have hV : Arv Z T198.heap sb198 kb198 .byte (4 : Int32) [(.int (46 : Int32)), (.int (c124.toInt8.toInt32)), (.int (c125.toInt8.toInt32)), (.int (c126.toInt8.toInt32))] (.int (0 : Int32)) := by have q := Vb198; rw [show (c123.toInt8.toInt32) = (46 : Int32) from by rw [hc199]; decide] at q; exact q
            have hIC := rmIC_4_0 l Z a0 hw [] sb198 kb198 c123 c124 c125 c126 T198.heap n0 (Nat.le_trans Zs197 K198.1) hV 
            refine own_cStat (W := 0) (rest := []) X198 hx hZ [(.ref b193)] hown (hw _ (List.mem_of_getElem? (i := 27) rfl)) (hw _ (List.mem_of_getElem? (i := 28) rfl)) (by decide) (hw _ (List.mem_of_getElem? (i := 30) rfl)) (hw _ (List.mem_of_getElem? (i := 29) rfl)) rfl (rmSL_4_0 l Z a0 hw [] b193 sb198 cs (0 : Int32) T198.heap n0 (Nat.le_trans Zs197 K198.1) (own_staKeep f194 K198 (allS (own_exaStat A193) all0)) hcs Ea198 Fv198 Fc198 (own_alnV Vb198) hIC (by decide)) (by rw [hml]; rfl) (lenOf pd_13 rfl) rfl (Nat.le_of_eq rfl) (hb hby at_222) (by decide) (by decide) (by decide) (by decide) fun v213 T213 L213 X213 hQ213 => ?_
            obtain ⟨rfl, N213q, e213⟩ := hQ213
            have N213 := Fr.app N198 N213q
            show own_At p e below _ T213 m 225 _ [(.int (0 : Int32))]
            refine own_iload X213 hx (hb hby at_225) rfl ?_
            refine own_ifYes X213 hx 234 (hb hby at_227) (feq (by decide : ¬ ((1 : Int32) = (0 : Int32)))).2 (by decide) (by decide) ?_
            refine own_iconst X213 hx (0 : Int32) (hb hby at_234) rfl ?_
            refine own_icmpNo X213 hx (hb hby at_235) (teq (by decide : (0 : Int32) = (0 : Int32))).2 ?_
            refine own_iconst X213 hx (1 : Int32) (hb hby at_238) rfl ?_
            refine own_goto X213 hx 243 (hb hby at_239) (by decide) (by decide) ?_
            refine own_retN X213 hx hlk hret (by simp) (by decide) (hb hby at_243) (own_kL hS0 (by rw [e213]; exact (Nat.le_trans (Nat.le_trans (Nat.le_trans (Nat.le_trans (Nat.le_trans (Nat.le_trans (Nat.le_trans (Nat.le_refl _) E188.1) (Keep.of_wr W189).1) (Keep.of_wr W190).1) (Keep.of_wr W191).1) (Keep.of_wr W192).1) E193.1) K198.1)) (by decide) (by decide) ?_)
            try rw [e213]
            exact ⟨rfl, N213⟩
          · refine own_icmpYes X198 hx 220 (hb hby at_214) (feq hc212).2 (by decide) (by decide) ?_
            refine own_aload X198 hx (hb hby at_220) rfl rfl ?_
            have hV : Arv Z T198.heap sb198 kb198 .byte (4 : Int32) [(.int (46 : Int32)), (.int (c124.toInt8.toInt32)), (.int (c125.toInt8.toInt32)), (.int (c126.toInt8.toInt32))] (.int (0 : Int32)) := by have q := Vb198; rw [show (c123.toInt8.toInt32) = (46 : Int32) from by rw [hc199]; decide] at q; exact q
            have hIC := rmIC_4_0 l Z a0 hw [] sb198 kb198 c123 c124 c125 c126 T198.heap n0 (Nat.le_trans Zs197 K198.1) hV 
            refine own_cStat (W := 0) (rest := []) X198 hx hZ [(.ref b193)] hown (hw _ (List.mem_of_getElem? (i := 27) rfl)) (hw _ (List.mem_of_getElem? (i := 28) rfl)) (by decide) (hw _ (List.mem_of_getElem? (i := 30) rfl)) (hw _ (List.mem_of_getElem? (i := 29) rfl)) rfl (rmSL_4_0 l Z a0 hw [] b193 sb198 cs (0 : Int32) T198.heap n0 (Nat.le_trans Zs197 K198.1) (own_staKeep f194 K198 (allS (own_exaStat A193) all0)) hcs Ea198 Fv198 Fc198 (own_alnV Vb198) hIC (by decide)) (by rw [hml]; rfl) (lenOf pd_13 rfl) rfl (Nat.le_of_eq rfl) (hb hby at_222) (by decide) (by decide) (by decide) (by decide) fun v214 T214 L214 X214 hQ214 => ?_
            obtain ⟨rfl, N214q, e214⟩ := hQ214
            have N214 := Fr.app N198 N214q
            show own_At p e below _ T214 m 225 _ [(.int (0 : Int32))]
            refine own_iload X214 hx (hb hby at_225) rfl ?_
            refine own_ifYes X214 hx 234 (hb hby at_227) (feq (by decide : ¬ ((1 : Int32) = (0 : Int32)))).2 (by decide) (by decide) ?_
            refine own_iconst X214 hx (0 : Int32) (hb hby at_234) rfl ?_
            refine own_icmpNo X214 hx (hb hby at_235) (teq (by decide : (0 : Int32) = (0 : Int32))).2 ?_
            refine own_iconst X214 hx (1 : Int32) (hb hby at_238) rfl ?_
            refine own_goto X214 hx 243 (hb hby at_239) (by decide) (by decide) ?_
            refine own_retN X214 hx hlk hret (by simp) (by decide) (hb hby at_243) (own_kL hS0 (by rw [e214]; exact (Nat.le_trans (Nat.le_trans (Nat.le_trans (Nat.le_trans (Nat.le_trans (Nat.le_trans (Nat.le_trans (Nat.le_refl _) E188.1) (Keep.of_wr W189).1) (Keep.of_wr W190).1) (Keep.of_wr W191).1) (Keep.of_wr W192).1) E193.1) K198.1)) (by decide) (by decide) ?_)
            try rw [e214]
            exact ⟨rfl, N214⟩
    · refine own_icmpYes X198 hx 172 (hb hby at_166) (feq hc199).2 (by decide) (by decide) ?_
      refine own_iload X198 hx (hb hby at_172) rfl ?_
      refine own_iconst X198 hx (1 : Int32) (hb hby at_174) rfl ?_
      refine own_icmpNo X198 hx (hb hby at_175) (tlt (by decide : (1 : Int32) < (4 : Int32))).2.2.2 ?_
      refine own_iload X198 hx (hb hby at_178) rfl ?_
      refine own_bipush X198 hx (46 : Int32) (hb hby at_180) rfl ?_
      by_cases hc215 : c124 = (46 : Int32)
      · refine own_icmpNo X198 hx (hb hby at_182) (teq hc215).2 ?_
        refine own_iconst X198 hx (1 : Int32) (hb hby at_185) rfl ?_
        refine own_istore (l' := #[.val (.int p1), .val (.int p2), .val (.int p3), .val (.int p4), .val (.int p5), .val (.int (4 : Int32)), .val (.int c123), .val (.int c124), .val (.int c125), .val (.int c126), .val (.ref b188), .val (.ref b193), .val (.int (1 : Int32))]) X198 hx (hb hby at_186) rfl ?_
        refine own_iload X198 hx (hb hby at_188) rfl ?_
        refine own_iconst X198 hx (2 : Int32) (hb hby at_190) rfl ?_
        refine own_icmpNo X198 hx (hb hby at_191) (tlt (by decide : (2 : Int32) < (4 : Int32))).2.2.2 ?_
        refine own_iload X198 hx (hb hby at_194) rfl ?_
        refine own_bipush X198 hx (46 : Int32) (hb hby at_196) rfl ?_
        by_cases hc216 : c125 = (46 : Int32)
        · refine own_icmpNo X198 hx (hb hby at_198) (teq hc216).2 ?_
          refine own_iconst X198 hx (1 : Int32) (hb hby at_201) rfl ?_
          refine own_istore (l' := #[.val (.int p1), .val (.int p2), .val (.int p3), .val (.int p4), .val (.int p5), .val (.int (4 : Int32)), .val (.int c123), .val (.int c124), .val (.int c125), .val (.int c126), .val (.ref b188), .val (.ref b193), .val (.int (1 : Int32))]) X198 hx (hb hby at_202) rfl ?_
          refine own_iload X198 hx (hb hby at_204) rfl ?_
          refine own_iconst X198 hx (3 : Int32) (hb hby at_206) rfl ?_
          refine own_icmpNo X198 hx (hb hby at_207) (tlt (by decide : (3 : Int32) < (4 : Int32))).2.2.2 ?_
          refine own_iload X198 hx (hb hby at_210) rfl ?_
          refine own_bipush X198 hx (46 : Int32) (hb hby at_212) rfl ?_
          by_cases hc217 : c126 = (46 : Int32)
          · refine own_icmpNo X198 hx (hb hby at_214) (teq hc217).2 ?_
            refine own_iconst X198 hx (1 : Int32) (hb hby at_217) rfl ?_
            refine own_istore (l' := #[.val (.int p1), .val (.int p2), .val (.int p3), .val (.int p4), .val (.int p5), .val (.int (4 : Int32)), .val (.int c123), .val (.int c124), .val (.int c125), .val (.int c126), .val (.ref b188), .val (.ref b193), .val (.int (1 : Int32))]) X198 hx (hb hby at_218) rfl ?_
            refine own_aload X198 hx (hb hby at_220) rfl rfl ?_
            have hV : Arv Z T198.heap sb198 kb198 .byte (4 : Int32) [(.int (c123.toInt8.toInt32)), (.int (46 : Int32)), (.int (c125.toInt8.toInt32)), (.int (c126.toInt8.toInt32))] (.int (0 : Int32)) := by have q := Vb198; rw [show (c124.toInt8.toInt32) = (46 : Int32) from by rw [hc215]; decide] at q; exact q
            have hIC := rmIC_4_1 l Z a0 hw [] sb198 kb198 c123 c124 c125 c126 T198.heap n0 (Nat.le_trans Zs197 K198.1) hV (own_dot lo123 hi123 hc199)
            refine own_cStat (W := 0) (rest := []) X198 hx hZ [(.ref b193)] hown (hw _ (List.mem_of_getElem? (i := 27) rfl)) (hw _ (List.mem_of_getElem? (i := 28) rfl)) (by decide) (hw _ (List.mem_of_getElem? (i := 30) rfl)) (hw _ (List.mem_of_getElem? (i := 29) rfl)) rfl (rmSL_4_0 l Z a0 hw [] b193 sb198 cs (1 : Int32) T198.heap n0 (Nat.le_trans Zs197 K198.1) (own_staKeep f194 K198 (allS (own_exaStat A193) all0)) hcs Ea198 Fv198 Fc198 (own_alnV Vb198) hIC (by decide)) (by rw [hml]; rfl) (lenOf pd_13 rfl) rfl (Nat.le_of_eq rfl) (hb hby at_222) (by decide) (by decide) (by decide) (by decide) fun v218 T218 L218 X218 hQ218 => ?_
            obtain ⟨rfl, N218q, e218⟩ := hQ218
            have N218 := Fr.app N198 N218q
            show own_At p e below _ T218 m 225 _ [(.int (0 : Int32))]
            refine own_iload X218 hx (hb hby at_225) rfl ?_
            refine own_ifYes X218 hx 234 (hb hby at_227) (feq (by decide : ¬ ((1 : Int32) = (0 : Int32)))).2 (by decide) (by decide) ?_
            refine own_iconst X218 hx (0 : Int32) (hb hby at_234) rfl ?_
            refine own_icmpNo X218 hx (hb hby at_235) (teq (by decide : (0 : Int32) = (0 : Int32))).2 ?_
            refine own_iconst X218 hx (1 : Int32) (hb hby at_238) rfl ?_
            refine own_goto X218 hx 243 (hb hby at_239) (by decide) (by decide) ?_
            refine own_retN X218 hx hlk hret (by simp) (by decide) (hb hby at_243) (own_kL hS0 (by rw [e218]; exact (Nat.le_trans (Nat.le_trans (Nat.le_trans (Nat.le_trans (Nat.le_trans (Nat.le_trans (Nat.le_trans (Nat.le_refl _) E188.1) (Keep.of_wr W189).1) (Keep.of_wr W190).1) (Keep.of_wr W191).1) (Keep.of_wr W192).1) E193.1) K198.1)) (by decide) (by decide) ?_)
            try rw [e218]
            exact ⟨rfl, N218⟩
          · refine own_icmpYes X198 hx 220 (hb hby at_214) (feq hc217).2 (by decide) (by decide) ?_
            refine own_aload X198 hx (hb hby at_220) rfl rfl ?_
            have hV : Arv Z T198.heap sb198 kb198 .byte (4 : Int32) [(.int (c123.toInt8.toInt32)), (.int (46 : Int32)), (.int (c125.toInt8.toInt32)), (.int (c126.toInt8.toInt32))] (.int (0 : Int32)) := by have q := Vb198; rw [show (c124.toInt8.toInt32) = (46 : Int32) from by rw [hc215]; decide] at q; exact q
            have hIC := rmIC_4_1 l Z a0 hw [] sb198 kb198 c123 c124 c125 c126 T198.heap n0 (Nat.le_trans Zs197 K198.1) hV (own_dot lo123 hi123 hc199)
            refine own_cStat (W := 0) (rest := []) X198 hx hZ [(.ref b193)] hown (hw _ (List.mem_of_getElem? (i := 27) rfl)) (hw _ (List.mem_of_getElem? (i := 28) rfl)) (by decide) (hw _ (List.mem_of_getElem? (i := 30) rfl)) (hw _ (List.mem_of_getElem? (i := 29) rfl)) rfl (rmSL_4_0 l Z a0 hw [] b193 sb198 cs (1 : Int32) T198.heap n0 (Nat.le_trans Zs197 K198.1) (own_staKeep f194 K198 (allS (own_exaStat A193) all0)) hcs Ea198 Fv198 Fc198 (own_alnV Vb198) hIC (by decide)) (by rw [hml]; rfl) (lenOf pd_13 rfl) rfl (Nat.le_of_eq rfl) (hb hby at_222) (by decide) (by decide) (by decide) (by decide) fun v219 T219 L219 X219 hQ219 => ?_
            obtain ⟨rfl, N219q, e219⟩ := hQ219
            have N219 := Fr.app N198 N219q
            show own_At p e below _ T219 m 225 _ [(.int (0 : Int32))]
            refine own_iload X219 hx (hb hby at_225) rfl ?_
            refine own_ifYes X219 hx 234 (hb hby at_227) (feq (by decide : ¬ ((1 : Int32) = (0 : Int32)))).2 (by decide) (by decide) ?_
            refine own_iconst X219 hx (0 : Int32) (hb hby at_234) rfl ?_
            refine own_icmpNo X219 hx (hb hby at_235) (teq (by decide : (0 : Int32) = (0 : Int32))).2 ?_
            refine own_iconst X219 hx (1 : Int32) (hb hby at_238) rfl ?_
            refine own_goto X219 hx 243 (hb hby at_239) (by decide) (by decide) ?_
            refine own_retN X219 hx hlk hret (by simp) (by decide) (hb hby at_243) (own_kL hS0 (by rw [e219]; exact (Nat.le_trans (Nat.le_trans (Nat.le_trans (Nat.le_trans (Nat.le_trans (Nat.le_trans (Nat.le_trans (Nat.le_refl _) E188.1) (Keep.of_wr W189).1) (Keep.of_wr W190).1) (Keep.of_wr W191).1) (Keep.of_wr W192).1) E193.1) K198.1)) (by decide) (by decide) ?_)
            try rw [e219]
            exact ⟨rfl, N219⟩
        · refine own_icmpYes X198 hx 204 (hb hby at_198) (feq hc216).2 (by decide) (by decide) ?_
          refine own_iload X198 hx (hb hby at_204) rfl ?_
          refine own_iconst X198 hx (3 : Int32) (hb hby at_206) rfl ?_
          refine own_icmpNo X198 hx (hb hby at_207) (tlt (by decide : (3 : Int32) < (4 : Int32))).2.2.2 ?_
          refine own_iload X198 hx (hb hby at_210) rfl ?_
          refine own_bipush X198 hx (46 : Int32) (hb hby at_212) rfl ?_
          by_cases hc220 : c126 = (46 : Int32)
          · refine own_icmpNo X198 hx (hb hby at_214) (teq hc220).2 ?_
            refine own_iconst X198 hx (1 : Int32) (hb hby at_217) rfl ?_
            refine own_istore (l' := #[.val (.int p1), .val (.int p2), .val (.int p3), .val (.int p4), .val (.int p5), .val (.int (4 : Int32)), .val (.int c123), .val (.int c124), .val (.int c125), .val (.int c126), .val (.ref b188), .val (.ref b193), .val (.int (1 : Int32))]) X198 hx (hb hby at_218) rfl ?_
            refine own_aload X198 hx (hb hby at_220) rfl rfl ?_
            have hV : Arv Z T198.heap sb198 kb198 .byte (4 : Int32) [(.int (c123.toInt8.toInt32)), (.int (46 : Int32)), (.int (c125.toInt8.toInt32)), (.int (c126.toInt8.toInt32))] (.int (0 : Int32)) := by have q := Vb198; rw [show (c124.toInt8.toInt32) = (46 : Int32) from by rw [hc215]; decide] at q; exact q
            have hIC := rmIC_4_1 l Z a0 hw [] sb198 kb198 c123 c124 c125 c126 T198.heap n0 (Nat.le_trans Zs197 K198.1) hV (own_dot lo123 hi123 hc199)
            refine own_cStat (W := 0) (rest := []) X198 hx hZ [(.ref b193)] hown (hw _ (List.mem_of_getElem? (i := 27) rfl)) (hw _ (List.mem_of_getElem? (i := 28) rfl)) (by decide) (hw _ (List.mem_of_getElem? (i := 30) rfl)) (hw _ (List.mem_of_getElem? (i := 29) rfl)) rfl (rmSL_4_0 l Z a0 hw [] b193 sb198 cs (1 : Int32) T198.heap n0 (Nat.le_trans Zs197 K198.1) (own_staKeep f194 K198 (allS (own_exaStat A193) all0)) hcs Ea198 Fv198 Fc198 (own_alnV Vb198) hIC (by decide)) (by rw [hml]; rfl) (lenOf pd_13 rfl) rfl (Nat.le_of_eq rfl) (hb hby at_222) (by decide) (by decide) (by decide) (by decide) fun v221 T221 L221 X221 hQ221 => ?_
            obtain ⟨rfl, N221q, e221⟩ := hQ221
            have N221 := Fr.app N198 N221q
            show own_At p e below _ T221 m 225 _ [(.int (0 : Int32))]
            refine own_iload X221 hx (hb hby at_225) rfl ?_
            refine own_ifYes X221 hx 234 (hb hby at_227) (feq (by decide : ¬ ((1 : Int32) = (0 : Int32)))).2 (by decide) (by decide) ?_
            refine own_iconst X221 hx (0 : Int32) (hb hby at_234) rfl ?_
            refine own_icmpNo X221 hx (hb hby at_235) (teq (by decide : (0 : Int32) = (0 : Int32))).2 ?_
            refine own_iconst X221 hx (1 : Int32) (hb hby at_238) rfl ?_
            refine own_goto X221 hx 243 (hb hby at_239) (by decide) (by decide) ?_
            refine own_retN X221 hx hlk hret (by simp) (by decide) (hb hby at_243) (own_kL hS0 (by rw [e221]; exact (Nat.le_trans (Nat.le_trans (Nat.le_trans (Nat.le_trans (Nat.le_trans (Nat.le_trans (Nat.le_trans (Nat.le_refl _) E188.1) (Keep.of_wr W189).1) (Keep.of_wr W190).1) (Keep.of_wr W191).1) (Keep.of_wr W192).1) E193.1) K198.1)) (by decide) (by decide) ?_)
            try rw [e221]
            exact ⟨rfl, N221⟩
          · refine own_icmpYes X198 hx 220 (hb hby at_214) (feq hc220).2 (by decide) (by decide) ?_
            refine own_aload X198 hx (hb hby at_220) rfl rfl ?_
            have hV : Arv Z T198.heap sb198 kb198 .byte (4 : Int32) [(.int (c123.toInt8.toInt32)), (.int (46 : Int32)), (.int (c125.toInt8.toInt32)), (.int (c126.toInt8.toInt32))] (.int (0 : Int32)) := by have q := Vb198; rw [show (c124.toInt8.toInt32) = (46 : Int32) from by rw [hc215]; decide] at q; exact q
            have hIC := rmIC_4_1 l Z a0 hw [] sb198 kb198 c123 c124 c125 c126 T198.heap n0 (Nat.le_trans Zs197 K198.1) hV (own_dot lo123 hi123 hc199)
            refine own_cStat (W := 0) (rest := []) X198 hx hZ [(.ref b193)] hown (hw _ (List.mem_of_getElem? (i := 27) rfl)) (hw _ (List.mem_of_getElem? (i := 28) rfl)) (by decide) (hw _ (List.mem_of_getElem? (i := 30) rfl)) (hw _ (List.mem_of_getElem? (i := 29) rfl)) rfl (rmSL_4_0 l Z a0 hw [] b193 sb198 cs (1 : Int32) T198.heap n0 (Nat.le_trans Zs197 K198.1) (own_staKeep f194 K198 (allS (own_exaStat A193) all0)) hcs Ea198 Fv198 Fc198 (own_alnV Vb198) hIC (by decide)) (by rw [hml]; rfl) (lenOf pd_13 rfl) rfl (Nat.le_of_eq rfl) (hb hby at_222) (by decide) (by decide) (by decide) (by decide) fun v222 T222 L222 X222 hQ222 => ?_
            obtain ⟨rfl, N222q, e222⟩ := hQ222
            have N222 := Fr.app N198 N222q
            show own_At p e below _ T222 m 225 _ [(.int (0 : Int32))]
            refine own_iload X222 hx (hb hby at_225) rfl ?_
            refine own_ifYes X222 hx 234 (hb hby at_227) (feq (by decide : ¬ ((1 : Int32) = (0 : Int32)))).2 (by decide) (by decide) ?_
            refine own_iconst X222 hx (0 : Int32) (hb hby at_234) rfl ?_
            refine own_icmpNo X222 hx (hb hby at_235) (teq (by decide : (0 : Int32) = (0 : Int32))).2 ?_
            refine own_iconst X222 hx (1 : Int32) (hb hby at_238) rfl ?_
            refine own_goto X222 hx 243 (hb hby at_239) (by decide) (by decide) ?_
            refine own_retN X222 hx hlk hret (by simp) (by decide) (hb hby at_243) (own_kL hS0 (by rw [e222]; exact (Nat.le_trans (Nat.le_trans (Nat.le_trans (Nat.le_trans (Nat.le_trans (Nat.le_trans (Nat.le_trans (Nat.le_refl _) E188.1) (Keep.of_wr W189).1) (Keep.of_wr W190).1) (Keep.of_wr W191).1) (Keep.of_wr W192).1) E193.1) K198.1)) (by decide) (by decide) ?_)
            try rw [e222]
            exact ⟨rfl, N222⟩
      · refine own_icmpYes X198 hx 188 (hb hby at_182) (feq hc215).2 (by decide) (by decide) ?_
        refine own_iload X198 hx (hb hby at_188) rfl ?_
        refine own_iconst X198 hx (2 : Int32) (hb hby at_190) rfl ?_
        refine own_icmpNo X198 hx (hb hby at_191) (tlt (by decide : (2 : Int32) < (4 : Int32))).2.2.2 ?_
        refine own_iload X198 hx (hb hby at_194) rfl ?_
        refine own_bipush X198 hx (46 : Int32) (hb hby at_196) rfl ?_
        by_cases hc223 : c125 = (46 : Int32)
        · refine own_icmpNo X198 hx (hb hby at_198) (teq hc223).2 ?_
          refine own_iconst X198 hx (1 : Int32) (hb hby at_201) rfl ?_
          refine own_istore (l' := #[.val (.int p1), .val (.int p2), .val (.int p3), .val (.int p4), .val (.int p5), .val (.int (4 : Int32)), .val (.int c123), .val (.int c124), .val (.int c125), .val (.int c126), .val (.ref b188), .val (.ref b193), .val (.int (1 : Int32))]) X198 hx (hb hby at_202) rfl ?_
          refine own_iload X198 hx (hb hby at_204) rfl ?_
          refine own_iconst X198 hx (3 : Int32) (hb hby at_206) rfl ?_
          refine own_icmpNo X198 hx (hb hby at_207) (tlt (by decide : (3 : Int32) < (4 : Int32))).2.2.2 ?_
          refine own_iload X198 hx (hb hby at_210) rfl ?_
          refine own_bipush X198 hx (46 : Int32) (hb hby at_212) rfl ?_
          by_cases hc224 : c126 = (46 : Int32)
          · refine own_icmpNo X198 hx (hb hby at_214) (teq hc224).2 ?_
            refine own_iconst X198 hx (1 : Int32) (hb hby at_217) rfl ?_
            refine own_istore (l' := #[.val (.int p1), .val (.int p2), .val (.int p3), .val (.int p4), .val (.int p5), .val (.int (4 : Int32)), .val (.int c123), .val (.int c124), .val (.int c125), .val (.int c126), .val (.ref b188), .val (.ref b193), .val (.int (1 : Int32))]) X198 hx (hb hby at_218) rfl ?_
            refine own_aload X198 hx (hb hby at_220) rfl rfl ?_
            have hV : Arv Z T198.heap sb198 kb198 .byte (4 : Int32) [(.int (c123.toInt8.toInt32)), (.int (c124.toInt8.toInt32)), (.int (46 : Int32)), (.int (c126.toInt8.toInt32))] (.int (0 : Int32)) := by have q := Vb198; rw [show (c125.toInt8.toInt32) = (46 : Int32) from by rw [hc223]; decide] at q; exact q
            have hIC := rmIC_4_2 l Z a0 hw [] sb198 kb198 c123 c124 c125 c126 T198.heap n0 (Nat.le_trans Zs197 K198.1) hV (own_dot lo123 hi123 hc199) (own_dot lo124 hi124 hc215)
            refine own_cStat (W := 0) (rest := []) X198 hx hZ [(.ref b193)] hown (hw _ (List.mem_of_getElem? (i := 27) rfl)) (hw _ (List.mem_of_getElem? (i := 28) rfl)) (by decide) (hw _ (List.mem_of_getElem? (i := 30) rfl)) (hw _ (List.mem_of_getElem? (i := 29) rfl)) rfl (rmSL_4_0 l Z a0 hw [] b193 sb198 cs (2 : Int32) T198.heap n0 (Nat.le_trans Zs197 K198.1) (own_staKeep f194 K198 (allS (own_exaStat A193) all0)) hcs Ea198 Fv198 Fc198 (own_alnV Vb198) hIC (by decide)) (by rw [hml]; rfl) (lenOf pd_13 rfl) rfl (Nat.le_of_eq rfl) (hb hby at_222) (by decide) (by decide) (by decide) (by decide) fun v225 T225 L225 X225 hQ225 => ?_
            obtain ⟨rfl, N225q, e225⟩ := hQ225
            have N225 := Fr.app N198 N225q
            show own_At p e below _ T225 m 225 _ [(.int (0 : Int32))]
            refine own_iload X225 hx (hb hby at_225) rfl ?_
            refine own_ifYes X225 hx 234 (hb hby at_227) (feq (by decide : ¬ ((1 : Int32) = (0 : Int32)))).2 (by decide) (by decide) ?_
            refine own_iconst X225 hx (0 : Int32) (hb hby at_234) rfl ?_
            refine own_icmpNo X225 hx (hb hby at_235) (teq (by decide : (0 : Int32) = (0 : Int32))).2 ?_
            refine own_iconst X225 hx (1 : Int32) (hb hby at_238) rfl ?_
            refine own_goto X225 hx 243 (hb hby at_239) (by decide) (by decide) ?_
            refine own_retN X225 hx hlk hret (by simp) (by decide) (hb hby at_243) (own_kL hS0 (by rw [e225]; exact (Nat.le_trans (Nat.le_trans (Nat.le_trans (Nat.le_trans (Nat.le_trans (Nat.le_trans (Nat.le_trans (Nat.le_refl _) E188.1) (Keep.of_wr W189).1) (Keep.of_wr W190).1) (Keep.of_wr W191).1) (Keep.of_wr W192).1) E193.1) K198.1)) (by decide) (by decide) ?_)
            try rw [e225]
            exact ⟨rfl, N225⟩
          · refine own_icmpYes X198 hx 220 (hb hby at_214) (feq hc224).2 (by decide) (by decide) ?_
            refine own_aload X198 hx (hb hby at_220) rfl rfl ?_
            have hV : Arv Z T198.heap sb198 kb198 .byte (4 : Int32) [(.int (c123.toInt8.toInt32)), (.int (c124.toInt8.toInt32)), (.int (46 : Int32)), (.int (c126.toInt8.toInt32))] (.int (0 : Int32)) := by have q := Vb198; rw [show (c125.toInt8.toInt32) = (46 : Int32) from by rw [hc223]; decide] at q; exact q
            have hIC := rmIC_4_2 l Z a0 hw [] sb198 kb198 c123 c124 c125 c126 T198.heap n0 (Nat.le_trans Zs197 K198.1) hV (own_dot lo123 hi123 hc199) (own_dot lo124 hi124 hc215)
            refine own_cStat (W := 0) (rest := []) X198 hx hZ [(.ref b193)] hown (hw _ (List.mem_of_getElem? (i := 27) rfl)) (hw _ (List.mem_of_getElem? (i := 28) rfl)) (by decide) (hw _ (List.mem_of_getElem? (i := 30) rfl)) (hw _ (List.mem_of_getElem? (i := 29) rfl)) rfl (rmSL_4_0 l Z a0 hw [] b193 sb198 cs (2 : Int32) T198.heap n0 (Nat.le_trans Zs197 K198.1) (own_staKeep f194 K198 (allS (own_exaStat A193) all0)) hcs Ea198 Fv198 Fc198 (own_alnV Vb198) hIC (by decide)) (by rw [hml]; rfl) (lenOf pd_13 rfl) rfl (Nat.le_of_eq rfl) (hb hby at_222) (by decide) (by decide) (by decide) (by decide) fun v226 T226 L226 X226 hQ226 => ?_
            obtain ⟨rfl, N226q, e226⟩ := hQ226
            have N226 := Fr.app N198 N226q
            show own_At p e below _ T226 m 225 _ [(.int (0 : Int32))]
            refine own_iload X226 hx (hb hby at_225) rfl ?_
            refine own_ifYes X226 hx 234 (hb hby at_227) (feq (by decide : ¬ ((1 : Int32) = (0 : Int32)))).2 (by decide) (by decide) ?_
            refine own_iconst X226 hx (0 : Int32) (hb hby at_234) rfl ?_
            refine own_icmpNo X226 hx (hb hby at_235) (teq (by decide : (0 : Int32) = (0 : Int32))).2 ?_
            refine own_iconst X226 hx (1 : Int32) (hb hby at_238) rfl ?_
            refine own_goto X226 hx 243 (hb hby at_239) (by decide) (by decide) ?_
            refine own_retN X226 hx hlk hret (by simp) (by decide) (hb hby at_243) (own_kL hS0 (by rw [e226]; exact (Nat.le_trans (Nat.le_trans (Nat.le_trans (Nat.le_trans (Nat.le_trans (Nat.le_trans (Nat.le_trans (Nat.le_refl _) E188.1) (Keep.of_wr W189).1) (Keep.of_wr W190).1) (Keep.of_wr W191).1) (Keep.of_wr W192).1) E193.1) K198.1)) (by decide) (by decide) ?_)
            try rw [e226]
            exact ⟨rfl, N226⟩
        · refine own_icmpYes X198 hx 204 (hb hby at_198) (feq hc223).2 (by decide) (by decide) ?_
          refine own_iload X198 hx (hb hby at_204) rfl ?_
          refine own_iconst X198 hx (3 : Int32) (hb hby at_206) rfl ?_
          refine own_icmpNo X198 hx (hb hby at_207) (tlt (by decide : (3 : Int32) < (4 : Int32))).2.2.2 ?_
          refine own_iload X198 hx (hb hby at_210) rfl ?_
          refine own_bipush X198 hx (46 : Int32) (hb hby at_212) rfl ?_
          by_cases hc227 : c126 = (46 : Int32)
          · refine own_icmpNo X198 hx (hb hby at_214) (teq hc227).2 ?_
            refine own_iconst X198 hx (1 : Int32) (hb hby at_217) rfl ?_
            refine own_istore (l' := #[.val (.int p1), .val (.int p2), .val (.int p3), .val (.int p4), .val (.int p5), .val (.int (4 : Int32)), .val (.int c123), .val (.int c124), .val (.int c125), .val (.int c126), .val (.ref b188), .val (.ref b193), .val (.int (1 : Int32))]) X198 hx (hb hby at_218) rfl ?_
            refine own_aload X198 hx (hb hby at_220) rfl rfl ?_
            have hV : Arv Z T198.heap sb198 kb198 .byte (4 : Int32) [(.int (c123.toInt8.toInt32)), (.int (c124.toInt8.toInt32)), (.int (c125.toInt8.toInt32)), (.int (46 : Int32))] (.int (0 : Int32)) := by have q := Vb198; rw [show (c126.toInt8.toInt32) = (46 : Int32) from by rw [hc227]; decide] at q; exact q
            have hIC := rmIC_4_3 l Z a0 hw [] sb198 kb198 c123 c124 c125 c126 T198.heap n0 (Nat.le_trans Zs197 K198.1) hV (own_dot lo123 hi123 hc199) (own_dot lo124 hi124 hc215) (own_dot lo125 hi125 hc223)
            refine own_cStat (W := 0) (rest := []) X198 hx hZ [(.ref b193)] hown (hw _ (List.mem_of_getElem? (i := 27) rfl)) (hw _ (List.mem_of_getElem? (i := 28) rfl)) (by decide) (hw _ (List.mem_of_getElem? (i := 30) rfl)) (hw _ (List.mem_of_getElem? (i := 29) rfl)) rfl (rmSL_4_0 l Z a0 hw [] b193 sb198 cs (3 : Int32) T198.heap n0 (Nat.le_trans Zs197 K198.1) (own_staKeep f194 K198 (allS (own_exaStat A193) all0)) hcs Ea198 Fv198 Fc198 (own_alnV Vb198) hIC (by decide)) (by rw [hml]; rfl) (lenOf pd_13 rfl) rfl (Nat.le_of_eq rfl) (hb hby at_222) (by decide) (by decide) (by decide) (by decide) fun v228 T228 L228 X228 hQ228 => ?_
            obtain ⟨rfl, N228q, e228⟩ := hQ228
            have N228 := Fr.app N198 N228q
            show own_At p e below _ T228 m 225 _ [(.int (0 : Int32))]
            refine own_iload X228 hx (hb hby at_225) rfl ?_
            refine own_ifYes X228 hx 234 (hb hby at_227) (feq (by decide : ¬ ((1 : Int32) = (0 : Int32)))).2 (by decide) (by decide) ?_
            refine own_iconst X228 hx (0 : Int32) (hb hby at_234) rfl ?_
            refine own_icmpNo X228 hx (hb hby at_235) (teq (by decide : (0 : Int32) = (0 : Int32))).2 ?_
            refine own_iconst X228 hx (1 : Int32) (hb hby at_238) rfl ?_
            refine own_goto X228 hx 243 (hb hby at_239) (by decide) (by decide) ?_
            refine own_retN X228 hx hlk hret (by simp) (by decide) (hb hby at_243) (own_kL hS0 (by rw [e228]; exact (Nat.le_trans (Nat.le_trans (Nat.le_trans (Nat.le_trans (Nat.le_trans (Nat.le_trans (Nat.le_trans (Nat.le_refl _) E188.1) (Keep.of_wr W189).1) (Keep.of_wr W190).1) (Keep.of_wr W191).1) (Keep.of_wr W192).1) E193.1) K198.1)) (by decide) (by decide) ?_)
            try rw [e228]
            exact ⟨rfl, N228⟩
          · refine own_icmpYes X198 hx 220 (hb hby at_214) (feq hc227).2 (by decide) (by decide) ?_
            refine own_aload X198 hx (hb hby at_220) rfl rfl ?_
            have hIC := rmIC_4_n l Z a0 hw [] sb198 kb198 c123 c124 c125 c126 T198.heap n0 (Nat.le_trans Zs197 K198.1) Vb198 (own_dot lo123 hi123 hc199) (own_dot lo124 hi124 hc215) (own_dot lo125 hi125 hc223) (own_dot lo126 hi126 hc227)
            refine own_cStat (W := 0) (rest := []) X198 hx hZ [(.ref b193)] hown (hw _ (List.mem_of_getElem? (i := 27) rfl)) (hw _ (List.mem_of_getElem? (i := 28) rfl)) (by decide) (hw _ (List.mem_of_getElem? (i := 30) rfl)) (hw _ (List.mem_of_getElem? (i := 29) rfl)) rfl (rmSL_4_1 l Z a0 hw [] b193 sb198 cs (-1 : Int32) T198.heap n0 (Nat.le_trans Zs197 K198.1) (own_staKeep f194 K198 (allS (own_exaStat A193) all0)) hcs Ea198 Fv198 Fc198 (own_alnV Vb198) hIC (by decide)) (by rw [hml]; rfl) (lenOf pd_13 rfl) rfl (Nat.le_of_eq rfl) (hb hby at_222) (by decide) (by decide) (by decide) (by decide) fun v229 T229 L229 X229 hQ229 => ?_
            obtain ⟨rfl, N229q, e229⟩ := hQ229
            have N229 := Fr.app N198 N229q
            show own_At p e below _ T229 m 225 _ [(.int (1 : Int32))]
            refine own_iload X229 hx (hb hby at_225) rfl ?_
            refine own_ifNo X229 hx (hb hby at_227) (teq (by decide : (0 : Int32) = (0 : Int32))).2 ?_
            refine own_iconst X229 hx (1 : Int32) (hb hby at_230) rfl ?_
            refine own_goto X229 hx 235 (hb hby at_231) (by decide) (by decide) ?_
            refine own_icmpNo X229 hx (hb hby at_235) (teq (by decide : (1 : Int32) = (1 : Int32))).2 ?_
            refine own_iconst X229 hx (1 : Int32) (hb hby at_238) rfl ?_
            refine own_goto X229 hx 243 (hb hby at_239) (by decide) (by decide) ?_
            refine own_retN X229 hx hlk hret (by simp) (by decide) (hb hby at_243) (own_kL hS0 (by rw [e229]; exact (Nat.le_trans (Nat.le_trans (Nat.le_trans (Nat.le_trans (Nat.le_trans (Nat.le_trans (Nat.le_trans (Nat.le_refl _) E188.1) (Keep.of_wr W189).1) (Keep.of_wr W190).1) (Keep.of_wr W191).1) (Keep.of_wr W192).1) E193.1) K198.1)) (by decide) (by decide) ?_)
            try rw [e229]
            exact ⟨rfl, N229⟩
set_option maxRecDepth 65536 in
set_option maxHeartbeats 40000000 in
theorem comes_1 {Post : Tables → Env → Array Value → State → Outcome → State → Prop} (hpost : ∀ tb e args s v u, (limb_1_1.after args s (.returned v) u = true ∧ limb_1_2.after args s (.returned v) u = true ∧ True) → ReturnedEndW s (.returned v) u (Jvm.fieldLocs frame_1_writes args s ++ Jvm.arrayLocs frame_1_arrays args s ++ Jvm.staticLocs frame_1_statics s) 16 1152 → Post tb e args s (.returned v) u) :
    ArmFor flags0 classFile x code maxLocals ret World_1 tables_1 room_1 Calls_1 rest_1 Pre_1 Post := by
  intro l hfl _ _ p e ha hc hk s m args below hf hA hF happ hP
  obtain ⟨hcalls, hrest, hpre⟩ := hP
  obtain ⟨-, -, -, hnamed, -, -, -, hat⟩ := (Spec.applies_iff hf).mp happ
  obtain ⟨hg, hn⟩ := and_e (Cond.before_iff.mp (show (Jvm.Cond.and given_1 narrow_1).before args s = true from hpre))
  obtain ⟨g0a, g0b⟩ := and_e hg
  obtain ⟨g1a, g1b⟩ := and_e g0b
  obtain ⟨g2a, g2b⟩ := and_e g1b
  obtain ⟨g3a, g3b⟩ := and_e g2b
  obtain ⟨g4a, g4b⟩ := and_e g3b
  obtain ⟨w0, w1, w2, w3, w4, rfl⟩ : ∃ w0 w1 w2 w3 w4 : Value, args = #[w0, w1, w2, w3, w4] := by
    have hs : args.size = 5 := by simpa [Cond.value, given_1] using g0a
    obtain ⟨L⟩ := args
    match L, hs with
    | [w0, w1, w2, w3, w4], _ => exact ⟨w0, w1, w2, w3, w4, rfl⟩
  have hw := fun d (hd : d ∈ tables_1) => atoms_spec (ws := Jvm.Cond.code x code maxLocals ret :: tables_1) hat d (List.mem_cons_of_mem _ hd)
  have hfit : Fit s := fun {y c} hc i hi => by
    obtain ⟨ha, rfl⟩ := Array.getElem?_eq_some_iff.mp hc
    have q := List.all_eq_true.mp ((Array.all_eq_true_iff_forall_mem.mp hF) _ (Array.getElem_mem ha)) i (List.mem_range.mpr hi)
    simpa [Array.getElem?_eq_getElem hi] using q
  obtain ⟨hsets, hown0⟩ := atoms_of _ (rest_1_c_eq ▸ (show rest_1_c.before _ s = true from hrest))
  have hr0 := Cond.before_iff.mp hown0
  obtain ⟨i0, ei0⟩ := is_v g1a
  obtain rfl : w0 = (.int i0) := Option.some.inj ei0
  obtain ⟨i1, ei1⟩ := is_v g2a
  obtain rfl : w1 = (.int i1) := Option.some.inj ei1
  obtain ⟨i2, ei2⟩ := is_v g3a
  obtain rfl : w2 = (.int i2) := Option.some.inj ei2
  obtain ⟨i3, ei3⟩ := is_v g4a
  obtain rfl : w3 = (.int i3) := Option.some.inj ei3
  obtain ⟨i4, ei4⟩ := is_v g4b
  obtain rfl : w4 = (.int i4) := Option.some.inj ei4
  obtain ⟨cs, evc⟩ := is_v (Cond.before_iff.mp (hsets _ (List.mem_of_getElem? (i := 1) rfl)))
  have Sc := Sta.start evc (Or.inl (hsets _ (List.mem_of_getElem? (i := 0) rfl)))
  have hcs : ¬ cs = (0 : Int32) := gotF (Cond.eq_ints evc (Term.int_eval 0)) (not_v (Cond.before_iff.mp (hsets _ (List.mem_of_getElem? (i := 2) rfl))))
  have CHs : CHv s own_EL s.vm s.heap := CHv.start (own_ELw hw) (fun p hp => by simp only [List.mem_singleton] at hp; subst hp; exact (hcalls.1 _ (List.mem_of_getElem? (i := 0) rfl))) (hsets _ (List.mem_of_getElem? (i := 2) rfl)) (hw _ (List.mem_of_getElem? (i := 20) rfl)) (hw _ (List.mem_of_getElem? (i := 7) rfl))
  obtain ⟨n, o, h1, h2, h3, _, L, rfl, ⟨rfl, N⟩, hq⟩ := (rm0 l s _ hw tables_1 cs i0 i1 i2 i3 i4 s.heap s.heap.size (Nat.le_refl _) Sc hcs) p e ha hc hk s m _ below hf ((Spec.applies_iff_loose hf).mp happ).1 ⟨rfl, State.Warmed39.refl s, rfl, CHs⟩ trivial
  refine ⟨n, _, h1, h2, h3, hpost _ _ _ _ _ _ ⟨Cond.after_iff.mpr rfl, Cond.after_iff.mpr (eq_i res_at (Term.int_eval (1)) rfl), trivial⟩ ⟨hq.1, hq.2.1, hq.2.2.1, (hq.2.2.2.sift fun y hy => Or.inr (N y hy)).mono (by decide) (by decide)⟩⟩
theorem main_1_1 : Claimed_1_1 := comes_1 fun _ _ _ _ _ _ h hF => ⟨h.1, hF⟩
theorem main_1_2 : Claimed_1_2 := comes_1 fun _ _ _ _ _ _ h hF => ⟨h.2.1, hF⟩
end Jvm.Pilot.@@N@@
namespace Jvm.Pilot.@@N@@
open Jvm Jvm.ClassFile Sem Op Lib Jvm.Free Jvm.Stand Jvm.Pilot.@@N@@.Jvm.D
/-! MADE BY PROGRAM (witnessworld.py) out of the Statement's table words and the real class files: 21 classes; the members and pool entries that the words name. The judged class is class 1, her method 2. -/
namespace start1
open Jvm.ClassFile
def u (s : String) : CpInfo := .utf8 (stringToUtf16 s)
/-- a pool by its gaps: so many unusable entries, then the entry; so many at the end -/
def gap : Nat → List CpInfo → List CpInfo
  | 0, r => r
  | n + 1, r => .unusable :: gap n r
def poolList (es : List (Nat × CpInfo)) (last : Nat) : List CpInfo := es.foldr (fun e r => gap e.1 (e.2 :: r)) (gap last [])
def pool (es : List (Nat × CpInfo)) (last : Nat) : Array CpInfo := ⟨poolList es last⟩
def fileOf (pool : Array CpInfo) (this : Nat) (attrs : Array Attribute := #[]) (ms : Array MethodInfo := #[]) (fl : Nat := 33) (sup : Nat := 0) (ifs : Array Nat := #[]) (fds : Array FieldInfo := #[]) : ClassFile where
  minorVersion := 0
  majorVersion := 65
  constantPool := pool
  accessFlags := fl
  thisClass := this
  superClass := sup
  interfaces := ifs
  fields := fds
  methods := ms
  attributes := attrs
def plain (name : String) (sup : Option ClassId) : Class where
  name := name
  kind := .ordinary
  loader := none
  accessFlags := 33
  super := sup
  interfaces := #[]
  cf := none
  fields := #[]
  methods := #[]
  instanceTypes := #[]
  staticTypes := #[]
  resolved := #[]
  callSites := []
  init := .initialized
  statics := none
  mirror := none

def pool0 : Array CpInfo := pool [(5, u "<init>"), (0, u "()V"), (1, .class_ 10), (1, u "java/lang/Object")] 113

def k0c0 : Code := { maxStack := 0, maxLocals := 1, code := object_method_1_code, exceptionTable := #[], attributes := #[] }
def k0m0 : Method := { name := "<init>", desc := "()V", sig := { parameters := [], returnType := none }, accessFlags := 1, code := some k0c0 }
/-- java/lang/Object -/
def k0 : Class := { plain "java/lang/Object" none with
  accessFlags := 33
  interfaces := #[]
  cf := some (fileOf pool0 8 #[] #[{ accessFlags := 1, nameIndex := 5, descriptorIndex := 6, attributes := #[] }] 33 0 #[] #[])
  fields := #[]
  methods := #[k0m0]
  instanceTypes := #[]
  staticTypes := #[]
  resolved := Array.replicate 124 none
  statics := none }

def pool1 : Array CpInfo := pool [(2, .class_ 4), (1, u "java/lang/Object"), (0, u "<init>"), (0, u "()V"), (0, .integer 2147483647), (0, .methodref 9 10), (0, .class_ 11), (0, .nameAndType 12 13), (0, u "com/example/ratatoskr/ratatoskr/DomainNameIsSingleLabelPinLaw"), (0, u "ch"), (0, u "(I)C"), (0, .class_ 15), (0, u "java/lang/String"), (0, .methodref 14 17), (0, .nameAndType 5 18), (0, u "([C)V"), (0, .methodref 20 21), (0, .class_ 22), (0, .nameAndType 23 24), (0, u "com/example/ratatoskr/ratatoskr/DomainName"), (0, u "isSingleLabel"), (0, u "(Ljava/lang/String;)Z"), (3, u "law"), (0, u "(IIIII)Z")] 4

def k1m0 : Method := { name := "<init>", desc := "()V", sig := { parameters := [], returnType := none }, accessFlags := 2, code := none }
def k1c1 : Code := { maxStack := 2, maxLocals := 1, code := method_2_code, exceptionTable := #[], attributes := #[] }
def k1m1 : Method := { name := "ch", desc := "(I)C", sig := { parameters := [.int], returnType := some .char }, accessFlags := 10, code := some k1c1 }
def k1c2 : Code := { maxStack := 4, maxLocals := 13, code := code, exceptionTable := #[], attributes := #[] }
def k1m2 : Method := { name := "law", desc := "(IIIII)Z", sig := { parameters := [.int, .int, .int, .int, .int], returnType := some .boolean }, accessFlags := 9, code := some k1c2 }
/-- com/example/ratatoskr/ratatoskr/DomainNameIsSingleLabelPinLaw -/
def k1 : Class := { plain "com/example/ratatoskr/ratatoskr/DomainNameIsSingleLabelPinLaw" (some 0) with
  accessFlags := 49
  interfaces := #[]
  cf := some (fileOf pool1 9 #[] #[{ accessFlags := 2, nameIndex := 5, descriptorIndex := 6, attributes := #[] }, { accessFlags := 10, nameIndex := 12, descriptorIndex := 13, attributes := #[] }, { accessFlags := 9, nameIndex := 28, descriptorIndex := 29, attributes := #[] }] 49 2 #[] #[])
  fields := #[]
  methods := #[k1m0, k1m1, k1m2]
  instanceTypes := #[]
  staticTypes := #[]
  resolved := Array.replicate 34 none
  statics := none }

def pool2 : Array CpInfo := pool [(1, .class_ 2), (0, u "java/io/Serializable"), (0, .class_ 4), (0, u "java/lang/Object")] 2

/-- java/io/Serializable -/
def k2 : Class := { plain "java/io/Serializable" (some 0) with
  accessFlags := 1537
  interfaces := #[]
  cf := some (fileOf pool2 1 #[] #[] 1537 3 #[] #[])
  fields := #[]
  methods := #[]
  instanceTypes := #[]
  staticTypes := #[]
  resolved := Array.replicate 7 none
  statics := none }

def pool3 : Array CpInfo := pool [(1, .class_ 2), (0, u "java/lang/Comparable"), (0, .class_ 4), (0, u "java/lang/Object")] 7

/-- java/lang/Comparable -/
def k3 : Class := { plain "java/lang/Comparable" (some 0) with
  accessFlags := 1537
  interfaces := #[]
  cf := some (fileOf pool3 1 #[] #[] 1537 3 #[] #[])
  fields := #[]
  methods := #[]
  instanceTypes := #[]
  staticTypes := #[]
  resolved := Array.replicate 12 none
  statics := none }

def pool4 : Array CpInfo := pool [(2, .class_ 4), (1, u "java/lang/CharSequence"), (42, .class_ 48), (0, u "java/lang/CharSequence$1CodePointIterator"), (10, .class_ 60), (0, u "java/lang/CharSequence$1CharIterator"), (5, .class_ 67), (0, u "java/lang/Object")] 63

/-- java/lang/CharSequence -/
def k4 : Class := { plain "java/lang/CharSequence" (some 0) with
  accessFlags := 1537
  interfaces := #[]
  cf := some (fileOf pool4 2 #[.nestMembers #[47, 59]] #[] 1537 66 #[] #[])
  fields := #[]
  methods := #[]
  instanceTypes := #[]
  staticTypes := #[]
  resolved := Array.replicate 131 none
  statics := none }

def pool5 : Array CpInfo := pool [(1, .class_ 2), (0, u "java/lang/constant/Constable"), (0, .class_ 4), (0, u "java/lang/Object")] 6

/-- java/lang/constant/Constable -/
def k5 : Class := { plain "java/lang/constant/Constable" (some 0) with
  accessFlags := 1537
  interfaces := #[]
  cf := some (fileOf pool5 1 #[] #[] 1537 3 #[] #[])
  fields := #[]
  methods := #[]
  instanceTypes := #[]
  staticTypes := #[]
  resolved := Array.replicate 11 none
  statics := none }

def pool6 : Array CpInfo := pool [(1, .class_ 2), (0, u "java/lang/constant/ConstantDesc"), (0, .class_ 4), (0, u "java/lang/Object")] 32

/-- java/lang/constant/ConstantDesc -/
def k6 : Class := { plain "java/lang/constant/ConstantDesc" (some 0) with
  accessFlags := 1537
  interfaces := #[]
  cf := some (fileOf pool6 1 #[] #[] 1537 3 #[] #[])
  fields := #[]
  methods := #[]
  instanceTypes := #[]
  staticTypes := #[]
  resolved := Array.replicate 37 none
  statics := none }

def pool7 : Array CpInfo := pool [(1, .methodref 2 3), (0, .class_ 4), (0, .nameAndType 5 6), (0, u "java/lang/Object"), (0, u "<init>"), (0, u "()V"), (0, .string 8), (0, u ""), (0, .fieldref 10 11), (0, .class_ 12), (0, .nameAndType 13 14), (0, u "java/lang/String"), (0, u "value"), (0, u "[B"), (0, .fieldref 10 16), (0, .nameAndType 17 18), (0, u "coder"), (0, u "B"), (2, u "hash"), (0, u "I"), (2, u "hashIsZero"), (0, u "Z"), (0, .methodref 10 28), (0, .nameAndType 5 29), (0, u "([CIILjava/lang/Void;)V"), (8, .fieldref 10 39), (0, .nameAndType 40 26), (0, u "COMPACT_STRINGS"), (1, .class_ 44), (1, u "java/lang/StringUTF16"), (0, u "compress"), (1, .methodref 42 48), (0, .nameAndType 49 50), (0, u "coderFromArrayLen"), (0, u "([BI)B"), (56, .class_ 109), (1, u "java/lang/StringLatin1"), (32, u "()Z"), (34, .methodref 42 178), (0, .nameAndType 45 179), (0, u "([CII)[B"), (154, u "()I"), (0, .methodref 10 336), (0, .nameAndType 17 337), (0, u "()B"), (154, .methodref 10 493), (0, .nameAndType 494 142), (0, u "isLatin1"), (10, .methodref 10 506), (0, .nameAndType 507 334), (0, u "length"), (67, .class_ 576), (0, u "java/lang/CharSequence"), (22, u "CASE_INSENSITIVE_ORDER"), (0, u "Ljava/util/Comparator;"), (32, .methodref 10 634), (0, .nameAndType 635 636), (0, u "indexOf"), (0, u "(II)I"), (0, .methodref 107 638), (0, .nameAndType 635 639), (0, u "([BIII)I"), (125, u "(I)I"), (244, u "([C)V"), (90, u "serialPersistentFields"), (0, u "[Ljava/io/ObjectStreamField;"), (0, .class_ 1104), (0, u "java/lang/String$CaseInsensitiveComparator"), (1, .class_ 1107), (0, u "java/io/Serializable"), (0, .class_ 1109), (0, u "java/lang/Comparable"), (0, .class_ 1111), (0, u "java/lang/constant/Constable"), (0, .class_ 1113), (0, u "java/lang/constant/ConstantDesc"), (2, u "serialVersionUID"), (0, u "J"), (3, u "REPL"), (0, u "C"), (2, u "LATIN1"), (1, u "UTF16")] 323

def k7m0 : Method := { name := "<init>", desc := "()V", sig := { parameters := [], returnType := none }, accessFlags := 1, code := none }
def k7c1 : Code := { maxStack := 5, maxLocals := 2, code := jdk_42_method_3_code, exceptionTable := #[], attributes := #[] }
def k7m1 : Method := { name := "<init>", desc := "([C)V", sig := { parameters := [(.array .char)], returnType := none }, accessFlags := 1, code := some k7c1 }
def k7c2 : Code := { maxStack := 2, maxLocals := 1, code := jdk_42_method_54_code, exceptionTable := #[], attributes := #[] }
def k7m2 : Method := { name := "length", desc := "()I", sig := { parameters := [], returnType := some .int }, accessFlags := 1, code := some k7c2 }
def k7c3 : Code := { maxStack := 3, maxLocals := 2, code := jdk_42_method_79_code, exceptionTable := #[], attributes := #[] }
def k7m3 : Method := { name := "indexOf", desc := "(I)I", sig := { parameters := [.int], returnType := some .int }, accessFlags := 1, code := some k7c3 }
def k7c4 : Code := { maxStack := 4, maxLocals := 3, code := jdk_42_method_80_code, exceptionTable := #[], attributes := #[] }
def k7m4 : Method := { name := "indexOf", desc := "(II)I", sig := { parameters := [.int, .int], returnType := some .int }, accessFlags := 1, code := some k7c4 }
def k7c5 : Code := { maxStack := 4, maxLocals := 6, code := jdk_42_method_149_code, exceptionTable := #[], attributes := #[] }
def k7m5 : Method := { name := "<init>", desc := "([CIILjava/lang/Void;)V", sig := { parameters := [(.array .char), .int, .int, (.object "java/lang/Void")], returnType := none }, accessFlags := 2, code := some k7c5 }
def k7c6 : Code := { maxStack := 1, maxLocals := 1, code := jdk_42_method_152_code, exceptionTable := #[], attributes := #[] }
def k7m6 : Method := { name := "coder", desc := "()B", sig := { parameters := [], returnType := some .byte }, accessFlags := 0, code := some k7c6 }
def k7c7 : Code := { maxStack := 1, maxLocals := 1, code := jdk_42_method_154_code, exceptionTable := #[], attributes := #[] }
def k7m7 : Method := { name := "isLatin1", desc := "()Z", sig := { parameters := [], returnType := some .boolean }, accessFlags := 0, code := some k7c7 }
/-- java/lang/String -/
def k7 : Class := { plain "java/lang/String" (some 0) with
  accessFlags := 49
  interfaces := #[2, 3, 4, 5, 6]
  cf := some (fileOf pool7 10 #[.nestMembers #[1103]] #[{ accessFlags := 1, nameIndex := 5, descriptorIndex := 6, attributes := #[] }, { accessFlags := 1, nameIndex := 5, descriptorIndex := 1010, attributes := #[] }, { accessFlags := 1, nameIndex := 507, descriptorIndex := 334, attributes := #[] }, { accessFlags := 1, nameIndex := 635, descriptorIndex := 765, attributes := #[] }, { accessFlags := 1, nameIndex := 635, descriptorIndex := 636, attributes := #[] }, { accessFlags := 2, nameIndex := 5, descriptorIndex := 29, attributes := #[] }, { accessFlags := 0, nameIndex := 17, descriptorIndex := 337, attributes := #[] }, { accessFlags := 0, nameIndex := 494, descriptorIndex := 142, attributes := #[] }] 49 2 #[1106, 1108, 575, 1110, 1112] #[{ accessFlags := 18, nameIndex := 13, descriptorIndex := 14, attributes := #[] }, { accessFlags := 18, nameIndex := 17, descriptorIndex := 18, attributes := #[] }, { accessFlags := 2, nameIndex := 21, descriptorIndex := 22, attributes := #[] }, { accessFlags := 2, nameIndex := 25, descriptorIndex := 26, attributes := #[] }, { accessFlags := 26, nameIndex := 1116, descriptorIndex := 1117, attributes := #[] }, { accessFlags := 24, nameIndex := 40, descriptorIndex := 26, attributes := #[] }, { accessFlags := 26, nameIndex := 1101, descriptorIndex := 1102, attributes := #[] }, { accessFlags := 26, nameIndex := 1121, descriptorIndex := 1122, attributes := #[] }, { accessFlags := 25, nameIndex := 599, descriptorIndex := 600, attributes := #[] }, { accessFlags := 24, nameIndex := 1125, descriptorIndex := 18, attributes := #[] }, { accessFlags := 24, nameIndex := 1127, descriptorIndex := 18, attributes := #[] }])
  fields := #[{ name := "value", type := (.array .byte), accessFlags := 18, slot := 0, constantValue := 0 }, { name := "coder", type := .byte, accessFlags := 18, slot := 1, constantValue := 0 }, { name := "hash", type := .int, accessFlags := 2, slot := 2, constantValue := 0 }, { name := "hashIsZero", type := .boolean, accessFlags := 2, slot := 3, constantValue := 0 }, { name := "serialVersionUID", type := .long, accessFlags := 26, slot := 0, constantValue := 0 }, { name := "COMPACT_STRINGS", type := .boolean, accessFlags := 24, slot := 1, constantValue := 0 }, { name := "serialPersistentFields", type := (.array (.object "java/io/ObjectStreamField")), accessFlags := 26, slot := 2, constantValue := 0 }, { name := "REPL", type := .char, accessFlags := 26, slot := 3, constantValue := 0 }, { name := "CASE_INSENSITIVE_ORDER", type := (.object "java/util/Comparator"), accessFlags := 25, slot := 4, constantValue := 0 }, { name := "LATIN1", type := .byte, accessFlags := 24, slot := 5, constantValue := 0 }, { name := "UTF16", type := .byte, accessFlags := 24, slot := 6, constantValue := 0 }]
  methods := #[k7m0, k7m1, k7m2, k7m3, k7m4, k7m5, k7m6, k7m7]
  instanceTypes := #[(.array .byte), .byte, .int, .boolean]
  staticTypes := #[.long, .boolean, (.array (.object "java/io/ObjectStreamField")), .char, (.object "java/util/Comparator"), .byte, .byte]
  resolved := Array.replicate 1451 none
  statics := some 0 }

def pool8 : Array CpInfo := pool [(2, .class_ 4), (1, u "java/lang/Object"), (0, u "<init>"), (0, u "()V"), (1, .class_ 10), (1, u "com/example/ratatoskr/ratatoskr/DomainName"), (0, u "SYNTAX"), (0, u "Ljava/util/regex/Pattern;"), (12, .methodref 26 27), (0, .class_ 28), (0, .nameAndType 29 30), (0, u "java/lang/String"), (0, u "indexOf"), (0, u "(I)I"), (18, u "LABEL"), (0, u "Ljava/lang/String;"), (6, u "(Ljava/lang/String;)Z"), (0, u "isSingleLabel")] 6

def k8m0 : Method := { name := "<init>", desc := "()V", sig := { parameters := [], returnType := none }, accessFlags := 2, code := none }
def k8c1 : Code := { maxStack := 2, maxLocals := 1, code := prog_9_method_3_code, exceptionTable := #[], attributes := #[] }
def k8m1 : Method := { name := "isSingleLabel", desc := "(Ljava/lang/String;)Z", sig := { parameters := [(.object "java/lang/String")], returnType := some .boolean }, accessFlags := 8, code := some k8c1 }
/-- com/example/ratatoskr/ratatoskr/DomainName -/
def k8 : Class := { plain "com/example/ratatoskr/ratatoskr/DomainName" (some 0) with
  accessFlags := 48
  interfaces := #[]
  cf := some (fileOf pool8 8 #[] #[{ accessFlags := 2, nameIndex := 5, descriptorIndex := 6, attributes := #[] }, { accessFlags := 8, nameIndex := 58, descriptorIndex := 57, attributes := #[] }] 48 2 #[] #[{ accessFlags := 26, nameIndex := 49, descriptorIndex := 50, attributes := #[] }, { accessFlags := 26, nameIndex := 11, descriptorIndex := 12, attributes := #[] }])
  fields := #[{ name := "LABEL", type := (.object "java/lang/String"), accessFlags := 26, slot := 0, constantValue := 0 }, { name := "SYNTAX", type := (.object "java/util/regex/Pattern"), accessFlags := 26, slot := 1, constantValue := 0 }]
  methods := #[k8m0, k8m1]
  instanceTypes := #[]
  staticTypes := #[(.object "java/lang/String"), (.object "java/util/regex/Pattern")]
  resolved := Array.replicate 65 none
  statics := none }

def pool9 : Array CpInfo := pool [(4, .class_ 6), (1, u "java/lang/Object"), (0, u "<init>"), (0, u "()V"), (5, .class_ 16), (1, u "java/lang/StringLatin1"), (21, .methodref 39 40), (0, .class_ 41), (0, .nameAndType 42 43), (0, u "java/lang/Math"), (0, u "min"), (0, u "(II)I"), (44, .methodref 14 89), (0, .nameAndType 90 91), (0, u "canEncode"), (0, u "(I)Z"), (0, .methodref 39 93), (0, .nameAndType 94 43), (0, u "max"), (0, .methodref 14 96), (0, .nameAndType 97 98), (0, u "indexOfChar"), (0, u "([BIII)I"), (2, u "indexOf"), (19, u "$assertionsDisabled"), (0, u "Z"), (98, .class_ 223), (1, u "java/lang/StringLatin1$LinesSpliterator"), (166, .class_ 391), (0, u "java/lang/StringLatin1$CharsSpliterator")] 3

def k9m0 : Method := { name := "<init>", desc := "()V", sig := { parameters := [], returnType := none }, accessFlags := 0, code := none }
def k9c1 : Code := { maxStack := 2, maxLocals := 1, code := jdk_43_method_4_code, exceptionTable := #[], attributes := #[] }
def k9m1 : Method := { name := "canEncode", desc := "(I)Z", sig := { parameters := [.int], returnType := some .boolean }, accessFlags := 9, code := some k9c1 }
def k9c2 : Code := { maxStack := 4, maxLocals := 4, code := jdk_43_method_22_code, exceptionTable := #[], attributes := #[] }
def k9m2 : Method := { name := "indexOf", desc := "([BIII)I", sig := { parameters := [(.array .byte), .int, .int, .int], returnType := some .int }, accessFlags := 9, code := some k9c2 }
def k9c3 : Code := { maxStack := 2, maxLocals := 6, code := jdk_43_method_23_code, exceptionTable := #[], attributes := #[] }
def k9m3 : Method := { name := "indexOfChar", desc := "([BIII)I", sig := { parameters := [(.array .byte), .int, .int, .int], returnType := some .int }, accessFlags := 10, code := some k9c3 }
/-- java/lang/StringLatin1 -/
def k9 : Class := { plain "java/lang/StringLatin1" (some 0) with
  accessFlags := 48
  interfaces := #[]
  cf := some (fileOf pool9 14 #[.nestMembers #[390, 221]] #[{ accessFlags := 0, nameIndex := 7, descriptorIndex := 8, attributes := #[] }, { accessFlags := 9, nameIndex := 90, descriptorIndex := 91, attributes := #[] }, { accessFlags := 9, nameIndex := 101, descriptorIndex := 98, attributes := #[] }, { accessFlags := 10, nameIndex := 97, descriptorIndex := 98, attributes := #[] }] 48 4 #[] #[{ accessFlags := 4120, nameIndex := 121, descriptorIndex := 122, attributes := #[] }])
  fields := #[{ name := "$assertionsDisabled", type := .boolean, accessFlags := 4120, slot := 0, constantValue := 0 }]
  methods := #[k9m0, k9m1, k9m2, k9m3]
  instanceTypes := #[]
  staticTypes := #[.boolean]
  resolved := Array.replicate 395 none
  statics := none }

def pool10 : Array CpInfo := pool [(1, .class_ 2), (0, u "java/lang/Math"), (1, .class_ 6), (1, u "java/lang/Object"), (0, u "<init>"), (0, u "()V"), (89, .class_ 100), (1, u "java/lang/Math$RandomNumberGeneratorHolder"), (71, u "negativeZeroFloatBits"), (0, u "J"), (2, u "negativeZeroDoubleBits"), (21, u "max"), (2, u "min"), (43, u "$assertionsDisabled"), (0, u "Z"), (88, u "(II)I"), (2, u "twoToTheDoubleScaleDown"), (0, u "D"), (4, u "twoToTheDoubleScaleUp"), (9, u "E"), (3, u "PI"), (2, u "TAU"), (2, u "DEGREES_TO_RADIANS"), (0, u "RADIANS_TO_DEGREES")] 94

def k10m0 : Method := { name := "<init>", desc := "()V", sig := { parameters := [], returnType := none }, accessFlags := 2, code := none }
def k10c1 : Code := { maxStack := 2, maxLocals := 2, code := jdk_29_method_65_code, exceptionTable := #[], attributes := #[] }
def k10m1 : Method := { name := "max", desc := "(II)I", sig := { parameters := [.int, .int], returnType := some .int }, accessFlags := 9, code := some k10c1 }
def k10c2 : Code := { maxStack := 2, maxLocals := 2, code := jdk_29_method_69_code, exceptionTable := #[], attributes := #[] }
def k10m2 : Method := { name := "min", desc := "(II)I", sig := { parameters := [.int, .int], returnType := some .int }, accessFlags := 9, code := some k10c2 }
/-- java/lang/Math -/
def k10 : Class := { plain "java/lang/Math" (some 0) with
  accessFlags := 49
  interfaces := #[]
  cf := some (fileOf pool10 1 #[.nestMembers #[98]] #[{ accessFlags := 2, nameIndex := 7, descriptorIndex := 8, attributes := #[] }, { accessFlags := 9, nameIndex := 198, descriptorIndex := 335, attributes := #[] }, { accessFlags := 9, nameIndex := 201, descriptorIndex := 335, attributes := #[] }] 49 4 #[] #[{ accessFlags := 25, nameIndex := 354, descriptorIndex := 339, attributes := #[] }, { accessFlags := 25, nameIndex := 358, descriptorIndex := 339, attributes := #[] }, { accessFlags := 25, nameIndex := 361, descriptorIndex := 339, attributes := #[] }, { accessFlags := 26, nameIndex := 364, descriptorIndex := 339, attributes := #[] }, { accessFlags := 26, nameIndex := 365, descriptorIndex := 339, attributes := #[] }, { accessFlags := 26, nameIndex := 172, descriptorIndex := 173, attributes := #[] }, { accessFlags := 26, nameIndex := 176, descriptorIndex := 173, attributes := #[] }, { accessFlags := 8, nameIndex := 344, descriptorIndex := 339, attributes := #[] }, { accessFlags := 8, nameIndex := 338, descriptorIndex := 339, attributes := #[] }, { accessFlags := 4120, nameIndex := 245, descriptorIndex := 246, attributes := #[] }])
  fields := #[{ name := "E", type := .double, accessFlags := 25, slot := 0, constantValue := 0 }, { name := "PI", type := .double, accessFlags := 25, slot := 1, constantValue := 0 }, { name := "TAU", type := .double, accessFlags := 25, slot := 2, constantValue := 0 }, { name := "DEGREES_TO_RADIANS", type := .double, accessFlags := 26, slot := 3, constantValue := 0 }, { name := "RADIANS_TO_DEGREES", type := .double, accessFlags := 26, slot := 4, constantValue := 0 }, { name := "negativeZeroFloatBits", type := .long, accessFlags := 26, slot := 5, constantValue := 0 }, { name := "negativeZeroDoubleBits", type := .long, accessFlags := 26, slot := 6, constantValue := 0 }, { name := "twoToTheDoubleScaleUp", type := .double, accessFlags := 8, slot := 7, constantValue := 0 }, { name := "twoToTheDoubleScaleDown", type := .double, accessFlags := 8, slot := 8, constantValue := 0 }, { name := "$assertionsDisabled", type := .boolean, accessFlags := 4120, slot := 9, constantValue := 0 }]
  methods := #[k10m0, k10m1, k10m2]
  instanceTypes := #[]
  staticTypes := #[.double, .double, .double, .double, .double, .long, .long, .double, .double, .boolean]
  resolved := Array.replicate 460 none
  statics := none }

def pool11 : Array CpInfo := pool [(6, .class_ 8), (1, u "java/lang/Object"), (0, u "<init>"), (0, u "()V"), (1, .class_ 14), (1, u "java/lang/StringUTF16"), (31, u "$assertionsDisabled"), (0, u "Z"), (13, u "HI_BYTE_SHIFT"), (0, u "I"), (2, u "LO_BYTE_SHIFT"), (49, .methodref 12 116), (0, .nameAndType 117 118), (0, u "compress"), (0, u "([CI[BII)I"), (3, u "([CII)[B"), (138, u "coderFromArrayLen"), (0, u "([BI)B"), (106, .class_ 371), (1, u "java/lang/StringUTF16$LinesSpliterator"), (58, u "MAX_LENGTH"), (196, .class_ 628), (0, u "java/lang/StringUTF16$CodePointsSpliterator"), (0, .class_ 630), (0, u "java/lang/StringUTF16$CharsSpliterator")] 4

def k11m0 : Method := { name := "<init>", desc := "()V", sig := { parameters := [], returnType := none }, accessFlags := 0, code := none }
def k11c1 : Code := { maxStack := 2, maxLocals := 2, code := jdk_52_method_15_code, exceptionTable := #[], attributes := #[] }
def k11m1 : Method := { name := "coderFromArrayLen", desc := "([BI)B", sig := { parameters := [(.array .byte), .int], returnType := some .byte }, accessFlags := 8, code := some k11c1 }
def k11c2 : Code := { maxStack := 5, maxLocals := 6, code := jdk_52_method_16_code, exceptionTable := #[], attributes := #[] }
def k11m2 : Method := { name := "compress", desc := "([CII)[B", sig := { parameters := [(.array .char), .int, .int], returnType := some (.array .byte) }, accessFlags := 9, code := some k11c2 }
def k11c3 : Code := { maxStack := 3, maxLocals := 7, code := jdk_52_method_21_code, exceptionTable := #[], attributes := #[] }
def k11m3 : Method := { name := "compress", desc := "([CI[BII)I", sig := { parameters := [(.array .char), .int, (.array .byte), .int, .int], returnType := some .int }, accessFlags := 9, code := some k11c3 }
/-- java/lang/StringUTF16 -/
def k11 : Class := { plain "java/lang/StringUTF16" (some 0) with
  accessFlags := 48
  interfaces := #[]
  cf := some (fileOf pool11 12 #[.nestMembers #[627, 629, 369]] #[{ accessFlags := 0, nameIndex := 9, descriptorIndex := 10, attributes := #[] }, { accessFlags := 8, nameIndex := 261, descriptorIndex := 262, attributes := #[] }, { accessFlags := 9, nameIndex := 117, descriptorIndex := 122, attributes := #[] }, { accessFlags := 9, nameIndex := 117, descriptorIndex := 118, attributes := #[] }] 48 6 #[] #[{ accessFlags := 26, nameIndex := 61, descriptorIndex := 62, attributes := #[] }, { accessFlags := 26, nameIndex := 65, descriptorIndex := 62, attributes := #[] }, { accessFlags := 24, nameIndex := 430, descriptorIndex := 62, attributes := #[] }, { accessFlags := 4120, nameIndex := 46, descriptorIndex := 47, attributes := #[] }])
  fields := #[{ name := "HI_BYTE_SHIFT", type := .int, accessFlags := 26, slot := 0, constantValue := 0 }, { name := "LO_BYTE_SHIFT", type := .int, accessFlags := 26, slot := 1, constantValue := 0 }, { name := "MAX_LENGTH", type := .int, accessFlags := 24, slot := 2, constantValue := 0 }, { name := "$assertionsDisabled", type := .boolean, accessFlags := 4120, slot := 3, constantValue := 0 }]
  methods := #[k11m0, k11m1, k11m2, k11m3]
  instanceTypes := #[]
  staticTypes := #[.int, .int, .int, .boolean]
  resolved := Array.replicate 635 none
  statics := none }

def pool12 : Array CpInfo := pool [(2, .class_ 4), (1, u "java/lang/Object"), (0, u "<init>"), (0, u "()V"), (17, .class_ 26), (1, u "jdk/internal/util/Preconditions"), (28, .class_ 56), (0, u "jdk/internal/util/Preconditions$4"), (57, .class_ 115), (0, u "jdk/internal/util/Preconditions$1"), (7, u "SIOOBE_FORMATTER"), (0, u "Ljava/util/function/BiFunction;"), (0, .class_ 126), (0, u "jdk/internal/util/Preconditions$2"), (3, u "AIOOBE_FORMATTER"), (0, .class_ 132), (0, u "jdk/internal/util/Preconditions$3"), (3, u "IOOBE_FORMATTER")] 57

def k12m0 : Method := { name := "<init>", desc := "()V", sig := { parameters := [], returnType := none }, accessFlags := 1, code := none }
/-- jdk/internal/util/Preconditions -/
def k12 : Class := { plain "jdk/internal/util/Preconditions" (some 0) with
  accessFlags := 33
  interfaces := #[]
  cf := some (fileOf pool12 24 #[.nestMembers #[55, 131, 125, 114]] #[{ accessFlags := 1, nameIndex := 5, descriptorIndex := 6, attributes := #[] }] 33 2 #[] #[{ accessFlags := 25, nameIndex := 123, descriptorIndex := 124, attributes := #[] }, { accessFlags := 25, nameIndex := 130, descriptorIndex := 124, attributes := #[] }, { accessFlags := 25, nameIndex := 136, descriptorIndex := 124, attributes := #[] }])
  fields := #[{ name := "SIOOBE_FORMATTER", type := (.object "java/util/function/BiFunction"), accessFlags := 25, slot := 0, constantValue := 0 }, { name := "AIOOBE_FORMATTER", type := (.object "java/util/function/BiFunction"), accessFlags := 25, slot := 1, constantValue := 0 }, { name := "IOOBE_FORMATTER", type := (.object "java/util/function/BiFunction"), accessFlags := 25, slot := 2, constantValue := 0 }]
  methods := #[k12m0]
  instanceTypes := #[]
  staticTypes := #[(.object "java/util/function/BiFunction"), (.object "java/util/function/BiFunction"), (.object "java/util/function/BiFunction")]
  resolved := Array.replicate 194 none
  statics := some 1 }

def pool13 : Array CpInfo := pool [(9, u "<init>"), (6, .class_ 18), (1, u "java/lang/Object"), (0, u "()V"), (1, .class_ 23), (1, u "jdk/internal/util/ArraysSupport"), (0, u "LOG2_ARRAY_LONG_INDEX_SCALE"), (0, u "I"), (2, u "U"), (0, u "Ljdk/internal/misc/Unsafe;"), (8, u "BIG_ENDIAN"), (0, u "Z"), (8, u "LOG2_BYTE_BIT_SIZE"), (4, u "LOG2_ARRAY_INT_INDEX_SCALE"), (54, u "JLA"), (0, u "Ljdk/internal/access/JavaLangAccess;"), (11, u "LOG2_ARRAY_BOOLEAN_INDEX_SCALE"), (9, u "LOG2_ARRAY_BYTE_INDEX_SCALE"), (5, u "LOG2_ARRAY_CHAR_INDEX_SCALE"), (5, u "LOG2_ARRAY_SHORT_INDEX_SCALE"), (18, u "LOG2_ARRAY_FLOAT_INDEX_SCALE"), (24, u "LOG2_ARRAY_DOUBLE_INDEX_SCALE"), (89, u "T_BOOLEAN"), (2, u "T_CHAR"), (1, u "T_FLOAT"), (1, u "T_DOUBLE"), (1, u "T_BYTE"), (1, u "T_SHORT"), (1, u "T_INT"), (1, u "T_LONG"), (1, u "SOFT_MAX_ARRAY_LENGTH")] 83

def k13m0 : Method := { name := "<init>", desc := "()V", sig := { parameters := [], returnType := none }, accessFlags := 2, code := none }
/-- jdk/internal/util/ArraysSupport -/
def k13 : Class := { plain "jdk/internal/util/ArraysSupport" (some 0) with
  accessFlags := 33
  interfaces := #[]
  cf := some (fileOf pool13 21 #[] #[{ accessFlags := 2, nameIndex := 9, descriptorIndex := 19, attributes := #[] }] 33 16 #[] #[{ accessFlags := 24, nameIndex := 28, descriptorIndex := 29, attributes := #[] }, { accessFlags := 26, nameIndex := 38, descriptorIndex := 39, attributes := #[] }, { accessFlags := 25, nameIndex := 121, descriptorIndex := 25, attributes := #[] }, { accessFlags := 25, nameIndex := 131, descriptorIndex := 25, attributes := #[] }, { accessFlags := 25, nameIndex := 137, descriptorIndex := 25, attributes := #[] }, { accessFlags := 25, nameIndex := 143, descriptorIndex := 25, attributes := #[] }, { accessFlags := 25, nameIndex := 53, descriptorIndex := 25, attributes := #[] }, { accessFlags := 25, nameIndex := 24, descriptorIndex := 25, attributes := #[] }, { accessFlags := 25, nameIndex := 162, descriptorIndex := 25, attributes := #[] }, { accessFlags := 25, nameIndex := 187, descriptorIndex := 25, attributes := #[] }, { accessFlags := 26, nameIndex := 48, descriptorIndex := 25, attributes := #[] }, { accessFlags := 25, nameIndex := 277, descriptorIndex := 25, attributes := #[] }, { accessFlags := 25, nameIndex := 280, descriptorIndex := 25, attributes := #[] }, { accessFlags := 25, nameIndex := 282, descriptorIndex := 25, attributes := #[] }, { accessFlags := 25, nameIndex := 284, descriptorIndex := 25, attributes := #[] }, { accessFlags := 25, nameIndex := 286, descriptorIndex := 25, attributes := #[] }, { accessFlags := 25, nameIndex := 288, descriptorIndex := 25, attributes := #[] }, { accessFlags := 25, nameIndex := 290, descriptorIndex := 25, attributes := #[] }, { accessFlags := 25, nameIndex := 292, descriptorIndex := 25, attributes := #[] }, { accessFlags := 26, nameIndex := 108, descriptorIndex := 109, attributes := #[] }, { accessFlags := 25, nameIndex := 294, descriptorIndex := 25, attributes := #[] }])
  fields := #[{ name := "U", type := (.object "jdk/internal/misc/Unsafe"), accessFlags := 24, slot := 0, constantValue := 0 }, { name := "BIG_ENDIAN", type := .boolean, accessFlags := 26, slot := 1, constantValue := 0 }, { name := "LOG2_ARRAY_BOOLEAN_INDEX_SCALE", type := .int, accessFlags := 25, slot := 2, constantValue := 0 }, { name := "LOG2_ARRAY_BYTE_INDEX_SCALE", type := .int, accessFlags := 25, slot := 3, constantValue := 0 }, { name := "LOG2_ARRAY_CHAR_INDEX_SCALE", type := .int, accessFlags := 25, slot := 4, constantValue := 0 }, { name := "LOG2_ARRAY_SHORT_INDEX_SCALE", type := .int, accessFlags := 25, slot := 5, constantValue := 0 }, { name := "LOG2_ARRAY_INT_INDEX_SCALE", type := .int, accessFlags := 25, slot := 6, constantValue := 0 }, { name := "LOG2_ARRAY_LONG_INDEX_SCALE", type := .int, accessFlags := 25, slot := 7, constantValue := 0 }, { name := "LOG2_ARRAY_FLOAT_INDEX_SCALE", type := .int, accessFlags := 25, slot := 8, constantValue := 0 }, { name := "LOG2_ARRAY_DOUBLE_INDEX_SCALE", type := .int, accessFlags := 25, slot := 9, constantValue := 0 }, { name := "LOG2_BYTE_BIT_SIZE", type := .int, accessFlags := 26, slot := 10, constantValue := 0 }, { name := "T_BOOLEAN", type := .int, accessFlags := 25, slot := 11, constantValue := 0 }, { name := "T_CHAR", type := .int, accessFlags := 25, slot := 12, constantValue := 0 }, { name := "T_FLOAT", type := .int, accessFlags := 25, slot := 13, constantValue := 0 }, { name := "T_DOUBLE", type := .int, accessFlags := 25, slot := 14, constantValue := 0 }, { name := "T_BYTE", type := .int, accessFlags := 25, slot := 15, constantValue := 0 }, { name := "T_SHORT", type := .int, accessFlags := 25, slot := 16, constantValue := 0 }, { name := "T_INT", type := .int, accessFlags := 25, slot := 17, constantValue := 0 }, { name := "T_LONG", type := .int, accessFlags := 25, slot := 18, constantValue := 0 }, { name := "JLA", type := (.object "jdk/internal/access/JavaLangAccess"), accessFlags := 26, slot := 19, constantValue := 0 }, { name := "SOFT_MAX_ARRAY_LENGTH", type := .int, accessFlags := 25, slot := 20, constantValue := 0 }]
  methods := #[k13m0]
  instanceTypes := #[]
  staticTypes := #[(.object "jdk/internal/misc/Unsafe"), .boolean, .int, .int, .int, .int, .int, .int, .int, .int, .int, .int, .int, .int, .int, .int, .int, .int, .int, (.object "jdk/internal/access/JavaLangAccess"), .int]
  resolved := Array.replicate 378 none
  statics := none }

def pool14 : Array CpInfo := pool [(1, u "java/lang/Cloneable"), (0, .class_ 1), (0, u "java/lang/Object"), (0, .class_ 3)] 3

/-- java/lang/Cloneable -/
def k14 : Class := { plain "java/lang/Cloneable" (some 0) with
  accessFlags := 1537
  interfaces := #[]
  cf := some (fileOf pool14 2 #[] #[] 1537 4 #[] #[])
  fields := #[]
  methods := #[]
  instanceTypes := #[]
  staticTypes := #[]
  resolved := Array.replicate 8 none
  statics := none }

/-- the primitive byte -/
def k15 : Class := { plain "byte" none with kind := .primitive 'B', accessFlags := 0x411 }
/-- [B -/
def k16 : Class := { plain "[B" (some 0) with kind := .array 15 .byte, interfaces := #[14, 2], accessFlags := 1041 }

/-- the primitive char -/
def k17 : Class := { plain "char" none with kind := .primitive 'C', accessFlags := 0x411 }
/-- [C -/
def k18 : Class := { plain "[C" (some 0) with kind := .array 17 .char, interfaces := #[14, 2], accessFlags := 1041 }

/-- the primitive int -/
def k19 : Class := { plain "int" none with kind := .primitive 'I', accessFlags := 0x411 }
/-- [I -/
def k20 : Class := { plain "[I" (some 0) with kind := .array 19 .int, interfaces := #[14, 2], accessFlags := 1041 }

def heap : Heap := #[{ cls := 7, slots := #[.long 0, .int 1, .null, .int 0, .null, .int 0, .int 0], vm := .statics 7 },
  { cls := 12, slots := #[.null, .null, .null], vm := .statics 12 }]
def classes : Array Class := #[k0, k1, k2, k3, k4, k5, k6, k7, k8, k9, k10, k11, k12, k13, k14, k15, k16, k17, k18, k19, k20]
def interned : List (Array UInt16 × Addr) := []
def slotsUsed : Nat := 10
def theMethod : MethodId := ⟨1, 2⟩
def args0 : Array Value := #[.int 5, .int 3, .int 4, .int 9, .int 9]
def aboutOver (below : List Frame) : State where
  vm := { classes := classes, interned := interned.toArray }
  heap := heap
  slotsUsed := slotsUsed
  threads := #[{ frames := .invoking theMethod args0 :: below }]
def below0 : List Frame := [.native { method := ⟨0, 0⟩, args := #[] }]
def about1 : State := aboutOver below0
def p0 : Program := .bare "" "" ""
def e0 : Env := launch0.env 0 0 0
theorem w_frames : about1.frames = Frame.invoking theMethod args0 :: below0 := rfl
set_option maxRecDepth 65536 in
theorem w_args : argsFit about1.vm theMethod args0 = true := by decide +kernel
set_option maxRecDepth 65536 in
theorem w_heap : heapFits about1 = true := by decide +kernel
set_option maxRecDepth 65536 in
theorem w_runnable : about1.curStatus? = some .runnable := by decide +kernel
set_option maxRecDepth 65536 in
theorem w_alone : about1.alone = true := by decide +kernel
set_option maxRecDepth 65536 in
theorem w_named : about1.methodNamed? x = some theMethod := by decide +kernel
set_option maxRecDepth 65536 in
theorem w_hears : about1.hears theMethod below0 = true := by decide +kernel
set_option maxRecDepth 65536 in
theorem w_ripe : about1.ripe theMethod args0 below0 = true := by decide +kernel
theorem w_running : about1.status = .running := rfl
set_option maxRecDepth 65536 in
theorem w_room : about1.hasRoom e0.platform room_1 = true :=
  launch0.hasRoom_least _ room_1 (by decide +kernel) (by decide +kernel) (by decide +kernel) (by decide +kernel) (by decide +kernel) (by decide +kernel)
theorem allAtoms_all (ts : List Jvm.Cond) (a : Array Jvm.Value) (st : Jvm.State) : (allAtoms ts).before a st = ts.all (fun c => c.before a st) := by
  induction ts with
  | nil => rfl
  | cons c t ih =>
    show (Jvm.Cond.and c (allAtoms t)).before a st = _
    rw [Jvm.Cond.before_and, ih, List.all_cons]
def words1 : List Jvm.Cond := Jvm.Cond.code x code maxLocals ret :: tables_1
/-- a 'code' word, met by the world's own term for the bytes: nothing is compared byte by byte -/
theorem code_word {y : MethodName} {bytes : ByteArray} {mx : Nat} {rt : Option FieldType} {a : Array Value} {s : State} {m : MethodId} {meth : Method} {c : Code} (h1 : s.methodNamed? y = some m) (h2 : s.vm.method? m = some meth) (h3 : meth.code = some c) (h4 : c.code = bytes)
    (h5 : (c.maxLocals == mx && c.exceptionTable.isEmpty && decide (c.maxStack ≤ mostOperands) && decide (meth.sig.returnType = rt) && !meth.locks && decide (parseMethodDescriptor y.desc = some meth.sig)) = true) : (Jvm.Cond.code y bytes mx rt).before a s = true := by
  simp only [Bool.and_eq_true, beq_iff_eq, Bool.not_eq_true', decide_eq_true_eq] at h5
  obtain ⟨⟨⟨⟨⟨g1, g2⟩, g3⟩, g4⟩, g5⟩, g6⟩ := h5
  simp [Cond.before, Cond.holds, Cond.value, h1, h2, h3, h4, g1, g2, g3, g4, g5, g6]
def isCode : Jvm.Cond → Bool
  | .code _ _ _ _ => true
  | _ => false
theorem all_split {L : List Jvm.Cond} {P : Jvm.Cond → Bool} (h1 : L.all (fun c => isCode c || P c) = true) (h2 : ∀ c ∈ L.filter isCode, P c = true) : L.all P = true := by
  refine List.all_eq_true.mpr fun c hc => ?_
  have h := List.all_eq_true.mp h1 c hc
  rcases Bool.eq_false_or_eq_true (isCode c) with hi | hi
  · exact h2 c (List.mem_filter.mpr ⟨hc, hi⟩)
  · simpa [hi] using h
set_option maxRecDepth 65536 in
theorem w_c0 : (Jvm.Cond.code x code maxLocals ret).before args0 about1 = true := code_word (m := ⟨1, 2⟩) (meth := k1m2) (c := k1c2) (by decide +kernel) rfl rfl rfl (by decide +kernel)
set_option maxRecDepth 65536 in
theorem w_c1 : (Jvm.Cond.code ({ cls := "com/example/ratatoskr/ratatoskr/DomainNameIsSingleLabelPinLaw", name := "ch", desc := "(I)C" } : Jvm.MethodName) method_2_code (1 : Nat) (Option.some Jvm.ClassFile.FieldType.char)).before args0 about1 = true := code_word (m := ⟨1, 1⟩) (meth := k1m1) (c := k1c1) (by decide +kernel) rfl rfl rfl (by decide +kernel)
set_option maxRecDepth 65536 in
theorem w_c2 : (Jvm.Cond.code ({ cls := "java/lang/String", name := "<init>", desc := "([C)V" } : Jvm.MethodName) jdk_42_method_3_code (2 : Nat) (Option.none : Option Jvm.ClassFile.FieldType)).before args0 about1 = true := code_word (m := ⟨7, 1⟩) (meth := k7m1) (c := k7c1) (by decide +kernel) rfl rfl rfl (by decide +kernel)
set_option maxRecDepth 65536 in
theorem w_c3 : (Jvm.Cond.code ({ cls := "java/lang/String", name := "<init>", desc := "([CIILjava/lang/Void;)V" } : Jvm.MethodName) jdk_42_method_149_code (6 : Nat) (Option.none : Option Jvm.ClassFile.FieldType)).before args0 about1 = true := code_word (m := ⟨7, 5⟩) (meth := k7m5) (c := k7c5) (by decide +kernel) rfl rfl rfl (by decide +kernel)
set_option maxRecDepth 65536 in
theorem w_c4 : (Jvm.Cond.code ({ cls := "java/lang/Object", name := "<init>", desc := "()V" } : Jvm.MethodName) object_method_1_code (1 : Nat) (Option.none : Option Jvm.ClassFile.FieldType)).before args0 about1 = true := code_word (m := ⟨0, 0⟩) (meth := k0m0) (c := k0c0) (by decide +kernel) rfl rfl rfl (by decide +kernel)
set_option maxRecDepth 65536 in
theorem w_c5 : (Jvm.Cond.code ({ cls := "com/example/ratatoskr/ratatoskr/DomainName", name := "isSingleLabel", desc := "(Ljava/lang/String;)Z" } : Jvm.MethodName) prog_9_method_3_code (1 : Nat) (Option.some Jvm.ClassFile.FieldType.boolean)).before args0 about1 = true := code_word (m := ⟨8, 1⟩) (meth := k8m1) (c := k8c1) (by decide +kernel) rfl rfl rfl (by decide +kernel)
set_option maxRecDepth 65536 in
theorem w_c6 : (Jvm.Cond.code ({ cls := "java/lang/String", name := "indexOf", desc := "(I)I" } : Jvm.MethodName) jdk_42_method_79_code (2 : Nat) (Option.some Jvm.ClassFile.FieldType.int)).before args0 about1 = true := code_word (m := ⟨7, 3⟩) (meth := k7m3) (c := k7c3) (by decide +kernel) rfl rfl rfl (by decide +kernel)
set_option maxRecDepth 65536 in
theorem w_c7 : (Jvm.Cond.code ({ cls := "java/lang/String", name := "indexOf", desc := "(II)I" } : Jvm.MethodName) jdk_42_method_80_code (3 : Nat) (Option.some Jvm.ClassFile.FieldType.int)).before args0 about1 = true := code_word (m := ⟨7, 4⟩) (meth := k7m4) (c := k7c4) (by decide +kernel) rfl rfl rfl (by decide +kernel)
set_option maxRecDepth 65536 in
theorem w_c8 : (Jvm.Cond.code ({ cls := "java/lang/String", name := "isLatin1", desc := "()Z" } : Jvm.MethodName) jdk_42_method_154_code (1 : Nat) (Option.some Jvm.ClassFile.FieldType.boolean)).before args0 about1 = true := code_word (m := ⟨7, 7⟩) (meth := k7m7) (c := k7c7) (by decide +kernel) rfl rfl rfl (by decide +kernel)
set_option maxRecDepth 65536 in
theorem w_c9 : (Jvm.Cond.code ({ cls := "java/lang/String", name := "length", desc := "()I" } : Jvm.MethodName) jdk_42_method_54_code (1 : Nat) (Option.some Jvm.ClassFile.FieldType.int)).before args0 about1 = true := code_word (m := ⟨7, 2⟩) (meth := k7m2) (c := k7c2) (by decide +kernel) rfl rfl rfl (by decide +kernel)
set_option maxRecDepth 65536 in
theorem w_c10 : (Jvm.Cond.code ({ cls := "java/lang/String", name := "coder", desc := "()B" } : Jvm.MethodName) jdk_42_method_152_code (1 : Nat) (Option.some Jvm.ClassFile.FieldType.byte)).before args0 about1 = true := code_word (m := ⟨7, 6⟩) (meth := k7m6) (c := k7c6) (by decide +kernel) rfl rfl rfl (by decide +kernel)
set_option maxRecDepth 65536 in
theorem w_c11 : (Jvm.Cond.code ({ cls := "java/lang/StringLatin1", name := "indexOf", desc := "([BIII)I" } : Jvm.MethodName) jdk_43_method_22_code (4 : Nat) (Option.some Jvm.ClassFile.FieldType.int)).before args0 about1 = true := code_word (m := ⟨9, 2⟩) (meth := k9m2) (c := k9c2) (by decide +kernel) rfl rfl rfl (by decide +kernel)
set_option maxRecDepth 65536 in
theorem w_c12 : (Jvm.Cond.code ({ cls := "java/lang/StringLatin1", name := "canEncode", desc := "(I)Z" } : Jvm.MethodName) jdk_43_method_4_code (1 : Nat) (Option.some Jvm.ClassFile.FieldType.boolean)).before args0 about1 = true := code_word (m := ⟨9, 1⟩) (meth := k9m1) (c := k9c1) (by decide +kernel) rfl rfl rfl (by decide +kernel)
set_option maxRecDepth 65536 in
theorem w_c13 : (Jvm.Cond.code ({ cls := "java/lang/Math", name := "max", desc := "(II)I" } : Jvm.MethodName) jdk_29_method_65_code (2 : Nat) (Option.some Jvm.ClassFile.FieldType.int)).before args0 about1 = true := code_word (m := ⟨10, 1⟩) (meth := k10m1) (c := k10c1) (by decide +kernel) rfl rfl rfl (by decide +kernel)
set_option maxRecDepth 65536 in
theorem w_c14 : (Jvm.Cond.code ({ cls := "java/lang/Math", name := "min", desc := "(II)I" } : Jvm.MethodName) jdk_29_method_69_code (2 : Nat) (Option.some Jvm.ClassFile.FieldType.int)).before args0 about1 = true := code_word (m := ⟨10, 2⟩) (meth := k10m2) (c := k10c2) (by decide +kernel) rfl rfl rfl (by decide +kernel)
set_option maxRecDepth 65536 in
theorem w_c15 : (Jvm.Cond.code ({ cls := "java/lang/StringUTF16", name := "compress", desc := "([CII)[B" } : Jvm.MethodName) jdk_52_method_16_code (6 : Nat) (Option.some (Jvm.ClassFile.FieldType.array Jvm.ClassFile.FieldType.byte))).before args0 about1 = true := code_word (m := ⟨11, 2⟩) (meth := k11m2) (c := k11c2) (by decide +kernel) rfl rfl rfl (by decide +kernel)
set_option maxRecDepth 65536 in
theorem w_c16 : (Jvm.Cond.code ({ cls := "java/lang/StringUTF16", name := "compress", desc := "([CI[BII)I" } : Jvm.MethodName) jdk_52_method_21_code (7 : Nat) (Option.some Jvm.ClassFile.FieldType.int)).before args0 about1 = true := code_word (m := ⟨11, 3⟩) (meth := k11m3) (c := k11c3) (by decide +kernel) rfl rfl rfl (by decide +kernel)
set_option maxRecDepth 65536 in
theorem w_c17 : (Jvm.Cond.code ({ cls := "java/lang/StringUTF16", name := "coderFromArrayLen", desc := "([BI)B" } : Jvm.MethodName) jdk_52_method_15_code (2 : Nat) (Option.some Jvm.ClassFile.FieldType.byte)).before args0 about1 = true := code_word (m := ⟨11, 1⟩) (meth := k11m1) (c := k11c1) (by decide +kernel) rfl rfl rfl (by decide +kernel)
set_option maxRecDepth 65536 in
theorem w_c18 : (Jvm.Cond.code ({ cls := "java/lang/StringLatin1", name := "indexOfChar", desc := "([BIII)I" } : Jvm.MethodName) jdk_43_method_23_code (6 : Nat) (Option.some Jvm.ClassFile.FieldType.int)).before args0 about1 = true := code_word (m := ⟨9, 3⟩) (meth := k9m3) (c := k9c3) (by decide +kernel) rfl rfl rfl (by decide +kernel)
def codes1 : List Jvm.Cond := [Jvm.Cond.code x code maxLocals ret, Jvm.Cond.code ({ cls := "com/example/ratatoskr/ratatoskr/DomainNameIsSingleLabelPinLaw", name := "ch", desc := "(I)C" } : Jvm.MethodName) method_2_code (1 : Nat) (Option.some Jvm.ClassFile.FieldType.char), Jvm.Cond.code ({ cls := "java/lang/String", name := "<init>", desc := "([C)V" } : Jvm.MethodName) jdk_42_method_3_code (2 : Nat) (Option.none : Option Jvm.ClassFile.FieldType), Jvm.Cond.code ({ cls := "java/lang/String", name := "<init>", desc := "([CIILjava/lang/Void;)V" } : Jvm.MethodName) jdk_42_method_149_code (6 : Nat) (Option.none : Option Jvm.ClassFile.FieldType), Jvm.Cond.code ({ cls := "java/lang/Object", name := "<init>", desc := "()V" } : Jvm.MethodName) object_method_1_code (1 : Nat) (Option.none : Option Jvm.ClassFile.FieldType), Jvm.Cond.code ({ cls := "com/example/ratatoskr/ratatoskr/DomainName", name := "isSingleLabel", desc := "(Ljava/lang/String;)Z" } : Jvm.MethodName) prog_9_method_3_code (1 : Nat) (Option.some Jvm.ClassFile.FieldType.boolean), Jvm.Cond.code ({ cls := "java/lang/String", name := "indexOf", desc := "(I)I" } : Jvm.MethodName) jdk_42_method_79_code (2 : Nat) (Option.some Jvm.ClassFile.FieldType.int), Jvm.Cond.code ({ cls := "java/lang/String", name := "indexOf", desc := "(II)I" } : Jvm.MethodName) jdk_42_method_80_code (3 : Nat) (Option.some Jvm.ClassFile.FieldType.int), Jvm.Cond.code ({ cls := "java/lang/String", name := "isLatin1", desc := "()Z" } : Jvm.MethodName) jdk_42_method_154_code (1 : Nat) (Option.some Jvm.ClassFile.FieldType.boolean), Jvm.Cond.code ({ cls := "java/lang/String", name := "length", desc := "()I" } : Jvm.MethodName) jdk_42_method_54_code (1 : Nat) (Option.some Jvm.ClassFile.FieldType.int), Jvm.Cond.code ({ cls := "java/lang/String", name := "coder", desc := "()B" } : Jvm.MethodName) jdk_42_method_152_code (1 : Nat) (Option.some Jvm.ClassFile.FieldType.byte), Jvm.Cond.code ({ cls := "java/lang/StringLatin1", name := "indexOf", desc := "([BIII)I" } : Jvm.MethodName) jdk_43_method_22_code (4 : Nat) (Option.some Jvm.ClassFile.FieldType.int), Jvm.Cond.code ({ cls := "java/lang/StringLatin1", name := "canEncode", desc := "(I)Z" } : Jvm.MethodName) jdk_43_method_4_code (1 : Nat) (Option.some Jvm.ClassFile.FieldType.boolean), Jvm.Cond.code ({ cls := "java/lang/Math", name := "max", desc := "(II)I" } : Jvm.MethodName) jdk_29_method_65_code (2 : Nat) (Option.some Jvm.ClassFile.FieldType.int), Jvm.Cond.code ({ cls := "java/lang/Math", name := "min", desc := "(II)I" } : Jvm.MethodName) jdk_29_method_69_code (2 : Nat) (Option.some Jvm.ClassFile.FieldType.int), Jvm.Cond.code ({ cls := "java/lang/StringUTF16", name := "compress", desc := "([CII)[B" } : Jvm.MethodName) jdk_52_method_16_code (6 : Nat) (Option.some (Jvm.ClassFile.FieldType.array Jvm.ClassFile.FieldType.byte)), Jvm.Cond.code ({ cls := "java/lang/StringUTF16", name := "compress", desc := "([CI[BII)I" } : Jvm.MethodName) jdk_52_method_21_code (7 : Nat) (Option.some Jvm.ClassFile.FieldType.int), Jvm.Cond.code ({ cls := "java/lang/StringUTF16", name := "coderFromArrayLen", desc := "([BI)B" } : Jvm.MethodName) jdk_52_method_15_code (2 : Nat) (Option.some Jvm.ClassFile.FieldType.byte), Jvm.Cond.code ({ cls := "java/lang/StringLatin1", name := "indexOfChar", desc := "([BIII)I" } : Jvm.MethodName) jdk_43_method_23_code (6 : Nat) (Option.some Jvm.ClassFile.FieldType.int)]
set_option maxRecDepth 65536 in
theorem codes_eq : words1.filter isCode = codes1 := rfl
theorem w_codes : ∀ c ∈ words1.filter isCode, c.before args0 about1 = true := by
  rw [codes_eq]
  intro c hc
  simp only [codes1, List.mem_cons, List.not_mem_nil, or_false] at hc
  rcases hc with rfl | rfl | rfl | rfl | rfl | rfl | rfl | rfl | rfl | rfl | rfl | rfl | rfl | rfl | rfl | rfl | rfl | rfl | rfl
  · exact w_c0
  · exact w_c1
  · exact w_c2
  · exact w_c3
  · exact w_c4
  · exact w_c5
  · exact w_c6
  · exact w_c7
  · exact w_c8
  · exact w_c9
  · exact w_c10
  · exact w_c11
  · exact w_c12
  · exact w_c13
  · exact w_c14
  · exact w_c15
  · exact w_c16
  · exact w_c17
  · exact w_c18
set_option maxRecDepth 65536 in
theorem w_t1 : (words1.take 24).all (fun c => isCode c || c.before args0 about1) = true := by decide +kernel
set_option maxRecDepth 65536 in
theorem w_t2 : ((words1.drop 24).take 24).all (fun c => isCode c || c.before args0 about1) = true := by decide +kernel
set_option maxRecDepth 65536 in
theorem w_t3 : (((words1.drop 24).drop 24).take 24).all (fun c => isCode c || c.before args0 about1) = true := by decide +kernel
set_option maxRecDepth 65536 in
theorem w_t4 : (((words1.drop 24).drop 24).drop 24).all (fun c => isCode c || c.before args0 about1) = true := by decide +kernel
theorem w_tables : (allAtoms (Jvm.Cond.code x code maxLocals ret :: tables_1)).before args0 about1 = true := by
  rw [allAtoms_all]
  show words1.all (fun c => c.before args0 about1) = true
  refine all_split ?_ w_codes
  rw [← List.take_append_drop 24 words1, List.all_append, w_t1, ← List.take_append_drop 24 (words1.drop 24), List.all_append, w_t2, ← List.take_append_drop 24 ((words1.drop 24).drop 24), List.all_append, w_t3, w_t4]
  rfl
set_option maxRecDepth 65536 in
theorem w_rest : rest_1_c.before args0 about1 = true := by decide +kernel
set_option maxRecDepth 65536 in
theorem w_case : (Jvm.Cond.and given_1 narrow_1).before args0 about1 = true := by decide +kernel
set_option maxRecDepth 65536 in
theorem w_consts : constsHeld consts_1 about1 := Jvm.Lit.constsHeldB_iff.mp (by decide +kernel)
theorem w_applies : (headSpec (Jvm.Cond.code x code maxLocals ret :: tables_1) room_1).applies x e0.platform about1 = true :=
  (Spec.applies_iff w_frames).mpr ⟨w_running, w_runnable, w_alone, w_named, w_hears, w_ripe, w_room, w_tables⟩
theorem atStart : AtStart classFile x code maxLocals ret World_1 tables_1 room_1 Calls_1 rest_1 Pre_1 launch0 p0 e0 about1 theMethod args0 below0 :=
  ⟨lists_1, trivial, launch0.admits_env _ _ _, launch0.least_env, fairChoices_fair.cas, fairChoices_fair.clock, w_frames, w_args, w_heap, w_applies, ⟨w_consts, trivial⟩, w_rest, w_case⟩
end start1
theorem witness_1 : WitnessClaimed_1 := ⟨start1.p0, start1.e0, start1.about1, start1.theMethod, start1.args0, start1.below0, start1.atStart⟩
end Jvm.Pilot.@@N@@
